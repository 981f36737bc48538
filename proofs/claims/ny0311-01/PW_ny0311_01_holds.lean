import PyProof.Rows.All
import Wide.All
import OpenK.AllK
import Wide.FinOn
import Open.Seg
import Open.Boot
import Open.Tree
import PySem.Challenge.RW_ny0311_01
set_option Elab.async false
set_option linter.all false
section
open PySem PySem.Spec PySem.SeqAt PySem.Calls PyProof.Rows PySem.W
open PySem.Builtin.Re
set_option maxRecDepth 100000
namespace Mine
abbrev pw := PySem.Challenge.pw_ny0311_01
noncomputable def defOfStmt : Stmt → Arguments × List Stmt × Scope
  | .FunctionDef _ a b _ _ _ sc _ _ _ => (a, b, sc)
  | _ => (⟨[], [], none, [], [], none, []⟩, [], default)
noncomputable def topStmt (i : Nat) : Stmt := pw.main.body.getD i (.Pass default)
noncomputable def subStmt (i j : Nat) : Stmt := match topStmt i with | .ClassDef _ _ _ b .. => b.getD j (.Pass default) | _ => .Pass default
/-- the data of a def, but for its doc, its module and its code -/
noncomputable def mkFd (st : Stmt) (name qual : Str) (dfl kwd doc pm code : Value) : FuncData :=
  { name := name, qualname := qual, params := (defOfStmt st).1, body := .stmts (defOfStmt st).2.1, scope := (defOfStmt st).2.2, globals := mainGlobals, closure := [], defaults := dfl, kwdefaults := kwd, doc := doc, pyModule := pm, annotations := none, code := code, closureTuple := .none, builtins := builtinsNs }
noncomputable def nameCode : Array Nat := #[14, 10, 4, 1, 1, 22, 0, 31, 16, 127, 0, 13, 7, 22, 0, 31, 16, 127, 0, 1]
noncomputable def valueCode : Array Nat := #[14, 14, 4, 1, 1, 9, 4294966783, 0, 0, 2147483648, 0, 0, 0, 0, 0, 13, 11, 9, 4294966783, 0, 0, 2147483648, 0, 0, 0, 0, 0, 1]
noncomputable abbrev initFd (dfl doc pm code : Value) : FuncData := mkFd (subStmt 36 1) "__init__" "Headers.__init__" dfl .none doc pm code
noncomputable abbrev convFd (doc pm code : Value) : FuncData := mkFd (subStmt 36 2) "_convert_string_type" "Headers._convert_string_type" .none .none doc pm code
noncomputable abbrev delFd (doc pm code : Value) : FuncData := mkFd (subStmt 36 5) "__delitem__" "Headers.__delitem__" .none .none doc pm code
noncomputable abbrev getAllFd (doc pm code : Value) : FuncData := mkFd (subStmt 36 8) "get_all" "Headers.get_all" .none .none doc pm code
noncomputable abbrev valuesFd (doc pm code : Value) : FuncData := mkFd (subStmt 36 11) "values" "Headers.values" .none .none doc pm code
noncomputable abbrev itemsFd (doc pm code : Value) : FuncData := mkFd (subStmt 36 12) "items" "Headers.items" .none .none doc pm code
noncomputable abbrev addFd (doc pm code : Value) : FuncData := mkFd (subStmt 36 17) "add_header" "Headers.add_header" .none .none doc pm code
noncomputable abbrev topFd (i : Nat) (name : Str) (doc pm code : Value) : FuncData := mkFd (topStmt i) name name .none .none doc pm code
noncomputable def builtinNames : List Str := ["IndexError", "range", "len", "str", "type", "list", "enumerate", "object", "sum", "min", "tuple"]
noncomputable abbrev sldFd (doc pm code : Value) : FuncData := mkFd (topStmt 4) "sorted_list_difference" "sorted_list_difference" .none .none doc pm code
/-- the program's table: bits and signs -/
noncomputable def fmTab : List (List (Nat × Nat)) := [[(40960, 108), (49152, 115), (32768, 45), (24576, 98), (16384, 100), (8192, 99), (4096, 112)], [(256, 114)], [(128, 119)], [(2112, 115), (2048, 83), (64, 120)], [(32, 114)], [(16, 119)], [(1032, 115), (1024, 83), (8, 120)], [(4, 114)], [(2, 119)], [(513, 116), (512, 84), (1, 120)]]
noncomputable abbrev chr (c : Nat) : Str := ⟨#[c]⟩
/-- the class of the named triples -/
noncomputable def misClass (nm q : Str) (hd : Bool) (sn : List Str) (sub : List Value) (col : Option Bool) (dd : Option Addr) (k0 k1 k2 k3 k5 : Option Value) : Obj :=
  { cls := .type "type", dict := dd, data := .cls { name := nm, bases := [.type "tuple"], mro := [.ref 159, .type "tuple", .type "object"], ns := 158, qualname := q, hasDict := hd, slotNames := sn, subclasses := sub, abstract := false, collection := col, hasDel := false }, slots := #[k0, k1, k2, k3, some .none, k5] }
noncomputable abbrev misNewFd (doc pm code : Value) : FuncData := mkFd (subStmt 5 4) "__new__" "Mismatch.__new__" .none .none doc pm code
/-- the text's view: its last def alone -/
noncomputable def lawView : Program := { pw with main := { pw.main with body := pw.main.body.drop 44 } }
noncomputable def lawLoose : List Str := pw.boundNames.filter fun n => !(startupNames.contains n) && n != ("law" : Str)
/-- a def's data but for its doc, its module and its code -/
noncomputable def bareFd (fd : FuncData) : FuncData := { fd with doc := .none, pyModule := .none, code := .none }
noncomputable def codeName (h : Heap) : Value → Option Str
  | .ref c => match h.get? c with
    | some o => match o.data with
      | .fields vs => match (vs[1]? : Option Value) with
        | some (.str q _) => some q
        | _ => none
      | _ => none
    | none => none
  | _ => none
noncomputable def seeFn (h : Heap) (a : Addr) : Option (Value × FuncData × Option Str) := match h.get? a with
  | some o => match o.data with
    | .func fd => some (o.cls, bareFd fd, codeName h fd.code)
    | _ => none
  | none => none
noncomputable def goodFn (mk : Value → Value → Value → FuncData) : Option (Value × FuncData × Option Str) := some (.type "function", mk .none .none .none, some (mk .none .none .none).qualname)
noncomputable def seePat (h : Heap) (a : Addr) : Option (Value × Option Addr × Nat × Nat × Array Nat) := match h.get? a with
  | some o => match o.data with
    | .fields fs => match fs.getD 5 .none with
      | .ref c => match h.get? c with
        | some oc => match oc.data with
          | .seq items _ => some (o.cls, o.dict, reRawNat (fs.getD 6 .none), reRawNat (fs.getD 2 .none), (items.map reRawOf).map (·.toNat))
          | _ => none
        | none => none
      | _ => none
    | _ => none
  | none => none
noncomputable def goodPat (code : Array Nat) : Option (Value × Option Addr × Nat × Nat × Array Nat) := some (.type "re.Pattern", none, 0, 0, code)
/-- what a nest of tuples shows -/
inductive Nest where
  | bad
  | int (i : Int)
  | str (x : Str)
  | tup (o : Obj) (l : List Nest)
noncomputable def seeNest (h : Heap) : Nat → Value → Nest
  | _, .int i _ => .int i
  | _, .str x _ => .str x
  | n + 1, .ref a => match h.get? a with
    | some o => match o.data with
      | .seq vs _ => .tup { o with data := .plain } (vs.toList.map (seeNest h n))
      | _ => .bad
    | none => .bad
  | _, _ => .bad
noncomputable def tupObj : Obj := { cls := .type "tuple" }
noncomputable def nestRow (row : List (Nat × Nat)) : Nest := .tup tupObj (row.map fun p => .tup tupObj [.int (p.1 : Int), .str (chr p.2)])
noncomputable def nestTab : Nest := .tup tupObj (fmTab.map nestRow)
noncomputable def fnList : List (Addr × (Value → Value → Value → FuncData)) :=
  [(254, initFd (.ref 247)), (261, convFd), (280, delFd), (299, getAllFd), (317, valuesFd), (324, itemsFd), (357, addFd), (88, sldFd), (176, topFd 9 "S_IFMT"), (216, topFd 30 "filemode"), (371, topFd 38 "_law_modes"), (378, topFd 39 "_law_row"), (385, topFd 40 "_law_table"), (392, topFd 41 "_law_meet"), (399, topFd 42 "_law_strike"), (404, topFd 43 "_law_answer"), (169, topFd 7 "_count_diff_all_purpose"), (106, misNewFd), (409, topFd 44 "law")]
noncomputable def globList : List (Str × Addr) :=
  [("_name_disallowed_re", 226), ("_value_disallowed_re", 231), ("Headers", 360), ("sorted_list_difference", 88), ("_filemode_table", 209), ("S_IFMT", 176), ("filemode", 216), ("_law_modes", 371), ("_law_row", 378), ("_law_table", 385), ("_law_meet", 392), ("_law_strike", 399), ("_law_answer", 404), ("_count_diff_all_purpose", 169), ("_Mismatch", 159), ("law", 409)]
noncomputable def hdrList : List (Str × Option Value) :=
  [("__getattribute__", none), ("__getattr__", none), ("__setattr__", none), ("_headers", none), ("__init__", some (.ref 254)), ("_convert_string_type", some (.ref 261)), ("__delitem__", some (.ref 280)), ("get_all", some (.ref 299)), ("values", some (.ref 317)), ("items", some (.ref 324)), ("add_header", some (.ref 357))]
noncomputable def misList : List (Str × Option Value) := [("__new__", some (.ref 160)), ("__init__", none), ("__eq__", none), ("__ne__", none)]
noncomputable def objList : List (Addr × Obj) :=
  [(360, excClassObj "Headers" "Headers" 360 359 [.type "object"] [.type "object"] true [] [] false none none none none (some (.str "Headers" 708)) (some (.str "Headers" 716)) (some (.bool true)) "object.__new__"),
   (159, misClass "Mismatch" "Mismatch" false [] [] none none (some (.ref 89)) none (some (.str "Mismatch" 363)) (some (.str "Mismatch" 371)) (some (.bool false))),
   (160, { cls := .type "staticmethod", data := .fields #[.ref 106] }),
   (247, { cls := .type "tuple", data := .seq #[.none] })]
structure Sight where
  fns : List (Option (Value × FuncData × Option Str))
  globs : List (Option Value)
  nots : List (Option Value)
  nss : List Bool
  hdr : List (Option Value)
  mis : List (Option Value)
  any : Option Value
  objs : List (Option Obj)
  pats : List (Option (Value × Option Addr × Nat × Nat × Array Nat))
  tab : Nest
noncomputable def sight (h : Heap) : Sight where
  fns := fnList.map fun p => seeFn h p.1
  globs := globList.map fun p => h.nsMap mainGlobals p.1
  nots := builtinNames.map (h.nsMap mainGlobals)
  nss := [h.isNs mainGlobals, h.isNs 359, h.isNs 158, h.isNs cStatics]
  hdr := hdrList.map fun p => h.nsMap 359 p.1
  mis := misList.map fun p => h.nsMap 158 p.1
  any := h.nsMap cStatics "thirdparty.any"
  objs := objList.map fun p => h.get? p.1
  pats := [seePat h 226, seePat h 231]
  tab := seeNest h 3 (.ref 209)
noncomputable def goodSight : Sight where
  fns := fnList.map fun p => goodFn p.2
  globs := globList.map fun p => some (.ref p.2)
  nots := builtinNames.map fun _ => none
  nss := [true, true, true, true]
  hdr := hdrList.map (·.2)
  mis := misList.map (·.2)
  any := none
  objs := objList.map fun p => some p.2
  pats := [goodPat nameCode, goodPat valueCode]
  tab := nestTab
end Mine
end
section
open PySem PySem.Spec PySem.SeqAt PySem.Calls PyProof.Rows PySem.W
set_option maxRecDepth 100000
namespace Mine
noncomputable abbrev rl : OpenLaw := PySem.Challenge.rw_ny0311_01
theorem o_1 : sreFenced pw.main = true := by kernel_rfl
theorem o_2 : ((moduleNames pw.main.body).isEmpty || lookedIntoSs (moduleNames pw.main.body) pw.main.body) = true := by kernel_rfl
theorem o_3 : namesResolve pw = true := by kernel_rfl
theorem o_4 : pw.boundNames.all (fun n => !worldNames.contains n) = true := by kernel_rfl
theorem o_5 : noRoadLSs { strict := !(importedModules pw.main.body).all cThrough.contains, foot := none, bare := (["vars", "dir", "locals"] : List Str).filter (readsOut pw pw.main.body) } pw.main.body = true := by kernel_rfl
theorem o_6 : (namesMeet pw pw.main.body fun _ n => attrL n) = true := by kernel_rfl
theorem looks_open : looksOpen pw = true := look_both (look_both (look_both (look_both (look_both o_1 o_2) o_3) o_4) o_5) o_6
theorem p_solid : rl.row.toRowW.solid = true := by kernel_rfl
theorem part_said : rl.row.partSaid = true := by
  unfold OpenRow.partSaid
  have h : looksOpen rl.row.prog = true := looks_open
  rw [h]
  have s := p_solid
  rw [s]
  kernel_rfl
theorem q_1 : rl.row.prog.boundNames.contains rl.row.name = true := by kernel_rfl
theorem q_2 : (!startupNames.contains rl.row.name) = true := by kernel_rfl
theorem row_well : rl.row.wellSaid = true := look_both (look_both part_said q_1) q_2
theorem l_1 : decide (rl.foot ≤ (behindTheImports rl.prog).length) = true := by kernel_rfl
theorem l_2 : rl.footing.all footLine = true := by kernel_rfl
theorem l_3 : noClassBlock rl.prog rl.footing = true := by kernel_rfl
theorem l_4 : (rl.most.all (fun n => decide (63 ≤ n))) = true := by kernel_rfl
theorem l_5 : (rl.bound.all (fun n => decide (2 ^ 63 ≤ n))) = true := by kernel_rfl
theorem l_6 : noRoadLSs { strict := true, foot := some rl.bound', writes := rl.writes, may := rl.may } rl.footing = true := by kernel_rfl
theorem l_7 : defStands rl.about rl.above = true := by kernel_rfl
theorem l_8 : rl.namesIt = true := by kernel_rfl
theorem l_9 : (["type", "isinstance", "issubclass", "getattr", "hasattr"] : List Str).all (fun n => rl.about != [n]) = true := by kernel_rfl
theorem l_10 : rl.bound'.all (fun n => !builtinNamed n || rl.about == [n] || !rl.reads n) = true := by kernel_rfl
theorem l_11 : (!rl.writes || (rl.prog.main.body.flatMap importedNames).all fun n => !rl.reads n) = true := by kernel_rfl
theorem l_12 : ((rl.prog.main.body.flatMap importedNames).all fun n => !rl.reads n || (drawsOf n rl.prog.main.body).all fun mn => mn.2 != ("attrgetter" : Str) && mn.2 != ("methodcaller" : Str)) = true := by kernel_rfl
theorem l_13 : (namesMeet rl.prog rl.footing (fun sc n => (!(["type", "isinstance", "issubclass", "getattr", "hasattr"] : List Str).contains n || sc.names.lookup n == some .globalImplicit) &&
    (rl.may != some n || sc.kind == .module || sc.names.lookup n == some .globalImplicit))) = true := by kernel_rfl
theorem l_14 : rl.own.contains rl.name = true := by kernel_rfl
theorem l_15 : (rl.own.eraseDups.length == rl.own.length) = true := by kernel_rfl
theorem l_16 : rl.own.all (fun n => !builtinNamed n) = true := by kernel_rfl
theorem l_17 : namesMeet rl.prog rl.above (fun _ n => !rl.own.contains n) = true := by kernel_rfl
theorem l_18 : (namesMeet rl.prog rl.footing fun sc n => sc.kind == .module || sc.names.lookup n != some .globalExplicit) = true := by kernel_rfl
theorem law_well : rl.wellSaid = true := by
  unfold OpenLaw.wellSaid
  exact look_both (look_both (look_both (look_both (look_both (look_both (look_both (look_both (look_both (look_both (look_both (look_both (look_both (look_both (look_both (look_both (look_both (look_both row_well l_1) l_2) l_3) l_4) l_5) l_6) l_7) l_8) l_9) l_10) l_11) l_12) l_13) l_14) l_15) l_16) l_17) l_18
noncomputable def posOfDef : Stmt → Pos
  | .FunctionDef _ _ _ _ _ _ _ _ _ p => p
  | _ => default
noncomputable def lawRec : DefRec := ⟨"law", (defOfStmt (topStmt 44)).1, (defOfStmt (topStmt 44)).2.1, (defOfStmt (topStmt 44)).2.2, posOfDef (topStmt 44)⟩
theorem lawRec_def : defOf lawView "law" = some (lawRec, []) := by kernel_rfl
theorem lawRec_the : pw.theDef "law" = some (lawRec.params, lawRec.body, lawRec.scope) := by kernel_rfl
theorem lawRec_kw : kwWritten? lawRec.params.kwonlyargs lawRec.params.kw_defaults = some [] := by kernel_rfl
theorem c_1 : chainsOk lawView = true := by kernel_rfl
theorem c_2 : opensWell rl.row.prog = true := by kernel_rfl
theorem c_3 : (frees rl.row.toRowW && rl.row.within.isEmpty) = true := by kernel_rfl
theorem lrow_ok : (chainsOk lawView && opensWell rl.row.prog && (frees rl.row.toRowW && rl.row.within.isEmpty)) = true := look_both (look_both c_1 c_2) c_3
theorem row_bare : rl.row.prog.bare := ⟨rfl, rfl, rfl, rfl, rfl, by decide +kernel⟩
theorem row_promised : rl.row.toRowW.promised := ⟨[.list []], by decide +kernel, by decide +kernel⟩
end Mine
end
section
open PySem PySem.Spec PySem.SeqAt PySem.Calls PyProof.Rows PySem.W
set_option maxRecDepth 100000
namespace Mine

noncomputable abbrev en (P : Params) (x : Str) (t : Tok) (v : Value) : DictEntry := ⟨PyData.keyHash P x, .str x t, v⟩
noncomputable def docS (st : Stmt) : Str := (docOf (defOfStmt st).2.1).getD Str.empty
noncomputable def docC (st : Stmt) : Str := match st with | .ClassDef _ _ _ b .. => (docOf b).getD Str.empty | _ => Str.empty
noncomputable abbrev ob0 (P : Params) : Obj := boot_o_0 P
noncomputable abbrev ob1 (P : Params) : Obj := ⟨(.type "dict"), none, (.dict [en P "builtins" 162 (.ref 4), en P "__main__" 163 (.ref 5), en P "_sre" 244 (.ref 12)].toArray 3), #[]⟩
noncomputable abbrev ob2 (P : Params) : Obj := ⟨.none, none, (.dict [en P ⟨#[105, 109, 112, 111, 114, 116, 46, 108, 111, 97, 100, 101, 100, 46, 95, 115, 114, 101]⟩ 183 (.bool true), en P ⟨#[99, 108, 97, 115, 115, 46, 95, 102, 114, 111, 122, 101, 110, 95, 105, 109, 112, 111, 114, 116, 108, 105, 98, 46, 66, 117, 105, 108, 116, 105, 110, 73, 109, 112, 111, 114, 116, 101, 114]⟩ 185 (.ref 14), en P ⟨#[119, 97, 116, 99, 104, 101, 100, 46, 105, 109, 112, 111, 114, 116]⟩ 206 (.ref 18), en P ⟨#[99, 108, 97, 115, 115, 46, 95, 102, 114, 111, 122, 101, 110, 95, 105, 109, 112, 111, 114, 116, 108, 105, 98, 46, 77, 111, 100, 117, 108, 101, 83, 112, 101, 99]⟩ 216 (.ref 22), en P "sys.modules.booked-epoch" 245 (.int (3) 0), en P ⟨#[105, 109, 112, 111, 114, 116, 46, 108, 97, 116, 101, 114, 45, 108, 97, 105, 100, 46, 95, 115, 114, 101]⟩ 270 (.bool true), en P "watched.library" 272 (.ref 27), en P "watched.library-objects" 0 (.str ⟨#[12]⟩ 0), en P "watched.library-deep._sre" 273 (.str ⟨#[4, 0, 0, 11, 4, 0, 0, 11, 4, 0, 0, 3, 4, 0, 0, 11, 8, 4, 100, 105, 99, 116, 2]⟩ 0)].toArray 9), #[]⟩
noncomputable abbrev ob3 (P : Params) : Obj := ⟨(.type "dict"), none, (.dict [en P "__name__" 165 (.str "__main__" 164), en P "__doc__" 166 .none, en P "__package__" 167 .none, en P "__loader__" 168 (.builtin "__main__.__loader__#opaque"), en P "__spec__" 169 .none, en P "__annotations__" 170 (.ref 6), en P "__builtins__" 171 (.ref 4), en P "__file__" 173 (.str "/claim/cut.py" 172), en P "__cached__" 174 .none, en P "_sre" 275 (.ref 12)].toArray 10), #[]⟩
noncomputable abbrev ob4 (P : Params) : Obj := boot_o_4 P
noncomputable abbrev ob5 (P : Params) : Obj := boot_o_5 P
noncomputable abbrev ob6 (P : Params) : Obj := boot_o_6 P
noncomputable abbrev ob7 (P : Params) : Obj := boot_o_7 P
noncomputable abbrev ob8 (P : Params) : Obj := boot_o_8 P
noncomputable abbrev ob9 (P : Params) : Obj := boot_o_9 P
noncomputable abbrev ob10 (P : Params) : Obj := boot_o_10 P
noncomputable abbrev ob11 (P : Params) : Obj := ⟨(.type "dict"), none, (.dict [en P "__name__" 247 (.str "_sre" 246), en P "__doc__" 248 .none, en P "__package__" 250 (.str "" 249), en P "__loader__" 251 (.builtin "off-the-table:_sre.__loader__:shared#opaque"), en P "__spec__" 252 (.builtin "off-the-table:_sre.__spec__:shared#opaque"), en P "compile" 253 (.builtin "_sre.compile"), en P "template" 254 (.builtin "off-the-table:_sre.template:shared#opaque"), en P "getcodesize" 255 (.builtin "off-the-table:_sre.getcodesize:shared#opaque"), en P "ascii_iscased" 256 (.builtin "off-the-table:_sre.ascii_iscased:shared#opaque"), en P "unicode_iscased" 257 (.builtin "off-the-table:_sre.unicode_iscased:shared#opaque"), en P "ascii_tolower" 258 (.builtin "off-the-table:_sre.ascii_tolower:shared#opaque"), en P "unicode_tolower" 259 (.builtin "off-the-table:_sre.unicode_tolower:shared#opaque"), en P "MAGIC" 261 (.int (20230612) 260), en P "CODESIZE" 263 (.int (4) 262), en P "MAXREPEAT" 265 (.int (4294967295) 264), en P "MAXGROUPS" 267 (.int (1073741823) 266), en P "copyright" 269 (.str " SRE 2.2.2 Copyright (c) 1997-2002 by Secret Labs AB " 268)].toArray 17), #[]⟩
noncomputable abbrev ob12 (P : Params) : Obj := ⟨(.type "module"), (some 11), .plain, #[]⟩
noncomputable abbrev ob13 (P : Params) : Obj := ⟨(.type "dict"), none, (.dict [en P "__module__" 189 (.str ⟨#[95, 102, 114, 111, 122, 101, 110, 95, 105, 109, 112, 111, 114, 116, 108, 105, 98]⟩ 186), en P "__firstlineno__" 190 (.int (971) 187), en P "__doc__" 191 (.builtin "_frozen_importlib.BuiltinImporter.__doc__:str#opaque"), en P "_ORIGIN" 192 (.str "built-in" 188), en P "find_spec" 193 (.builtin "_frozen_importlib.BuiltinImporter.find_spec#opaque"), en P "create_module" 194 (.builtin "_frozen_importlib.BuiltinImporter.create_module#opaque"), en P "exec_module" 195 (.builtin "_frozen_importlib.BuiltinImporter.exec_module#opaque"), en P "get_code" 196 (.builtin "_frozen_importlib.BuiltinImporter.get_code#opaque"), en P "get_source" 197 (.builtin "_frozen_importlib.BuiltinImporter.get_source#opaque"), en P "is_package" 198 (.builtin "_frozen_importlib.BuiltinImporter.is_package#opaque"), en P "load_module" 199 (.builtin "_frozen_importlib.BuiltinImporter.load_module#opaque"), en P "__static_attributes__" 200 (.ref 15), en P "__dict__" 202 (.ref 16), en P "__weakref__" 204 (.ref 17)].toArray 14), #[]⟩
noncomputable abbrev ob14 (P : Params) : Obj := ⟨(.type "type"), none, (.cls { name := "BuiltinImporter", bases := [(.type "object")], mro := [(.ref 14), (.type "object")], ns := 13, qualname := "BuiltinImporter", hasDict := true, slotNames := [], subclasses := [], abstract := false, collection := none, hasDel := false }), #[]⟩
noncomputable abbrev ob15 (P : Params) : Obj := ⟨(.type "tuple"), none, (.seq #[] 0), #[]⟩
noncomputable abbrev ob16 (P : Params) : Obj := ⟨(.type "getset_descriptor"), none, (.fields #[(.str "__dict__" 201), (.ref 14), (.builtin "function.__dict__"), (.builtin "function.__dict__#set")]), #[]⟩
noncomputable abbrev ob17 (P : Params) : Obj := ⟨(.type "getset_descriptor"), none, (.fields #[(.str "__weakref__" 203), (.ref 14), (.builtin "ExceptionGroup.__weakref__"), .none]), #[]⟩
noncomputable abbrev ob18 (P : Params) : Obj := ⟨.none, none, (.seq #[(.int (13) 0), (.str ⟨#[6, 189, 10, 95, 95, 109, 111, 100, 117, 108, 101, 95, 95, 6, 186, 17, 95, 102, 114, 111, 122, 101, 110, 95, 105, 109, 112, 111, 114, 116, 108, 105, 98, 6, 190, 15, 95, 95, 102, 105, 114, 115, 116, 108, 105, 110, 101, 110, 111, 95, 95, 4, 187, 0, 971, 6, 191, 7, 95, 95, 100, 111, 99, 95, 95, 9, 52, 95, 102, 114, 111, 122, 101, 110, 95, 105, 109, 112, 111, 114, 116, 108, 105, 98, 46, 66, 117, 105, 108, 116, 105, 110, 73, 109, 112, 111, 114, 116, 101, 114, 46, 95, 95, 100, 111, 99, 95, 95, 58, 115, 116, 114, 35, 111, 112, 97, 113, 117, 101, 6, 192, 7, 95, 79, 82, 73, 71, 73, 78, 6, 188, 8, 98, 117, 105, 108, 116, 45, 105, 110, 6, 193, 9, 102, 105, 110, 100, 95, 115, 112, 101, 99, 9, 50, 95, 102, 114, 111, 122, 101, 110, 95, 105, 109, 112, 111, 114, 116, 108, 105, 98, 46, 66, 117, 105, 108, 116, 105, 110, 73, 109, 112, 111, 114, 116, 101, 114, 46, 102, 105, 110, 100, 95, 115, 112, 101, 99, 35, 111, 112, 97, 113, 117, 101, 6, 194, 13, 99, 114, 101, 97, 116, 101, 95, 109, 111, 100, 117, 108, 101, 9, 54, 95, 102, 114, 111, 122, 101, 110, 95, 105, 109, 112, 111, 114, 116, 108, 105, 98, 46, 66, 117, 105, 108, 116, 105, 110, 73, 109, 112, 111, 114, 116, 101, 114, 46, 99, 114, 101, 97, 116, 101, 95, 109, 111, 100, 117, 108, 101, 35, 111, 112, 97, 113, 117, 101, 6, 195, 11, 101, 120, 101, 99, 95, 109, 111, 100, 117, 108, 101, 9, 52, 95, 102, 114, 111, 122, 101, 110, 95, 105, 109, 112, 111, 114, 116, 108, 105, 98, 46, 66, 117, 105, 108, 116, 105, 110, 73, 109, 112, 111, 114, 116, 101, 114, 46, 101, 120, 101, 99, 95, 109, 111, 100, 117, 108, 101, 35, 111, 112, 97, 113, 117, 101, 6, 196, 8, 103, 101, 116, 95, 99, 111, 100, 101, 9, 49, 95, 102, 114, 111, 122, 101, 110, 95, 105, 109, 112, 111, 114, 116, 108, 105, 98, 46, 66, 117, 105, 108, 116, 105, 110, 73, 109, 112, 111, 114, 116, 101, 114, 46, 103, 101, 116, 95, 99, 111, 100, 101, 35, 111, 112, 97, 113, 117, 101, 6, 197, 10, 103, 101, 116, 95, 115, 111, 117, 114, 99, 101, 9, 51, 95, 102, 114, 111, 122, 101, 110, 95, 105, 109, 112, 111, 114, 116, 108, 105, 98, 46, 66, 117, 105, 108, 116, 105, 110, 73, 109, 112, 111, 114, 116, 101, 114, 46, 103, 101, 116, 95, 115, 111, 117, 114, 99, 101, 35, 111, 112, 97, 113, 117, 101, 6, 198, 10, 105, 115, 95, 112, 97, 99, 107, 97, 103, 101, 9, 51, 95, 102, 114, 111, 122, 101, 110, 95, 105, 109, 112, 111, 114, 116, 108, 105, 98, 46, 66, 117, 105, 108, 116, 105, 110, 73, 109, 112, 111, 114, 116, 101, 114, 46, 105, 115, 95, 112, 97, 99, 107, 97, 103, 101, 35, 111, 112, 97, 113, 117, 101, 6, 199, 11, 108, 111, 97, 100, 95, 109, 111, 100, 117, 108, 101, 9, 52, 95, 102, 114, 111, 122, 101, 110, 95, 105, 109, 112, 111, 114, 116, 108, 105, 98, 46, 66, 117, 105, 108, 116, 105, 110, 73, 109, 112, 111, 114, 116, 101, 114, 46, 108, 111, 97, 100, 95, 109, 111, 100, 117, 108, 101, 35, 111, 112, 97, 113, 117, 101, 6, 200, 21, 95, 95, 115, 116, 97, 116, 105, 99, 95, 97, 116, 116, 114, 105, 98, 117, 116, 101, 115, 95, 95, 4, 0, 0, 15, 6, 202, 8, 95, 95, 100, 105, 99, 116, 95, 95, 4, 0, 0, 16, 6, 204, 11, 95, 95, 119, 101, 97, 107, 114, 101, 102, 95, 95, 4, 0, 0, 17]⟩ 0), (.bool true), (.bool true), (.str "" 205), (.int (21) 0), (.str ⟨#[6, 227, 10, 95, 95, 109, 111, 100, 117, 108, 101, 95, 95, 6, 217, 17, 95, 102, 114, 111, 122, 101, 110, 95, 105, 109, 112, 111, 114, 116, 108, 105, 98, 6, 228, 15, 95, 95, 102, 105, 114, 115, 116, 108, 105, 110, 101, 110, 111, 95, 95, 4, 218, 0, 562, 6, 229, 7, 95, 95, 100, 111, 99, 95, 95, 9, 47, 95, 102, 114, 111, 122, 101, 110, 95, 105, 109, 112, 111, 114, 116, 108, 105, 98, 46, 77, 111, 100, 117, 108, 101, 83, 112, 101, 99, 46, 95, 95, 100, 111, 99, 95, 95, 58, 115, 116, 114, 35, 111, 112, 97, 113, 117, 101, 6, 230, 8, 95, 95, 105, 110, 105, 116, 95, 95, 9, 44, 95, 102, 114, 111, 122, 101, 110, 95, 105, 109, 112, 111, 114, 116, 108, 105, 98, 46, 77, 111, 100, 117, 108, 101, 83, 112, 101, 99, 46, 95, 95, 105, 110, 105, 116, 95, 95, 35, 111, 112, 97, 113, 117, 101, 6, 231, 8, 95, 95, 114, 101, 112, 114, 95, 95, 9, 44, 95, 102, 114, 111, 122, 101, 110, 95, 105, 109, 112, 111, 114, 116, 108, 105, 98, 46, 77, 111, 100, 117, 108, 101, 83, 112, 101, 99, 46, 95, 95, 114, 101, 112, 114, 95, 95, 35, 111, 112, 97, 113, 117, 101, 6, 232, 6, 95, 95, 101, 113, 95, 95, 9, 42, 95, 102, 114, 111, 122, 101, 110, 95, 105, 109, 112, 111, 114, 116, 108, 105, 98, 46, 77, 111, 100, 117, 108, 101, 83, 112, 101, 99, 46, 95, 95, 101, 113, 95, 95, 35, 111, 112, 97, 113, 117, 101, 6, 233, 6, 99, 97, 99, 104, 101, 100, 9, 42, 95, 102, 114, 111, 122, 101, 110, 95, 105, 109, 112, 111, 114, 116, 108, 105, 98, 46, 77, 111, 100, 117, 108, 101, 83, 112, 101, 99, 46, 99, 97, 99, 104, 101, 100, 35, 111, 112, 97, 113, 117, 101, 6, 234, 6, 112, 97, 114, 101, 110, 116, 9, 42, 95, 102, 114, 111, 122, 101, 110, 95, 105, 109, 112, 111, 114, 116, 108, 105, 98, 46, 77, 111, 100, 117, 108, 101, 83, 112, 101, 99, 46, 112, 97, 114, 101, 110, 116, 35, 111, 112, 97, 113, 117, 101, 6, 235, 12, 104, 97, 115, 95, 108, 111, 99, 97, 116, 105, 111, 110, 9, 48, 95, 102, 114, 111, 122, 101, 110, 95, 105, 109, 112, 111, 114, 116, 108, 105, 98, 46, 77, 111, 100, 117, 108, 101, 83, 112, 101, 99, 46, 104, 97, 115, 95, 108, 111, 99, 97, 116, 105, 111, 110, 35, 111, 112, 97, 113, 117, 101, 6, 236, 21, 95, 95, 115, 116, 97, 116, 105, 99, 95, 97, 116, 116, 114, 105, 98, 117, 116, 101, 115, 95, 95, 4, 0, 0, 23, 6, 238, 8, 95, 95, 100, 105, 99, 116, 95, 95, 4, 0, 0, 24, 6, 240, 11, 95, 95, 119, 101, 97, 107, 114, 101, 102, 95, 95, 4, 0, 0, 25, 6, 241, 8, 95, 95, 104, 97, 115, 104, 95, 95, 0]⟩ 0), (.bool true), (.bool true), (.str "" 242)] 1), #[]⟩
noncomputable abbrev ob19 (P : Params) : Obj := ⟨(.type "list"), none, (.seq #[] 0), #[]⟩
noncomputable abbrev ob20 (P : Params) : Obj := ⟨(.type "dict"), none, (.dict [en P "name" 208 (.str "_sre" 207), en P "loader" 209 (.ref 14), en P "origin" 210 (.str "built-in" 184), en P "loader_state" 211 .none, en P "submodule_search_locations" 212 .none, en P "_uninitialized_submodules" 213 (.ref 19), en P "_set_fileattr" 214 (.bool false), en P "_cached" 215 .none, en P "_initializing" 243 (.bool false)].toArray 9), #[]⟩
noncomputable abbrev ob21 (P : Params) : Obj := ⟨(.type "dict"), none, (.dict [en P "__module__" 227 (.str ⟨#[95, 102, 114, 111, 122, 101, 110, 95, 105, 109, 112, 111, 114, 116, 108, 105, 98]⟩ 217), en P "__firstlineno__" 228 (.int (562) 218), en P "__doc__" 229 (.builtin "_frozen_importlib.ModuleSpec.__doc__:str#opaque"), en P "__init__" 230 (.builtin "_frozen_importlib.ModuleSpec.__init__#opaque"), en P "__repr__" 231 (.builtin "_frozen_importlib.ModuleSpec.__repr__#opaque"), en P "__eq__" 232 (.builtin "_frozen_importlib.ModuleSpec.__eq__#opaque"), en P "cached" 233 (.builtin "_frozen_importlib.ModuleSpec.cached#opaque"), en P "parent" 234 (.builtin "_frozen_importlib.ModuleSpec.parent#opaque"), en P "has_location" 235 (.builtin "_frozen_importlib.ModuleSpec.has_location#opaque"), en P "__static_attributes__" 236 (.ref 23), en P "__dict__" 238 (.ref 24), en P "__weakref__" 240 (.ref 25), en P "__hash__" 241 .none].toArray 13), #[]⟩
noncomputable abbrev ob22 (P : Params) : Obj := ⟨(.type "type"), none, (.cls { name := "ModuleSpec", bases := [(.type "object")], mro := [(.ref 22), (.type "object")], ns := 21, qualname := "ModuleSpec", hasDict := true, slotNames := [], subclasses := [], abstract := false, collection := none, hasDel := false }), #[]⟩
noncomputable abbrev ob23 (P : Params) : Obj := ⟨(.type "tuple"), none, (.seq #[(.str "_cached" 219), (.str "_set_fileattr" 220), (.str "_uninitialized_submodules" 221), (.str "loader" 222), (.str "loader_state" 223), (.str "name" 224), (.str "origin" 225), (.str "submodule_search_locations" 226)] 0), #[]⟩
noncomputable abbrev ob24 (P : Params) : Obj := ⟨(.type "getset_descriptor"), none, (.fields #[(.str "__dict__" 237), (.ref 22), (.builtin "function.__dict__"), (.builtin "function.__dict__#set")]), #[]⟩
noncomputable abbrev ob25 (P : Params) : Obj := ⟨(.type "getset_descriptor"), none, (.fields #[(.str "__weakref__" 239), (.ref 22), (.builtin "ExceptionGroup.__weakref__"), .none]), #[]⟩
noncomputable abbrev ob26 (P : Params) : Obj := ⟨(.ref 22), (some 20), .plain, #[]⟩
noncomputable abbrev ob27 (P : Params) : Obj := ⟨.none, none, (.seq #[(.int (11) 0), (.str ⟨#[6, 247, 8, 95, 95, 110, 97, 109, 101, 95, 95, 6, 246, 4, 95, 115, 114, 101, 6, 248, 7, 95, 95, 100, 111, 99, 95, 95, 0, 6, 250, 11, 95, 95, 112, 97, 99, 107, 97, 103, 101, 95, 95, 6, 249, 0, 6, 251, 10, 95, 95, 108, 111, 97, 100, 101, 114, 95, 95, 4, 0, 0, 14, 6, 252, 8, 95, 95, 115, 112, 101, 99, 95, 95, 4, 0, 0, 26, 6, 253, 7, 99, 111, 109, 112, 105, 108, 101, 9, 12, 95, 115, 114, 101, 46, 99, 111, 109, 112, 105, 108, 101, 6, 254, 8, 116, 101, 109, 112, 108, 97, 116, 101, 9, 13, 95, 115, 114, 101, 46, 116, 101, 109, 112, 108, 97, 116, 101, 6, 255, 11, 103, 101, 116, 99, 111, 100, 101, 115, 105, 122, 101, 9, 16, 95, 115, 114, 101, 46, 103, 101, 116, 99, 111, 100, 101, 115, 105, 122, 101, 6, 256, 13, 97, 115, 99, 105, 105, 95, 105, 115, 99, 97, 115, 101, 100, 9, 18, 95, 115, 114, 101, 46, 97, 115, 99, 105, 105, 95, 105, 115, 99, 97, 115, 101, 100, 6, 257, 15, 117, 110, 105, 99, 111, 100, 101, 95, 105, 115, 99, 97, 115, 101, 100, 9, 20, 95, 115, 114, 101, 46, 117, 110, 105, 99, 111, 100, 101, 95, 105, 115, 99, 97, 115, 101, 100, 6, 258, 13, 97, 115, 99, 105, 105, 95, 116, 111, 108, 111, 119, 101, 114, 9, 18, 95, 115, 114, 101, 46, 97, 115, 99, 105, 105, 95, 116, 111, 108, 111, 119, 101, 114, 6, 259, 15, 117, 110, 105, 99, 111, 100, 101, 95, 116, 111, 108, 111, 119, 101, 114, 9, 20, 95, 115, 114, 101, 46, 117, 110, 105, 99, 111, 100, 101, 95, 116, 111, 108, 111, 119, 101, 114, 6, 261, 5, 77, 65, 71, 73, 67, 4, 260, 0, 20230612, 6, 263, 8, 67, 79, 68, 69, 83, 73, 90, 69, 4, 262, 0, 4, 6, 265, 9, 77, 65, 88, 82, 69, 80, 69, 65, 84, 4, 264, 0, 4294967295, 6, 267, 9, 77, 65, 88, 71, 82, 79, 85, 80, 83, 4, 266, 0, 1073741823, 6, 269, 9, 99, 111, 112, 121, 114, 105, 103, 104, 116, 6, 268, 53, 32, 83, 82, 69, 32, 50, 46, 50, 46, 50, 32, 67, 111, 112, 121, 114, 105, 103, 104, 116, 32, 40, 99, 41, 32, 49, 57, 57, 55, 45, 50, 48, 48, 50, 32, 98, 121, 32, 83, 101, 99, 114, 101, 116, 32, 76, 97, 98, 115, 32, 65, 66, 32]⟩ 0), (.bool true), (.bool false), (.str "_sre" 271)] 0), #[]⟩
noncomputable abbrev ob28 (P : Params) : Obj := ⟨(.type "tuple"), none, (.seq #[] 0), #[]⟩
noncomputable abbrev ob29 (P : Params) : Obj := ⟨.none, none, (.fields #[]), #[]⟩
noncomputable abbrev ob30 (P : Params) : Obj := ⟨(.type "code"), none, (.fields #[(.str "<module>" 277), (.str "<module>" 278), (.str "/claim/cut.py" 279), (.int (1) 0), (.int (0) 0), (.int (0) 0), (.int (0) 0), (.int (0) 0), (.ref 28), (.bool false), (.int (276) 0), (.ref 29), .none, .none, .none, .none, (.int (280) 0), (.int (1) 0), (.str "/claim/cut.py" 281)]), #[]⟩
noncomputable abbrev ob31 (P : Params) : Obj := ⟨(.type "frame"), none, .plain, #[(some (.ref 30)), (some (.ref 3)), (some (.ref 3)), none, (some (.str "__main__" 164)), none, (some (.ref 0))]⟩
noncomputable abbrev ob3v1 (P : Params) : Obj := ⟨(.type "dict"), none, (.dict [en P "__name__" 165 (.str "cpy313.unittest.util" 289), en P "__doc__" 166 .none, en P "__package__" 167 .none, en P "__loader__" 168 (.builtin "__main__.__loader__#opaque"), en P "__spec__" 169 .none, en P "__annotations__" 170 (.ref 6), en P "__builtins__" 171 (.ref 4), en P "__file__" 173 (.str "/claim/cut.py" 172), en P "__cached__" 174 .none, en P "_sre" 275 (.ref 12), en P "_wall" 288 (.ref 38), en P "_tuplegetter" 347 (.ref 77), en P "sorted_list_difference" 362 (.ref 88)].toArray 13), #[]⟩
noncomputable abbrev ob29v1 (P : Params) : Obj := ⟨.none, none, (.fields #[(.int (2) 0), (.int (0) 0), (.ref 37), (.int (6) 0), (.int (0) 0), (.ref 44), (.int (24) 0), (.int (0) 0), (.ref 87)]), #[]⟩
noncomputable abbrev ob32 (P : Params) : Obj := ⟨(.type "tuple"), none, (.seq #[] 0), #[]⟩
noncomputable abbrev ob33 (P : Params) : Obj := ⟨.none, none, (.fields #[]), #[]⟩
noncomputable abbrev ob34 (P : Params) : Obj := ⟨(.type "tuple"), none, (.seq #[(.str "k" 285)] 0), #[]⟩
noncomputable abbrev ob35 (P : Params) : Obj := ⟨(.type "tuple"), none, (.seq #[] 0), #[]⟩
noncomputable abbrev ob36 (P : Params) : Obj := ⟨.none, none, (.func { mkFd (topStmt 1) "_wall" "_wall" .none .none .none .none .none with globals := 0 }), #[]⟩
noncomputable abbrev ob37 (P : Params) : Obj := ⟨(.type "code"), none, (.fields #[(.str "_wall" 282), (.str "_wall" 283), (.str "/claim/cut.py" 284), (.int (2) 0), (.int (1) 0), (.int (0) 0), (.int (0) 0), (.int (3) 0), (.ref 32), (.bool true), (.int (276) 0), (.ref 33), .none, (.ref 34), (.ref 35), (.ref 36), (.int (286) 0), (.int (2) 0), (.str "/claim/cut.py" 287)]), #[]⟩
noncomputable abbrev ob38 (P : Params) : Obj := ⟨(.type "function"), none, (.func (mkFd (topStmt 1) "_wall" "_wall" .none .none .none (.str "__main__" 164) (.ref 37))), #[]⟩
noncomputable abbrev ob39 (P : Params) : Obj := ⟨(.type "tuple"), none, (.seq #[] 0), #[]⟩
noncomputable abbrev ob40 (P : Params) : Obj := ⟨(.type "builtin_function_or_method"), none, (.fields #[(.builtin "type.__prepare__"), (.type "type")]), #[]⟩
noncomputable abbrev ob41 (P : Params) : Obj := ⟨(.type "dict"), none, (.dict [en P "__module__" 298 (.str "cpy313.unittest.util" 289), en P "__qualname__" 300 (.str "_tuplegetter" 299), en P "__firstlineno__" 302 (.int (6) 301), en P "__init__" 311 (.ref 52), en P "__get__" 320 (.ref 60), en P "__set__" 329 (.ref 67), en P "__delete__" 337 (.ref 74), en P "__static_attributes__" 340 (.ref 75)].toArray 8), #[]⟩
noncomputable abbrev ob42 (P : Params) : Obj := ⟨(.type "tuple"), none, (.seq #[] 0), #[]⟩
noncomputable abbrev ob43 (P : Params) : Obj := ⟨.none, none, (.fields #[(.int (8) 0), (.int (4) 0), (.ref 51), (.int (12) 0), (.int (4) 0), (.ref 59), (.int (19) 0), (.int (4) 0), (.ref 66), (.int (22) 0), (.int (4) 0), (.ref 73)]), #[]⟩
noncomputable abbrev ob44 (P : Params) : Obj := ⟨(.type "code"), none, (.fields #[(.str "_tuplegetter" 293), (.str "_tuplegetter" 294), (.str "/claim/cut.py" 295), (.int (6) 0), (.int (0) 0), (.int (0) 0), (.int (0) 0), (.int (0) 0), (.ref 42), (.bool false), (.int (276) 0), (.ref 43), .none, .none, .none, .none, (.int (296) 0), (.int (6) 0), (.str "/claim/cut.py" 297)]), #[]⟩
noncomputable abbrev ob45 (P : Params) : Obj := ⟨(.type "frame"), none, .plain, #[(some (.ref 44)), (some (.ref 3)), (some (.ref 41)), none, (some (.str "cpy313.unittest.util" 289)), none, (some (.ref 0))]⟩
noncomputable abbrev ob46 (P : Params) : Obj := ⟨(.type "tuple"), none, (.seq #[] 0), #[]⟩
noncomputable abbrev ob47 (P : Params) : Obj := ⟨.none, none, (.fields #[]), #[]⟩
noncomputable abbrev ob48 (P : Params) : Obj := ⟨(.type "tuple"), none, (.seq #[(.str "self" 306), (.str "index" 307), (.str "doc" 308)] 0), #[]⟩
noncomputable abbrev ob49 (P : Params) : Obj := ⟨(.type "tuple"), none, (.seq #[] 0), #[]⟩
noncomputable abbrev ob50 (P : Params) : Obj := ⟨.none, none, (.func { mkFd (subStmt 3 0) "__init__" "_tuplegetter.__init__" .none .none .none .none .none with globals := 0 }), #[]⟩
noncomputable abbrev ob51 (P : Params) : Obj := ⟨(.type "code"), none, (.fields #[(.str "__init__" 303), (.str "_tuplegetter.__init__" 304), (.str "/claim/cut.py" 305), (.int (8) 0), (.int (3) 0), (.int (0) 0), (.int (0) 0), (.int (3) 0), (.ref 46), (.bool true), (.int (276) 0), (.ref 47), .none, (.ref 48), (.ref 49), (.ref 50), (.int (309) 0), (.int (8) 0), (.str "/claim/cut.py" 310)]), #[]⟩
noncomputable abbrev ob52 (P : Params) : Obj := ⟨(.type "function"), none, (.func (mkFd (subStmt 3 0) "__init__" "_tuplegetter.__init__" .none .none .none (.str "cpy313.unittest.util" 289) (.ref 51))), #[]⟩
noncomputable abbrev ob53 (P : Params) : Obj := ⟨(.type "tuple"), none, (.seq #[.none] 0), #[]⟩
noncomputable abbrev ob54 (P : Params) : Obj := ⟨(.type "tuple"), none, (.seq #[] 0), #[]⟩
noncomputable abbrev ob55 (P : Params) : Obj := ⟨.none, none, (.fields #[]), #[]⟩
noncomputable abbrev ob56 (P : Params) : Obj := ⟨(.type "tuple"), none, (.seq #[(.str "self" 315), (.str "obj" 316), (.str "objtype" 317)] 0), #[]⟩
noncomputable abbrev ob57 (P : Params) : Obj := ⟨(.type "tuple"), none, (.seq #[] 0), #[]⟩
noncomputable abbrev ob58 (P : Params) : Obj := ⟨.none, none, (.func { mkFd (subStmt 3 1) "__get__" "_tuplegetter.__get__" .none .none .none .none .none with globals := 0 }), #[]⟩
noncomputable abbrev ob59 (P : Params) : Obj := ⟨(.type "code"), none, (.fields #[(.str "__get__" 312), (.str "_tuplegetter.__get__" 313), (.str "/claim/cut.py" 314), (.int (12) 0), (.int (3) 0), (.int (0) 0), (.int (0) 0), (.int (3) 0), (.ref 54), (.bool true), (.int (276) 0), (.ref 55), .none, (.ref 56), (.ref 57), (.ref 58), (.int (318) 0), (.int (12) 0), (.str "/claim/cut.py" 319)]), #[]⟩
noncomputable abbrev ob60 (P : Params) : Obj := ⟨(.type "function"), none, (.func (mkFd (subStmt 3 1) "__get__" "_tuplegetter.__get__" (.ref 53) .none .none (.str "cpy313.unittest.util" 289) (.ref 59))), #[]⟩
noncomputable abbrev ob61 (P : Params) : Obj := ⟨(.type "tuple"), none, (.seq #[] 0), #[]⟩
noncomputable abbrev ob62 (P : Params) : Obj := ⟨.none, none, (.fields #[]), #[]⟩
noncomputable abbrev ob63 (P : Params) : Obj := ⟨(.type "tuple"), none, (.seq #[(.str "self" 324), (.str "obj" 325), (.str "value" 326)] 0), #[]⟩
noncomputable abbrev ob64 (P : Params) : Obj := ⟨(.type "tuple"), none, (.seq #[] 0), #[]⟩
noncomputable abbrev ob65 (P : Params) : Obj := ⟨.none, none, (.func { mkFd (subStmt 3 2) "__set__" "_tuplegetter.__set__" .none .none .none .none .none with globals := 0 }), #[]⟩
noncomputable abbrev ob66 (P : Params) : Obj := ⟨(.type "code"), none, (.fields #[(.str "__set__" 321), (.str "_tuplegetter.__set__" 322), (.str "/claim/cut.py" 323), (.int (19) 0), (.int (3) 0), (.int (0) 0), (.int (0) 0), (.int (3) 0), (.ref 61), (.bool true), (.int (276) 0), (.ref 62), .none, (.ref 63), (.ref 64), (.ref 65), (.int (327) 0), (.int (19) 0), (.str "/claim/cut.py" 328)]), #[]⟩
noncomputable abbrev ob67 (P : Params) : Obj := ⟨(.type "function"), none, (.func (mkFd (subStmt 3 2) "__set__" "_tuplegetter.__set__" .none .none .none (.str "cpy313.unittest.util" 289) (.ref 66))), #[]⟩
noncomputable abbrev ob68 (P : Params) : Obj := ⟨(.type "tuple"), none, (.seq #[] 0), #[]⟩
noncomputable abbrev ob69 (P : Params) : Obj := ⟨.none, none, (.fields #[]), #[]⟩
noncomputable abbrev ob70 (P : Params) : Obj := ⟨(.type "tuple"), none, (.seq #[(.str "self" 333), (.str "obj" 334)] 0), #[]⟩
noncomputable abbrev ob71 (P : Params) : Obj := ⟨(.type "tuple"), none, (.seq #[] 0), #[]⟩
noncomputable abbrev ob72 (P : Params) : Obj := ⟨.none, none, (.func { mkFd (subStmt 3 3) "__delete__" "_tuplegetter.__delete__" .none .none .none .none .none with globals := 0 }), #[]⟩
noncomputable abbrev ob73 (P : Params) : Obj := ⟨(.type "code"), none, (.fields #[(.str "__delete__" 330), (.str "_tuplegetter.__delete__" 331), (.str "/claim/cut.py" 332), (.int (22) 0), (.int (2) 0), (.int (0) 0), (.int (0) 0), (.int (3) 0), (.ref 68), (.bool true), (.int (276) 0), (.ref 69), .none, (.ref 70), (.ref 71), (.ref 72), (.int (335) 0), (.int (22) 0), (.str "/claim/cut.py" 336)]), #[]⟩
noncomputable abbrev ob74 (P : Params) : Obj := ⟨(.type "function"), none, (.func (mkFd (subStmt 3 3) "__delete__" "_tuplegetter.__delete__" .none .none .none (.str "cpy313.unittest.util" 289) (.ref 73))), #[]⟩
noncomputable abbrev ob75 (P : Params) : Obj := ⟨(.type "tuple"), none, (.seq #[(.str "__doc__" 338), (.str "index" 339)] 0), #[]⟩
noncomputable abbrev ob76 (P : Params) : Obj := ⟨(.type "dict"), none, (.dict [en P "__module__" 298 (.str "cpy313.unittest.util" 289), en P "__firstlineno__" 302 (.int (6) 301), en P "__init__" 311 (.ref 52), en P "__get__" 320 (.ref 60), en P "__set__" 329 (.ref 67), en P "__delete__" 337 (.ref 74), en P "__static_attributes__" 340 (.ref 75), en P "__dict__" 342 (.ref 78), en P "__weakref__" 344 (.ref 79), en P "__doc__" 345 .none].toArray 4), #[]⟩
noncomputable abbrev ob77 (P : Params) : Obj := ⟨(.type "type"), none, (.cls { name := "_tuplegetter", bases := [(.type "object")], mro := [(.ref 77), (.type "object")], ns := 76, qualname := "_tuplegetter", hasDict := true, slotNames := [], subclasses := [], abstract := false, collection := none, hasDel := false }), #[none, none, (some (.str "_tuplegetter" 291)), (some (.str "_tuplegetter" 299)), (some (.builtin "object.__new__")), (some (.bool true))]⟩
noncomputable abbrev ob78 (P : Params) : Obj := ⟨(.type "getset_descriptor"), none, (.fields #[(.str "__dict__" 341), (.ref 77), (.builtin "function.__dict__"), (.builtin "function.__dict__#set")]), #[]⟩
noncomputable abbrev ob79 (P : Params) : Obj := ⟨(.type "getset_descriptor"), none, (.fields #[(.str "__weakref__" 343), (.ref 77), (.builtin "ExceptionGroup.__weakref__"), .none]), #[]⟩
noncomputable abbrev ob80 (P : Params) : Obj := ⟨(.type "super"), none, (.fields #[(.ref 77), (.ref 77), (.ref 77)]), #[]⟩
noncomputable abbrev ob81 (P : Params) : Obj := ⟨(.type "builtin_function_or_method"), none, (.fields #[(.builtin "object.__init_subclass__"), (.ref 77)]), #[]⟩
noncomputable abbrev ob82 (P : Params) : Obj := ⟨(.type "tuple"), none, (.seq #[] 0), #[]⟩
noncomputable abbrev ob83 (P : Params) : Obj := ⟨.none, none, (.fields #[]), #[]⟩
noncomputable abbrev ob84 (P : Params) : Obj := ⟨(.type "tuple"), none, (.seq #[(.str "expected" 351), (.str "actual" 352), (.str "i" 353), (.str "j" 354), (.str "missing" 355), (.str "unexpected" 356), (.str "e" 357), (.str "a" 358)] 0), #[]⟩
noncomputable abbrev ob85 (P : Params) : Obj := ⟨(.type "tuple"), none, (.seq #[] 0), #[]⟩
noncomputable abbrev ob86 (P : Params) : Obj := ⟨.none, none, (.func { mkFd (topStmt 4) "sorted_list_difference" "sorted_list_difference" .none .none .none .none .none with globals := 0 }), #[]⟩
noncomputable abbrev ob87 (P : Params) : Obj := ⟨(.type "code"), none, (.fields #[(.str "sorted_list_difference" 348), (.str "sorted_list_difference" 349), (.str "/claim/cut.py" 350), (.int (24) 0), (.int (2) 0), (.int (0) 0), (.int (0) 0), (.int (3) 0), (.ref 82), (.bool true), (.int (276) 0), (.ref 83), .none, (.ref 84), (.ref 85), (.ref 86), (.int (359) 0), (.int (24) 0), (.str "/claim/cut.py" 360)]), #[]⟩
noncomputable abbrev ob88 (P : Params) : Obj := ⟨(.type "function"), none, (.func (mkFd (topStmt 4) "sorted_list_difference" "sorted_list_difference" .none .none (.str (docS (topStmt 4)) 361) (.str "cpy313.unittest.util" 289) (.ref 87))), #[]⟩
noncomputable abbrev ob3v2 (P : Params) : Obj := ⟨(.type "dict"), none, (.dict [en P "__name__" 165 (.str "cpy313.unittest.util" 289), en P "__doc__" 166 .none, en P "__package__" 167 .none, en P "__loader__" 168 (.builtin "__main__.__loader__#opaque"), en P "__spec__" 169 .none, en P "__annotations__" 170 (.ref 6), en P "__builtins__" 171 (.ref 4), en P "__file__" 173 (.str "/claim/cut.py" 172), en P "__cached__" 174 .none, en P "_sre" 275 (.ref 12), en P "_wall" 288 (.ref 38), en P "_tuplegetter" 347 (.ref 77), en P "sorted_list_difference" 362 (.ref 88), en P "Mismatch" 490 (.ref 159)].toArray 14), #[]⟩
noncomputable abbrev ob29v2 (P : Params) : Obj := ⟨.none, none, (.fields #[(.int (2) 0), (.int (0) 0), (.ref 37), (.int (6) 0), (.int (0) 0), (.ref 44), (.int (24) 0), (.int (0) 0), (.ref 87), (.int (63) 0), (.int (0) 0), (.ref 95)]), #[]⟩
noncomputable abbrev ob89 (P : Params) : Obj := ⟨(.type "tuple"), none, (.seq #[(.type "tuple")] 0), #[]⟩
noncomputable abbrev ob90 (P : Params) : Obj := ⟨(.type "builtin_function_or_method"), none, (.fields #[(.builtin "type.__prepare__"), (.type "type")]), #[]⟩
noncomputable abbrev ob91 (P : Params) : Obj := ⟨(.type "dict"), none, (.dict [en P "__module__" 370 (.str "cpy313.unittest.util" 289), en P "__qualname__" 372 (.str "Mismatch" 371), en P "__firstlineno__" 374 (.int (63) 373), en P "__doc__" 376 (.str (docC (topStmt 5)) 375), en P "__slots__" 378 (.ref 97), en P "_fields" 382 (.ref 98), en P "_field_defaults" 383 (.ref 99), en P "__new__" 394 (.ref 106), en P "_make" 416 (.ref 115), en P "_replace" 427 (.ref 124), en P "__replace__" 428 (.ref 124), en P "__repr__" 436 (.ref 131), en P "_asdict" 443 (.ref 138), en P "__getnewargs__" 451 (.ref 145), en P "__match_args__" 455 (.ref 146), en P "actual" 465 (.ref 148), en P "expected" 475 (.ref 151), en P "value" 485 (.ref 154), en P "__static_attributes__" 486 (.ref 156), en P "__classcell__" 487 (.ref 92)].toArray 20), #[]⟩
noncomputable abbrev ob92 (P : Params) : Obj := ⟨(.type "cell"), none, (.cell (some (.ref 159))), #[]⟩
noncomputable abbrev ob93 (P : Params) : Obj := ⟨(.type "tuple"), none, (.seq #[] 0), #[]⟩
noncomputable abbrev ob94 (P : Params) : Obj := ⟨.none, none, (.fields #[(.int (69) 0), (.int (4) 0), (.ref 105), (.int (74) 0), (.int (4) 0), (.ref 112), (.int (81) 0), (.int (4) 0), (.ref 123), (.int (92) 0), (.int (4) 0), (.ref 130), (.int (96) 0), (.int (4) 0), (.ref 137), (.int (99) 0), (.int (4) 0), (.ref 144)]), #[]⟩
noncomputable abbrev ob95 (P : Params) : Obj := ⟨(.type "code"), none, (.fields #[(.str "Mismatch" 365), (.str "Mismatch" 366), (.str "/claim/cut.py" 367), (.int (63) 0), (.int (0) 0), (.int (0) 0), (.int (0) 0), (.int (0) 0), (.ref 93), (.bool false), (.int (276) 0), (.ref 94), .none, .none, .none, .none, (.int (368) 0), (.int (63) 0), (.str "/claim/cut.py" 369)]), #[]⟩
noncomputable abbrev ob96 (P : Params) : Obj := ⟨(.type "frame"), none, .plain, #[(some (.ref 95)), (some (.ref 3)), (some (.ref 91)), none, (some (.str "cpy313.unittest.util" 289)), none, (some (.ref 0))]⟩
noncomputable abbrev ob97 (P : Params) : Obj := ⟨(.type "tuple"), none, (.seq #[] 0), #[]⟩
noncomputable abbrev ob98 (P : Params) : Obj := ⟨(.type "tuple"), none, (.seq #[(.str "actual" 379), (.str "expected" 380), (.str "value" 381)] 0), #[]⟩
noncomputable abbrev ob99 (P : Params) : Obj := ⟨(.type "dict"), none, (.dict [].toArray 0), #[]⟩
noncomputable abbrev ob100 (P : Params) : Obj := ⟨(.type "tuple"), none, (.seq #[] 0), #[]⟩
noncomputable abbrev ob101 (P : Params) : Obj := ⟨.none, none, (.fields #[]), #[]⟩
noncomputable abbrev ob102 (P : Params) : Obj := ⟨(.type "tuple"), none, (.seq #[(.str "_cls" 387), (.str "actual" 388), (.str "expected" 389), (.str "value" 390)] 0), #[]⟩
noncomputable abbrev ob103 (P : Params) : Obj := ⟨(.type "tuple"), none, (.seq #[] 0), #[]⟩
noncomputable abbrev ob104 (P : Params) : Obj := ⟨.none, none, (.func { mkFd (subStmt 5 4) "__new__" "Mismatch.__new__" .none .none .none .none .none with globals := 0 }), #[]⟩
noncomputable abbrev ob105 (P : Params) : Obj := ⟨(.type "code"), none, (.fields #[(.str "__new__" 384), (.str "Mismatch.__new__" 385), (.str "/claim/cut.py" 386), (.int (69) 0), (.int (4) 0), (.int (0) 0), (.int (0) 0), (.int (3) 0), (.ref 100), (.bool true), (.int (276) 0), (.ref 101), .none, (.ref 102), (.ref 103), (.ref 104), (.int (391) 0), (.int (69) 0), (.str "/claim/cut.py" 392)]), #[]⟩
noncomputable abbrev ob106 (P : Params) : Obj := ⟨(.type "function"), none, (.func (mkFd (subStmt 5 4) "__new__" "Mismatch.__new__" .none .none (.str (docS (subStmt 5 4)) 393) (.str "cpy313.unittest.util" 289) (.ref 105))), #[]⟩
noncomputable abbrev ob107 (P : Params) : Obj := ⟨(.type "tuple"), none, (.seq #[] 0), #[]⟩
noncomputable abbrev ob108 (P : Params) : Obj := ⟨.none, none, (.fields #[]), #[]⟩
noncomputable abbrev ob109 (P : Params) : Obj := ⟨(.type "tuple"), none, (.seq #[(.str "cls" 398), (.str "iterable" 399), (.str "result" 400)] 0), #[]⟩
noncomputable abbrev ob110 (P : Params) : Obj := ⟨(.type "tuple"), none, (.seq #[] 0), #[]⟩
noncomputable abbrev ob111 (P : Params) : Obj := ⟨.none, none, (.func { mkFd (subStmt 5 5) "_make" "Mismatch._make" .none .none .none .none .none with globals := 0 }), #[]⟩
noncomputable abbrev ob112 (P : Params) : Obj := ⟨(.type "code"), none, (.fields #[(.str "_make" 395), (.str "Mismatch._make" 396), (.str "/claim/cut.py" 397), (.int (73) 0), (.int (2) 0), (.int (0) 0), (.int (0) 0), (.int (3) 0), (.ref 107), (.bool true), (.int (276) 0), (.ref 108), .none, (.ref 109), (.ref 110), (.ref 111), (.int (401) 0), (.int (73) 0), (.str "/claim/cut.py" 402)]), #[]⟩
noncomputable abbrev ob113 (P : Params) : Obj := ⟨(.type "function"), none, (.func { mkFd (subStmt 5 5) "_make" "Mismatch._make" .none .none (.str (docS (subStmt 5 5)) 403) (.str "cpy313.unittest.util" 289) (.ref 112) with annotations := some 116 }), #[]⟩
noncomputable abbrev ob114 (P : Params) : Obj := ⟨(.type "dict"), none, (.dict [en P "__module__" 405 (.str "cpy313.unittest.util" 289), en P "__name__" 408 (.str "_make" 407), en P "__qualname__" 411 (.str "Mismatch._make" 410), en P "__doc__" 413 (.str (docS (subStmt 5 5)) 403), en P "__annotations__" 415 (.ref 116)].toArray 5), #[]⟩
noncomputable abbrev ob115 (P : Params) : Obj := ⟨(.type "classmethod"), (some 114), (.fields #[(.ref 113), (.bool false)]), #[]⟩
noncomputable abbrev ob116 (P : Params) : Obj := ⟨(.type "dict"), none, (.dict [].toArray 0), #[]⟩
noncomputable abbrev ob117 (P : Params) : Obj := ⟨(.type "tuple"), none, (.seq #[(.ref 92)] 0), #[]⟩
noncomputable abbrev ob118 (P : Params) : Obj := ⟨(.type "tuple"), none, (.seq #[(.str "__class__" 420)] 0), #[]⟩
noncomputable abbrev ob119 (P : Params) : Obj := ⟨.none, none, (.fields #[]), #[]⟩
noncomputable abbrev ob120 (P : Params) : Obj := ⟨(.type "tuple"), none, (.seq #[(.str "self" 421), (.str "kwds" 422), (.str "result" 423)] 0), #[]⟩
noncomputable abbrev ob121 (P : Params) : Obj := ⟨(.type "tuple"), none, (.seq #[] 0), #[]⟩
noncomputable abbrev ob122 (P : Params) : Obj := ⟨.none, none, (.func { mkFd (subStmt 5 6) "_replace" "Mismatch._replace" .none .none .none .none .none with globals := 0 }), #[]⟩
noncomputable abbrev ob123 (P : Params) : Obj := ⟨(.type "code"), none, (.fields #[(.str "_replace" 417), (.str "Mismatch._replace" 418), (.str "/claim/cut.py" 419), (.int (81) 0), (.int (1) 0), (.int (1) 0), (.int (0) 0), (.int (11) 0), (.ref 118), (.bool true), (.int (276) 0), (.ref 119), .none, (.ref 120), (.ref 121), (.ref 122), (.int (424) 0), (.int (81) 0), (.str "/claim/cut.py" 425)]), #[]⟩
noncomputable abbrev ob124 (P : Params) : Obj := ⟨(.type "function"), none, (.func { mkFd (subStmt 5 6) "_replace" "Mismatch._replace" .none .none (.str (docS (subStmt 5 6)) 426) (.str "cpy313.unittest.util" 289) (.ref 123) with closure := [("__class__", 92)], closureTuple := (.ref 117) }), #[]⟩
noncomputable abbrev ob125 (P : Params) : Obj := ⟨(.type "tuple"), none, (.seq #[] 0), #[]⟩
noncomputable abbrev ob126 (P : Params) : Obj := ⟨.none, none, (.fields #[]), #[]⟩
noncomputable abbrev ob127 (P : Params) : Obj := ⟨(.type "tuple"), none, (.seq #[(.str "self" 432)] 0), #[]⟩
noncomputable abbrev ob128 (P : Params) : Obj := ⟨(.type "tuple"), none, (.seq #[] 0), #[]⟩
noncomputable abbrev ob129 (P : Params) : Obj := ⟨.none, none, (.func { mkFd (subStmt 5 8) "__repr__" "Mismatch.__repr__" .none .none .none .none .none with globals := 0 }), #[]⟩
noncomputable abbrev ob130 (P : Params) : Obj := ⟨(.type "code"), none, (.fields #[(.str "__repr__" 429), (.str "Mismatch.__repr__" 430), (.str "/claim/cut.py" 431), (.int (92) 0), (.int (1) 0), (.int (0) 0), (.int (0) 0), (.int (3) 0), (.ref 125), (.bool true), (.int (276) 0), (.ref 126), .none, (.ref 127), (.ref 128), (.ref 129), (.int (433) 0), (.int (92) 0), (.str "/claim/cut.py" 434)]), #[]⟩
noncomputable abbrev ob131 (P : Params) : Obj := ⟨(.type "function"), none, (.func (mkFd (subStmt 5 8) "__repr__" "Mismatch.__repr__" .none .none (.str (docS (subStmt 5 8)) 435) (.str "cpy313.unittest.util" 289) (.ref 130))), #[]⟩
noncomputable abbrev ob132 (P : Params) : Obj := ⟨(.type "tuple"), none, (.seq #[] 0), #[]⟩
noncomputable abbrev ob133 (P : Params) : Obj := ⟨.none, none, (.fields #[]), #[]⟩
noncomputable abbrev ob134 (P : Params) : Obj := ⟨(.type "tuple"), none, (.seq #[(.str "self" 440)] 0), #[]⟩
noncomputable abbrev ob135 (P : Params) : Obj := ⟨(.type "tuple"), none, (.seq #[] 0), #[]⟩
noncomputable abbrev ob136 (P : Params) : Obj := ⟨.none, none, (.func { mkFd (subStmt 5 9) "_asdict" "Mismatch._asdict" .none .none .none .none .none with globals := 0 }), #[]⟩
noncomputable abbrev ob137 (P : Params) : Obj := ⟨(.type "code"), none, (.fields #[(.str "_asdict" 437), (.str "Mismatch._asdict" 438), (.str "/claim/cut.py" 439), (.int (96) 0), (.int (1) 0), (.int (0) 0), (.int (0) 0), (.int (3) 0), (.ref 132), (.bool true), (.int (276) 0), (.ref 133), .none, (.ref 134), (.ref 135), (.ref 136), (.int (441) 0), (.int (96) 0), (.str "/claim/cut.py" 442)]), #[]⟩
noncomputable abbrev ob138 (P : Params) : Obj := ⟨(.type "function"), none, (.func (mkFd (subStmt 5 9) "_asdict" "Mismatch._asdict" .none .none .none (.str "cpy313.unittest.util" 289) (.ref 137))), #[]⟩
noncomputable abbrev ob139 (P : Params) : Obj := ⟨(.type "tuple"), none, (.seq #[] 0), #[]⟩
noncomputable abbrev ob140 (P : Params) : Obj := ⟨.none, none, (.fields #[]), #[]⟩
noncomputable abbrev ob141 (P : Params) : Obj := ⟨(.type "tuple"), none, (.seq #[(.str "self" 447)] 0), #[]⟩
noncomputable abbrev ob142 (P : Params) : Obj := ⟨(.type "tuple"), none, (.seq #[] 0), #[]⟩
noncomputable abbrev ob143 (P : Params) : Obj := ⟨.none, none, (.func { mkFd (subStmt 5 10) "__getnewargs__" "Mismatch.__getnewargs__" .none .none .none .none .none with globals := 0 }), #[]⟩
noncomputable abbrev ob144 (P : Params) : Obj := ⟨(.type "code"), none, (.fields #[(.str "__getnewargs__" 444), (.str "Mismatch.__getnewargs__" 445), (.str "/claim/cut.py" 446), (.int (99) 0), (.int (1) 0), (.int (0) 0), (.int (0) 0), (.int (3) 0), (.ref 139), (.bool true), (.int (276) 0), (.ref 140), .none, (.ref 141), (.ref 142), (.ref 143), (.int (448) 0), (.int (99) 0), (.str "/claim/cut.py" 449)]), #[]⟩
noncomputable abbrev ob145 (P : Params) : Obj := ⟨(.type "function"), none, (.func (mkFd (subStmt 5 10) "__getnewargs__" "Mismatch.__getnewargs__" .none .none (.str (docS (subStmt 5 10)) 450) (.str "cpy313.unittest.util" 289) (.ref 144))), #[]⟩
noncomputable abbrev ob146 (P : Params) : Obj := ⟨(.type "tuple"), none, (.seq #[(.str "actual" 452), (.str "expected" 453), (.str "value" 454)] 0), #[]⟩
noncomputable abbrev ob147 (P : Params) : Obj := ⟨(.type "dict"), none, (.dict [en P "index" 462 (.int (0) 456), en P "__doc__" 464 (.str "Alias for field number 0" 457)].toArray 2), #[]⟩
noncomputable abbrev ob148 (P : Params) : Obj := ⟨(.ref 77), (some 147), .plain, #[]⟩
noncomputable abbrev ob149 (P : Params) : Obj := ⟨(.type "frame"), none, (.dict [en P "self" 458 (.ref 148), en P "index" 459 (.int (0) 456), en P "doc" 460 (.str "Alias for field number 0" 457)].toArray 3), #[]⟩
noncomputable abbrev ob150 (P : Params) : Obj := ⟨(.type "dict"), none, (.dict [en P "index" 472 (.int (1) 466), en P "__doc__" 474 (.str "Alias for field number 1" 467)].toArray 2), #[]⟩
noncomputable abbrev ob151 (P : Params) : Obj := ⟨(.ref 77), (some 150), .plain, #[]⟩
noncomputable abbrev ob152 (P : Params) : Obj := ⟨(.type "frame"), none, (.dict [en P "self" 468 (.ref 151), en P "index" 469 (.int (1) 466), en P "doc" 470 (.str "Alias for field number 1" 467)].toArray 3), #[]⟩
noncomputable abbrev ob153 (P : Params) : Obj := ⟨(.type "dict"), none, (.dict [en P "index" 482 (.int (2) 476), en P "__doc__" 484 (.str "Alias for field number 2" 477)].toArray 2), #[]⟩
noncomputable abbrev ob154 (P : Params) : Obj := ⟨(.ref 77), (some 153), .plain, #[]⟩
noncomputable abbrev ob155 (P : Params) : Obj := ⟨(.type "frame"), none, (.dict [en P "self" 478 (.ref 154), en P "index" 479 (.int (2) 476), en P "doc" 480 (.str "Alias for field number 2" 477)].toArray 3), #[]⟩
noncomputable abbrev ob156 (P : Params) : Obj := ⟨(.type "tuple"), none, (.seq #[] 0), #[]⟩
noncomputable abbrev ob157 (P : Params) : Obj := ⟨(.type "list"), none, (.seq #[] 0), #[]⟩
noncomputable abbrev ob158 (P : Params) : Obj := ⟨(.type "dict"), none, (.dict [en P "__module__" 370 (.str "cpy313.unittest.util" 289), en P "__firstlineno__" 374 (.int (63) 373), en P "__doc__" 376 (.str (docC (topStmt 5)) 375), en P "__slots__" 378 (.ref 97), en P "_fields" 382 (.ref 98), en P "_field_defaults" 383 (.ref 99), en P "__new__" 394 (.ref 160), en P "_make" 416 (.ref 115), en P "_replace" 427 (.ref 124), en P "__replace__" 428 (.ref 124), en P "__repr__" 436 (.ref 131), en P "_asdict" 443 (.ref 138), en P "__getnewargs__" 451 (.ref 145), en P "__match_args__" 455 (.ref 146), en P "actual" 465 (.ref 148), en P "expected" 475 (.ref 151), en P "value" 485 (.ref 154), en P "__static_attributes__" 486 (.ref 156)].toArray 2), #[]⟩
noncomputable abbrev ob159 (P : Params) : Obj := ⟨(.type "type"), none, (.cls { name := "Mismatch", bases := [(.type "tuple")], mro := [(.ref 159), (.type "tuple"), (.type "object")], ns := 158, qualname := "Mismatch", hasDict := false, slotNames := [], subclasses := [], abstract := false, collection := none, hasDel := false }), #[(some (.ref 89)), none, (some (.str "Mismatch" 363)), (some (.str "Mismatch" 371)), (some .none), (some (.bool false))]⟩
noncomputable abbrev ob160 (P : Params) : Obj := ⟨(.type "staticmethod"), none, (.fields #[(.ref 106)]), #[]⟩
noncomputable abbrev ob161 (P : Params) : Obj := ⟨(.type "super"), none, (.fields #[(.ref 159), (.ref 159), (.ref 159)]), #[]⟩
noncomputable abbrev ob162 (P : Params) : Obj := ⟨(.type "builtin_function_or_method"), none, (.fields #[(.builtin "object.__init_subclass__"), (.ref 159)]), #[]⟩
noncomputable abbrev ob3v3 (P : Params) : Obj := ⟨(.type "dict"), none, (.dict [en P "__name__" 165 (.str "cpy313.wsgiref.headers" 601), en P "__doc__" 166 .none, en P "__package__" 167 .none, en P "__loader__" 168 (.builtin "__main__.__loader__#opaque"), en P "__spec__" 169 .none, en P "__annotations__" 170 (.ref 6), en P "__builtins__" 171 (.ref 4), en P "__file__" 173 (.str "/claim/cut.py" 172), en P "__cached__" 174 .none, en P "_sre" 275 (.ref 12), en P "_wall" 288 (.ref 38), en P "_tuplegetter" 347 (.ref 77), en P "sorted_list_difference" 362 (.ref 88), en P "Mismatch" 490 (.ref 159), en P "_Mismatch" 491 (.ref 159), en P "_count_diff_all_purpose" 513 (.ref 169), en P "S_IFMT" 523 (.ref 176), en P "S_IFDIR" 525 (.int (16384) 524), en P "S_IFCHR" 527 (.int (8192) 526), en P "S_IFBLK" 529 (.int (24576) 528), en P "S_IFREG" 531 (.int (32768) 530), en P "S_IFIFO" 533 (.int (4096) 532), en P "S_IFLNK" 535 (.int (40960) 534), en P "S_IFSOCK" 537 (.int (49152) 536), en P "S_ISUID" 539 (.int (2048) 538), en P "S_ISGID" 541 (.int (1024) 540), en P "S_ISVTX" 543 (.int (512) 542), en P "S_IRUSR" 545 (.int (256) 544), en P "S_IWUSR" 547 (.int (128) 546), en P "S_IXUSR" 549 (.int (64) 548), en P "S_IRGRP" 551 (.int (32) 550), en P "S_IWGRP" 553 (.int (16) 552), en P "S_IXGRP" 555 (.int (8) 554), en P "S_IROTH" 557 (.int (4) 556), en P "S_IWOTH" 559 (.int (2) 558), en P "S_IXOTH" 561 (.int (1) 560), en P "_filemode_table" 587 (.ref 209), en P "filemode" 600 (.ref 216), en P "tspecials" 636 (.ref 221), en P "_name_disallowed_re" 662 (.ref 226), en P "_value_disallowed_re" 696 (.ref 231), en P "_formatparam" 707 (.ref 239)].toArray 42), #[]⟩
noncomputable abbrev ob29v3 (P : Params) : Obj := ⟨.none, none, (.fields #[(.int (2) 0), (.int (0) 0), (.ref 37), (.int (6) 0), (.int (0) 0), (.ref 44), (.int (24) 0), (.int (0) 0), (.ref 87), (.int (63) 0), (.int (0) 0), (.ref 95), (.int (107) 0), (.int (0) 0), (.ref 168), (.int (140) 0), (.int (0) 0), (.ref 175), (.int (165) 0), (.int (0) 0), (.ref 215), (.int (187) 0), (.int (0) 0), (.ref 238)]), #[]⟩
noncomputable abbrev ob163 (P : Params) : Obj := ⟨(.type "tuple"), none, (.seq #[] 0), #[]⟩
noncomputable abbrev ob164 (P : Params) : Obj := ⟨.none, none, (.fields #[]), #[]⟩
noncomputable abbrev ob165 (P : Params) : Obj := ⟨(.type "tuple"), none, (.seq #[(.str "actual" 495), (.str "expected" 496), (.str "s" 497), (.str "t" 498), (.str "m" 499), (.str "n" 500), (.str "NULL" 501), (.str "result" 502), (.str "i" 503), (.str "elem" 504), (.str "cnt_s" 505), (.str "cnt_t" 506), (.str "j" 507), (.str "other_elem" 508), (.str "diff" 509)] 0), #[]⟩
noncomputable abbrev ob166 (P : Params) : Obj := ⟨(.type "tuple"), none, (.seq #[] 0), #[]⟩
noncomputable abbrev ob167 (P : Params) : Obj := ⟨.none, none, (.func { mkFd (topStmt 7) "_count_diff_all_purpose" "_count_diff_all_purpose" .none .none .none .none .none with globals := 0 }), #[]⟩
noncomputable abbrev ob168 (P : Params) : Obj := ⟨(.type "code"), none, (.fields #[(.str "_count_diff_all_purpose" 492), (.str "_count_diff_all_purpose" 493), (.str "/claim/cut.py" 494), (.int (107) 0), (.int (2) 0), (.int (0) 0), (.int (0) 0), (.int (3) 0), (.ref 163), (.bool true), (.int (276) 0), (.ref 164), .none, (.ref 165), (.ref 166), (.ref 167), (.int (510) 0), (.int (107) 0), (.str "/claim/cut.py" 511)]), #[]⟩
noncomputable abbrev ob169 (P : Params) : Obj := ⟨(.type "function"), none, (.func (mkFd (topStmt 7) "_count_diff_all_purpose" "_count_diff_all_purpose" .none .none (.str (docS (topStmt 7)) 512) (.str "cpy313.unittest.util" 289) (.ref 168))), #[]⟩
noncomputable abbrev ob170 (P : Params) : Obj := ⟨(.type "tuple"), none, (.seq #[] 0), #[]⟩
noncomputable abbrev ob171 (P : Params) : Obj := ⟨.none, none, (.fields #[]), #[]⟩
noncomputable abbrev ob172 (P : Params) : Obj := ⟨(.type "tuple"), none, (.seq #[(.str "mode" 519)] 0), #[]⟩
noncomputable abbrev ob173 (P : Params) : Obj := ⟨(.type "tuple"), none, (.seq #[] 0), #[]⟩
noncomputable abbrev ob174 (P : Params) : Obj := ⟨.none, none, (.func { mkFd (topStmt 9) "S_IFMT" "S_IFMT" .none .none .none .none .none with globals := 0 }), #[]⟩
noncomputable abbrev ob175 (P : Params) : Obj := ⟨(.type "code"), none, (.fields #[(.str "S_IFMT" 516), (.str "S_IFMT" 517), (.str "/claim/cut.py" 518), (.int (140) 0), (.int (1) 0), (.int (0) 0), (.int (0) 0), (.int (3) 0), (.ref 170), (.bool true), (.int (276) 0), (.ref 171), .none, (.ref 172), (.ref 173), (.ref 174), (.int (520) 0), (.int (140) 0), (.str "/claim/cut.py" 521)]), #[]⟩
noncomputable abbrev ob176 (P : Params) : Obj := ⟨(.type "function"), none, (.func (mkFd (topStmt 9) "S_IFMT" "S_IFMT" .none .none (.str (docS (topStmt 9)) 522) (.str "cpy313.stat" 514) (.ref 175))), #[]⟩
noncomputable abbrev ob177 (P : Params) : Obj := ⟨(.type "tuple"), none, (.seq #[(.int (40960) 534), (.str "l" 562)] 0), #[]⟩
noncomputable abbrev ob178 (P : Params) : Obj := ⟨(.type "tuple"), none, (.seq #[(.int (49152) 536), (.str "s" 563)] 0), #[]⟩
noncomputable abbrev ob179 (P : Params) : Obj := ⟨(.type "tuple"), none, (.seq #[(.int (32768) 530), (.str "-" 564)] 0), #[]⟩
noncomputable abbrev ob180 (P : Params) : Obj := ⟨(.type "tuple"), none, (.seq #[(.int (24576) 528), (.str "b" 565)] 0), #[]⟩
noncomputable abbrev ob181 (P : Params) : Obj := ⟨(.type "tuple"), none, (.seq #[(.int (16384) 524), (.str "d" 566)] 0), #[]⟩
noncomputable abbrev ob182 (P : Params) : Obj := ⟨(.type "tuple"), none, (.seq #[(.int (8192) 526), (.str "c" 567)] 0), #[]⟩
noncomputable abbrev ob183 (P : Params) : Obj := ⟨(.type "tuple"), none, (.seq #[(.int (4096) 532), (.str "p" 568)] 0), #[]⟩
noncomputable abbrev ob184 (P : Params) : Obj := ⟨(.type "tuple"), none, (.seq #[(.ref 177), (.ref 178), (.ref 179), (.ref 180), (.ref 181), (.ref 182), (.ref 183)] 0), #[]⟩
noncomputable abbrev ob185 (P : Params) : Obj := ⟨(.type "tuple"), none, (.seq #[(.int (256) 544), (.str "r" 569)] 0), #[]⟩
noncomputable abbrev ob186 (P : Params) : Obj := ⟨(.type "tuple"), none, (.seq #[(.ref 185)] 0), #[]⟩
noncomputable abbrev ob187 (P : Params) : Obj := ⟨(.type "tuple"), none, (.seq #[(.int (128) 546), (.str "w" 570)] 0), #[]⟩
noncomputable abbrev ob188 (P : Params) : Obj := ⟨(.type "tuple"), none, (.seq #[(.ref 187)] 0), #[]⟩
noncomputable abbrev ob189 (P : Params) : Obj := ⟨(.type "tuple"), none, (.seq #[(.int (2112) 571), (.str "s" 572)] 0), #[]⟩
noncomputable abbrev ob190 (P : Params) : Obj := ⟨(.type "tuple"), none, (.seq #[(.int (2048) 538), (.str "S" 573)] 0), #[]⟩
noncomputable abbrev ob191 (P : Params) : Obj := ⟨(.type "tuple"), none, (.seq #[(.int (64) 548), (.str "x" 574)] 0), #[]⟩
noncomputable abbrev ob192 (P : Params) : Obj := ⟨(.type "tuple"), none, (.seq #[(.ref 189), (.ref 190), (.ref 191)] 0), #[]⟩
noncomputable abbrev ob193 (P : Params) : Obj := ⟨(.type "tuple"), none, (.seq #[(.int (32) 550), (.str "r" 575)] 0), #[]⟩
noncomputable abbrev ob194 (P : Params) : Obj := ⟨(.type "tuple"), none, (.seq #[(.ref 193)] 0), #[]⟩
noncomputable abbrev ob195 (P : Params) : Obj := ⟨(.type "tuple"), none, (.seq #[(.int (16) 552), (.str "w" 576)] 0), #[]⟩
noncomputable abbrev ob196 (P : Params) : Obj := ⟨(.type "tuple"), none, (.seq #[(.ref 195)] 0), #[]⟩
noncomputable abbrev ob197 (P : Params) : Obj := ⟨(.type "tuple"), none, (.seq #[(.int (1032) 577), (.str "s" 578)] 0), #[]⟩
noncomputable abbrev ob198 (P : Params) : Obj := ⟨(.type "tuple"), none, (.seq #[(.int (1024) 540), (.str "S" 579)] 0), #[]⟩
noncomputable abbrev ob199 (P : Params) : Obj := ⟨(.type "tuple"), none, (.seq #[(.int (8) 554), (.str "x" 580)] 0), #[]⟩
noncomputable abbrev ob200 (P : Params) : Obj := ⟨(.type "tuple"), none, (.seq #[(.ref 197), (.ref 198), (.ref 199)] 0), #[]⟩
noncomputable abbrev ob201 (P : Params) : Obj := ⟨(.type "tuple"), none, (.seq #[(.int (4) 556), (.str "r" 581)] 0), #[]⟩
noncomputable abbrev ob202 (P : Params) : Obj := ⟨(.type "tuple"), none, (.seq #[(.ref 201)] 0), #[]⟩
noncomputable abbrev ob203 (P : Params) : Obj := ⟨(.type "tuple"), none, (.seq #[(.int (2) 558), (.str "w" 582)] 0), #[]⟩
noncomputable abbrev ob204 (P : Params) : Obj := ⟨(.type "tuple"), none, (.seq #[(.ref 203)] 0), #[]⟩
noncomputable abbrev ob205 (P : Params) : Obj := ⟨(.type "tuple"), none, (.seq #[(.int (513) 583), (.str "t" 584)] 0), #[]⟩
noncomputable abbrev ob206 (P : Params) : Obj := ⟨(.type "tuple"), none, (.seq #[(.int (512) 542), (.str "T" 585)] 0), #[]⟩
noncomputable abbrev ob207 (P : Params) : Obj := ⟨(.type "tuple"), none, (.seq #[(.int (1) 560), (.str "x" 586)] 0), #[]⟩
noncomputable abbrev ob208 (P : Params) : Obj := ⟨(.type "tuple"), none, (.seq #[(.ref 205), (.ref 206), (.ref 207)] 0), #[]⟩
noncomputable abbrev ob209 (P : Params) : Obj := ⟨(.type "tuple"), none, (.seq #[(.ref 184), (.ref 186), (.ref 188), (.ref 192), (.ref 194), (.ref 196), (.ref 200), (.ref 202), (.ref 204), (.ref 208)] 0), #[]⟩
noncomputable abbrev ob210 (P : Params) : Obj := ⟨(.type "tuple"), none, (.seq #[] 0), #[]⟩
noncomputable abbrev ob211 (P : Params) : Obj := ⟨.none, none, (.fields #[]), #[]⟩
noncomputable abbrev ob212 (P : Params) : Obj := ⟨(.type "tuple"), none, (.seq #[(.str "mode" 591), (.str "perm" 592), (.str "index" 593), (.str "table" 594), (.str "bit" 595), (.str "char" 596)] 0), #[]⟩
noncomputable abbrev ob213 (P : Params) : Obj := ⟨(.type "tuple"), none, (.seq #[] 0), #[]⟩
noncomputable abbrev ob214 (P : Params) : Obj := ⟨.none, none, (.func { mkFd (topStmt 30) "filemode" "filemode" .none .none .none .none .none with globals := 0 }), #[]⟩
noncomputable abbrev ob215 (P : Params) : Obj := ⟨(.type "code"), none, (.fields #[(.str "filemode" 588), (.str "filemode" 589), (.str "/claim/cut.py" 590), (.int (165) 0), (.int (1) 0), (.int (0) 0), (.int (0) 0), (.int (3) 0), (.ref 210), (.bool true), (.int (276) 0), (.ref 211), .none, (.ref 212), (.ref 213), (.ref 214), (.int (597) 0), (.int (165) 0), (.str "/claim/cut.py" 598)]), #[]⟩
noncomputable abbrev ob216 (P : Params) : Obj := ⟨(.type "function"), none, (.func (mkFd (topStmt 30) "filemode" "filemode" .none .none (.str (docS (topStmt 30)) 599) (.str "cpy313.stat" 514) (.ref 215))), #[]⟩
noncomputable abbrev ob217 (P : Params) : Obj := ⟨(.type "list"), none, (.seq #[(.int (14) 606), (.int (14) 607), (.int (4) 608), (.int (1) 609), (.int (1) 610), (.int (9) 611), (.int (0) 612), (.int (4227896069) 613), (.int (939524097) 614), (.int (0) 615), (.int (0) 616), (.int (0) 617), (.int (0) 618), (.int (0) 619), (.int (0) 620), (.int (13) 621), (.int (11) 622), (.int (9) 623), (.int (0) 624), (.int (4227896069) 625), (.int (939524097) 626), (.int (0) 627), (.int (0) 628), (.int (0) 629), (.int (0) 630), (.int (0) 631), (.int (0) 632), (.int (1) 633)] 0), #[]⟩
noncomputable abbrev ob218 (P : Params) : Obj := ⟨(.type "dict"), none, (.dict [].toArray 0), #[]⟩
noncomputable abbrev ob219 (P : Params) : Obj := ⟨(.type "tuple"), none, (.seq #[.none] 0), #[]⟩
noncomputable abbrev ob220 (P : Params) : Obj := ⟨(.type "tuple"), none, (.seq #[(.int (14) 0), (.int (14) 0), (.int (4) 0), (.int (1) 0), (.int (1) 0), (.int (9) 0), (.int (0) 0), (.int (4227896069) 0), (.int (939524097) 0), (.int (0) 0), (.int (0) 0), (.int (0) 0), (.int (0) 0), (.int (0) 0), (.int (0) 0), (.int (13) 0), (.int (11) 0), (.int (9) 0), (.int (0) 0), (.int (4227896069) 0), (.int (939524097) 0), (.int (0) 0), (.int (0) 0), (.int (0) 0), (.int (0) 0), (.int (0) 0), (.int (0) 0), (.int (1) 0)] 0), #[]⟩
noncomputable abbrev ob221 (P : Params) : Obj := ⟨(.type "re.Pattern"), none, (.fields #[(.str "[ \\(\\)<>@,;:\\\\\"/\\[\\]\\?=]" 604), (.int (32) 635), (.int (0) 0), .none, .none, (.ref 220), (.int (0) 0)]), #[]⟩
noncomputable abbrev ob222 (P : Params) : Obj := ⟨(.type "list"), none, (.seq #[(.int (14) 640), (.int (10) 641), (.int (4) 642), (.int (1) 643), (.int (1) 644), (.int (22) 645), (.int (0) 646), (.int (31) 647), (.int (16) 648), (.int (127) 649), (.int (0) 650), (.int (13) 651), (.int (7) 652), (.int (22) 653), (.int (0) 654), (.int (31) 655), (.int (16) 656), (.int (127) 657), (.int (0) 658), (.int (1) 659)] 0), #[]⟩
noncomputable abbrev ob223 (P : Params) : Obj := ⟨(.type "dict"), none, (.dict [].toArray 0), #[]⟩
noncomputable abbrev ob224 (P : Params) : Obj := ⟨(.type "tuple"), none, (.seq #[.none] 0), #[]⟩
noncomputable abbrev ob225 (P : Params) : Obj := ⟨(.type "tuple"), none, (.seq #[(.int (14) 0), (.int (10) 0), (.int (4) 0), (.int (1) 0), (.int (1) 0), (.int (22) 0), (.int (0) 0), (.int (31) 0), (.int (16) 0), (.int (127) 0), (.int (0) 0), (.int (13) 0), (.int (7) 0), (.int (22) 0), (.int (0) 0), (.int (31) 0), (.int (16) 0), (.int (127) 0), (.int (0) 0), (.int (1) 0)] 0), #[]⟩
noncomputable abbrev ob226 (P : Params) : Obj := ⟨(.type "re.Pattern"), none, (.fields #[(.str "[\\x00-\\x1F\\x7F]" 638), (.int (32) 661), (.int (0) 0), .none, .none, (.ref 225), (.int (0) 0)]), #[]⟩
noncomputable abbrev ob227 (P : Params) : Obj := ⟨(.type "list"), none, (.seq #[(.int (14) 666), (.int (14) 667), (.int (4) 668), (.int (1) 669), (.int (1) 670), (.int (9) 671), (.int (4294966783) 672), (.int (0) 673), (.int (0) 674), (.int (2147483648) 675), (.int (0) 676), (.int (0) 677), (.int (0) 678), (.int (0) 679), (.int (0) 680), (.int (13) 681), (.int (11) 682), (.int (9) 683), (.int (4294966783) 684), (.int (0) 685), (.int (0) 686), (.int (2147483648) 687), (.int (0) 688), (.int (0) 689), (.int (0) 690), (.int (0) 691), (.int (0) 692), (.int (1) 693)] 0), #[]⟩
noncomputable abbrev ob228 (P : Params) : Obj := ⟨(.type "dict"), none, (.dict [].toArray 0), #[]⟩
noncomputable abbrev ob229 (P : Params) : Obj := ⟨(.type "tuple"), none, (.seq #[.none] 0), #[]⟩
noncomputable abbrev ob230 (P : Params) : Obj := ⟨(.type "tuple"), none, (.seq #[(.int (14) 0), (.int (14) 0), (.int (4) 0), (.int (1) 0), (.int (1) 0), (.int (9) 0), (.int (4294966783) 0), (.int (0) 0), (.int (0) 0), (.int (2147483648) 0), (.int (0) 0), (.int (0) 0), (.int (0) 0), (.int (0) 0), (.int (0) 0), (.int (13) 0), (.int (11) 0), (.int (9) 0), (.int (4294966783) 0), (.int (0) 0), (.int (0) 0), (.int (2147483648) 0), (.int (0) 0), (.int (0) 0), (.int (0) 0), (.int (0) 0), (.int (0) 0), (.int (1) 0)] 0), #[]⟩
noncomputable abbrev ob231 (P : Params) : Obj := ⟨(.type "re.Pattern"), none, (.fields #[(.str "[\\x00-\\x08\\x0A-\\x1F\\x7F]" 664), (.int (32) 695), (.int (0) 0), .none, .none, (.ref 230), (.int (0) 0)]), #[]⟩
noncomputable abbrev ob232 (P : Params) : Obj := ⟨(.type "tuple"), none, (.seq #[.none, (.int (1) 697)] 0), #[]⟩
noncomputable abbrev ob233 (P : Params) : Obj := ⟨(.type "tuple"), none, (.seq #[] 0), #[]⟩
noncomputable abbrev ob234 (P : Params) : Obj := ⟨.none, none, (.fields #[]), #[]⟩
noncomputable abbrev ob235 (P : Params) : Obj := ⟨(.type "tuple"), none, (.seq #[(.str "param" 701), (.str "value" 702), (.str "quote" 703)] 0), #[]⟩
noncomputable abbrev ob236 (P : Params) : Obj := ⟨(.type "tuple"), none, (.seq #[] 0), #[]⟩
noncomputable abbrev ob237 (P : Params) : Obj := ⟨.none, none, (.func { mkFd (topStmt 35) "_formatparam" "_formatparam" .none .none .none .none .none with globals := 0 }), #[]⟩
noncomputable abbrev ob238 (P : Params) : Obj := ⟨(.type "code"), none, (.fields #[(.str "_formatparam" 698), (.str "_formatparam" 699), (.str "/claim/cut.py" 700), (.int (187) 0), (.int (3) 0), (.int (0) 0), (.int (0) 0), (.int (3) 0), (.ref 233), (.bool true), (.int (276) 0), (.ref 234), .none, (.ref 235), (.ref 236), (.ref 237), (.int (704) 0), (.int (187) 0), (.str "/claim/cut.py" 705)]), #[]⟩
noncomputable abbrev ob239 (P : Params) : Obj := ⟨(.type "function"), none, (.func (mkFd (topStmt 35) "_formatparam" "_formatparam" (.ref 232) .none (.str (docS (topStmt 35)) 706) (.str "cpy313.wsgiref.headers" 601) (.ref 238))), #[]⟩
noncomputable abbrev ob3v4 (P : Params) : Obj := ⟨(.type "dict"), none, (.dict [en P "__name__" 165 (.str "cpy313.wsgiref.headers" 601), en P "__doc__" 166 .none, en P "__package__" 167 .none, en P "__loader__" 168 (.builtin "__main__.__loader__#opaque"), en P "__spec__" 169 .none, en P "__annotations__" 170 (.ref 6), en P "__builtins__" 171 (.ref 4), en P "__file__" 173 (.str "/claim/cut.py" 172), en P "__cached__" 174 .none, en P "_sre" 275 (.ref 12), en P "_wall" 288 (.ref 38), en P "_tuplegetter" 347 (.ref 77), en P "sorted_list_difference" 362 (.ref 88), en P "Mismatch" 490 (.ref 159), en P "_Mismatch" 491 (.ref 159), en P "_count_diff_all_purpose" 513 (.ref 169), en P "S_IFMT" 523 (.ref 176), en P "S_IFDIR" 525 (.int (16384) 524), en P "S_IFCHR" 527 (.int (8192) 526), en P "S_IFBLK" 529 (.int (24576) 528), en P "S_IFREG" 531 (.int (32768) 530), en P "S_IFIFO" 533 (.int (4096) 532), en P "S_IFLNK" 535 (.int (40960) 534), en P "S_IFSOCK" 537 (.int (49152) 536), en P "S_ISUID" 539 (.int (2048) 538), en P "S_ISGID" 541 (.int (1024) 540), en P "S_ISVTX" 543 (.int (512) 542), en P "S_IRUSR" 545 (.int (256) 544), en P "S_IWUSR" 547 (.int (128) 546), en P "S_IXUSR" 549 (.int (64) 548), en P "S_IRGRP" 551 (.int (32) 550), en P "S_IWGRP" 553 (.int (16) 552), en P "S_IXGRP" 555 (.int (8) 554), en P "S_IROTH" 557 (.int (4) 556), en P "S_IWOTH" 559 (.int (2) 558), en P "S_IXOTH" 561 (.int (1) 560), en P "_filemode_table" 587 (.ref 209), en P "filemode" 600 (.ref 216), en P "tspecials" 636 (.ref 221), en P "_name_disallowed_re" 662 (.ref 226), en P "_value_disallowed_re" 696 (.ref 231), en P "_formatparam" 707 (.ref 239), en P "Headers" 879 (.ref 360)].toArray 43), #[]⟩
noncomputable abbrev ob29v4 (P : Params) : Obj := ⟨.none, none, (.fields #[(.int (2) 0), (.int (0) 0), (.ref 37), (.int (6) 0), (.int (0) 0), (.ref 44), (.int (24) 0), (.int (0) 0), (.ref 87), (.int (63) 0), (.int (0) 0), (.ref 95), (.int (107) 0), (.int (0) 0), (.ref 168), (.int (140) 0), (.int (0) 0), (.ref 175), (.int (165) 0), (.int (0) 0), (.ref 215), (.int (187) 0), (.int (0) 0), (.ref 238), (.int (200) 0), (.int (0) 0), (.ref 245)]), #[]⟩
noncomputable abbrev ob240 (P : Params) : Obj := ⟨(.type "tuple"), none, (.seq #[] 0), #[]⟩
noncomputable abbrev ob241 (P : Params) : Obj := ⟨(.type "builtin_function_or_method"), none, (.fields #[(.builtin "type.__prepare__"), (.type "type")]), #[]⟩
noncomputable abbrev ob242 (P : Params) : Obj := ⟨(.type "dict"), none, (.dict [en P "__module__" 715 (.str "cpy313.wsgiref.headers" 601), en P "__qualname__" 717 (.str "Headers" 716), en P "__firstlineno__" 719 (.int (200) 718), en P "__doc__" 721 (.str (docC (topStmt 36)) 720), en P "__init__" 732 (.ref 254), en P "_convert_string_type" 743 (.ref 261), en P "__len__" 751 (.ref 268), en P "__setitem__" 761 (.ref 275), en P "__delitem__" 768 (.ref 280), en P "__getitem__" 777 (.ref 287), en P "__contains__" 786 (.ref 294), en P "get_all" 793 (.ref 299), en P "get" 805 (.ref 307), en P "keys" 812 (.ref 312), en P "values" 819 (.ref 317), en P "items" 827 (.ref 324), en P "__repr__" 834 (.ref 331), en P "__str__" 841 (.ref 336), en P "__bytes__" 848 (.ref 343), en P "setdefault" 857 (.ref 350), en P "add_header" 871 (.ref 357), en P "__static_attributes__" 873 (.ref 358)].toArray 22), #[]⟩
noncomputable abbrev ob243 (P : Params) : Obj := ⟨(.type "tuple"), none, (.seq #[] 0), #[]⟩
noncomputable abbrev ob244 (P : Params) : Obj := ⟨.none, none, (.fields #[(.int (203) 0), (.int (4) 0), (.ref 253), (.int (213) 0), (.int (4) 0), (.ref 260), (.int (222) 0), (.int (4) 0), (.ref 267), (.int (226) 0), (.int (4) 0), (.ref 274), (.int (231) 0), (.int (4) 0), (.ref 279), (.int (239) 0), (.int (4) 0), (.ref 286), (.int (250) 0), (.int (4) 0), (.ref 293), (.int (254) 0), (.int (4) 0), (.ref 298), (.int (265) 0), (.int (4) 0), (.ref 306), (.int (273) 0), (.int (4) 0), (.ref 311), (.int (283) 0), (.int (4) 0), (.ref 316), (.int (293) 0), (.int (4) 0), (.ref 323), (.int (303) 0), (.int (4) 0), (.ref 330), (.int (306) 0), (.int (4) 0), (.ref 335), (.int (311) 0), (.int (4) 0), (.ref 342), (.int (314) 0), (.int (4) 0), (.ref 349), (.int (317) 0), (.int (4) 0), (.ref 356)]), #[]⟩
noncomputable abbrev ob245 (P : Params) : Obj := ⟨(.type "code"), none, (.fields #[(.str "Headers" 710), (.str "Headers" 711), (.str "/claim/cut.py" 712), (.int (200) 0), (.int (0) 0), (.int (0) 0), (.int (0) 0), (.int (0) 0), (.ref 243), (.bool false), (.int (276) 0), (.ref 244), .none, .none, .none, .none, (.int (713) 0), (.int (200) 0), (.str "/claim/cut.py" 714)]), #[]⟩
noncomputable abbrev ob246 (P : Params) : Obj := ⟨(.type "frame"), none, .plain, #[(some (.ref 245)), (some (.ref 3)), (some (.ref 242)), none, (some (.str "cpy313.wsgiref.headers" 601)), none, (some (.ref 0))]⟩
noncomputable abbrev ob247 (P : Params) : Obj := ⟨(.type "tuple"), none, (.seq #[.none] 0), #[]⟩
noncomputable abbrev ob248 (P : Params) : Obj := ⟨(.type "tuple"), none, (.seq #[] 0), #[]⟩
noncomputable abbrev ob249 (P : Params) : Obj := ⟨.none, none, (.fields #[]), #[]⟩
noncomputable abbrev ob250 (P : Params) : Obj := ⟨(.type "tuple"), none, (.seq #[(.str "self" 726), (.str "headers" 727), (.str "k" 728), (.str "v" 729)] 0), #[]⟩
noncomputable abbrev ob251 (P : Params) : Obj := ⟨(.type "tuple"), none, (.seq #[] 0), #[]⟩
noncomputable abbrev ob252 (P : Params) : Obj := ⟨.none, none, (.func { mkFd (subStmt 36 1) "__init__" "Headers.__init__" .none .none .none .none .none with globals := 0 }), #[]⟩
noncomputable abbrev ob253 (P : Params) : Obj := ⟨(.type "code"), none, (.fields #[(.str "__init__" 723), (.str "Headers.__init__" 724), (.str "/claim/cut.py" 725), (.int (203) 0), (.int (2) 0), (.int (0) 0), (.int (0) 0), (.int (3) 0), (.ref 248), (.bool true), (.int (276) 0), (.ref 249), .none, (.ref 250), (.ref 251), (.ref 252), (.int (730) 0), (.int (203) 0), (.str "/claim/cut.py" 731)]), #[]⟩
noncomputable abbrev ob254 (P : Params) : Obj := ⟨(.type "function"), none, (.func (mkFd (subStmt 36 1) "__init__" "Headers.__init__" (.ref 247) .none .none (.str "cpy313.wsgiref.headers" 601) (.ref 253))), #[]⟩
noncomputable abbrev ob255 (P : Params) : Obj := ⟨(.type "tuple"), none, (.seq #[] 0), #[]⟩
noncomputable abbrev ob256 (P : Params) : Obj := ⟨.none, none, (.fields #[]), #[]⟩
noncomputable abbrev ob257 (P : Params) : Obj := ⟨(.type "tuple"), none, (.seq #[(.str "self" 736), (.str "value" 737), (.str "name" 738), (.str "regex" 739)] 0), #[]⟩
noncomputable abbrev ob258 (P : Params) : Obj := ⟨(.type "tuple"), none, (.seq #[] 0), #[]⟩
noncomputable abbrev ob259 (P : Params) : Obj := ⟨.none, none, (.func { mkFd (subStmt 36 2) "_convert_string_type" "Headers._convert_string_type" .none .none .none .none .none with globals := 0 }), #[]⟩
noncomputable abbrev ob260 (P : Params) : Obj := ⟨(.type "code"), none, (.fields #[(.str "_convert_string_type" 733), (.str "Headers._convert_string_type" 734), (.str "/claim/cut.py" 735), (.int (213) 0), (.int (2) 0), (.int (0) 0), (.int (1) 0), (.int (3) 0), (.ref 255), (.bool true), (.int (276) 0), (.ref 256), .none, (.ref 257), (.ref 258), (.ref 259), (.int (740) 0), (.int (213) 0), (.str "/claim/cut.py" 741)]), #[]⟩
noncomputable abbrev ob261 (P : Params) : Obj := ⟨(.type "function"), none, (.func (mkFd (subStmt 36 2) "_convert_string_type" "Headers._convert_string_type" .none .none (.str (docS (subStmt 36 2)) 742) (.str "cpy313.wsgiref.headers" 601) (.ref 260))), #[]⟩
noncomputable abbrev ob262 (P : Params) : Obj := ⟨(.type "tuple"), none, (.seq #[] 0), #[]⟩
noncomputable abbrev ob263 (P : Params) : Obj := ⟨.none, none, (.fields #[]), #[]⟩
noncomputable abbrev ob264 (P : Params) : Obj := ⟨(.type "tuple"), none, (.seq #[(.str "self" 747)] 0), #[]⟩
noncomputable abbrev ob265 (P : Params) : Obj := ⟨(.type "tuple"), none, (.seq #[] 0), #[]⟩
noncomputable abbrev ob266 (P : Params) : Obj := ⟨.none, none, (.func { mkFd (subStmt 36 3) "__len__" "Headers.__len__" .none .none .none .none .none with globals := 0 }), #[]⟩
noncomputable abbrev ob267 (P : Params) : Obj := ⟨(.type "code"), none, (.fields #[(.str "__len__" 744), (.str "Headers.__len__" 745), (.str "/claim/cut.py" 746), (.int (222) 0), (.int (1) 0), (.int (0) 0), (.int (0) 0), (.int (3) 0), (.ref 262), (.bool true), (.int (276) 0), (.ref 263), .none, (.ref 264), (.ref 265), (.ref 266), (.int (748) 0), (.int (222) 0), (.str "/claim/cut.py" 749)]), #[]⟩
noncomputable abbrev ob268 (P : Params) : Obj := ⟨(.type "function"), none, (.func (mkFd (subStmt 36 3) "__len__" "Headers.__len__" .none .none (.str (docS (subStmt 36 3)) 750) (.str "cpy313.wsgiref.headers" 601) (.ref 267))), #[]⟩
noncomputable abbrev ob269 (P : Params) : Obj := ⟨(.type "tuple"), none, (.seq #[] 0), #[]⟩
noncomputable abbrev ob270 (P : Params) : Obj := ⟨.none, none, (.fields #[]), #[]⟩
noncomputable abbrev ob271 (P : Params) : Obj := ⟨(.type "tuple"), none, (.seq #[(.str "self" 755), (.str "name" 756), (.str "val" 757)] 0), #[]⟩
noncomputable abbrev ob272 (P : Params) : Obj := ⟨(.type "tuple"), none, (.seq #[] 0), #[]⟩
noncomputable abbrev ob273 (P : Params) : Obj := ⟨.none, none, (.func { mkFd (subStmt 36 4) "__setitem__" "Headers.__setitem__" .none .none .none .none .none with globals := 0 }), #[]⟩
noncomputable abbrev ob274 (P : Params) : Obj := ⟨(.type "code"), none, (.fields #[(.str "__setitem__" 752), (.str "Headers.__setitem__" 753), (.str "/claim/cut.py" 754), (.int (226) 0), (.int (3) 0), (.int (0) 0), (.int (0) 0), (.int (3) 0), (.ref 269), (.bool true), (.int (276) 0), (.ref 270), .none, (.ref 271), (.ref 272), (.ref 273), (.int (758) 0), (.int (226) 0), (.str "/claim/cut.py" 759)]), #[]⟩
noncomputable abbrev ob275 (P : Params) : Obj := ⟨(.type "function"), none, (.func (mkFd (subStmt 36 4) "__setitem__" "Headers.__setitem__" .none .none (.str (docS (subStmt 36 4)) 760) (.str "cpy313.wsgiref.headers" 601) (.ref 274))), #[]⟩
noncomputable abbrev ob276 (P : Params) : Obj := ⟨(.type "tuple"), none, (.seq #[] 0), #[]⟩
noncomputable abbrev ob277 (P : Params) : Obj := ⟨.none, none, (.fields #[]), #[]⟩
noncomputable abbrev ob278 (P : Params) : Obj := ⟨.none, none, (.func { mkFd (subStmt 36 5) "__delitem__" "Headers.__delitem__" .none .none .none .none .none with globals := 0 }), #[]⟩
noncomputable abbrev ob279 (P : Params) : Obj := ⟨(.type "code"), none, (.fields #[(.str "__delitem__" 762), (.str "Headers.__delitem__" 763), (.str "/claim/cut.py" 764), (.int (231) 0), (.int (2) 0), (.int (0) 0), (.int (0) 0), (.int (3) 0), (.ref 276), (.bool true), (.int (276) 0), (.ref 277), .none, .none, .none, (.ref 278), (.int (765) 0), (.int (231) 0), (.str "/claim/cut.py" 766)]), #[]⟩
noncomputable abbrev ob280 (P : Params) : Obj := ⟨(.type "function"), none, (.func (mkFd (subStmt 36 5) "__delitem__" "Headers.__delitem__" .none .none (.str (docS (subStmt 36 5)) 767) (.str "cpy313.wsgiref.headers" 601) (.ref 279))), #[]⟩
noncomputable abbrev ob281 (P : Params) : Obj := ⟨(.type "tuple"), none, (.seq #[] 0), #[]⟩
noncomputable abbrev ob282 (P : Params) : Obj := ⟨.none, none, (.fields #[]), #[]⟩
noncomputable abbrev ob283 (P : Params) : Obj := ⟨(.type "tuple"), none, (.seq #[(.str "self" 772), (.str "name" 773)] 0), #[]⟩
noncomputable abbrev ob284 (P : Params) : Obj := ⟨(.type "tuple"), none, (.seq #[] 0), #[]⟩
noncomputable abbrev ob285 (P : Params) : Obj := ⟨.none, none, (.func { mkFd (subStmt 36 6) "__getitem__" "Headers.__getitem__" .none .none .none .none .none with globals := 0 }), #[]⟩
noncomputable abbrev ob286 (P : Params) : Obj := ⟨(.type "code"), none, (.fields #[(.str "__getitem__" 769), (.str "Headers.__getitem__" 770), (.str "/claim/cut.py" 771), (.int (239) 0), (.int (2) 0), (.int (0) 0), (.int (0) 0), (.int (3) 0), (.ref 281), (.bool true), (.int (276) 0), (.ref 282), .none, (.ref 283), (.ref 284), (.ref 285), (.int (774) 0), (.int (239) 0), (.str "/claim/cut.py" 775)]), #[]⟩
noncomputable abbrev ob287 (P : Params) : Obj := ⟨(.type "function"), none, (.func (mkFd (subStmt 36 6) "__getitem__" "Headers.__getitem__" .none .none (.str (docS (subStmt 36 6)) 776) (.str "cpy313.wsgiref.headers" 601) (.ref 286))), #[]⟩
noncomputable abbrev ob288 (P : Params) : Obj := ⟨(.type "tuple"), none, (.seq #[] 0), #[]⟩
noncomputable abbrev ob289 (P : Params) : Obj := ⟨.none, none, (.fields #[]), #[]⟩
noncomputable abbrev ob290 (P : Params) : Obj := ⟨(.type "tuple"), none, (.seq #[(.str "self" 781), (.str "name" 782)] 0), #[]⟩
noncomputable abbrev ob291 (P : Params) : Obj := ⟨(.type "tuple"), none, (.seq #[] 0), #[]⟩
noncomputable abbrev ob292 (P : Params) : Obj := ⟨.none, none, (.func { mkFd (subStmt 36 7) "__contains__" "Headers.__contains__" .none .none .none .none .none with globals := 0 }), #[]⟩
noncomputable abbrev ob293 (P : Params) : Obj := ⟨(.type "code"), none, (.fields #[(.str "__contains__" 778), (.str "Headers.__contains__" 779), (.str "/claim/cut.py" 780), (.int (250) 0), (.int (2) 0), (.int (0) 0), (.int (0) 0), (.int (3) 0), (.ref 288), (.bool true), (.int (276) 0), (.ref 289), .none, (.ref 290), (.ref 291), (.ref 292), (.int (783) 0), (.int (250) 0), (.str "/claim/cut.py" 784)]), #[]⟩
noncomputable abbrev ob294 (P : Params) : Obj := ⟨(.type "function"), none, (.func (mkFd (subStmt 36 7) "__contains__" "Headers.__contains__" .none .none (.str (docS (subStmt 36 7)) 785) (.str "cpy313.wsgiref.headers" 601) (.ref 293))), #[]⟩
noncomputable abbrev ob295 (P : Params) : Obj := ⟨(.type "tuple"), none, (.seq #[] 0), #[]⟩
noncomputable abbrev ob296 (P : Params) : Obj := ⟨.none, none, (.fields #[]), #[]⟩
noncomputable abbrev ob297 (P : Params) : Obj := ⟨.none, none, (.func { mkFd (subStmt 36 8) "get_all" "Headers.get_all" .none .none .none .none .none with globals := 0 }), #[]⟩
noncomputable abbrev ob298 (P : Params) : Obj := ⟨(.type "code"), none, (.fields #[(.str "get_all" 787), (.str "Headers.get_all" 788), (.str "/claim/cut.py" 789), (.int (254) 0), (.int (2) 0), (.int (0) 0), (.int (0) 0), (.int (3) 0), (.ref 295), (.bool true), (.int (276) 0), (.ref 296), .none, .none, .none, (.ref 297), (.int (790) 0), (.int (254) 0), (.str "/claim/cut.py" 791)]), #[]⟩
noncomputable abbrev ob299 (P : Params) : Obj := ⟨(.type "function"), none, (.func (mkFd (subStmt 36 8) "get_all" "Headers.get_all" .none .none (.str (docS (subStmt 36 8)) 792) (.str "cpy313.wsgiref.headers" 601) (.ref 298))), #[]⟩
noncomputable abbrev ob300 (P : Params) : Obj := ⟨(.type "tuple"), none, (.seq #[.none] 0), #[]⟩
noncomputable abbrev ob301 (P : Params) : Obj := ⟨(.type "tuple"), none, (.seq #[] 0), #[]⟩
noncomputable abbrev ob302 (P : Params) : Obj := ⟨.none, none, (.fields #[]), #[]⟩
noncomputable abbrev ob303 (P : Params) : Obj := ⟨(.type "tuple"), none, (.seq #[(.str "self" 797), (.str "name" 798), (.str "default" 799), (.str "k" 800), (.str "v" 801)] 0), #[]⟩
noncomputable abbrev ob304 (P : Params) : Obj := ⟨(.type "tuple"), none, (.seq #[] 0), #[]⟩
noncomputable abbrev ob305 (P : Params) : Obj := ⟨.none, none, (.func { mkFd (subStmt 36 9) "get" "Headers.get" .none .none .none .none .none with globals := 0 }), #[]⟩
noncomputable abbrev ob306 (P : Params) : Obj := ⟨(.type "code"), none, (.fields #[(.str "get" 794), (.str "Headers.get" 795), (.str "/claim/cut.py" 796), (.int (265) 0), (.int (3) 0), (.int (0) 0), (.int (0) 0), (.int (3) 0), (.ref 301), (.bool true), (.int (276) 0), (.ref 302), .none, (.ref 303), (.ref 304), (.ref 305), (.int (802) 0), (.int (265) 0), (.str "/claim/cut.py" 803)]), #[]⟩
noncomputable abbrev ob307 (P : Params) : Obj := ⟨(.type "function"), none, (.func (mkFd (subStmt 36 9) "get" "Headers.get" (.ref 300) .none (.str (docS (subStmt 36 9)) 804) (.str "cpy313.wsgiref.headers" 601) (.ref 306))), #[]⟩
noncomputable abbrev ob308 (P : Params) : Obj := ⟨(.type "tuple"), none, (.seq #[] 0), #[]⟩
noncomputable abbrev ob309 (P : Params) : Obj := ⟨.none, none, (.fields #[]), #[]⟩
noncomputable abbrev ob310 (P : Params) : Obj := ⟨.none, none, (.func { mkFd (subStmt 36 10) "keys" "Headers.keys" .none .none .none .none .none with globals := 0 }), #[]⟩
noncomputable abbrev ob311 (P : Params) : Obj := ⟨(.type "code"), none, (.fields #[(.str "keys" 806), (.str "Headers.keys" 807), (.str "/claim/cut.py" 808), (.int (273) 0), (.int (1) 0), (.int (0) 0), (.int (0) 0), (.int (3) 0), (.ref 308), (.bool true), (.int (276) 0), (.ref 309), .none, .none, .none, (.ref 310), (.int (809) 0), (.int (273) 0), (.str "/claim/cut.py" 810)]), #[]⟩
noncomputable abbrev ob312 (P : Params) : Obj := ⟨(.type "function"), none, (.func (mkFd (subStmt 36 10) "keys" "Headers.keys" .none .none (.str (docS (subStmt 36 10)) 811) (.str "cpy313.wsgiref.headers" 601) (.ref 311))), #[]⟩
noncomputable abbrev ob313 (P : Params) : Obj := ⟨(.type "tuple"), none, (.seq #[] 0), #[]⟩
noncomputable abbrev ob314 (P : Params) : Obj := ⟨.none, none, (.fields #[]), #[]⟩
noncomputable abbrev ob315 (P : Params) : Obj := ⟨.none, none, (.func { mkFd (subStmt 36 11) "values" "Headers.values" .none .none .none .none .none with globals := 0 }), #[]⟩
noncomputable abbrev ob316 (P : Params) : Obj := ⟨(.type "code"), none, (.fields #[(.str "values" 813), (.str "Headers.values" 814), (.str "/claim/cut.py" 815), (.int (283) 0), (.int (1) 0), (.int (0) 0), (.int (0) 0), (.int (3) 0), (.ref 313), (.bool true), (.int (276) 0), (.ref 314), .none, .none, .none, (.ref 315), (.int (816) 0), (.int (283) 0), (.str "/claim/cut.py" 817)]), #[]⟩
noncomputable abbrev ob317 (P : Params) : Obj := ⟨(.type "function"), none, (.func (mkFd (subStmt 36 11) "values" "Headers.values" .none .none (.str (docS (subStmt 36 11)) 818) (.str "cpy313.wsgiref.headers" 601) (.ref 316))), #[]⟩
noncomputable abbrev ob318 (P : Params) : Obj := ⟨(.type "tuple"), none, (.seq #[] 0), #[]⟩
noncomputable abbrev ob319 (P : Params) : Obj := ⟨.none, none, (.fields #[]), #[]⟩
noncomputable abbrev ob320 (P : Params) : Obj := ⟨(.type "tuple"), none, (.seq #[(.str "self" 823)] 0), #[]⟩
noncomputable abbrev ob321 (P : Params) : Obj := ⟨(.type "tuple"), none, (.seq #[] 0), #[]⟩
noncomputable abbrev ob322 (P : Params) : Obj := ⟨.none, none, (.func { mkFd (subStmt 36 12) "items" "Headers.items" .none .none .none .none .none with globals := 0 }), #[]⟩
noncomputable abbrev ob323 (P : Params) : Obj := ⟨(.type "code"), none, (.fields #[(.str "items" 820), (.str "Headers.items" 821), (.str "/claim/cut.py" 822), (.int (293) 0), (.int (1) 0), (.int (0) 0), (.int (0) 0), (.int (3) 0), (.ref 318), (.bool true), (.int (276) 0), (.ref 319), .none, (.ref 320), (.ref 321), (.ref 322), (.int (824) 0), (.int (293) 0), (.str "/claim/cut.py" 825)]), #[]⟩
noncomputable abbrev ob324 (P : Params) : Obj := ⟨(.type "function"), none, (.func (mkFd (subStmt 36 12) "items" "Headers.items" .none .none (.str (docS (subStmt 36 12)) 826) (.str "cpy313.wsgiref.headers" 601) (.ref 323))), #[]⟩
noncomputable abbrev ob325 (P : Params) : Obj := ⟨(.type "tuple"), none, (.seq #[] 0), #[]⟩
noncomputable abbrev ob326 (P : Params) : Obj := ⟨.none, none, (.fields #[]), #[]⟩
noncomputable abbrev ob327 (P : Params) : Obj := ⟨(.type "tuple"), none, (.seq #[(.str "self" 831)] 0), #[]⟩
noncomputable abbrev ob328 (P : Params) : Obj := ⟨(.type "tuple"), none, (.seq #[] 0), #[]⟩
noncomputable abbrev ob329 (P : Params) : Obj := ⟨.none, none, (.func { mkFd (subStmt 36 13) "__repr__" "Headers.__repr__" .none .none .none .none .none with globals := 0 }), #[]⟩
noncomputable abbrev ob330 (P : Params) : Obj := ⟨(.type "code"), none, (.fields #[(.str "__repr__" 828), (.str "Headers.__repr__" 829), (.str "/claim/cut.py" 830), (.int (303) 0), (.int (1) 0), (.int (0) 0), (.int (0) 0), (.int (3) 0), (.ref 325), (.bool true), (.int (276) 0), (.ref 326), .none, (.ref 327), (.ref 328), (.ref 329), (.int (832) 0), (.int (303) 0), (.str "/claim/cut.py" 833)]), #[]⟩
noncomputable abbrev ob331 (P : Params) : Obj := ⟨(.type "function"), none, (.func (mkFd (subStmt 36 13) "__repr__" "Headers.__repr__" .none .none .none (.str "cpy313.wsgiref.headers" 601) (.ref 330))), #[]⟩
noncomputable abbrev ob332 (P : Params) : Obj := ⟨(.type "tuple"), none, (.seq #[] 0), #[]⟩
noncomputable abbrev ob333 (P : Params) : Obj := ⟨.none, none, (.fields #[]), #[]⟩
noncomputable abbrev ob334 (P : Params) : Obj := ⟨.none, none, (.func { mkFd (subStmt 36 14) "__str__" "Headers.__str__" .none .none .none .none .none with globals := 0 }), #[]⟩
noncomputable abbrev ob335 (P : Params) : Obj := ⟨(.type "code"), none, (.fields #[(.str "__str__" 835), (.str "Headers.__str__" 836), (.str "/claim/cut.py" 837), (.int (306) 0), (.int (1) 0), (.int (0) 0), (.int (0) 0), (.int (3) 0), (.ref 332), (.bool true), (.int (276) 0), (.ref 333), .none, .none, .none, (.ref 334), (.int (838) 0), (.int (306) 0), (.str "/claim/cut.py" 839)]), #[]⟩
noncomputable abbrev ob336 (P : Params) : Obj := ⟨(.type "function"), none, (.func (mkFd (subStmt 36 14) "__str__" "Headers.__str__" .none .none (.str (docS (subStmt 36 14)) 840) (.str "cpy313.wsgiref.headers" 601) (.ref 335))), #[]⟩
noncomputable abbrev ob337 (P : Params) : Obj := ⟨(.type "tuple"), none, (.seq #[] 0), #[]⟩
noncomputable abbrev ob338 (P : Params) : Obj := ⟨.none, none, (.fields #[]), #[]⟩
noncomputable abbrev ob339 (P : Params) : Obj := ⟨(.type "tuple"), none, (.seq #[(.str "self" 845)] 0), #[]⟩
noncomputable abbrev ob340 (P : Params) : Obj := ⟨(.type "tuple"), none, (.seq #[] 0), #[]⟩
noncomputable abbrev ob341 (P : Params) : Obj := ⟨.none, none, (.func { mkFd (subStmt 36 15) "__bytes__" "Headers.__bytes__" .none .none .none .none .none with globals := 0 }), #[]⟩
noncomputable abbrev ob342 (P : Params) : Obj := ⟨(.type "code"), none, (.fields #[(.str "__bytes__" 842), (.str "Headers.__bytes__" 843), (.str "/claim/cut.py" 844), (.int (311) 0), (.int (1) 0), (.int (0) 0), (.int (0) 0), (.int (3) 0), (.ref 337), (.bool true), (.int (276) 0), (.ref 338), .none, (.ref 339), (.ref 340), (.ref 341), (.int (846) 0), (.int (311) 0), (.str "/claim/cut.py" 847)]), #[]⟩
noncomputable abbrev ob343 (P : Params) : Obj := ⟨(.type "function"), none, (.func (mkFd (subStmt 36 15) "__bytes__" "Headers.__bytes__" .none .none .none (.str "cpy313.wsgiref.headers" 601) (.ref 342))), #[]⟩
noncomputable abbrev ob344 (P : Params) : Obj := ⟨(.type "tuple"), none, (.seq #[] 0), #[]⟩
noncomputable abbrev ob345 (P : Params) : Obj := ⟨.none, none, (.fields #[]), #[]⟩
noncomputable abbrev ob346 (P : Params) : Obj := ⟨(.type "tuple"), none, (.seq #[(.str "self" 852), (.str "name" 853), (.str "value" 854)] 0), #[]⟩
noncomputable abbrev ob347 (P : Params) : Obj := ⟨(.type "tuple"), none, (.seq #[] 0), #[]⟩
noncomputable abbrev ob348 (P : Params) : Obj := ⟨.none, none, (.func { mkFd (subStmt 36 16) "setdefault" "Headers.setdefault" .none .none .none .none .none with globals := 0 }), #[]⟩
noncomputable abbrev ob349 (P : Params) : Obj := ⟨(.type "code"), none, (.fields #[(.str "setdefault" 849), (.str "Headers.setdefault" 850), (.str "/claim/cut.py" 851), (.int (314) 0), (.int (3) 0), (.int (0) 0), (.int (0) 0), (.int (3) 0), (.ref 344), (.bool true), (.int (276) 0), (.ref 345), .none, (.ref 346), (.ref 347), (.ref 348), (.int (855) 0), (.int (314) 0), (.str "/claim/cut.py" 856)]), #[]⟩
noncomputable abbrev ob350 (P : Params) : Obj := ⟨(.type "function"), none, (.func (mkFd (subStmt 36 16) "setdefault" "Headers.setdefault" .none .none .none (.str "cpy313.wsgiref.headers" 601) (.ref 349))), #[]⟩
noncomputable abbrev ob351 (P : Params) : Obj := ⟨(.type "tuple"), none, (.seq #[] 0), #[]⟩
noncomputable abbrev ob352 (P : Params) : Obj := ⟨.none, none, (.fields #[]), #[]⟩
noncomputable abbrev ob353 (P : Params) : Obj := ⟨(.type "tuple"), none, (.seq #[(.str "self" 861), (.str "_name" 862), (.str "_value" 863), (.str "_params" 864), (.str "parts" 865), (.str "k" 866), (.str "v" 867)] 0), #[]⟩
noncomputable abbrev ob354 (P : Params) : Obj := ⟨(.type "tuple"), none, (.seq #[] 0), #[]⟩
noncomputable abbrev ob355 (P : Params) : Obj := ⟨.none, none, (.func { mkFd (subStmt 36 17) "add_header" "Headers.add_header" .none .none .none .none .none with globals := 0 }), #[]⟩
noncomputable abbrev ob356 (P : Params) : Obj := ⟨(.type "code"), none, (.fields #[(.str "add_header" 858), (.str "Headers.add_header" 859), (.str "/claim/cut.py" 860), (.int (317) 0), (.int (3) 0), (.int (0) 0), (.int (0) 0), (.int (11) 0), (.ref 351), (.bool true), (.int (276) 0), (.ref 352), .none, (.ref 353), (.ref 354), (.ref 355), (.int (868) 0), (.int (317) 0), (.str "/claim/cut.py" 869)]), #[]⟩
noncomputable abbrev ob357 (P : Params) : Obj := ⟨(.type "function"), none, (.func (mkFd (subStmt 36 17) "add_header" "Headers.add_header" .none .none (.str (docS (subStmt 36 17)) 870) (.str "cpy313.wsgiref.headers" 601) (.ref 356))), #[]⟩
noncomputable abbrev ob358 (P : Params) : Obj := ⟨(.type "tuple"), none, (.seq #[(.str "_headers" 872)] 0), #[]⟩
noncomputable abbrev ob359 (P : Params) : Obj := ⟨(.type "dict"), none, (.dict [en P "__module__" 715 (.str "cpy313.wsgiref.headers" 601), en P "__firstlineno__" 719 (.int (200) 718), en P "__doc__" 721 (.str (docC (topStmt 36)) 720), en P "__init__" 732 (.ref 254), en P "_convert_string_type" 743 (.ref 261), en P "__len__" 751 (.ref 268), en P "__setitem__" 761 (.ref 275), en P "__delitem__" 768 (.ref 280), en P "__getitem__" 777 (.ref 287), en P "__contains__" 786 (.ref 294), en P "get_all" 793 (.ref 299), en P "get" 805 (.ref 307), en P "keys" 812 (.ref 312), en P "values" 819 (.ref 317), en P "items" 827 (.ref 324), en P "__repr__" 834 (.ref 331), en P "__str__" 841 (.ref 336), en P "__bytes__" 848 (.ref 343), en P "setdefault" 857 (.ref 350), en P "add_header" 871 (.ref 357), en P "__static_attributes__" 873 (.ref 358), en P "__dict__" 875 (.ref 361), en P "__weakref__" 877 (.ref 362)].toArray 3), #[]⟩
noncomputable abbrev ob360 (P : Params) : Obj := ⟨(.type "type"), none, (.cls { name := "Headers", bases := [(.type "object")], mro := [(.ref 360), (.type "object")], ns := 359, qualname := "Headers", hasDict := true, slotNames := [], subclasses := [], abstract := false, collection := none, hasDel := false }), #[none, none, (some (.str "Headers" 708)), (some (.str "Headers" 716)), (some (.builtin "object.__new__")), (some (.bool true))]⟩
noncomputable abbrev ob361 (P : Params) : Obj := ⟨(.type "getset_descriptor"), none, (.fields #[(.str "__dict__" 874), (.ref 360), (.builtin "function.__dict__"), (.builtin "function.__dict__#set")]), #[]⟩
noncomputable abbrev ob362 (P : Params) : Obj := ⟨(.type "getset_descriptor"), none, (.fields #[(.str "__weakref__" 876), (.ref 360), (.builtin "ExceptionGroup.__weakref__"), .none]), #[]⟩
noncomputable abbrev ob363 (P : Params) : Obj := ⟨(.type "super"), none, (.fields #[(.ref 360), (.ref 360), (.ref 360)]), #[]⟩
noncomputable abbrev ob364 (P : Params) : Obj := ⟨(.type "builtin_function_or_method"), none, (.fields #[(.builtin "object.__init_subclass__"), (.ref 360)]), #[]⟩
noncomputable def tree_s0 (P : Params) : BT := (.node (ob0 P) (.node (ob1 P) (.node (ob3 P) (.node (ob7 P) (.node (ob15 P) .nil .nil) (.node (ob23 P) .nil .nil)) (.node (ob11 P) (.node (ob19 P) .nil .nil) (.node (ob27 P) .nil .nil))) (.node (ob5 P) (.node (ob9 P) (.node (ob17 P) .nil .nil) (.node (ob25 P) .nil .nil)) (.node (ob13 P) (.node (ob21 P) .nil .nil) .nil))) (.node (ob2 P) (.node (ob4 P) (.node (ob8 P) (.node (ob16 P) .nil .nil) (.node (ob24 P) .nil .nil)) (.node (ob12 P) (.node (ob20 P) .nil .nil) .nil)) (.node (ob6 P) (.node (ob10 P) (.node (ob18 P) .nil .nil) (.node (ob26 P) .nil .nil)) (.node (ob14 P) (.node (ob22 P) .nil .nil) .nil))))
noncomputable abbrev st_s0 (w : World) (os : OsState) : SharedT := ⟨tree_s0 w.params, 28, {}, #[], {}, 276, os⟩
noncomputable def tree_pre (P : Params) : BT := (.node (ob0 P) (.node (ob1 P) (.node (ob3 P) (.node (ob7 P) (.node (ob15 P) (.node (ob31 P) .nil .nil) .nil) (.node (ob23 P) .nil .nil)) (.node (ob11 P) (.node (ob19 P) .nil .nil) (.node (ob27 P) .nil .nil))) (.node (ob5 P) (.node (ob9 P) (.node (ob17 P) .nil .nil) (.node (ob25 P) .nil .nil)) (.node (ob13 P) (.node (ob21 P) .nil .nil) (.node (ob29 P) .nil .nil)))) (.node (ob2 P) (.node (ob4 P) (.node (ob8 P) (.node (ob16 P) .nil .nil) (.node (ob24 P) .nil .nil)) (.node (ob12 P) (.node (ob20 P) .nil .nil) (.node (ob28 P) .nil .nil))) (.node (ob6 P) (.node (ob10 P) (.node (ob18 P) .nil .nil) (.node (ob26 P) .nil .nil)) (.node (ob14 P) (.node (ob22 P) .nil .nil) (.node (ob30 P) .nil .nil)))))
noncomputable abbrev st_pre (w : World) (os : OsState) : SharedT := ⟨tree_pre w.params, 32, {}, #[], {}, 282, os⟩
noncomputable def tree_p3 (P : Params) : BT := (.node (ob0 P) (.node (ob1 P) (.node (ob3v1 P) (.node (ob7 P) (.node (ob15 P) (.node (ob31 P) (.node (ob63 P) .nil .nil) .nil) (.node (ob47 P) (.node (ob79 P) .nil .nil) .nil)) (.node (ob23 P) (.node (ob39 P) (.node (ob71 P) .nil .nil) .nil) (.node (ob55 P) (.node (ob87 P) .nil .nil) .nil))) (.node (ob11 P) (.node (ob19 P) (.node (ob35 P) (.node (ob67 P) .nil .nil) .nil) (.node (ob51 P) (.node (ob83 P) .nil .nil) .nil)) (.node (ob27 P) (.node (ob43 P) (.node (ob75 P) .nil .nil) .nil) (.node (ob59 P) .nil .nil)))) (.node (ob5 P) (.node (ob9 P) (.node (ob17 P) (.node (ob33 P) (.node (ob65 P) .nil .nil) .nil) (.node (ob49 P) (.node (ob81 P) .nil .nil) .nil)) (.node (ob25 P) (.node (ob41 P) (.node (ob73 P) .nil .nil) .nil) (.node (ob57 P) .nil .nil))) (.node (ob13 P) (.node (ob21 P) (.node (ob37 P) (.node (ob69 P) .nil .nil) .nil) (.node (ob53 P) (.node (ob85 P) .nil .nil) .nil)) (.node (ob29v1 P) (.node (ob45 P) (.node (ob77 P) .nil .nil) .nil) (.node (ob61 P) .nil .nil))))) (.node (ob2 P) (.node (ob4 P) (.node (ob8 P) (.node (ob16 P) (.node (ob32 P) (.node (ob64 P) .nil .nil) .nil) (.node (ob48 P) (.node (ob80 P) .nil .nil) .nil)) (.node (ob24 P) (.node (ob40 P) (.node (ob72 P) .nil .nil) .nil) (.node (ob56 P) (.node (ob88 P) .nil .nil) .nil))) (.node (ob12 P) (.node (ob20 P) (.node (ob36 P) (.node (ob68 P) .nil .nil) .nil) (.node (ob52 P) (.node (ob84 P) .nil .nil) .nil)) (.node (ob28 P) (.node (ob44 P) (.node (ob76 P) .nil .nil) .nil) (.node (ob60 P) .nil .nil)))) (.node (ob6 P) (.node (ob10 P) (.node (ob18 P) (.node (ob34 P) (.node (ob66 P) .nil .nil) .nil) (.node (ob50 P) (.node (ob82 P) .nil .nil) .nil)) (.node (ob26 P) (.node (ob42 P) (.node (ob74 P) .nil .nil) .nil) (.node (ob58 P) .nil .nil))) (.node (ob14 P) (.node (ob22 P) (.node (ob38 P) (.node (ob70 P) .nil .nil) .nil) (.node (ob54 P) (.node (ob86 P) .nil .nil) .nil)) (.node (ob30 P) (.node (ob46 P) (.node (ob78 P) .nil .nil) .nil) (.node (ob62 P) .nil .nil))))))
noncomputable abbrev st_p3 (w : World) (os : OsState) : SharedT := ⟨tree_p3 w.params, 89, {}, #[], {}, 363, os⟩
noncomputable def tree_p4 (P : Params) : BT := (.node (ob0 P) (.node (ob1 P) (.node (ob3v2 P) (.node (ob7 P) (.node (ob15 P) (.node (ob31 P) (.node (ob63 P) (.node (ob127 P) .nil .nil) .nil) (.node (ob95 P) (.node (ob159 P) .nil .nil) .nil)) (.node (ob47 P) (.node (ob79 P) (.node (ob143 P) .nil .nil) .nil) (.node (ob111 P) .nil .nil))) (.node (ob23 P) (.node (ob39 P) (.node (ob71 P) (.node (ob135 P) .nil .nil) .nil) (.node (ob103 P) .nil .nil)) (.node (ob55 P) (.node (ob87 P) (.node (ob151 P) .nil .nil) .nil) (.node (ob119 P) .nil .nil)))) (.node (ob11 P) (.node (ob19 P) (.node (ob35 P) (.node (ob67 P) (.node (ob131 P) .nil .nil) .nil) (.node (ob99 P) .nil .nil)) (.node (ob51 P) (.node (ob83 P) (.node (ob147 P) .nil .nil) .nil) (.node (ob115 P) .nil .nil))) (.node (ob27 P) (.node (ob43 P) (.node (ob75 P) (.node (ob139 P) .nil .nil) .nil) (.node (ob107 P) .nil .nil)) (.node (ob59 P) (.node (ob91 P) (.node (ob155 P) .nil .nil) .nil) (.node (ob123 P) .nil .nil))))) (.node (ob5 P) (.node (ob9 P) (.node (ob17 P) (.node (ob33 P) (.node (ob65 P) (.node (ob129 P) .nil .nil) .nil) (.node (ob97 P) (.node (ob161 P) .nil .nil) .nil)) (.node (ob49 P) (.node (ob81 P) (.node (ob145 P) .nil .nil) .nil) (.node (ob113 P) .nil .nil))) (.node (ob25 P) (.node (ob41 P) (.node (ob73 P) (.node (ob137 P) .nil .nil) .nil) (.node (ob105 P) .nil .nil)) (.node (ob57 P) (.node (ob89 P) (.node (ob153 P) .nil .nil) .nil) (.node (ob121 P) .nil .nil)))) (.node (ob13 P) (.node (ob21 P) (.node (ob37 P) (.node (ob69 P) (.node (ob133 P) .nil .nil) .nil) (.node (ob101 P) .nil .nil)) (.node (ob53 P) (.node (ob85 P) (.node (ob149 P) .nil .nil) .nil) (.node (ob117 P) .nil .nil))) (.node (ob29v2 P) (.node (ob45 P) (.node (ob77 P) (.node (ob141 P) .nil .nil) .nil) (.node (ob109 P) .nil .nil)) (.node (ob61 P) (.node (ob93 P) (.node (ob157 P) .nil .nil) .nil) (.node (ob125 P) .nil .nil)))))) (.node (ob2 P) (.node (ob4 P) (.node (ob8 P) (.node (ob16 P) (.node (ob32 P) (.node (ob64 P) (.node (ob128 P) .nil .nil) .nil) (.node (ob96 P) (.node (ob160 P) .nil .nil) .nil)) (.node (ob48 P) (.node (ob80 P) (.node (ob144 P) .nil .nil) .nil) (.node (ob112 P) .nil .nil))) (.node (ob24 P) (.node (ob40 P) (.node (ob72 P) (.node (ob136 P) .nil .nil) .nil) (.node (ob104 P) .nil .nil)) (.node (ob56 P) (.node (ob88 P) (.node (ob152 P) .nil .nil) .nil) (.node (ob120 P) .nil .nil)))) (.node (ob12 P) (.node (ob20 P) (.node (ob36 P) (.node (ob68 P) (.node (ob132 P) .nil .nil) .nil) (.node (ob100 P) .nil .nil)) (.node (ob52 P) (.node (ob84 P) (.node (ob148 P) .nil .nil) .nil) (.node (ob116 P) .nil .nil))) (.node (ob28 P) (.node (ob44 P) (.node (ob76 P) (.node (ob140 P) .nil .nil) .nil) (.node (ob108 P) .nil .nil)) (.node (ob60 P) (.node (ob92 P) (.node (ob156 P) .nil .nil) .nil) (.node (ob124 P) .nil .nil))))) (.node (ob6 P) (.node (ob10 P) (.node (ob18 P) (.node (ob34 P) (.node (ob66 P) (.node (ob130 P) .nil .nil) .nil) (.node (ob98 P) (.node (ob162 P) .nil .nil) .nil)) (.node (ob50 P) (.node (ob82 P) (.node (ob146 P) .nil .nil) .nil) (.node (ob114 P) .nil .nil))) (.node (ob26 P) (.node (ob42 P) (.node (ob74 P) (.node (ob138 P) .nil .nil) .nil) (.node (ob106 P) .nil .nil)) (.node (ob58 P) (.node (ob90 P) (.node (ob154 P) .nil .nil) .nil) (.node (ob122 P) .nil .nil)))) (.node (ob14 P) (.node (ob22 P) (.node (ob38 P) (.node (ob70 P) (.node (ob134 P) .nil .nil) .nil) (.node (ob102 P) .nil .nil)) (.node (ob54 P) (.node (ob86 P) (.node (ob150 P) .nil .nil) .nil) (.node (ob118 P) .nil .nil))) (.node (ob30 P) (.node (ob46 P) (.node (ob78 P) (.node (ob142 P) .nil .nil) .nil) (.node (ob110 P) .nil .nil)) (.node (ob62 P) (.node (ob94 P) (.node (ob158 P) .nil .nil) .nil) (.node (ob126 P) .nil .nil)))))))
noncomputable abbrev st_p4 (w : World) (os : OsState) : SharedT := ⟨tree_p4 w.params, 163, {}, #[], {}, 491, os⟩
noncomputable def tree_p34 (P : Params) : BT := (.node (ob0 P) (.node (ob1 P) (.node (ob3v3 P) (.node (ob7 P) (.node (ob15 P) (.node (ob31 P) (.node (ob63 P) (.node (ob127 P) .nil .nil) (.node (ob191 P) .nil .nil)) (.node (ob95 P) (.node (ob159 P) .nil .nil) (.node (ob223 P) .nil .nil))) (.node (ob47 P) (.node (ob79 P) (.node (ob143 P) .nil .nil) (.node (ob207 P) .nil .nil)) (.node (ob111 P) (.node (ob175 P) .nil .nil) (.node (ob239 P) .nil .nil)))) (.node (ob23 P) (.node (ob39 P) (.node (ob71 P) (.node (ob135 P) .nil .nil) (.node (ob199 P) .nil .nil)) (.node (ob103 P) (.node (ob167 P) .nil .nil) (.node (ob231 P) .nil .nil))) (.node (ob55 P) (.node (ob87 P) (.node (ob151 P) .nil .nil) (.node (ob215 P) .nil .nil)) (.node (ob119 P) (.node (ob183 P) .nil .nil) .nil)))) (.node (ob11 P) (.node (ob19 P) (.node (ob35 P) (.node (ob67 P) (.node (ob131 P) .nil .nil) (.node (ob195 P) .nil .nil)) (.node (ob99 P) (.node (ob163 P) .nil .nil) (.node (ob227 P) .nil .nil))) (.node (ob51 P) (.node (ob83 P) (.node (ob147 P) .nil .nil) (.node (ob211 P) .nil .nil)) (.node (ob115 P) (.node (ob179 P) .nil .nil) .nil))) (.node (ob27 P) (.node (ob43 P) (.node (ob75 P) (.node (ob139 P) .nil .nil) (.node (ob203 P) .nil .nil)) (.node (ob107 P) (.node (ob171 P) .nil .nil) (.node (ob235 P) .nil .nil))) (.node (ob59 P) (.node (ob91 P) (.node (ob155 P) .nil .nil) (.node (ob219 P) .nil .nil)) (.node (ob123 P) (.node (ob187 P) .nil .nil) .nil))))) (.node (ob5 P) (.node (ob9 P) (.node (ob17 P) (.node (ob33 P) (.node (ob65 P) (.node (ob129 P) .nil .nil) (.node (ob193 P) .nil .nil)) (.node (ob97 P) (.node (ob161 P) .nil .nil) (.node (ob225 P) .nil .nil))) (.node (ob49 P) (.node (ob81 P) (.node (ob145 P) .nil .nil) (.node (ob209 P) .nil .nil)) (.node (ob113 P) (.node (ob177 P) .nil .nil) .nil))) (.node (ob25 P) (.node (ob41 P) (.node (ob73 P) (.node (ob137 P) .nil .nil) (.node (ob201 P) .nil .nil)) (.node (ob105 P) (.node (ob169 P) .nil .nil) (.node (ob233 P) .nil .nil))) (.node (ob57 P) (.node (ob89 P) (.node (ob153 P) .nil .nil) (.node (ob217 P) .nil .nil)) (.node (ob121 P) (.node (ob185 P) .nil .nil) .nil)))) (.node (ob13 P) (.node (ob21 P) (.node (ob37 P) (.node (ob69 P) (.node (ob133 P) .nil .nil) (.node (ob197 P) .nil .nil)) (.node (ob101 P) (.node (ob165 P) .nil .nil) (.node (ob229 P) .nil .nil))) (.node (ob53 P) (.node (ob85 P) (.node (ob149 P) .nil .nil) (.node (ob213 P) .nil .nil)) (.node (ob117 P) (.node (ob181 P) .nil .nil) .nil))) (.node (ob29v3 P) (.node (ob45 P) (.node (ob77 P) (.node (ob141 P) .nil .nil) (.node (ob205 P) .nil .nil)) (.node (ob109 P) (.node (ob173 P) .nil .nil) (.node (ob237 P) .nil .nil))) (.node (ob61 P) (.node (ob93 P) (.node (ob157 P) .nil .nil) (.node (ob221 P) .nil .nil)) (.node (ob125 P) (.node (ob189 P) .nil .nil) .nil)))))) (.node (ob2 P) (.node (ob4 P) (.node (ob8 P) (.node (ob16 P) (.node (ob32 P) (.node (ob64 P) (.node (ob128 P) .nil .nil) (.node (ob192 P) .nil .nil)) (.node (ob96 P) (.node (ob160 P) .nil .nil) (.node (ob224 P) .nil .nil))) (.node (ob48 P) (.node (ob80 P) (.node (ob144 P) .nil .nil) (.node (ob208 P) .nil .nil)) (.node (ob112 P) (.node (ob176 P) .nil .nil) .nil))) (.node (ob24 P) (.node (ob40 P) (.node (ob72 P) (.node (ob136 P) .nil .nil) (.node (ob200 P) .nil .nil)) (.node (ob104 P) (.node (ob168 P) .nil .nil) (.node (ob232 P) .nil .nil))) (.node (ob56 P) (.node (ob88 P) (.node (ob152 P) .nil .nil) (.node (ob216 P) .nil .nil)) (.node (ob120 P) (.node (ob184 P) .nil .nil) .nil)))) (.node (ob12 P) (.node (ob20 P) (.node (ob36 P) (.node (ob68 P) (.node (ob132 P) .nil .nil) (.node (ob196 P) .nil .nil)) (.node (ob100 P) (.node (ob164 P) .nil .nil) (.node (ob228 P) .nil .nil))) (.node (ob52 P) (.node (ob84 P) (.node (ob148 P) .nil .nil) (.node (ob212 P) .nil .nil)) (.node (ob116 P) (.node (ob180 P) .nil .nil) .nil))) (.node (ob28 P) (.node (ob44 P) (.node (ob76 P) (.node (ob140 P) .nil .nil) (.node (ob204 P) .nil .nil)) (.node (ob108 P) (.node (ob172 P) .nil .nil) (.node (ob236 P) .nil .nil))) (.node (ob60 P) (.node (ob92 P) (.node (ob156 P) .nil .nil) (.node (ob220 P) .nil .nil)) (.node (ob124 P) (.node (ob188 P) .nil .nil) .nil))))) (.node (ob6 P) (.node (ob10 P) (.node (ob18 P) (.node (ob34 P) (.node (ob66 P) (.node (ob130 P) .nil .nil) (.node (ob194 P) .nil .nil)) (.node (ob98 P) (.node (ob162 P) .nil .nil) (.node (ob226 P) .nil .nil))) (.node (ob50 P) (.node (ob82 P) (.node (ob146 P) .nil .nil) (.node (ob210 P) .nil .nil)) (.node (ob114 P) (.node (ob178 P) .nil .nil) .nil))) (.node (ob26 P) (.node (ob42 P) (.node (ob74 P) (.node (ob138 P) .nil .nil) (.node (ob202 P) .nil .nil)) (.node (ob106 P) (.node (ob170 P) .nil .nil) (.node (ob234 P) .nil .nil))) (.node (ob58 P) (.node (ob90 P) (.node (ob154 P) .nil .nil) (.node (ob218 P) .nil .nil)) (.node (ob122 P) (.node (ob186 P) .nil .nil) .nil)))) (.node (ob14 P) (.node (ob22 P) (.node (ob38 P) (.node (ob70 P) (.node (ob134 P) .nil .nil) (.node (ob198 P) .nil .nil)) (.node (ob102 P) (.node (ob166 P) .nil .nil) (.node (ob230 P) .nil .nil))) (.node (ob54 P) (.node (ob86 P) (.node (ob150 P) .nil .nil) (.node (ob214 P) .nil .nil)) (.node (ob118 P) (.node (ob182 P) .nil .nil) .nil))) (.node (ob30 P) (.node (ob46 P) (.node (ob78 P) (.node (ob142 P) .nil .nil) (.node (ob206 P) .nil .nil)) (.node (ob110 P) (.node (ob174 P) .nil .nil) (.node (ob238 P) .nil .nil))) (.node (ob62 P) (.node (ob94 P) (.node (ob158 P) .nil .nil) (.node (ob222 P) .nil .nil)) (.node (ob126 P) (.node (ob190 P) .nil .nil) .nil)))))))
noncomputable abbrev st_p34 (w : World) (os : OsState) : SharedT := ⟨tree_p34 w.params, 240, {}, #[], {}, 708, os⟩
noncomputable def tree_p35 (P : Params) : BT := (.node (ob0 P) (.node (ob1 P) (.node (ob3v4 P) (.node (ob7 P) (.node (ob15 P) (.node (ob31 P) (.node (ob63 P) (.node (ob127 P) (.node (ob255 P) .nil .nil) .nil) (.node (ob191 P) (.node (ob319 P) .nil .nil) .nil)) (.node (ob95 P) (.node (ob159 P) (.node (ob287 P) .nil .nil) .nil) (.node (ob223 P) (.node (ob351 P) .nil .nil) .nil))) (.node (ob47 P) (.node (ob79 P) (.node (ob143 P) (.node (ob271 P) .nil .nil) .nil) (.node (ob207 P) (.node (ob335 P) .nil .nil) .nil)) (.node (ob111 P) (.node (ob175 P) (.node (ob303 P) .nil .nil) .nil) (.node (ob239 P) .nil .nil)))) (.node (ob23 P) (.node (ob39 P) (.node (ob71 P) (.node (ob135 P) (.node (ob263 P) .nil .nil) .nil) (.node (ob199 P) (.node (ob327 P) .nil .nil) .nil)) (.node (ob103 P) (.node (ob167 P) (.node (ob295 P) .nil .nil) .nil) (.node (ob231 P) (.node (ob359 P) .nil .nil) .nil))) (.node (ob55 P) (.node (ob87 P) (.node (ob151 P) (.node (ob279 P) .nil .nil) .nil) (.node (ob215 P) (.node (ob343 P) .nil .nil) .nil)) (.node (ob119 P) (.node (ob183 P) (.node (ob311 P) .nil .nil) .nil) (.node (ob247 P) .nil .nil))))) (.node (ob11 P) (.node (ob19 P) (.node (ob35 P) (.node (ob67 P) (.node (ob131 P) (.node (ob259 P) .nil .nil) .nil) (.node (ob195 P) (.node (ob323 P) .nil .nil) .nil)) (.node (ob99 P) (.node (ob163 P) (.node (ob291 P) .nil .nil) .nil) (.node (ob227 P) (.node (ob355 P) .nil .nil) .nil))) (.node (ob51 P) (.node (ob83 P) (.node (ob147 P) (.node (ob275 P) .nil .nil) .nil) (.node (ob211 P) (.node (ob339 P) .nil .nil) .nil)) (.node (ob115 P) (.node (ob179 P) (.node (ob307 P) .nil .nil) .nil) (.node (ob243 P) .nil .nil)))) (.node (ob27 P) (.node (ob43 P) (.node (ob75 P) (.node (ob139 P) (.node (ob267 P) .nil .nil) .nil) (.node (ob203 P) (.node (ob331 P) .nil .nil) .nil)) (.node (ob107 P) (.node (ob171 P) (.node (ob299 P) .nil .nil) .nil) (.node (ob235 P) (.node (ob363 P) .nil .nil) .nil))) (.node (ob59 P) (.node (ob91 P) (.node (ob155 P) (.node (ob283 P) .nil .nil) .nil) (.node (ob219 P) (.node (ob347 P) .nil .nil) .nil)) (.node (ob123 P) (.node (ob187 P) (.node (ob315 P) .nil .nil) .nil) (.node (ob251 P) .nil .nil)))))) (.node (ob5 P) (.node (ob9 P) (.node (ob17 P) (.node (ob33 P) (.node (ob65 P) (.node (ob129 P) (.node (ob257 P) .nil .nil) .nil) (.node (ob193 P) (.node (ob321 P) .nil .nil) .nil)) (.node (ob97 P) (.node (ob161 P) (.node (ob289 P) .nil .nil) .nil) (.node (ob225 P) (.node (ob353 P) .nil .nil) .nil))) (.node (ob49 P) (.node (ob81 P) (.node (ob145 P) (.node (ob273 P) .nil .nil) .nil) (.node (ob209 P) (.node (ob337 P) .nil .nil) .nil)) (.node (ob113 P) (.node (ob177 P) (.node (ob305 P) .nil .nil) .nil) (.node (ob241 P) .nil .nil)))) (.node (ob25 P) (.node (ob41 P) (.node (ob73 P) (.node (ob137 P) (.node (ob265 P) .nil .nil) .nil) (.node (ob201 P) (.node (ob329 P) .nil .nil) .nil)) (.node (ob105 P) (.node (ob169 P) (.node (ob297 P) .nil .nil) .nil) (.node (ob233 P) (.node (ob361 P) .nil .nil) .nil))) (.node (ob57 P) (.node (ob89 P) (.node (ob153 P) (.node (ob281 P) .nil .nil) .nil) (.node (ob217 P) (.node (ob345 P) .nil .nil) .nil)) (.node (ob121 P) (.node (ob185 P) (.node (ob313 P) .nil .nil) .nil) (.node (ob249 P) .nil .nil))))) (.node (ob13 P) (.node (ob21 P) (.node (ob37 P) (.node (ob69 P) (.node (ob133 P) (.node (ob261 P) .nil .nil) .nil) (.node (ob197 P) (.node (ob325 P) .nil .nil) .nil)) (.node (ob101 P) (.node (ob165 P) (.node (ob293 P) .nil .nil) .nil) (.node (ob229 P) (.node (ob357 P) .nil .nil) .nil))) (.node (ob53 P) (.node (ob85 P) (.node (ob149 P) (.node (ob277 P) .nil .nil) .nil) (.node (ob213 P) (.node (ob341 P) .nil .nil) .nil)) (.node (ob117 P) (.node (ob181 P) (.node (ob309 P) .nil .nil) .nil) (.node (ob245 P) .nil .nil)))) (.node (ob29v4 P) (.node (ob45 P) (.node (ob77 P) (.node (ob141 P) (.node (ob269 P) .nil .nil) .nil) (.node (ob205 P) (.node (ob333 P) .nil .nil) .nil)) (.node (ob109 P) (.node (ob173 P) (.node (ob301 P) .nil .nil) .nil) (.node (ob237 P) .nil .nil))) (.node (ob61 P) (.node (ob93 P) (.node (ob157 P) (.node (ob285 P) .nil .nil) .nil) (.node (ob221 P) (.node (ob349 P) .nil .nil) .nil)) (.node (ob125 P) (.node (ob189 P) (.node (ob317 P) .nil .nil) .nil) (.node (ob253 P) .nil .nil))))))) (.node (ob2 P) (.node (ob4 P) (.node (ob8 P) (.node (ob16 P) (.node (ob32 P) (.node (ob64 P) (.node (ob128 P) (.node (ob256 P) .nil .nil) .nil) (.node (ob192 P) (.node (ob320 P) .nil .nil) .nil)) (.node (ob96 P) (.node (ob160 P) (.node (ob288 P) .nil .nil) .nil) (.node (ob224 P) (.node (ob352 P) .nil .nil) .nil))) (.node (ob48 P) (.node (ob80 P) (.node (ob144 P) (.node (ob272 P) .nil .nil) .nil) (.node (ob208 P) (.node (ob336 P) .nil .nil) .nil)) (.node (ob112 P) (.node (ob176 P) (.node (ob304 P) .nil .nil) .nil) (.node (ob240 P) .nil .nil)))) (.node (ob24 P) (.node (ob40 P) (.node (ob72 P) (.node (ob136 P) (.node (ob264 P) .nil .nil) .nil) (.node (ob200 P) (.node (ob328 P) .nil .nil) .nil)) (.node (ob104 P) (.node (ob168 P) (.node (ob296 P) .nil .nil) .nil) (.node (ob232 P) (.node (ob360 P) .nil .nil) .nil))) (.node (ob56 P) (.node (ob88 P) (.node (ob152 P) (.node (ob280 P) .nil .nil) .nil) (.node (ob216 P) (.node (ob344 P) .nil .nil) .nil)) (.node (ob120 P) (.node (ob184 P) (.node (ob312 P) .nil .nil) .nil) (.node (ob248 P) .nil .nil))))) (.node (ob12 P) (.node (ob20 P) (.node (ob36 P) (.node (ob68 P) (.node (ob132 P) (.node (ob260 P) .nil .nil) .nil) (.node (ob196 P) (.node (ob324 P) .nil .nil) .nil)) (.node (ob100 P) (.node (ob164 P) (.node (ob292 P) .nil .nil) .nil) (.node (ob228 P) (.node (ob356 P) .nil .nil) .nil))) (.node (ob52 P) (.node (ob84 P) (.node (ob148 P) (.node (ob276 P) .nil .nil) .nil) (.node (ob212 P) (.node (ob340 P) .nil .nil) .nil)) (.node (ob116 P) (.node (ob180 P) (.node (ob308 P) .nil .nil) .nil) (.node (ob244 P) .nil .nil)))) (.node (ob28 P) (.node (ob44 P) (.node (ob76 P) (.node (ob140 P) (.node (ob268 P) .nil .nil) .nil) (.node (ob204 P) (.node (ob332 P) .nil .nil) .nil)) (.node (ob108 P) (.node (ob172 P) (.node (ob300 P) .nil .nil) .nil) (.node (ob236 P) (.node (ob364 P) .nil .nil) .nil))) (.node (ob60 P) (.node (ob92 P) (.node (ob156 P) (.node (ob284 P) .nil .nil) .nil) (.node (ob220 P) (.node (ob348 P) .nil .nil) .nil)) (.node (ob124 P) (.node (ob188 P) (.node (ob316 P) .nil .nil) .nil) (.node (ob252 P) .nil .nil)))))) (.node (ob6 P) (.node (ob10 P) (.node (ob18 P) (.node (ob34 P) (.node (ob66 P) (.node (ob130 P) (.node (ob258 P) .nil .nil) .nil) (.node (ob194 P) (.node (ob322 P) .nil .nil) .nil)) (.node (ob98 P) (.node (ob162 P) (.node (ob290 P) .nil .nil) .nil) (.node (ob226 P) (.node (ob354 P) .nil .nil) .nil))) (.node (ob50 P) (.node (ob82 P) (.node (ob146 P) (.node (ob274 P) .nil .nil) .nil) (.node (ob210 P) (.node (ob338 P) .nil .nil) .nil)) (.node (ob114 P) (.node (ob178 P) (.node (ob306 P) .nil .nil) .nil) (.node (ob242 P) .nil .nil)))) (.node (ob26 P) (.node (ob42 P) (.node (ob74 P) (.node (ob138 P) (.node (ob266 P) .nil .nil) .nil) (.node (ob202 P) (.node (ob330 P) .nil .nil) .nil)) (.node (ob106 P) (.node (ob170 P) (.node (ob298 P) .nil .nil) .nil) (.node (ob234 P) (.node (ob362 P) .nil .nil) .nil))) (.node (ob58 P) (.node (ob90 P) (.node (ob154 P) (.node (ob282 P) .nil .nil) .nil) (.node (ob218 P) (.node (ob346 P) .nil .nil) .nil)) (.node (ob122 P) (.node (ob186 P) (.node (ob314 P) .nil .nil) .nil) (.node (ob250 P) .nil .nil))))) (.node (ob14 P) (.node (ob22 P) (.node (ob38 P) (.node (ob70 P) (.node (ob134 P) (.node (ob262 P) .nil .nil) .nil) (.node (ob198 P) (.node (ob326 P) .nil .nil) .nil)) (.node (ob102 P) (.node (ob166 P) (.node (ob294 P) .nil .nil) .nil) (.node (ob230 P) (.node (ob358 P) .nil .nil) .nil))) (.node (ob54 P) (.node (ob86 P) (.node (ob150 P) (.node (ob278 P) .nil .nil) .nil) (.node (ob214 P) (.node (ob342 P) .nil .nil) .nil)) (.node (ob118 P) (.node (ob182 P) (.node (ob310 P) .nil .nil) .nil) (.node (ob246 P) .nil .nil)))) (.node (ob30 P) (.node (ob46 P) (.node (ob78 P) (.node (ob142 P) (.node (ob270 P) .nil .nil) .nil) (.node (ob206 P) (.node (ob334 P) .nil .nil) .nil)) (.node (ob110 P) (.node (ob174 P) (.node (ob302 P) .nil .nil) .nil) (.node (ob238 P) .nil .nil))) (.node (ob62 P) (.node (ob94 P) (.node (ob158 P) (.node (ob286 P) .nil .nil) .nil) (.node (ob222 P) (.node (ob350 P) .nil .nil) .nil)) (.node (ob126 P) (.node (ob190 P) (.node (ob318 P) .nil .nil) .nil) (.node (ob254 P) .nil .nil))))))))
noncomputable abbrev st_p35 (w : World) (os : OsState) : SharedT := ⟨tree_p35 w.params, 365, {}, #[], {}, 880, os⟩
noncomputable abbrev topB : List Stmt := behindTheImports pw
noncomputable def topEnv : Env := { scope := pw.main.scope, locals := mainNs, globals := mainNs, cells := [], code := .ref 30, frame := some 31 }
noncomputable abbrev topC : Code := .body topB topEnv
noncomputable abbrev topF : List Frame := [topFrame ⟨0, 0, 0, 0⟩]
noncomputable abbrev pos0 : Pos := ⟨0, 0, 0, 0⟩
noncomputable abbrev pos3 : Pos := ⟨24, 0, 62, 32⟩
noncomputable abbrev pos4 : Pos := ⟨63, 0, 105, 55⟩
noncomputable abbrev pos34 : Pos := ⟨187, 0, 199, 20⟩
noncomputable abbrev pos35 : Pos := ⟨200, 0, 344, 93⟩
noncomputable abbrev topAnn : Option Value := some (.ref 6)
noncomputable abbrev heap_s0 (w : World) : Heap := absHeap (tree_s0 w.params) 28 {}
theorem run_s0 (w : World) : (fencedOpening treeTable pw w 6394).map (fun s => (s.heap, s.gens, s.drawn, s.toks)) = some (heap_s0 w, #[], {}, 276) := by kernel_rfl
theorem run_pre (w : World) (os : OsState) : topGo treeTable pw w 28 topAnn 12 (st_s0 w os).abs (topStub pw) = some ((st_pre w os).abs, ⟨denote treeTable topC, topC, pos0, topF⟩) := by kernel_rfl
theorem run_block (w : World) (os : OsState) : segRunT treeTable pw w 28 topAnn 1 1 (st_pre w os) (blockOf topB topEnv topC pos0 topF) = some (.next, st_pre w os, topC, pos0) := by kernel_rfl
end Mine
end
section
open PySem PySem.Spec PySem.SeqAt PySem.Calls PyProof.Rows PySem.W
set_option maxRecDepth 100000
namespace Mine
noncomputable abbrev topMods : List Str := importedModules pw.main.body
noncomputable abbrev sts1 : List Stmt := topB.take 4
noncomputable abbrev sts2 : List Stmt := (topB.drop 4).take 1
noncomputable abbrev sts3 : List Stmt := (topB.drop 5).take 30
noncomputable abbrev sts4 : List Stmt := (topB.drop 35).take 1
noncomputable abbrev sts5 : List Stmt := topB.drop 36
theorem run_1 (w : World) (os : OsState) : segRunT treeTable pw w 28 topAnn 1 500 (st_pre w os) (piecesOf sts1 topEnv topC pos0 topF) = some (.next, st_p3 w os, topC, pos3) := by kernel_rfl
theorem run_2 (w : World) (os : OsState) : segRunT treeTable pw w 28 topAnn 1 1200 (st_p3 w os) (piecesOf sts2 topEnv topC pos3 topF) = some (.next, st_p4 w os, topC, pos4) := by kernel_rfl
theorem run_3 (w : World) (os : OsState) : segRunT treeTable pw w 28 topAnn 1 1000 (st_p4 w os) (piecesOf sts3 topEnv topC pos4 topF) = some (.next, st_p34 w os, topC, pos34) := by kernel_rfl
noncomputable def lookT (s₀ s : Shared) := (staticsOk topMods s₀.heap s.heap && namesBound pw s.heap && gensDone s && laidKept s₀.heap s.heap, openSeen lawView lawLoose topMods (fun _ => true) true s, sight s.heap)
theorem start_ok (w : World) : ((heap_s0 w).isNs mainGlobals && (#[] : Array GenState).size == 0, (heap_s0 w).objs.size, (heap_s0 w).nsMap mainGlobals "__annotations__") = (true, 28, topAnn) := by kernel_rfl
theorem run_4 (w : World) (os : OsState) : segRunT treeTable pw w 28 topAnn 1 1000 (st_p34 w os) (piecesOf sts4 topEnv topC pos34 topF) = some (.next, st_p35 w os, topC, pos35) := by kernel_rfl
theorem run_5 (w : World) (os : OsState) : (segRunT treeTable pw w 28 topAnn 1 600 (st_p35 w os) (piecesOf sts5 topEnv topC pos35 topF)).map (fun r => (r.1, r.2.2.1, lookT (st_s0 w os).abs r.2.1.abs)) =
    some (.next, topC, (true, openGood lawView lawLoose, goodSight)) := by kernel_rfl
theorem top_cut : topB = sts1 ++ (sts2 ++ (sts3 ++ (sts4 ++ (sts5 ++ [])))) := by
  show topB = topB.take 4 ++ ((topB.drop 4).take 1 ++ ((topB.drop 5).take 30 ++ ((topB.drop 35).take 1 ++ (topB.drop 36 ++ []))))
  generalize topB = l
  rw [List.append_nil]
  conv => lhs; rw [← List.take_append_drop 4 l]
  congr 1
  conv => lhs; rw [← List.take_append_drop 1 (l.drop 4), List.drop_drop]
  congr 1
  conv => lhs; rw [← List.take_append_drop 30 (l.drop 5), List.drop_drop]
  congr 1
  conv => lhs; rw [← List.take_append_drop 1 (l.drop 35), List.drop_drop]
theorem run_end {tb : String → Option Builtin} {p : Program} {w : World} {n₀ N : Nat} {ann : Option Value} {s : Shared} {c : Code} {pos q : Pos} : topRun tb p w n₀ ann (N + 2) s ⟨doneF .next, c, pos, [topFrame q]⟩ = some s := rfl
/-- the head's claim from its run -/
theorem left_by {p q : Program} {loose : List Str} {α : Type} {Yf : Shared → α} {ya : α} {N m₀ : Nat} {ann : Option Value} {w : World} {H₀ : Heap} {gs₀ : Array GenState} {d₀ : Drawn} {k₀ : Nat}
    (open_ : (fencedOpening treeTable p w N).map (fun s => (s.heap, s.gens, s.drawn, s.toks)) = some (H₀, gs₀, d₀, k₀))
    (start : (H₀.isNs mainGlobals && gs₀.size == 0, H₀.objs.size, H₀.nsMap mainGlobals "__annotations__") = (true, m₀, ann))
    (run : ∀ os, ∃ s, topRun treeTable p w m₀ ann N ⟨H₀, gs₀, d₀, k₀, os⟩ (topStub p) = some s ∧
      ((staticsOk (importedModules p.main.body) H₀ s.heap && namesBound p s.heap && gensDone s && laidKept H₀ s.heap, openSeen q loose (importedModules p.main.body) (fun _ => true) true s, Yf s) = (true, openGood q loose, ya))) :
    (openEnds treeTable p w N).map (fun s => (openSeen q loose (importedModules p.main.body) (fun _ => true) true s, Yf s)) = some (openGood q loose, ya) := by
  obtain ⟨⟨h, gs, d, k, os⟩, e, e'⟩ := Option.map_eq_some_iff.mp open_
  obtain ⟨rfl, rfl, rfl, rfl⟩ : h = H₀ ∧ gs = gs₀ ∧ d = d₀ ∧ k = k₀ := by simpa using e'
  obtain ⟨z1, z2, z3⟩ : _ ∧ _ ∧ _ := by simpa only [Prod.mk.injEq] using start
  obtain ⟨s, r, l⟩ := run os
  obtain ⟨l1, l2, l3⟩ : _ ∧ _ ∧ _ := by simpa only [Prod.mk.injEq] using l
  have t : topFrom treeTable p w N ⟨h, gs, d, k, os⟩ = some s := by
    unfold topFrom
    dsimp only
    rw [z1, z2, z3, r]
    show (match staticsOk (importedModules p.main.body) h s.heap && namesBound p s.heap && gensDone s && laidKept h s.heap with | true => some s | false => none) = _
    rw [l1]
  unfold openEnds
  rw [e]
  show (topFrom treeTable p w N ⟨h, gs, d, k, os⟩).map _ = _
  rw [t]
  show some (openSeen q loose (importedModules p.main.body) (fun _ => true) true s, Yf s) = _
  rw [l2, l3]
theorem chain {tb : String → Option Builtin} {p : Program} {w : World} {n₀ n1 n2 n3 n4 n5 n6 n7 N M : Nat} {ann : Option Value} {B l1 l2 l3 l4 l5 : List Stmt} {env : Env} {p0 p0' p1 p2 p3 p4 p5 q : Pos} {s0 : Shared} {sa sb s1 s2 s3 s4 s5 : SharedT} {t : Thread}
    (hB : B = l1 ++ (l2 ++ (l3 ++ (l4 ++ (l5 ++ []))))) (hM : n1 + (n2 + (n3 + (n4 + (n5 + (n6 + (n7 + (N + 2))))))) = M)
    (h1 : topGo tb p w n₀ ann n1 s0 t = some (sa.abs, ⟨denote tb (.body B env), .body B env, p0, [topFrame q]⟩))
    (h2 : segRunT tb p w n₀ ann 1 n2 sa (blockOf B env (.body B env) p0 [topFrame q]) = some (.next, sb, .body B env, p0'))
    (h3 : segRunT tb p w n₀ ann 1 n3 sb (piecesOf l1 env (.body B env) p0' [topFrame q]) = some (.next, s1, .body B env, p1))
    (h4 : segRunT tb p w n₀ ann 1 n4 s1 (piecesOf l2 env (.body B env) p1 [topFrame q]) = some (.next, s2, .body B env, p2))
    (h5 : segRunT tb p w n₀ ann 1 n5 s2 (piecesOf l3 env (.body B env) p2 [topFrame q]) = some (.next, s3, .body B env, p3))
    (h6 : segRunT tb p w n₀ ann 1 n6 s3 (piecesOf l4 env (.body B env) p3 [topFrame q]) = some (.next, s4, .body B env, p4))
    (h7 : segRunT tb p w n₀ ann 1 n7 s4 (piecesOf l5 env (.body B env) p4 [topFrame q]) = some (.next, s5, .body B env, p5)) :
    topRun tb p w n₀ ann M s0 t = some s5.abs := by
  have k5 := piece_app (rest := []) (segRun_of h7) (piece_nil (run_end (tb := tb) (p := p) (w := w) (n₀ := n₀) (ann := ann) (N := N)))
  have k1 := piece_app (segRun_of h3) (piece_app (segRun_of h4) (piece_app (segRun_of h5) (piece_app (segRun_of h6) k5)))
  rw [← hB] at k1
  have r := go_top h1 (piece_block (segRun_of h2) k1)
  rw [hM] at r
  exact r
theorem run_all (w : World) (os : OsState) : ∃ s, topRun treeTable pw w 28 topAnn 6394 (st_s0 w os).abs (topStub pw) = some s ∧ lookT (st_s0 w os).abs s = (true, openGood lawView lawLoose, goodSight) := by
  obtain ⟨⟨f, s, c, q⟩, hs, e⟩ := Option.map_eq_some_iff.mp (run_5 w os)
  obtain ⟨rfl, e⟩ := Prod.mk.inj e
  obtain ⟨rfl, e⟩ := Prod.mk.inj e
  exact ⟨s.abs, chain (N := 6394 - (12 + (1 + (500 + (1200 + (1000 + (1000 + (600 + 2)))))))) top_cut (by decide) (run_pre w os) (run_block w os) (run_1 w os) (run_2 w os) (run_3 w os) (run_4 w os) hs, e⟩
theorem law_left : LeftO pw lawView lawLoose (fun _ => true) (fun s => sight s.heap) (fun _ => goodSight) 6394 := fun w =>
  left_by (run_s0 w) (start_ok w) (fun os => run_all w os)
end Mine
end
section
open PySem PySem.Spec PySem.SeqAt PySem.Calls PyProof.Rows
namespace Mine

/-- the object o of address b stands in h: exactly, or, a table that the top T knows not, with its data (its slots may be others) -/
noncomputable def Kept (T h : Heap) (b : Addr) (o : Obj) : Prop := h.get? b = some o ∨ (T.get? b = none ∧ (∃ es n, o.data = .dict es n) ∧ ∃ sl, h.get? b = some { o with slots := sl })
theorem Kept.step {T h h' : Heap} {b : Addr} {o : Obj} (x : Kept T h b o) (k : ∀ o', h.get? b = some o' → Kept T h' b o') : Kept T h' b o := by
  rcases x with x | ⟨n, ⟨es, m, d⟩, sl, e⟩
  · exact k o x
  · rcases k _ e with y | ⟨_, _, sl', e'⟩
    · exact .inr ⟨n, ⟨es, m, d⟩, sl, y⟩
    · exact .inr ⟨n, ⟨es, m, d⟩, sl', e'⟩
theorem Kept.some {T h : Heap} {b : Addr} {o : Obj} (x : Kept T h b o) : ∃ o', h.get? b = Option.some o' := by
  rcases x with x | ⟨_, _, sl, e⟩
  · exact ⟨o, x⟩
  · exact ⟨_, e⟩
theorem Kept.exact {T h : Heap} {b : Addr} {o : Obj} (x : Kept T h b o) (hn : ∀ es n, o.data ≠ .dict es n) : h.get? b = Option.some o := by
  rcases x with x | ⟨_, ⟨es, n, d⟩, _⟩
  · exact x
  · exact absurd d (hn es n)
/-- everything that stood stands -/
noncomputable def Ext (T h h' : Heap) : Prop := ∀ b o, h.get? b = some o → Kept T h' b o
theorem Ext.refl (T h : Heap) : Ext T h h := fun _ _ e => .inl e
theorem Ext.of {T h h' : Heap} (k : ∀ b o, h.get? b = some o → h'.get? b = some o) : Ext T h h' := fun b o e => .inl (k b o e)
theorem Ext.trans {T a b c : Heap} (x : Ext T a b) (y : Ext T b c) : Ext T a c := fun i o e => (x i o e).step fun o' e' => y i o' e'
theorem Ext.push (T h : Heap) (o : Obj) : Ext T h (h.push o) := .of fun _ _ e => Heap.get?_push_of_some _ e
theorem Ext.ns {T h h' : Heap} {a : Addr} {m : Str → Option Value} (x : Ext T h h') (n : h.Ns a m) : h'.Ns a m := by
  obtain ⟨o, es, ep, e, d, r⟩ := n
  rcases x a o e with y | ⟨_, _, sl, e'⟩
  · exact ⟨o, es, ep, y, d, r⟩
  · exact ⟨_, es, ep, e', d, r⟩
theorem Ext.seq {T h h' : Heap} {b : Addr} {o : Obj} {xs : Array Value} {n : Nat} (x : Ext T h h') (e : h.get? b = some o) (d : o.data = .seq xs n) : h'.get? b = some o := (x b o e).exact fun es n q => by rw [d] at q; cases q
theorem Ext.fields {T h h' : Heap} {b : Addr} {o : Obj} {xs : Array Value} (x : Ext T h h') (e : h.get? b = some o) (d : o.data = .fields xs) : h'.get? b = some o := (x b o e).exact fun es n q => by rw [d] at q; cases q
theorem Ext.cell {T h h' : Heap} {c : Addr} {v : Option Value} (x : Ext T h h') (e : h.IsCell c v) : h'.IsCell c v := by
  obtain ⟨o, e, d⟩ := e
  exact ⟨o, (x c o e).exact (fun es n q => by rw [d] at q; cases q), d⟩
theorem Ext.none {T h h' : Heap} {b : Addr} (x : Ext T h h') (e : h'.get? b = none) : h.get? b = none := by
  cases q : h.get? b with
  | none => rfl
  | some o => obtain ⟨o', e'⟩ := (x b o q).some; rw [e] at e'; cases e'
theorem Ext.list {T h h' : Heap} {a : Addr} {vs : Array Value} {n : Nat} (x : Ext T h h') (e : IsL h a vs n) : IsL h' a vs n := x.seq e rfl
theorem Ext.tup {T h h' : Heap} {a : Addr} {vs : Array Value} {n : Nat} (x : Ext T h h') (e : IsT h a vs n) : IsT h' a vs n := x.seq e rfl

/-- a state that has grown: old objects as they were -/
structure Grow (T : Heap) (s s' : Shared) : Prop where
  ext : Ext T s.heap s'.heap
  gens : s'.gens = s.gens
  drawn : s'.drawn = s.drawn
  os : s'.os = s.os
theorem Grow.refl (T : Heap) (s : Shared) : Grow T s s := ⟨.refl _ _, rfl, rfl, rfl⟩
theorem Grow.trans {T : Heap} {a b c : Shared} (x : Grow T a b) (y : Grow T b c) : Grow T a c :=
  ⟨x.ext.trans y.ext, y.gens.trans x.gens, y.drawn.trans x.drawn, y.os.trans x.os⟩
theorem Grow.tok {T : Heap} (s : Shared) (n : Nat) : Grow T s { s with toks := n } := ⟨.refl _ _, rfl, rfl, rfl⟩
theorem Grow.of {T : Heap} (s : Shared) {h' : Heap} {n : Nat} (k : ∀ b o, s.heap.get? b = some o → h'.get? b = some o) : Grow T s { s with heap := h', toks := n } := ⟨.of k, rfl, rfl, rfl⟩
theorem Grow.heap {T : Heap} (s : Shared) {h' : Heap} (k : ∀ b o, s.heap.get? b = some o → h'.get? b = some o) : Grow T s { s with heap := h' } := ⟨.of k, rfl, rfl, rfl⟩
theorem Grow.push {T : Heap} (s : Shared) (o : Obj) : Grow T s { s with heap := s.heap.push o } := ⟨.push _ _ _, rfl, rfl, rfl⟩
theorem get_size (h : Heap) : h.get? h.objs.size = none := by
  cases e : h.get? h.objs.size with
  | none => rfl
  | some o => exact absurd (Heap.lt_size e) (Nat.lt_irrefl _)

/-- the datum of a bare reference -/
noncomputable abbrev raw (a : Addr) : PyData := .dict [(.none, .int (a : Int))]
/-- the datum of a named triple of two numbers and a name -/
noncomputable abbrev misD (i j : Int) (x : Str) : PyData := .dict [(.int i, .int j), (.str x, .none)]
/-- a named triple lies there -/
noncomputable def IsMis (h : Heap) (a : Addr) (i j : Int) (x : Str) : Prop := ∃ o n t1 t2 t3, h.get? a = some o ∧ o.cls = .ref 159 ∧ o.data = .seq #[.int i t1, .int j t2, .str x t3] n
mutual
/-- the value v is the datum, off the addresses X -/
noncomputable def Rd (X : List Addr) (h : Heap) : PyData → Value → Prop
  | .none, v => v = .none
  | .bool b, v => v = .bool b
  | .int i, v => ∃ t, v = .int i t
  | .str x, v => ∃ t, v = .str x t
  | .list ds, v => ∃ a vs n, v = .ref a ∧ a ∉ X ∧ IsL h a (List.toArray vs) n ∧ RdAll X h ds vs
  | .tuple ds, v => ∃ a vs n, v = .ref a ∧ a ∉ X ∧ IsT h a (List.toArray vs) n ∧ RdAll X h ds vs
  | .dict l, v => (∃ a : Addr, l = [(.none, .int (a : Int))] ∧ v = .ref a) ∨ ∃ (i j : Int) (x : Str) (a : Addr), l = [(.int i, .int j), (.str x, .none)] ∧ v = .ref a ∧ a ∉ X ∧ IsMis h a i j x
noncomputable def RdAll (X : List Addr) (h : Heap) : List PyData → List Value → Prop
  | [], vs => vs = []
  | d :: ds, vs => ∃ v r, vs = v :: r ∧ Rd X h d v ∧ RdAll X h ds r
end

mutual
theorem Rd.monoS {X X' : List Addr} {h h' : Heap} (k : ∀ b o xs n, b ∉ X → h.get? b = some o → o.data = .seq xs n → b ∉ X' ∧ h'.get? b = some o) : ∀ (d : PyData) (v : Value), Rd X h d v → Rd X' h' d v
  | .none, _, e => by simpa only [Rd] using e
  | .bool _, _, e => by simpa only [Rd] using e
  | .int _, _, e => by simpa only [Rd] using e
  | .str _, _, e => by simpa only [Rd] using e
  | .list ds, _, e => by
    simp only [Rd] at e ⊢
    obtain ⟨a, vs, n, rfl, hx, hl, r⟩ := e
    exact ⟨a, vs, n, rfl, (k a _ _ _ hx hl rfl).1, (k a _ _ _ hx hl rfl).2, RdAll.monoS k ds vs r⟩
  | .tuple ds, _, e => by
    simp only [Rd] at e ⊢
    obtain ⟨a, vs, n, rfl, hx, hl, r⟩ := e
    exact ⟨a, vs, n, rfl, (k a _ _ _ hx hl rfl).1, (k a _ _ _ hx hl rfl).2, RdAll.monoS k ds vs r⟩
  | .dict _, _, e => by
    simp only [Rd] at e ⊢
    rcases e with e | ⟨i, j, x, a, q, rfl, hx, o, n, t1, t2, t3, ho, hc, hd⟩
    · exact .inl e
    · exact .inr ⟨i, j, x, a, q, rfl, (k a o _ _ hx ho hd).1, o, n, t1, t2, t3, (k a o _ _ hx ho hd).2, hc, hd⟩
theorem RdAll.monoS {X X' : List Addr} {h h' : Heap} (k : ∀ b o xs n, b ∉ X → h.get? b = some o → o.data = .seq xs n → b ∉ X' ∧ h'.get? b = some o) : ∀ (ds : List PyData) (vs : List Value), RdAll X h ds vs → RdAll X' h' ds vs
  | [], _, e => by simpa only [RdAll] using e
  | d :: ds, _, e => by
    simp only [RdAll] at e ⊢
    obtain ⟨v, r, rfl, h1, h2⟩ := e
    exact ⟨v, r, rfl, Rd.monoS k d v h1, RdAll.monoS k ds r h2⟩
end
theorem Rd.mono {X X' : List Addr} {h h' : Heap} (k : ∀ b o, b ∉ X → h.get? b = some o → b ∉ X' ∧ h'.get? b = some o) (d : PyData) (v : Value) (e : Rd X h d v) : Rd X' h' d v := e.monoS fun b o _ _ hb ho _ => k b o hb ho
theorem RdAll.mono {X X' : List Addr} {h h' : Heap} (k : ∀ b o, b ∉ X → h.get? b = some o → b ∉ X' ∧ h'.get? b = some o) (d : List PyData) (v : List Value) (e : RdAll X h d v) : RdAll X' h' d v := e.monoS fun b o _ _ hb ho _ => k b o hb ho
theorem Rd.ext {X : List Addr} {T h h' : Heap} {d : PyData} {v : Value} (e : Rd X h d v) (k : Ext T h h') : Rd X h' d v := e.monoS fun b o xs n hb ho hd => ⟨hb, k.seq ho hd⟩
theorem RdAll.ext {X : List Addr} {T h h' : Heap} {d : List PyData} {v : List Value} (e : RdAll X h d v) (k : Ext T h h') : RdAll X h' d v := e.monoS fun b o xs n hb ho hd => ⟨hb, k.seq ho hd⟩

mutual
theorem Rd.reads {X : List Addr} {h : Heap} : ∀ (d : PyData) (v : Value), d.canLay0 = true → Rd X h d v → ∃ as, Reads h v d as
  | .none, _, _, e => by simp only [Rd] at e; subst e; exact ⟨_, .none⟩
  | .bool _, _, _, e => by simp only [Rd] at e; subst e; exact ⟨_, .bool _⟩
  | .int _, _, _, e => by simp only [Rd] at e; obtain ⟨t, rfl⟩ := e; exact ⟨_, .int _ _⟩
  | .str _, _, _, e => by simp only [Rd] at e; obtain ⟨t, rfl⟩ := e; exact ⟨_, .str _ _⟩
  | .list ds, _, c, e => by
    simp only [Rd] at e
    obtain ⟨a, vs, n, rfl, _, hl, r⟩ := e
    obtain ⟨as, r⟩ := RdAll.reads ds vs (by simpa only [PyData.canLay0] using c) r
    exact ⟨_, .list hl rfl rfl r⟩
  | .tuple ds, _, c, e => by
    simp only [Rd] at e
    obtain ⟨a, vs, n, rfl, _, hl, r⟩ := e
    obtain ⟨as, r⟩ := RdAll.reads ds vs (by simpa only [PyData.canLay0] using c) r
    exact ⟨_, .tuple hl rfl rfl r⟩
  | .dict _, _, c, _ => by simp [PyData.canLay0] at c
theorem RdAll.reads {X : List Addr} {h : Heap} : ∀ (ds : List PyData) (vs : List Value), PyData.canLayAll0 ds = true → RdAll X h ds vs → ∃ as, ReadsAll h vs ds as
  | [], _, _, e => by simp only [RdAll] at e; subst e; exact ⟨_, .nil⟩
  | d :: ds, _, c, e => by
    simp only [RdAll] at e
    simp only [PyData.canLayAll0, Bool.and_eq_true] at c
    obtain ⟨v, r, rfl, h1, h2⟩ := e
    obtain ⟨as, h1⟩ := Rd.reads d v c.1 h1
    obtain ⟨bs, h2⟩ := RdAll.reads ds r c.2 h2
    exact ⟨_, .cons h1 h2⟩
end
theorem RdAll.length {X : List Addr} {h : Heap} : ∀ {ds : List PyData} {vs : List Value}, RdAll X h ds vs → vs.length = ds.length
  | [], _, e => by simp only [RdAll] at e; subst e; rfl
  | d :: ds, _, e => by
    simp only [RdAll] at e
    obtain ⟨v, r, rfl, _, h2⟩ := e
    simp only [List.length_cons, RdAll.length h2]
theorem RdAll.get {X : List Addr} {h : Heap} : ∀ {ds : List PyData} {vs : List Value}, RdAll X h ds vs → ∀ {k : Nat} {d : PyData}, ds[k]? = some d → ∃ v, vs[k]? = some v ∧ Rd X h d v
  | [], _, _, k, d, hk => by simp at hk
  | d :: ds, _, e, k, d', hk => by
    simp only [RdAll] at e
    obtain ⟨v, r, rfl, h1, h2⟩ := e
    cases k with
    | zero => simp at hk; subst hk; exact ⟨v, rfl, h1⟩
    | succ k => simp at hk; simpa using RdAll.get h2 hk
theorem RdAll.append {X : List Addr} {h : Heap} {d2 : List PyData} {v2 : List Value} (e2 : RdAll X h d2 v2) : ∀ {ds : List PyData} {vs : List Value}, RdAll X h ds vs → RdAll X h (ds ++ d2) (vs ++ v2)
  | [], _, e => by simp only [RdAll] at e; subst e; exact e2
  | d :: ds, _, e => by
    simp only [RdAll] at e
    obtain ⟨v, r, rfl, h1, h2⟩ := e
    simp only [List.cons_append, RdAll]
    exact ⟨v, r ++ v2, rfl, h1, RdAll.append e2 h2⟩
theorem RdAll.one {X : List Addr} {h : Heap} {d : PyData} {v : Value} (e : Rd X h d v) : RdAll X h [d] [v] := by
  simp only [RdAll]; exact ⟨v, [], rfl, e, rfl⟩
theorem RdAll.cons {X : List Addr} {h : Heap} {d : PyData} {v : Value} {ds : List PyData} {vs : List Value} (e : Rd X h d v) (r : RdAll X h ds vs) : RdAll X h (d :: ds) (v :: vs) := by
  simp only [RdAll]; exact ⟨v, vs, rfl, e, r⟩
theorem RdAll.nil {X : List Addr} {h : Heap} : RdAll X h [] [] := by simp only [RdAll]
theorem RdAll.take {X : List Addr} {h : Heap} : ∀ {ds : List PyData} {vs : List Value}, RdAll X h ds vs → ∀ k, RdAll X h (ds.take k) (vs.take k)
  | [], _, e, k => by simp only [RdAll] at e; subst e; simp only [List.take_nil, RdAll]
  | d :: ds, _, e, k => by
    simp only [RdAll] at e
    obtain ⟨v, r, rfl, h1, h2⟩ := e
    cases k with
    | zero => simp only [List.take_zero, RdAll]
    | succ k => simp only [List.take_succ_cons]; exact .cons h1 (RdAll.take h2 k)
theorem RdAll.drop {X : List Addr} {h : Heap} : ∀ {ds : List PyData} {vs : List Value}, RdAll X h ds vs → ∀ k, RdAll X h (ds.drop k) (vs.drop k)
  | [], _, e, k => by simp only [RdAll] at e; subst e; simp only [List.drop_nil, RdAll]
  | d :: ds, _, e, k => by
    simp only [RdAll] at e
    obtain ⟨v, r, rfl, h1, h2⟩ := e
    cases k with
    | zero => simp only [List.drop_zero]; exact .cons h1 h2
    | succ k => simp only [List.drop_succ_cons]; exact RdAll.drop h2 k
theorem Rd.int_ {X h i t} : Rd X h (.int i) (.int i t) := by simp only [Rd]; exact ⟨t, rfl⟩
theorem Rd.str_ {X h i t} : Rd X h (.str i) (.str i t) := by simp only [Rd]; exact ⟨t, rfl⟩
theorem Rd.bool_ {X h b} : Rd X h (.bool b) (.bool b) := by simp only [Rd]
theorem Rd.none_ {X h} : Rd X h .none .none := by simp only [Rd]
theorem Rd.list_ {X h a vs n ds} (ha : a ∉ X) (hl : IsL h a (List.toArray vs) n) (r : RdAll X h ds vs) : Rd X h (.list ds) (.ref a) := by simp only [Rd]; exact ⟨a, vs, n, rfl, ha, hl, r⟩
theorem Rd.tuple_ {X h a vs n ds} (ha : a ∉ X) (hl : IsT h a (List.toArray vs) n) (r : RdAll X h ds vs) : Rd X h (.tuple ds) (.ref a) := by simp only [Rd]; exact ⟨a, vs, n, rfl, ha, hl, r⟩
theorem Rd.raw_ {X h a} : Rd X h (raw a) (.ref a) := by simp only [Rd]; exact .inl ⟨a, rfl, rfl⟩
theorem Rd.mis_ {X h a i j x} (ha : a ∉ X) (hm : IsMis h a i j x) : Rd X h (misD i j x) (.ref a) := by simp only [Rd]; exact .inr ⟨i, j, x, a, rfl, rfl, ha, hm⟩
theorem Rd.mis_inv {X h i j x v} (e : Rd X h (misD i j x) v) : ∃ a, v = .ref a ∧ a ∉ X ∧ IsMis h a i j x := by
  simp only [Rd] at e
  rcases e with ⟨b, q, _⟩ | ⟨i', j', x', a, q, rfl, ha, hm⟩
  · simp at q
  · simp at q
    obtain ⟨⟨rfl, rfl⟩, rfl⟩ := q
    exact ⟨a, rfl, ha, hm⟩
theorem Rd.raw_inv {X h a v} (e : Rd X h (raw a) v) : v = .ref a := by
  simp only [Rd] at e
  rcases e with ⟨b, q, rfl⟩ | ⟨i', j', x', a, q, _⟩
  · simp only [List.cons.injEq, Prod.mk.injEq, PyData.int.injEq, true_and, and_true, Int.natCast_inj] at q
    rw [q]
  · simp at q
theorem Rd.int_inv {X h i v} (e : Rd X h (.int i) v) : ∃ t, v = .int i t := by simpa only [Rd] using e
theorem Rd.str_inv {X h i v} (e : Rd X h (.str i) v) : ∃ t, v = .str i t := by simpa only [Rd] using e
theorem Rd.bool_inv {X h b v} (e : Rd X h (.bool b) v) : v = .bool b := by simpa only [Rd] using e
theorem Rd.none_inv {X h v} (e : Rd X h .none v) : v = .none := by simpa only [Rd] using e
theorem Rd.list_inv {X h ds v} (e : Rd X h (.list ds) v) : ∃ a vs n, v = .ref a ∧ a ∉ X ∧ IsL h a (List.toArray vs) n ∧ RdAll X h ds vs := by simpa only [Rd] using e
theorem Rd.tuple_inv {X h ds v} (e : Rd X h (.tuple ds) v) : ∃ a vs n, v = .ref a ∧ a ∉ X ∧ IsT h a (List.toArray vs) n ∧ RdAll X h ds vs := by simpa only [Rd] using e

/-- neither a cell nor a table -/
noncomputable def Soft (o : Obj) : Prop := (∃ xs n, o.data = .seq xs n) ∨ ∃ vs, o.data = .fields vs
theorem Rd.touch {X : List Addr} {h h' : Heap} {a : Addr} {d : PyData} {v : Value} (r : Rd X h d v) (ha : a ∈ X) (hk : ∀ b o, b ≠ a → h.get? b = some o → h'.get? b = some o) : Rd X h' d v :=
  r.mono fun b x hb e => ⟨hb, hk b x (fun q => hb (q ▸ ha)) e⟩
theorem RdAll.touch {X : List Addr} {h h' : Heap} {a : Addr} {d : List PyData} {v : List Value} (r : RdAll X h d v) (ha : a ∈ X) (hk : ∀ b o, b ≠ a → h.get? b = some o → h'.get? b = some o) : RdAll X h' d v :=
  r.mono fun b x hb e => ⟨hb, hk b x (fun q => hb (q ▸ ha)) e⟩
/-- the iterator at I is yet to yield ds -/
noncomputable def ItAt (X : List Addr) (h : Heap) (I : Addr) (ds : List PyData) : Prop :=
  (∃ l i vs n all, h.IsListIter I l i ∧ l ∉ X ∧ IsL h l (List.toArray vs) n ∧ RdAll X h all vs ∧ ds = all.drop i) ∨
  (∃ x : Int, IsRangeIter h I x ds.length 1 ∧ ds = (List.range ds.length).map fun (k : Nat) => .int (x + (k : Int)))

theorem ItAt.soft {X : List Addr} {h : Heap} {I : Addr} {ds : List PyData} (it : ItAt X h I ds) : ∃ o, h.get? I = some o ∧ Soft o := by
  rcases it with ⟨l, i, vs, n, all, ⟨o, ho, hc, hd⟩, _⟩ | ⟨x, hr, _⟩
  · exact ⟨o, ho, .inr ⟨_, hd⟩⟩
  · exact ⟨_, hr, .inr ⟨_, rfl⟩⟩
theorem ItAt.keep {X : List Addr} {h h' : Heap} {I a : Addr} {ds : List PyData} (it : ItAt X h I ds) (ha : a ∈ X) (hI : I ≠ a) (hk : ∀ b o, b ≠ a → h.get? b = some o → h'.get? b = some o) : ItAt X h' I ds := by
  rcases it with ⟨l, i, vs, n, all, hi, hl, hL, r, q⟩ | ⟨x, hr, e⟩
  · exact .inl ⟨l, i, vs, n, all, hi.at fun o e => hk I o hI e, hl, hk l _ (fun q => hl (q ▸ ha)) hL, r.touch ha hk, q⟩
  · exact .inr ⟨x, hk I _ hI hr, e⟩
theorem ItAt.ext {X : List Addr} {T h h' : Heap} {I : Addr} {ds : List PyData} (it : ItAt X h I ds) (hk : Ext T h h') : ItAt X h' I ds := by
  rcases it with ⟨l, i, vs, n, all, hi, hl, hL, r, q⟩ | ⟨x, hr, e⟩
  · obtain ⟨o, e1, e2, e3⟩ := hi
    exact .inl ⟨l, i, vs, n, all, ⟨o, hk.fields e1 e3, e2, e3⟩, hl, hk.list hL, r.ext hk, q⟩
  · exact .inr ⟨x, hk.fields hr rfl, e⟩

/-- what the top left: a heap whose objects stay -/
structure Glob where
  top : Heap
  globs : List (Str × Value)
  nots : List Str
  names : ∃ mg mb, top.Ns mainGlobals mg ∧ top.Ns builtinsNs mb ∧ (∀ p ∈ globs, mg p.1 = some p.2) ∧ (∀ x ∈ nots, mg x = none) ∧ ∀ x : Str, x ≠ "__name__" → mb x = bootBuiltins x
  lim : top.NoLimit

/-- where an expression is met -/
structure Cx where
  prog : Program
  w : World
  A : Around
  env : Env
  X : List Addr
  G : Glob
  vars : List (Str × PyData)
  muts : List (Addr × List PyData) := []
  its : List (List Addr × (Heap → Prop)) := []
  facts : List (Value × PyData) := []
  calm : Bool := true

noncomputable def VarIn (env : Env) (m : Str → Option Value) (h : Heap) (x : Str) (v : Value) : Prop :=
  (env.kindOf x = some .local ∧ m x = some v) ∨
  ((env.kindOf x = some .cell ∨ (env.kindOf x = some .free ∧ (x == ("__classdict__" : Str)) = false)) ∧ ∃ c, env.cells.lookup x = some c ∧ h.IsCell c (some v))
/-- a list of the call's own that may yet change: where it lies, what it holds -/
structure MutAt (X : List Addr) (h : Heap) (D : Addr) (ds : List PyData) : Prop where
  inX : D ∈ X
  lst : ∃ ys n, IsL h D (List.toArray ys) n ∧ RdAll X h ds ys
theorem VarIn.ext {env : Env} {m : Str → Option Value} {T h h' : Heap} {x : Str} {v : Value} (e : VarIn env m h x v) (k : Ext T h h') : VarIn env m h' x v := by
  rcases e with e | ⟨e, c, hc, hv⟩
  · exact .inl e
  · exact .inr ⟨e, c, hc, k.cell hv⟩
/-- a running thing that owns the records F -/
structure Owned (X : List Addr) (h : Heap) (F : List Addr) (P : Heap → Prop) : Prop where
  at_ : ∀ b ∈ F, b ∈ X ∧ ∃ o vs, h.get? b = some o ∧ o.data = .fields vs
  now : P h
  loc : ∀ h h', P h → (∀ b ∈ F, ∀ o, h.get? b = some o → h'.get? b = some o) → P h'
theorem Owned.ext {X : List Addr} {T h h' : Heap} {F : List Addr} {P : Heap → Prop} (e : Owned X h F P) (k : Ext T h h') : Owned X h' F P :=
  ⟨fun b hb => let ⟨x, o, vs, q, d⟩ := e.at_ b hb; ⟨x, o, vs, k.fields q d, d⟩, e.loc _ _ e.now fun b hb o q => by
    obtain ⟨_, o', vs, q', d⟩ := e.at_ b hb
    rw [q] at q'; cases q'; exact k.fields q d, e.loc⟩
theorem Owned.move {X X' : List Addr} {h h' : Heap} {F : List Addr} {P : Heap → Prop} (e : Owned X h F P) (hX : ∀ b ∈ F, b ∈ X') (k : ∀ b ∈ F, ∀ o, h.get? b = some o → h'.get? b = some o) : Owned X' h' F P :=
  ⟨fun b hb => let ⟨x, o, vs, q, d⟩ := e.at_ b hb; ⟨hX b hb, o, vs, k b hb o q, d⟩, e.loc _ _ e.now k, e.loc⟩

/-- the frames on the stack are tables that the top knows not -/
noncomputable def Frms (T : Heap) (A : Around) (h : Heap) : Prop := ∃ outer, A.frames = some outer ∧ ∀ env ∈ outer, env.scope.kind ≠ .module ∧ ∃ L o es n, env.frame = some L ∧ T.get? L = none ∧ h.get? L = some o ∧ o.data = .dict es n
theorem Frms.of {T : Heap} {A : Around} {h h' : Heap} (f : Frms T A h) (k : ∀ L o es n, T.get? L = none → h.get? L = some o → o.data = .dict es n → ∃ o' es' n', h'.get? L = some o' ∧ o'.data = .dict es' n') : Frms T A h' := by
  obtain ⟨outer, e, f⟩ := f
  refine ⟨outer, e, fun env he => ?_⟩
  obtain ⟨k1, L, o, es, n, f1, f2, f3, f4⟩ := f env he
  obtain ⟨o', es', n', q1, q2⟩ := k L o es n f2 f3 f4
  exact ⟨k1, L, o', es', n', f1, f2, q1, q2⟩
theorem Kept.dict {T h : Heap} {b : Addr} {o : Obj} {es : Array DictEntry} {n : Nat} (x : Kept T h b o) (d : o.data = .dict es n) : ∃ o' es' n', h.get? b = Option.some o' ∧ o'.data = .dict es' n' := by
  rcases x with x | ⟨_, _, sl, e⟩
  · exact ⟨o, es, n, x, d⟩
  · exact ⟨_, es, n, e, d⟩
theorem Frms.ext {T : Heap} {A : Around} {h h' : Heap} (f : Frms T A h) (x : Ext T h h') : Frms T A h' := f.of fun L o es n _ e d => (x L o e).dict d
theorem Frms.touch {T : Heap} {A : Around} {h h' : Heap} {a : Addr} {o : Obj} (f : Frms T A h) (ho : h.get? a = some o) (hs : Soft o) (hk : ∀ b o, b ≠ a → h.get? b = some o → h'.get? b = some o) : Frms T A h' :=
  f.of fun L oL es n _ e d => ⟨oL, es, n, hk L oL (fun q => by
    rw [q, ho] at e; cases e
    rcases hs with ⟨_, _, q⟩ | ⟨_, q⟩ <;> rw [q] at d <;> cases d) e, d⟩
theorem Frms.cell {T : Heap} {A : Around} {h h' : Heap} {a : Addr} {v : Option Value} (f : Frms T A h) (hc : h.IsCell a v) (hk : ∀ b o, b ≠ a → h.get? b = some o → h'.get? b = some o) : Frms T A h' :=
  f.of fun L oL es n _ e d => ⟨oL, es, n, hk L oL (fun q => by
    obtain ⟨o, ho, hd⟩ := hc
    rw [q, ho] at e; cases e; rw [hd] at d; cases d) e, d⟩
theorem Frms.ns {T : Heap} {A : Around} {h h' : Heap} {a : Addr} {m : Str → Option Value} (f : Frms T A h) (hn : h'.Ns a m) (hk : ∀ b o, b ≠ a → h.get? b = some o → h'.get? b = some o) : Frms T A h' :=
  f.of fun L oL es n _ e d => by
    by_cases q : L = a
    · subst q; obtain ⟨o, es', n', e1, e2, _⟩ := hn; exact ⟨o, es', n', e1, e2⟩
    · exact ⟨oL, es, n, hk L oL q e, d⟩
theorem Frms.deeper {T : Heap} {A : Around} {h : Heap} {env : Env} {L : Addr} {m : Str → Option Value} (f : Frms T A h) (hk : env.scope.kind ≠ .module) (hf : env.frame = some L) (hT : T.get? L = none) (hn : h.Ns L m) : Frms T (A.deeper env) h := by
  obtain ⟨outer, e, f⟩ := f
  refine ⟨env :: outer, Around.frames_deeper e, fun env' he => ?_⟩
  rcases List.mem_cons.mp he with q | he
  · subst q; obtain ⟨o, es, n, e1, e2, _⟩ := hn; exact ⟨hk, L, o, es, n, hf, hT, e1, e2⟩
  · exact f env' he

structure Cx.ok (C : Cx) (s : Shared) : Prop where
  g : ∀ b o, C.G.top.get? b = some o → s.heap.get? b = some o
  fn : C.env.scope.kind = .function
  gl : C.env.globals = mainGlobals
  bl : C.env.builtins = builtinsNs
  lo : ∀ b ∈ C.X, (∃ o, s.heap.get? b = some o) ∧ C.G.top.get? b = none
  room : C.A.units + 100 < cLine
  hand : C.calm = true → C.A.handled = none
  dep : C.A.depth + 50 < recursionLimit
  fr : Frms C.G.top C.A s.heap
  it : ∀ F P, (F, P) ∈ C.its → Owned C.X s.heap F P
  mu : ∀ D ds, (D, ds) ∈ C.muts → MutAt C.X s.heap D ds
  fa : ∀ v d, (v, d) ∈ C.facts → Rd C.X s.heap d v
  ns : ∃ m, s.heap.Ns C.env.locals m ∧ ∀ x d, C.vars.lookup x = some d → ∃ v, Rd C.X s.heap d v ∧ VarIn C.env m s.heap x v
theorem MutAt.ext {X : List Addr} {T h h' : Heap} {D : Addr} {ds : List PyData} (e : MutAt X h D ds) (k : Ext T h h') : MutAt X h' D ds :=
  ⟨e.inX, let ⟨ys, n, hl, r⟩ := e.lst; ⟨ys, n, k.list hl, r.ext k⟩⟩
theorem top_kept {T s s' : Heap} (x : ∀ b o, T.get? b = some o → s.get? b = some o) (y : Ext T s s') : ∀ b o, T.get? b = some o → s'.get? b = some o := fun b o e => by
  rcases y b o (x b o e) with z | ⟨n, _⟩
  · exact z
  · rw [n] at e; cases e
theorem Cx.ok.grow {C : Cx} {s s' : Shared} (h : C.ok s) (g : Grow C.G.top s s') : C.ok s' := by
  obtain ⟨m, hn, hv⟩ := h.ns
  refine ⟨top_kept h.g g.ext, h.fn, h.gl, h.bl, fun b hb => let ⟨⟨o, e⟩, n⟩ := h.lo b hb; ⟨(g.ext b o e).some, n⟩, h.room, h.hand, h.dep, h.fr.ext g.ext, fun F P hi => (h.it F P hi).ext g.ext, fun D ds hx => (h.mu D ds hx).ext g.ext, fun v d hx => (h.fa v d hx).ext g.ext, m, g.ext.ns hn, fun x d hx => ?_⟩
  obtain ⟨v, r, i⟩ := hv x d hx
  exact ⟨v, r.ext g.ext, i.ext g.ext⟩
theorem Cx.ok.new {C : Cx} {s : Shared} (h : C.ok s) : s.heap.objs.size ∉ C.X := fun hb => by
  obtain ⟨⟨o, e⟩, _⟩ := h.lo _ hb
  rw [get_size] at e; cases e
theorem Cx.ok.newTop {C : Cx} {s : Shared} (h : C.ok s) : C.G.top.get? s.heap.objs.size = none := by
  cases e : C.G.top.get? s.heap.objs.size with
  | none => rfl
  | some o => have := h.g _ _ e; rw [get_size] at this; cases this

theorem soft_ne_ns {h : Heap} {L a : Addr} {m : Str → Option Value} {o : Obj} (hn : h.Ns L m) (ho : h.get? a = some o) (hs : Soft o) : L ≠ a := by
  rintro rfl
  obtain ⟨oL, es, ep, e1, e2, _⟩ := hn
  rw [ho] at e1; cases e1
  rcases hs with ⟨_, _, q⟩ | ⟨_, q⟩ <;> rw [q] at e2 <;> cases e2
theorem VarIn.touch {env : Env} {m : Str → Option Value} {h h' : Heap} {x : Str} {v : Value} {a : Addr} {o : Obj} (e : VarIn env m h x v) (ho : h.get? a = some o) (hs : Soft o) (hk : ∀ b o, b ≠ a → h.get? b = some o → h'.get? b = some o) : VarIn env m h' x v := by
  rcases e with i | ⟨k, c, hc, oc, e1, e2⟩
  · exact .inl i
  · refine .inr ⟨k, c, hc, oc, hk c oc (fun q => ?_) e1, e2⟩
    rw [q, ho] at e1; cases e1
    rcases hs with ⟨_, _, q⟩ | ⟨_, q⟩ <;> rw [q] at e2 <;> cases e2
/-- a hidden object that is no cell and no table is changed -/
theorem Cx.ok.touch {C : Cx} {s s' : Shared} {a : Addr} {o o' : Obj} (h : C.ok s) (ha : a ∈ C.X) (ho : s.heap.get? a = some o) (hd : Soft o) (hk : ∀ b o, b ≠ a → s.heap.get? b = some o → s'.heap.get? b = some o) (hn : s'.heap.get? a = some o')
    (hmu : ∀ D ds, (D, ds) ∈ C.muts → D ≠ a) (hit : ∀ F P, (F, P) ∈ C.its → a ∉ F) : C.ok s' := by
  obtain ⟨m, hm, hv⟩ := h.ns
  have hL := soft_ne_ns hm ho hd
  refine ⟨fun b x e => hk b x (fun q => ?_) (h.g b x e), h.fn, h.gl, h.bl, fun b hb => ?_, h.room, h.hand, h.dep, h.fr.touch ho hd hk, fun F P hi => (h.it F P hi).move (fun b hb => ((h.it F P hi).at_ b hb).1) fun b hb o e => hk b o (fun q => hit F P hi (q ▸ hb)) e, fun D ds hx => ?_, fun v d hx => (h.fa v d hx).touch ha hk, m, hm.at' fun x e => hk _ x hL e, fun x d hx => ?_⟩
  · subst q; rw [(h.lo _ ha).2] at e; cases e
  · refine ⟨?_, (h.lo b hb).2⟩
    by_cases q : b = a
    · subst q; exact ⟨o', hn⟩
    · obtain ⟨x, e⟩ := (h.lo b hb).1; exact ⟨x, hk b x q e⟩
  · obtain ⟨iX, ys, n, hl, r⟩ := h.mu D ds hx
    exact ⟨iX, ys, n, hk D _ (hmu D ds hx) hl, r.touch ha hk⟩
  · obtain ⟨v, r, i⟩ := hv x d hx
    exact ⟨v, r.touch ha hk, i.touch ho hd hk⟩

noncomputable abbrev Cx.M (C : Cx) : Model := model C.prog C.w

/-- the expression is the datum -/
noncomputable def Ev (C : Cx) (e : Expr) (d : PyData) : Prop :=
  ∀ s, C.ok s → wpAny C.M C.A (eval e C.env) (fun v s' => Grow C.G.top s s' ∧ Rd C.X s'.heap d v) (fun _ _ => False) s

theorem Ev.use {C : Cx} {e : Expr} {d : PyData} (h : Ev C e d) {s : Shared} (hs : C.ok s) {Q : Value → Shared → Prop} {E : Value → Shared → Prop}
    (k : ∀ v s', Grow C.G.top s s' → C.ok s' → Rd C.X s'.heap d v → Q v s') : wpAny C.M C.A (eval e C.env) Q E s :=
  wpAny_mono (h s hs) (fun v s' x => k v s' x.1 (hs.grow x.1) x.2) fun _ _ x => x.elim

theorem Ev.name {C : Cx} {x : Str} {pos : Pos} {d : PyData} (hm : C.vars.lookup x = some d := by rfl) (hd : (x == ("__debug__" : Str)) = false := by decide) : Ev C (.Name x pos) d := by
  intro s hs
  obtain ⟨m, hn, hv⟩ := hs.ns
  obtain ⟨v, r, i⟩ := hv x d hm
  refine wpAny_Name ?_ hd
  rcases i with ⟨k, e⟩ | ⟨k | ⟨k, hcd⟩, c, hc, hcell⟩
  · exact wpAny_loadName_local hs.fn k hn e ⟨.refl _ _, r⟩
  · exact wpAny_loadName_cell hs.fn k hc hcell ⟨.refl _ _, r⟩
  · exact wpAny_loadName_free hs.fn k hc hcell ⟨.refl _ _, r⟩ hcd

theorem Ev.int {C : Cx} {i : Int} {k : Nat} {pos : Pos} : Ev C (.Constant (.int i) k pos) (.int i) := fun s _ => wpAny_Constant_int ⟨.tok _ _, .int_⟩
theorem Ev.str {C : Cx} {i : Str} {k : Nat} {pos : Pos} : Ev C (.Constant (.str i) k pos) (.str i) := fun s _ => wpAny_Constant_str ⟨.tok _ _, .str_⟩
theorem Ev.none {C : Cx} {k : Nat} {pos : Pos} : Ev C (.Constant .none k pos) .none := fun s _ => wpAny_Constant_none ⟨.refl _ _, .none_⟩
theorem Ev.bool {C : Cx} {b : Bool} {k : Nat} {pos : Pos} : Ev C (.Constant (.bool b) k pos) (.bool b) := fun s _ => wpAny_Constant_bool ⟨.refl _ _, .bool_⟩

/-- a binary operation, by its rule at any state -/
theorem Ev.bin {C : Cx} {l r : Expr} {op : Operator} {pos : Pos} {a b d : PyData} (hl : Ev C l a) (hr : Ev C r b)
    (h : ∀ s u v, C.ok s → Rd C.X s.heap a u → Rd C.X s.heap b v → wpAny C.M C.A (binaryOp op u v) (fun v s' => Grow C.G.top s s' ∧ Rd C.X s'.heap d v) (fun _ _ => False) s) : Ev C (.BinOp l op r pos) d := by
  intro s hs
  refine wpAny_BinOp (hl.use hs fun u s₁ g₁ ok₁ r₁ => hr.use ok₁ fun v s₂ g₂ ok₂ r₂ => ?_)
  exact wpAny_mono (h s₂ u v ok₂ (r₁.ext g₂.ext) r₂) (fun x s' y => ⟨(g₁.trans g₂).trans y.1, y.2⟩) fun _ _ x => x

theorem Ev.add {C : Cx} {l r : Expr} {pos : Pos} {a b : Int} (hl : Ev C l (.int a)) (hr : Ev C r (.int b)) : Ev C (.BinOp l .Add r pos) (.int (a + b)) :=
  .bin hl hr fun s u v _ hu hv => by
    obtain ⟨t, rfl⟩ := hu.int_inv; obtain ⟨t', rfl⟩ := hv.int_inv
    exact add_int ⟨.tok _ _, .int_⟩
theorem Ev.sub {C : Cx} {l r : Expr} {pos : Pos} {a b : Int} (hl : Ev C l (.int a)) (hr : Ev C r (.int b)) : Ev C (.BinOp l .Sub r pos) (.int (a - b)) :=
  .bin hl hr fun s u v _ hu hv => by
    obtain ⟨t, rfl⟩ := hu.int_inv; obtain ⟨t', rfl⟩ := hv.int_inv
    exact sub_int ⟨.tok _ _, .int_⟩
theorem Ev.mod {C : Cx} {l r : Expr} {pos : Pos} {a b : Int} (hl : Ev C l (.int a)) (hr : Ev C r (.int b)) (hb : b ≠ 0) : Ev C (.BinOp l .Mod r pos) (.int (a.fmod b)) :=
  .bin hl hr fun s u v _ hu hv => by
    obtain ⟨t, rfl⟩ := hu.int_inv; obtain ⟨t', rfl⟩ := hv.int_inv
    exact mod_int hb ⟨.tok _ _, .int_⟩
theorem Ev.fdiv {C : Cx} {l r : Expr} {pos : Pos} {a b : Int} (hl : Ev C l (.int a)) (hr : Ev C r (.int b)) (hb : b ≠ 0) (hp : Builtin.divisionGoesByPylong a b = false) : Ev C (.BinOp l .FloorDiv r pos) (.int (a.fdiv b)) :=
  .bin hl hr fun s u v _ hu hv => by
    obtain ⟨t, rfl⟩ := hu.int_inv; obtain ⟨t', rfl⟩ := hv.int_inv
    exact floordiv_int hb ⟨.tok _ _, .int_⟩ (.inl hp)
theorem Ev.mul {C : Cx} {l r : Expr} {pos : Pos} {a b : Int} (hl : Ev C l (.int a)) (hr : Ev C r (.int b)) (hm : IntMulOk a b) : Ev C (.BinOp l .Mult r pos) (.int (a * b)) :=
  .bin hl hr fun s u v _ hu hv => by
    obtain ⟨t, rfl⟩ := hu.int_inv; obtain ⟨t', rfl⟩ := hv.int_inv
    exact mul_int ⟨.tok _ _, .int_⟩ hm
theorem Ev.pow {C : Cx} {l r : Expr} {pos : Pos} {a b : Int} (hl : Ev C l (.int a)) (hr : Ev C r (.int b)) (hn : 0 ≤ b) (hn2 : b ≤ 1000000) (ha : a.natAbs < 2 ^ 64) : Ev C (.BinOp l .Pow r pos) (.int (a ^ b.toNat)) :=
  .bin hl hr fun s u v _ hu hv => by
    obtain ⟨t, rfl⟩ := hu.int_inv; obtain ⟨t', rfl⟩ := hv.int_inv
    exact pow_int_small hn hn2 ha ⟨.tok _ _, .int_⟩
theorem Ev.xor {C : Cx} {l r : Expr} {pos : Pos} {a b : Int} (hl : Ev C l (.int a)) (hr : Ev C r (.int b)) : Ev C (.BinOp l .BitXor r pos) (.int (Builtin.bitXor a b)) :=
  .bin hl hr fun s u v _ hu hv => by
    obtain ⟨t, rfl⟩ := hu.int_inv; obtain ⟨t', rfl⟩ := hv.int_inv
    exact xor_int ⟨.tok _ _, .int_⟩
theorem Ev.and {C : Cx} {l r : Expr} {pos : Pos} {a b : Int} (hl : Ev C l (.int a)) (hr : Ev C r (.int b)) : Ev C (.BinOp l .BitAnd r pos) (.int (Builtin.bitAnd a b)) :=
  .bin hl hr fun s u v _ hu hv => by
    obtain ⟨t, rfl⟩ := hu.int_inv; obtain ⟨t', rfl⟩ := hv.int_inv
    exact and_int ⟨.tok _ _, .int_⟩

end Mine
end
section
open PySem PySem.Spec PySem.SeqAt PySem.Calls PyProof.Rows
namespace Mine

theorem isList_of {h : Heap} {a : Addr} {vs : List Value} {n : Nat} (hl : IsL h a vs.toArray n) : h.IsList a vs.toArray := ⟨_, hl, rfl, n, rfl⟩

theorem Ev.addStr {C : Cx} {l r : Expr} {pos : Pos} {a b : Str} (hl : Ev C l (.str a)) (hr : Ev C r (.str b)) (hsz : a.length + b.length ≤ sizeLine) : Ev C (.BinOp l .Add r pos) (.str (a ++ b)) :=
  .bin hl hr fun s u v _ hu hv => by
    obtain ⟨t, rfl⟩ := hu.str_inv; obtain ⟨t', rfl⟩ := hv.str_inv
    exact add_str (fun _ _ => ⟨.tok _ _, .str_⟩) hsz

/-- a comparison of one link, by its rule -/
noncomputable def Cmp (C : Cx) (op : CmpOp) (a b : PyData) (c : Bool) : Prop :=
  ∀ s u v, C.ok s → Rd C.X s.heap a u → Rd C.X s.heap b v → ∀ (Q : Value → Shared → Prop) (E : Value → Shared → Prop), (∀ n, Q (.bool c) { s with toks := n }) → wpAny C.M C.A (compareOp op u v) Q E s

theorem Cmp.eq {C : Cx} {a b : PyData} (ha : a.canLay0 = true) (hb : b.canLay0 = true) (hd : min a.depth b.depth ≤ 64) : Cmp C .Eq a b (PyData.eqv a b) := fun s u v ok hu hv Q E h => by
  obtain ⟨as, ra⟩ := hu.reads _ _ ha; obtain ⟨bs, rb⟩ := hv.reads _ _ hb
  exact compareEq_reads ra rb ha hb (by have := ok.room; omega) (h s.toks)
theorem Cmp.ne {C : Cx} {a b : PyData} (ha : a.canLay0 = true) (hb : b.canLay0 = true) (hd : min a.depth b.depth ≤ 64) : Cmp C .NotEq a b (!PyData.eqv a b) := fun s u v ok hu hv Q E h => by
  obtain ⟨as, ra⟩ := hu.reads _ _ ha; obtain ⟨bs, rb⟩ := hv.reads _ _ hb
  exact compareNe_reads ra rb ha hb (by have := ok.room; omega) (h s.toks)
theorem Cmp.lt {C : Cx} {a b : Int} : Cmp C .Lt (.int a) (.int b) (decide (a < b)) := fun s u v ok hu hv Q E h => by
  obtain ⟨t, rfl⟩ := hu.int_inv; obtain ⟨t', rfl⟩ := hv.int_inv
  exact lt_int (h s.toks)
theorem Cmp.in {C : Cx} {d : PyData} {xs : List PyData} (ha : d.canLay0 = true) (hb : PyData.canLayAll0 xs = true) (hd : d.depth ≤ 64) : Cmp C .In d (.list xs) (xs.any fun y => PyData.eqv y d) := fun s u v ok hu hv Q E h => by
  obtain ⟨as, ra⟩ := hu.reads _ _ ha; obtain ⟨bs, rb⟩ := hv.reads _ _ (by simpa only [PyData.canLay0] using hb)
  exact in_list_reads rb ra hb ha (by have := ok.room; omega) (h s.toks)
theorem Cmp.notIn {C : Cx} {d : PyData} {xs : List PyData} (ha : d.canLay0 = true) (hb : PyData.canLayAll0 xs = true) (hd : d.depth ≤ 64) : Cmp C .NotIn d (.list xs) (!xs.any fun y => PyData.eqv y d) := fun s u v ok hu hv Q E h => by
  obtain ⟨as, ra⟩ := hu.reads _ _ ha; obtain ⟨bs, rb⟩ := hv.reads _ _ (by simpa only [PyData.canLay0] using hb)
  exact notIn_list_reads rb ra hb ha (by have := ok.room; omega) (h s.toks)

theorem Ev.cmp {C : Cx} {l r : Expr} {op : CmpOp} {pos : Pos} {a b : PyData} {c : Bool} (hl : Ev C l a) (hr : Ev C r b) (hc : Cmp C op a b c) (hm : behindInMarks op r = false := by with_unfolding_all rfl) :
    Ev C (.Compare l [op] [r] pos) (.bool c) := fun s hs =>
  wpAny_Compare1 (hl.use hs fun u s₁ g₁ ok₁ r₁ => hr.use ok₁ fun v s₂ g₂ ok₂ r₂ => hc s₂ u v ok₂ (r₁.ext g₂.ext) r₂ _ _ fun n => ⟨(g₁.trans g₂).trans (.tok _ _), .bool_⟩) hm

/-- a test -/
noncomputable def Tr (C : Cx) (e : Expr) (b : Bool) : Prop :=
  ∀ s, C.ok s → wpAny C.M C.A (isTrue e C.env (eval e C.env)) (fun c s' => Grow C.G.top s s' ∧ c = b) (fun _ _ => False) s
theorem Tr.use {C : Cx} {e : Expr} {b : Bool} (h : Tr C e b) {s : Shared} (hs : C.ok s) {Q : Bool → Shared → Prop} {E : Value → Shared → Prop}
    (k : ∀ s', Grow C.G.top s s' → C.ok s' → Q b s') : wpAny C.M C.A (isTrue e C.env (eval e C.env)) Q E s :=
  wpAny_mono (h s hs) (fun v s' x => by obtain ⟨g, rfl⟩ := x; exact k s' g (hs.grow g)) fun _ _ x => x.elim
theorem Tr.cmp {C : Cx} {l r : Expr} {op : CmpOp} {pos : Pos} {a b : PyData} {c : Bool} (hl : Ev C l a) (hr : Ev C r b) (hc : Cmp C op a b c) (hm : behindInMarks op r = false := by with_unfolding_all rfl) :
    Tr C (.Compare l [op] [r] pos) c := fun s hs =>
  wpAny_isTrue_Compare1 (hl.use hs fun u s₁ g₁ ok₁ r₁ => hr.use ok₁ fun v s₂ g₂ ok₂ r₂ => hc s₂ u v ok₂ (r₁.ext g₂.ext) r₂ _ _ fun n => wpAny_truthy_bool ⟨(g₁.trans g₂).trans (.tok _ _), rfl⟩) hm
theorem Tr.cmp2 {C : Cx} {l r₁ r₂ : Expr} {o₁ o₂ : CmpOp} {pos : Pos} {a b d : PyData} {c₁ c₂ : Bool} (hl : Ev C l a) (h₁ : Ev C r₁ b) (h₂ : Ev C r₂ d) (hc₁ : Cmp C o₁ a b c₁) (hc₂ : Cmp C o₂ b d c₂)
    (hm : lastMarks [o₁, o₂] [r₁, r₂] = false := by with_unfolding_all rfl) : Tr C (.Compare l [o₁, o₂] [r₁, r₂] pos) (c₁ && c₂) := fun s hs => by
  refine isTrue_chain (hl.use hs fun u s₁ g₁ ok₁ x₁ => test_link (h₁.use ok₁ fun v s₂ g₂ ok₂ x₂ => hc₁ s₂ u v ok₂ (x₁.ext g₂.ext) x₂ _ _ fun n => wpAny_truthy_bool ?_)) hm
  have g₃ : Grow C.G.top s₂ { s₂ with toks := n } := .tok _ _
  have ok₃ := ok₂.grow g₃
  cases c₁ with
  | false => exact ⟨(g₁.trans g₂).trans g₃, rfl⟩
  | true =>
    refine test_last (h₂.use ok₃ fun x s₄ g₄ ok₄ x₄ => hc₂ s₄ v x ok₄ ((x₂.ext g₃.ext).ext g₄.ext) x₄ _ _ fun n' => wpAny_truthy_bool ⟨(((g₁.trans g₂).trans g₃).trans g₄).trans (.tok _ _), ?_⟩)
    cases c₂ <;> rfl

theorem Ev.ite {C : Cx} {t b o : Expr} {pos : Pos} {c : Bool} {x : PyData} (ht : Tr C t c) (hb : c = true → Ev C b x) (ho : c = false → Ev C o x) : Ev C (.IfExp t b o pos) x := fun s hs => by
  refine wpAny_IfExp (ht.use hs fun s₁ g₁ ok₁ => ?_)
  cases c with
  | true => exact (hb rfl).use ok₁ fun v s₂ g₂ _ r => ⟨g₁.trans g₂, r⟩
  | false => exact (ho rfl).use ok₁ fun v s₂ g₂ _ r => ⟨g₁.trans g₂, r⟩

/-- an item by a place that is not below nought -/
theorem Ev.item {C : Cx} {v i : Expr} {pos : Pos} {xs : List PyData} {k : Int} {d : PyData} (hv : Ev C v (.list xs)) (hi : Ev C i (.int k)) (h0 : 0 ≤ k) (hx : xs[k.toNat]? = some d) (hf : k < 2 ^ 63)
    (hs : ∀ o j, subscripted i false o j = operate [o, j] (getItem o j) := by intro _ _; with_unfolding_all rfl) : Ev C (.Subscript v i pos) d := fun s ok => by
  refine Subscript_ (hv.use ok fun u s₁ g₁ ok₁ r₁ => hi.use ok₁ fun w s₂ g₂ ok₂ r₂ => ?_)
  obtain ⟨a, vs, n, rfl, _, hl, ra⟩ := (r₁.ext g₂.ext).list_inv
  obtain ⟨t, rfl⟩ := r₂.int_inv
  obtain ⟨y, hy, ry⟩ := ra.get hx
  exact tail_any (isList_of hl).typeIs slot_list_getitem.lookup (wpAny_getItem_list (isList_of hl) h0 hf (by simpa using hy) ⟨g₁.trans g₂, ry⟩) (hs _ _)
theorem Ev.itemNeg {C : Cx} {v i : Expr} {pos : Pos} {xs : List PyData} {k : Int} {d : PyData} (hv : Ev C v (.list xs)) (hi : Ev C i (.int k)) (h0 : k < 0) (hl0 : -(xs.length : Int) ≤ k) (hx : xs[(k + xs.length).toNat]? = some d) (hf : -(2 ^ 63) ≤ k)
    (hs : ∀ o j, subscripted i false o j = operate [o, j] (getItem o j) := by intro _ _; with_unfolding_all rfl) : Ev C (.Subscript v i pos) d := fun s ok => by
  refine Subscript_ (hv.use ok fun u s₁ g₁ ok₁ r₁ => hi.use ok₁ fun w s₂ g₂ ok₂ r₂ => ?_)
  obtain ⟨a, vs, n, rfl, _, hl, ra⟩ := (r₁.ext g₂.ext).list_inv
  obtain ⟨t, rfl⟩ := r₂.int_inv
  obtain ⟨y, hy, ry⟩ := ra.get hx
  have hlen := ra.length
  exact tail_any (isList_of hl).typeIs slot_list_getitem.lookup (wpAny_getItem_list_neg (isList_of hl) h0 (by simp; omega) hf (by simpa [hlen] using hy) ⟨g₁.trans g₂, ry⟩) (hs _ _)
theorem Ev.itemT {C : Cx} {v i : Expr} {pos : Pos} {xs : List PyData} {k : Int} {d : PyData} (hv : Ev C v (.tuple xs)) (hi : Ev C i (.int k)) (h0 : 0 ≤ k) (hx : xs[k.toNat]? = some d) (hf : k < 2 ^ 63)
    (hs : ∀ o j, subscripted i false o j = operate [o, j] (getItem o j) := by intro _ _; with_unfolding_all rfl) : Ev C (.Subscript v i pos) d := fun s ok => by
  refine Subscript_ (hv.use ok fun u s₁ g₁ ok₁ r₁ => hi.use ok₁ fun w s₂ g₂ ok₂ r₂ => ?_)
  obtain ⟨a, vs, n, rfl, _, hl, ra⟩ := (r₁.ext g₂.ext).tuple_inv
  obtain ⟨t, rfl⟩ := r₂.int_inv
  obtain ⟨y, hy, ry⟩ := ra.get hx
  have hlt : k.toNat < vs.length := (List.getElem?_eq_some_iff.mp hy).1
  exact item_tupleT ⟨_, hl, rfl, n, rfl⟩ (by omega) hf (seqIndex_of h0 (by omega)) hy ⟨g₁.trans g₂, ry⟩ (hs _ _)
theorem Ev.itemStr {C : Cx} {v i : Expr} {pos : Pos} {x : Str} {k : Int} {c : Nat} (hv : Ev C v (.str x)) (hi : Ev C i (.int k)) (h0 : 0 ≤ k) (hx : x.cps[k.toNat]? = some c) (hf : k < 2 ^ 63)
    (hs : ∀ o j, subscripted i false o j = operate [o, j] (getItem o j) := by intro _ _; with_unfolding_all rfl) : Ev C (.Subscript v i pos) (.str ⟨#[c]⟩) := fun s ok => by
  refine Subscript_ (hv.use ok fun u s₁ g₁ ok₁ r₁ => hi.use ok₁ fun w s₂ g₂ ok₂ r₂ => ?_)
  obtain ⟨t, rfl⟩ := r₁.str_inv
  obtain ⟨t', rfl⟩ := r₂.int_inv
  have hlt : k.toNat < x.length := (Array.getElem?_eq_some_iff.mp hx).1
  exact tail_any (typeIs_str _ _ _) F.slot_str_getitem.lookup (P.getItem_str (by simp; omega) (by rw [seqIndex_of h0 (by omega)]; exact hx) ⟨(g₁.trans g₂).trans (.tok _ _), .str_⟩) (hs _ _)

/-- several expressions, one behind the other -/
noncomputable def Evs (C : Cx) (es : List Expr) (ds : List PyData) : Prop :=
  ∀ s, C.ok s → ∀ pos, wpAny C.M C.A (spliced (backTo pos (starEach es C.env))) (fun vs s' => Grow C.G.top s s' ∧ RdAll C.X s'.heap ds vs) (fun _ _ => False) s
theorem Evs.nil {C : Cx} : Evs C [] [] := fun s _ pos => wpAny_items_nil ⟨.refl _ _, .nil⟩
theorem Evs.cons {C : Cx} {e : Expr} {es : List Expr} {d : PyData} {ds : List PyData} (h : Ev C e d) (r : Evs C es ds) (he : starEach (e :: es) C.env = (false, eval e C.env) :: starEach es C.env := by rfl) : Evs C (e :: es) (d :: ds) := fun s ok pos =>
  wpAny_items_cons (h.use ok fun v s₁ g₁ ok₁ r₁ => wpAny_mono (r s₁ ok₁ pos) (fun vs s₂ x => ⟨g₁.trans x.1, .cons (r₁.ext x.1.ext) x.2⟩) fun _ _ x => x) he
theorem isL_new (h : Heap) (vs : List Value) : IsL (h.push { cls := .type "list", data := .seq vs.toArray }) h.objs.size vs.toArray 0 := Heap.get?_push_size _ rfl
theorem isT_new (h : Heap) (vs : List Value) : IsT (h.push { cls := .type "tuple", data := .seq vs.toArray }) h.objs.size vs.toArray 0 := Heap.get?_push_size _ rfl
theorem Ev.list {C : Cx} {es : List Expr} {pos : Pos} {ds : List PyData} (h : Evs C es ds) (hsz : ds.length ≤ sizeLine) : Ev C (.List es pos) (.list ds) := fun s ok =>
  wpAny_List (wpAny_mono (h s ok pos) (fun vs s₁ x => ⟨by rw [x.2.length]; exact hsz, x.1.trans (.push _ _), .list_ (ok.grow x.1).new (isL_new _ _) (x.2.ext (.push C.G.top _ _))⟩) fun _ _ x => x)
theorem Ev.tuple {C : Cx} {es : List Expr} {pos : Pos} {k : Nat} {ds : List PyData} (h : Evs C es ds) (hsz : ds.length ≤ sizeLine) : Ev C (.Tuple es k pos) (.tuple ds) := fun s ok =>
  wpAny_Tuple (wpAny_mono (h s ok pos) (fun vs s₁ x => ⟨by rw [x.2.length]; exact hsz, x.1.trans (.push _ _), .tuple_ (ok.grow x.1).new (isT_new _ _) (x.2.ext (.push C.G.top _ _))⟩) fun _ _ x => x)

/-- a name that means a value -/
noncomputable def NameV (C : Cx) (x : Str) (v : Value) : Prop := ∀ s pos (Q : Value → Shared → Prop) (E : Value → Shared → Prop), C.ok s → Q v s → wpAny C.M C.A (eval (.Name x pos) C.env) Q E s
theorem NameV.glob {C : Cx} {x : Str} {v : Value} (hm : (x, v) ∈ C.G.globs) (hk : C.env.kindOf x = some .globalImplicit := by rfl) (hd : (x == ("__debug__" : Str)) = false := by decide) : NameV C x v := fun s pos Q E ok h => by
  obtain ⟨mg, mb, h1, h2, h3, h4, h5⟩ := C.G.names
  replace h1 := h1.keeps ok.g; replace h2 := h2.keeps ok.g
  exact Name_function_global ok.fn hk (loadGlobal_global (by rw [ok.gl]; exact h1) (h3 _ hm) h) hd
theorem NameV.blt {C : Cx} {x : Str} {v : Value} (hm : x ∈ C.G.nots) (hv : bootBuiltins x = some v) (hn : x ≠ "__name__" := by decide) (hk : C.env.kindOf x = some .globalImplicit := by rfl) (hd : (x == ("__debug__" : Str)) = false := by decide) : NameV C x v := fun s pos Q E ok h => by
  obtain ⟨mg, mb, h1, h2, h3, h4, h5⟩ := C.G.names
  replace h1 := h1.keeps ok.g; replace h2 := h2.keeps ok.g
  exact Name_function_global ok.fn hk (loadGlobal_builtin (by rw [ok.gl]; exact h1) (h4 _ hm) (by rw [ok.bl]; exact h2) ((h5 x hn).trans hv) h) hd

end Mine
end
section
open PySem PySem.Spec PySem.SeqAt PySem.Calls PyProof.Rows
namespace Mine

/-- one object is changed, all else stands -/
structure Turn (a : Addr) (s s' : Shared) : Prop where
  keep : ∀ b o, b ≠ a → s.heap.get? b = some o → s'.heap.get? b = some o
  has : ∃ o', s'.heap.get? a = some o'
  gens : s'.gens = s.gens
  drawn : s'.drawn = s.drawn
  os : s'.os = s.os

theorem rest_of {s : Shared} {h' : Heap} {n : Nat} : ({ s with heap := h', toks := n } : Shared).gens = s.gens := rfl

theorem lookup_cons {x y : Str} {d : PyData} {V : List (Str × PyData)} : ((x, d) :: V).lookup y = if y == x then some d else V.lookup y := by
  rw [List.lookup_cons]; cases y == x <;> rfl

/-- a local name is bound -/
theorem store_local {C : Cx} {s : Shared} {x : Str} {d : PyData} {v : Value} {Q : Unit → Shared → Prop} {E : Value → Shared → Prop} (ok : C.ok s) (hk : C.env.kindOf x = some .local) (hX : C.env.locals ∈ C.X)
    (r : Rd C.X s.heap d v) (k : ∀ s', ({ C with vars := (x, d) :: C.vars } : Cx).ok s' → Rd C.X s'.heap d v → Turn C.env.locals s s' → Q () s') : wpAny C.M C.A (storeName C.env x v) Q E s := by
  obtain ⟨m, hm, hv⟩ := ok.ns
  refine wpAny_storeName_local hk hm (fun h' hn hs => ?_) (by rw [ok.fn]; rfl)
  have keep : ∀ b o, b ≠ C.env.locals → s.heap.get? b = some o → h'.get? b = some o := fun b o hb e => (hs.2 b hb).trans e
  obtain ⟨oL, esL, epL, eL, dL, rL⟩ := id hn
  refine k _ ⟨fun b o e => keep b o (fun q => ?_) (ok.g b o e), ok.fn, ok.gl, ok.bl, fun b hb => ⟨?_, (ok.lo b hb).2⟩, ok.room, ok.hand, ok.dep, ok.fr.ns hn keep, fun F P hi => (ok.it F P hi).move (fun b hb => ((ok.it F P hi).at_ b hb).1) (fun b hb o e => keep b o ?_ e), fun D ds hy => ?_, fun v d hx => (ok.fa v d hx).touch hX keep, _, hn, fun y d' hy => ?_⟩ (r.touch hX keep) ⟨keep, ⟨oL, eL⟩, rfl, rfl, rfl⟩
  · rw [q, (ok.lo _ hX).2] at e; cases e
  · by_cases q : b = C.env.locals
    · exact q ▸ ⟨oL, eL⟩
    · obtain ⟨o, e⟩ := (ok.lo b hb).1; exact ⟨o, keep b o q e⟩
  · obtain ⟨_, o', vs, e', d'⟩ := (ok.it F P hi).at_ b hb
    exact Ne.symm (soft_ne_ns hm e' (.inr ⟨_, d'⟩))
  · obtain ⟨iX, ys, n, hl, r'⟩ := ok.mu D ds hy
    exact ⟨iX, ys, n, keep D _ (Ne.symm (soft_ne_ns hm hl (.inl ⟨_, _, rfl⟩))) hl, r'.touch hX keep⟩
  · change ((x, d) :: C.vars).lookup y = some d' at hy
    rw [lookup_cons] at hy
    split at hy
    · next q => cases hy; rw [beq_iff_eq.mp q]; exact ⟨v, r.touch hX keep, .inl ⟨hk, by simp⟩⟩
    · next q =>
      obtain ⟨u, r', i⟩ := hv y d' hy
      refine ⟨u, r'.touch hX keep, ?_⟩
      rcases i with ⟨i1, i2⟩ | ⟨i1, c, hc, oc, e1, e2⟩
      · exact .inl ⟨i1, by show (if y = x then _ else _) = _; rw [if_neg (fun z : y = x => q (beq_iff_eq.mpr z))]; exact i2⟩
      · refine .inr ⟨i1, c, hc, oc, keep c oc (fun q => ?_) e1, e2⟩
        obtain ⟨oL', esL', epL', eL', dL', _⟩ := hm
        rw [q, eL'] at e1; cases e1; rw [dL'] at e2; cases e2

/-- a captured name is bound -/
theorem store_cell {C : Cx} {s : Shared} {x : Str} {c : Addr} {v₀ : Option Value} {d : PyData} {v : Value} {Q : Unit → Shared → Prop} {E : Value → Shared → Prop} (ok : C.ok s) (hk : C.env.kindOf x = some .cell) (hc : C.env.cells.lookup x = some c) (hX : c ∈ C.X)
    (hcell : s.heap.IsCell c v₀) (hne : ∀ y, y ≠ x → (∃ d', C.vars.lookup y = some d') → C.env.cells.lookup y ≠ some c) (r : Rd C.X s.heap d v) (k : ∀ s', ({ C with vars := (x, d) :: C.vars } : Cx).ok s' → Rd C.X s'.heap d v → s'.heap.IsCell c (some v) → Turn c s s' → Q () s') : wpAny C.M C.A (storeName C.env x v) Q E s := by
  obtain ⟨m, hm, hv⟩ := ok.ns
  refine wpAny_storeName_cell ok.fn hk hc hcell fun h' hn hs => ?_
  have keep : ∀ b o, b ≠ c → s.heap.get? b = some o → h'.get? b = some o := fun b o hb e => (hs.2 b hb).trans e
  obtain ⟨oc, ec, dc⟩ := id hn
  have hL : C.env.locals ≠ c := fun q => by
    obtain ⟨oL', esL', epL', eL', dL', _⟩ := hm
    obtain ⟨o1, e1, d1⟩ := hcell
    rw [q, e1] at eL'; cases eL'; rw [dL'] at d1; cases d1
  have hS : ∀ b o, s.heap.get? b = some o → Soft o → b ≠ c := fun b o e so q => by
    obtain ⟨o1, e1, d1⟩ := hcell
    rw [q, e1] at e; cases e
    rcases so with ⟨_, _, q⟩ | ⟨_, q⟩ <;> rw [q] at d1 <;> cases d1
  refine k _ ⟨fun b o e => keep b o (fun q => ?_) (ok.g b o e), ok.fn, ok.gl, ok.bl, fun b hb => ⟨?_, (ok.lo b hb).2⟩, ok.room, ok.hand, ok.dep, ok.fr.cell hcell keep, fun F P hi => (ok.it F P hi).move (fun b hb => ((ok.it F P hi).at_ b hb).1) (fun b hb o e => keep b o ?_ e), fun D ds hy => ?_, fun v d hx => (ok.fa v d hx).touch hX keep, m, hm.at' fun o e => keep _ o hL e, fun y d' hy => ?_⟩ (r.touch hX keep) hn ⟨keep, ⟨oc, ec⟩, rfl, rfl, rfl⟩
  · rw [q, (ok.lo _ hX).2] at e; cases e
  · by_cases q : b = c
    · exact q ▸ ⟨oc, ec⟩
    · obtain ⟨o, e⟩ := (ok.lo b hb).1; exact ⟨o, keep b o q e⟩
  · obtain ⟨_, o', vs, e', d'⟩ := (ok.it F P hi).at_ b hb
    exact hS b _ e' (.inr ⟨_, d'⟩)
  · obtain ⟨iX, ys, n, hl, r'⟩ := ok.mu D ds hy
    exact ⟨iX, ys, n, keep D _ (hS D _ hl (.inl ⟨_, _, rfl⟩)) hl, r'.touch hX keep⟩
  · change ((x, d) :: C.vars).lookup y = some d' at hy
    rw [lookup_cons] at hy
    split at hy
    · next q => cases hy; rw [beq_iff_eq.mp q]; exact ⟨v, r.touch hX keep, .inr ⟨.inl hk, c, hc, hn⟩⟩
    · next q =>
      obtain ⟨u, r', i⟩ := hv y d' hy
      refine ⟨u, r'.touch hX keep, ?_⟩
      rcases i with i | ⟨i1, c', hc', o', e1, e2⟩
      · exact .inl i
      · refine .inr ⟨i1, c', hc', o', keep c' o' (fun q' => ?_) e1, e2⟩
        rw [q'] at hc'; exact hne y (fun z => q (beq_iff_eq.mpr z)) ⟨d', hy⟩ hc'

/-- all that vs tells, V tells too -/
noncomputable def Has (V : List (Str × PyData)) : List (Str × PyData) → Prop
  | [] => True
  | (x, d) :: r => V.lookup x = some d ∧ Has V r
theorem Has.get {V : List (Str × PyData)} : ∀ {W : List (Str × PyData)}, Has V W → ∀ {x d}, W.lookup x = some d → V.lookup x = some d
  | [], _, x, d, h => by cases h
  | (y, e) :: r, hh, x, d, h => by
    rw [lookup_cons] at h
    split at h
    · next q => cases h; rw [beq_iff_eq.mp q]; exact hh.1
    · exact Has.get hh.2 h
/-- fewer variables, fewer facts -/
theorem Cx.ok.less {C : Cx} {s : Shared} {vs : List (Str × PyData)} (ok : C.ok s) (h : ∀ x d, vs.lookup x = some d → C.vars.lookup x = some d) : ({ C with vars := vs } : Cx).ok s := by
  obtain ⟨m, hm, hv⟩ := ok.ns
  exact ⟨ok.g, ok.fn, ok.gl, ok.bl, ok.lo, ok.room, ok.hand, ok.dep, ok.fr, ok.it, ok.mu, ok.fa, m, hm, fun x d hx => hv x d (h _ _ hx)⟩

section
variable {prog : Program} {w : World} {A : Around} {E : Value → Shared → Prop} {s : Shared} {X : List Addr} {I : Addr}
theorem it_next {d : PyData} {ds : List PyData} {Q : Option Value → Shared → Prop} (hI : I ∈ X) (it : ItAt X s.heap I (d :: ds))
    (k : ∀ v s', Rd X s'.heap d v → ItAt X s'.heap I ds → Turn I s s' → Q (some v) s') : wpAny (model prog w) A (pyNext (.ref I)) Q E s := by
  rcases it with ⟨l, i, vs, n, all, hi, hl, hL, r, e⟩ | ⟨x, hr, e⟩
  · have hx' : all[i]? = some d := by have := congrArg (·[0]?) e; simpa using this.symm
    have hds : ds = all.drop (i + 1) := by
      have := congrArg (List.drop 1) e
      simpa [List.drop_drop, Nat.add_comm] using this
    obtain ⟨v, hx, rv⟩ := r.get hx'
    have hlI : l ≠ I := fun q => hl (q ▸ hI)
    refine wpAny_pyNext_list_item hi (isList_of hL) (x := v) (by simpa using hx) fun h' hit hs => ?_
    have keep : ∀ b o, b ≠ I → s.heap.get? b = some o → h'.get? b = some o := fun b o hb e => (hs.2 b hb).trans e
    obtain ⟨oi, ei, _⟩ := id hit
    exact k v _ (rv.touch hI keep) (.inl ⟨l, i + 1, vs, n, all, hit, hl, keep l _ hlI hL, r.touch hI keep, hds⟩) ⟨keep, ⟨oi, ei⟩, rfl, rfl, rfl⟩
  · refine wpAny_pyNext_range_item hr (by simp) fun h' hit hs => ?_
    have keep : ∀ b o, b ≠ I → s.heap.get? b = some o → h'.get? b = some o := fun b o hb e => (hs.2 b hb).trans e
    simp only [List.length_cons, List.range_succ_eq_map, List.map_cons, List.map_map, List.cons.injEq] at e
    obtain ⟨e1, e2⟩ := e
    refine k _ _ (by rw [e1]; simpa using Rd.int_) (.inr ⟨x + 1, ?_, ?_⟩) ⟨keep, ⟨_, hit⟩, rfl, rfl, rfl⟩
    · have : ((d :: ds).length : Int) - 1 = ds.length := by simp
      rw [this] at hit; exact hit
    · rw [e2]
      simp only [List.length_map, List.length_range]
      apply List.map_congr_left
      intro a _
      simp only [Function.comp, Nat.succ_eq_add_one]
      congr 1; push_cast; omega
theorem it_end {Q : Option Value → Shared → Prop} (hh : A.handled = none) (it : ItAt X s.heap I [])
    (k : ∀ h', (∀ b o, b ≠ I → s.heap.get? b = some o → h'.get? b = some o) → Q none { s with heap := h' }) : wpAny (model prog w) A (pyNext (.ref I)) Q E s := by
  rcases it with ⟨l, i, vs, n, all, hi, hl, hL, r, e⟩ | ⟨x, hr, e⟩
  · have hge : vs.length ≤ i := by have := r.length; have := congrArg List.length e; simp at this; omega
    exact wpAny_pyNext_list_end hh hi (isList_of hL) (by simpa using hge) fun h' he => k h' fun b o hb e => he b o hb e
  · exact wpAny_pyNext_range_end hh hr (by simp) fun h' he => k h' fun b o hb e => he b o hb e
theorem it_self {ds : List PyData} {Q : Value → Shared → Prop} (it : ItAt X s.heap I ds) (k : Q (.ref I) s) : wpAny (model prog w) A (pyIter (.ref I)) Q E s := by
  rcases it with ⟨l, i, vs, n, all, hi, hl, hL, r, e⟩ | ⟨x, hr, e⟩
  · exact wpAny_pyIter_listiter hi k
  · exact wpAny_pyIter_rangeiter hr k
end

end Mine
end
section
open PySem PySem.Spec PySem.SeqAt PySem.Calls PyProof.Rows
namespace Mine

theorem lookup_new {V : List (Str × PyData)} {x : Str} {e : PyData} (h : V.lookup x = none) : ∀ y d, V.lookup y = some d → ((x, e) :: V).lookup y = some d := fun y d hy => by
  rw [lookup_cons, if_neg]
  · exact hy
  · intro q; rw [beq_iff_eq.mp q, h] at hy; cases hy
structure CFix (C : Cx) (Z : List Addr) (D I : Addr) (x : Str) : Prop where
  dX : D ∈ C.X
  iX : I ∈ C.X
  lX : C.env.locals ∈ C.X
  ne : I ≠ D
  dZ : D ∈ Z
  iZ : I ∈ Z
  lZ : C.env.locals ∈ Z
  ms : C.muts = []
  its : C.its = []
  new : C.vars.lookup x = none
  calm : C.calm = true

structure CSt (C : Cx) (Z : List Addr) (h₀ : Heap) (D : Addr) (x : Str) (outs : List PyData) (s₀ s : Shared) : Prop where
  ok : C.ok s
  base : ∀ b o, b ∉ Z → h₀.get? b = some o → Kept C.G.top s.heap b o
  acc : ∃ ys n, IsL s.heap D (List.toArray ys) n ∧ RdAll C.X s.heap outs ys
  tgt : C.env.kindOf x = some .local ∨ (C.env.kindOf x = some .cell ∧ ∃ c v₀, C.env.cells.lookup x = some c ∧ c ∈ C.X ∧ s.heap.IsCell c v₀ ∧ c ∈ Z ∧ ∀ y, y ≠ x → (∃ d', C.vars.lookup y = some d') → C.env.cells.lookup y ≠ some c)
  gens : s.gens = s₀.gens
  drawn : s.drawn = s₀.drawn
  os : s.os = s₀.os

theorem soft_list {h : Heap} {D : Addr} {ys : List Value} {n : Nat} (hl : IsL h D ys.toArray n) : ∃ o, h.get? D = some o ∧ Soft o := ⟨_, hl, .inl ⟨_, _, rfl⟩⟩
theorem cell_ne {h : Heap} {c a : Addr} {v : Option Value} {o : Obj} (hc : h.IsCell c v) (ho : h.get? a = some o) (hs : Soft o) : c ≠ a := by
  rintro rfl
  obtain ⟨o', e, d⟩ := hc
  rw [ho] at e; cases e
  rcases hs with ⟨_, _, q⟩ | ⟨_, q⟩ <;> rw [q] at d <;> cases d
theorem ns_ne {h : Heap} {L a : Addr} {m : Str → Option Value} {o : Obj} (hn : h.Ns L m) (ho : h.get? a = some o) (hs : Soft o) : L ≠ a := by
  rintro rfl
  obtain ⟨oL, es, ep, e1, e2, _⟩ := hn
  rw [ho] at e1; cases e1
  rcases hs with ⟨_, _, q⟩ | ⟨_, q⟩ <;> rw [q] at e2 <;> cases e2

theorem CSt.grow {C : Cx} {Z : List Addr} {h₀ : Heap} {D : Addr} {x : Str} {outs : List PyData} {s₀ s s' : Shared} (st : CSt C Z h₀ D x outs s₀ s) (g : Grow C.G.top s s') : CSt C Z h₀ D x outs s₀ s' := by
  obtain ⟨ys, n, hl, r⟩ := st.acc
  refine ⟨st.ok.grow g, fun b o hb e => (st.base b o hb e).step fun o' e' => g.ext b o' e', ⟨ys, n, g.ext.list hl, r.ext g.ext⟩, ?_, g.gens.trans st.gens, g.drawn.trans st.drawn, g.os.trans st.os⟩
  rcases st.tgt with t | ⟨t, c, v₀, a, b, cc, d, e⟩
  · exact .inl t
  · exact .inr ⟨t, c, v₀, a, b, g.ext.cell cc, d, e⟩

/-- the iterator is moved on -/
theorem CSt.turnI {C : Cx} {Z : List Addr} {h₀ : Heap} {D I : Addr} {x : Str} {outs : List PyData} {s₀ s s' : Shared} {o : Obj} (f : CFix C Z D I x) (st : CSt C Z h₀ D x outs s₀ s) (ho : s.heap.get? I = some o) (hs : Soft o) (t : Turn I s s') : CSt C Z h₀ D x outs s₀ s' := by
  obtain ⟨ys, n, hl, r⟩ := st.acc
  obtain ⟨o', e'⟩ := t.has
  refine ⟨st.ok.touch f.iX ho hs t.keep e' (by rw [f.ms]; intro _ _ h; cases h) (by rw [f.its]; intro _ _ h; cases h), fun b ob hb e => (st.base b ob hb e).step fun o' e' => .inl (t.keep b o' (fun q => hb (q ▸ f.iZ)) e'), ⟨ys, n, t.keep D _ (Ne.symm f.ne) hl, r.touch f.iX t.keep⟩, ?_, t.gens.trans st.gens, t.drawn.trans st.drawn, t.os.trans st.os⟩
  · rcases st.tgt with t' | ⟨t', c, v₀, a, b, ⟨oc, e1, e2⟩, d, e⟩
    · exact .inl t'
    · exact .inr ⟨t', c, v₀, a, b, ⟨oc, t.keep c oc (cell_ne ⟨oc, e1, e2⟩ ho hs) e1, e2⟩, d, e⟩

/-- the target is bound -/
theorem CSt.assign {C : Cx} {Z : List Addr} {h₀ : Heap} {D I : Addr} {x : Str} {px : Pos} {outs rest : List PyData} {s₀ s : Shared} {d : PyData} {v : Value} {Q : Unit → Shared → Prop} {E : Value → Shared → Prop} (f : CFix C Z D I x) (st : CSt C Z h₀ D x outs s₀ s)
    (it : ItAt C.X s.heap I rest) (r : Rd C.X s.heap d v)
    (k : ∀ s', ({ C with vars := (x, d) :: C.vars } : Cx).ok s' → CSt C Z h₀ D x outs s₀ s' → ItAt C.X s'.heap I rest → Q () s') : wpAny C.M C.A (assign (.Name x px) C.env v) Q E s := by
  obtain ⟨ys, n, hl, ra⟩ := st.acc
  obtain ⟨oI, eI, sI⟩ := it.soft
  obtain ⟨oD, eD, sD⟩ := soft_list hl
  refine wpAny_assign_Name ?_
  rcases st.tgt with t | ⟨t, c, v₀, hc, cX, hcell, c0, cne⟩
  · obtain ⟨m, hm, _⟩ := st.ok.ns
    refine store_local st.ok t f.lX r fun s' ok' _ tn => ?_
    refine k s' ok' ⟨(ok'.less (vs := C.vars) (lookup_new f.new)), fun b ob hb e => (st.base b ob hb e).step fun o' e' => .inl (tn.keep b o' (fun q => hb (q ▸ f.lZ)) e'), ⟨ys, n, tn.keep D _ (Ne.symm (ns_ne hm eD sD)) hl, ra.touch f.lX tn.keep⟩, .inl t, tn.gens.trans st.gens, tn.drawn.trans st.drawn, tn.os.trans st.os⟩
      (it.keep f.lX (Ne.symm (ns_ne hm eI sI)) tn.keep)
  · refine store_cell st.ok t hc cX hcell cne r fun s' ok' _ hcell' tn => ?_
    refine k s' ok' ⟨(ok'.less (vs := C.vars) (lookup_new f.new)), fun b ob hb e => (st.base b ob hb e).step fun o' e' => .inl (tn.keep b o' (fun q => hb (q ▸ c0)) e'), ⟨ys, n, tn.keep D _ (Ne.symm (cell_ne hcell eD sD)) hl, ra.touch cX tn.keep⟩, .inr ⟨t, c, some v, hc, cX, hcell', c0, cne⟩, tn.gens.trans st.gens, tn.drawn.trans st.drawn, tn.os.trans st.os⟩
      (it.keep cX (Ne.symm (cell_ne hcell eI sI)) tn.keep)

/-- the tests of a clause -/
noncomputable def Trs (C : Cx) (ifs : List Expr) (b : Bool) : Prop := ∀ s, C.ok s →
  wpAny C.M C.A (forIn ifs true fun c r => if r = true then do let ok ← isTrue c C.env (eval c C.env); pure (ForInStep.yield ok) else pure (ForInStep.yield r)) (fun ok s' => Grow C.G.top s s' ∧ ok = b) (fun _ _ => False) s
theorem Trs.nil {C : Cx} : Trs C [] true := fun s _ => by
  rw [List.forIn_nil]; exact wpAny_pure ⟨.refl _ _, rfl⟩
theorem Trs.one {C : Cx} {e : Expr} {b : Bool} (h : Tr C e b) : Trs C [e] b := fun s ok => by
  simp only [List.forIn_cons, List.forIn_nil, if_true]
  exact wpAny_bind (wpAny_bind (h.use ok fun s' g _ => wpAny_pure (wpAny_pure ⟨g, rfl⟩)))

/-- the element goes onto the list -/
theorem CSt.emit {C : Cx} {Z : List Addr} {h₀ : Heap} {D I : Addr} {x : Str} {outs rest : List PyData} {s₀ s : Shared} {d : PyData} {v : Value} {Q : Value → Shared → Prop} {E : Value → Shared → Prop} (f : CFix C Z D I x) (st : CSt C Z h₀ D x outs s₀ s)
    (it : ItAt C.X s.heap I rest) (r : Rd C.X s.heap d v) (hsz : outs.length ≤ sizeLine)
    (k : ∀ s', CSt C Z h₀ D x (outs ++ [d]) s₀ s' → ItAt C.X s'.heap I rest → Q .none s') : wpAny C.M C.A (call (.builtin "list.append") [.ref D, v]) Q E s := by
  obtain ⟨ys, n, hl, ra⟩ := st.acc
  obtain ⟨oI, eI, sI⟩ := it.soft
  obtain ⟨oD, eD, sD⟩ := soft_list hl
  have hlen := ra.length
  refine wpAny_list_append_plain (hsz := by simp; omega) (⟨n, hl⟩ : s.heap.PlainList D ys.toArray) fun h' hl' hs => ?_
  have keep : ∀ b o, b ≠ D → s.heap.get? b = some o → h'.get? b = some o := fun b o hb e => (hs.2 b hb).trans e
  obtain ⟨n', hl'⟩ := hl'
  rw [show ys.toArray.push v = List.toArray (ys ++ [v]) by simp] at hl'
  refine k _ ⟨st.ok.touch f.dX eD sD keep hl' (by rw [f.ms]; intro _ _ h; cases h) (by rw [f.its]; intro _ _ h; cases h), fun b ob hb e => (st.base b ob hb e).step fun o' e' => .inl (keep b o' (fun q => hb (q ▸ f.dZ)) e'), ⟨_, _, hl', RdAll.append (.one (r.touch f.dX keep)) (ra.touch f.dX keep)⟩, ?_, st.gens, st.drawn, st.os⟩ (it.keep f.dX f.ne keep)
  · rcases st.tgt with t' | ⟨t', c, v₀, a, b, ⟨oc, e1, e2⟩, d, e⟩
    · exact .inl t'
    · exact .inr ⟨t', c, v₀, a, b, ⟨oc, keep c oc (cell_ne ⟨oc, e1, e2⟩ eD sD) e1, e2⟩, d, e⟩
theorem Trs.use {C : Cx} {ifs : List Expr} {b : Bool} (h : Trs C ifs b) {s : Shared} (hs : C.ok s) {Q : Bool → Shared → Prop} {E : Value → Shared → Prop} (k : ∀ s', Grow C.G.top s s' → C.ok s' → Q b s') :
    wpAny C.M C.A (forIn ifs true fun c r => if r = true then do let ok ← isTrue c C.env (eval c C.env); pure (ForInStep.yield ok) else pure (ForInStep.yield r)) Q E s :=
  wpAny_mono (h s hs) (fun v s' x => by obtain ⟨g, rfl⟩ := x; exact k s' g (hs.grow g)) fun _ _ x => x.elim

noncomputable abbrev Cx.bind (C : Cx) (x : Str) (d : PyData) : Cx := { C with vars := (x, d) :: C.vars }

/-- behind the last item -/
structure CEnd (C : Cx) (Z : List Addr) (h₀ : Heap) (D I : Addr) (outs : List PyData) (s₀ s : Shared) : Prop where
  base : ∀ b o, b ∉ Z → h₀.get? b = some o → Kept C.G.top s.heap b o
  acc : ∃ ys n, IsL s.heap D (List.toArray ys) n ∧ RdAll C.X s.heap outs ys
  ok' : ∀ X, (∀ b ∈ X, b ∈ C.X ∧ b ≠ I) → ({ C with X := X, muts := [], its := [], facts := [] } : Cx).ok s
  gens : s.gens = s₀.gens
  drawn : s.drawn = s₀.drawn
  os : s.os = s₀.os

/-- a hidden thing is forgotten -/
theorem Cx.ok.drop {C : Cx} {s s' : Shared} {a : Addr} {o : Obj} (h : C.ok s) (ha : a ∈ C.X) (ho : s.heap.get? a = some o) (hd : Soft o) (hk : ∀ b o, b ≠ a → s.heap.get? b = some o → s'.heap.get? b = some o) {X : List Addr} (hX : ∀ b ∈ X, b ∈ C.X ∧ b ≠ a) : ({ C with X := X, muts := [], its := [], facts := [] } : Cx).ok s' := by
  obtain ⟨m, hm, hv⟩ := h.ns
  have hL := ns_ne hm ho hd
  refine ⟨fun b x e => hk b x (fun q => ?_) (h.g b x e), h.fn, h.gl, h.bl, fun b hb => ?_, h.room, h.hand, h.dep, h.fr.touch ho hd hk, fun _ _ hx => (nomatch hx), fun _ _ hx => (nomatch hx), fun _ _ hx => (nomatch hx), m, hm.at' fun x e => hk _ x hL e, fun x d hx => ?_⟩
  · subst q; rw [(h.lo _ ha).2] at e; cases e
  · obtain ⟨q1, q2⟩ := hX b hb
    obtain ⟨⟨x, e⟩, n⟩ := h.lo b q1
    exact ⟨⟨x, hk b x q2 e⟩, n⟩
  · obtain ⟨v, r, i⟩ := hv x d hx
    refine ⟨v, r.mono fun b x hb e => ⟨fun q => hb (hX b q).1, hk b x (fun q => hb (q ▸ ha)) e⟩, ?_⟩
    rcases i with i | ⟨k, c, hc, oc, e1, e2⟩
    · exact .inl i
    · exact .inr ⟨k, c, hc, oc, hk c oc (cell_ne ⟨oc, e1, e2⟩ ho hd) e1, e2⟩

theorem comp_loop1 {C : Cx} {Z : List Addr} {h₀ : Heap} {D I : Addr} {x : Str} {px pos : Pos} {elt iter : Expr} {ifs : List Expr} {scope : Scope} {R : Result → Shared → Prop} {s₀ s : Shared} {ds : List PyData} {p : PyData → Bool} {f : PyData → PyData}
    (fx : CFix C Z D I x) (body : ∀ d ∈ ds, Trs (C.bind x d) ifs (p d) ∧ (p d = true → Ev (C.bind x d) elt (f d)))
    (st : CSt C Z h₀ D x [] s₀ s) (it : ItAt C.X s.heap I ds) (hsz : ds.length ≤ sizeLine)
    (k : ∀ s', CEnd C Z h₀ D I ((ds.filter p).map f) s₀ s' → R (.ok .next) s') :
    codeAny C.M C.A (.compLoop (.ListComp elt [⟨.Name x px, iter, ifs, 0⟩] scope pos) 0 (.ref I) (.ref D) C.env) R s := by
  refine codeAny_compLoop_tests (fun n s => ∃ ds' outs', n = ds'.length ∧ CSt C Z h₀ D x outs' s₀ s ∧ ItAt C.X s.heap I ds' ∧ (∀ d ∈ ds', d ∈ ds) ∧ outs' ++ (ds'.filter p).map f = (ds.filter p).map f ∧ outs'.length + ds'.length ≤ sizeLine) ?_ ds.length
    ⟨ds, [], rfl, st, it, fun d h => h, rfl, by simpa using hsz⟩
  rintro n s ⟨ds', outs', rfl, st, it, hsub, heq, hlen⟩
  cases ds' with
  | nil =>
    refine it_end (st.ok.hand fx.calm) it fun h' hk => k _ ?_
    obtain ⟨ys, n, hl, r⟩ := st.acc
    obtain ⟨m, hm, _⟩ := st.ok.ns
    obtain ⟨oI, eI, sI⟩ := it.soft
    simp only [List.filter_nil, List.map_nil, List.append_nil] at heq
    subst heq
    refine ⟨fun b ob hb e => (st.base b ob hb e).step fun o' e' => .inl (hk b o' (fun q => hb (q ▸ fx.iZ)) e'), ⟨ys, n, hk D _ (Ne.symm fx.ne) hl, r.touch fx.iX hk⟩, fun X hX => st.ok.drop fx.iX eI sI hk hX, st.gens, st.drawn, st.os⟩
  | cons d ds' =>
    obtain ⟨oI, eI, sI⟩ := it.soft
    obtain ⟨ht, he⟩ := body d (hsub d (.head _))
    refine it_next fx.iX it fun v s₁ rv it₁ tn => ?_
    have st₁ := st.turnI fx eI sI tn
    refine st₁.assign fx it₁ rv fun s₂ ok₂ st₂ it₂ => ?_
    refine ht.use ok₂ fun s₃ g₃ ok₃ => ?_
    have st₃ := st₂.grow g₃
    have it₃ := it₂.ext g₃.ext
    have hsub' : ∀ d' ∈ ds', d' ∈ ds := fun d' h => hsub d' (.tail _ h)
    simp only [List.length_cons] at hlen
    cases hp : p d with
    | false =>
      rw [if_neg (by simp)]
      exact ⟨ds'.length, by simp, ds', outs', rfl, st₃, it₃, hsub', by simpa [hp] using heq, by omega⟩
    | true =>
      rw [if_pos rfl]
      refine (he hp).use ok₃ fun y s₄ g₄ ok₄ ry => ?_
      refine (st₃.grow g₄).emit fx (it₃.ext g₄.ext) ry (by omega) fun s₅ st₅ it₅ => ?_
      exact ⟨ds'.length, by simp, ds', outs' ++ [f d], rfl, st₅, it₅, hsub', by simpa [hp] using heq, by simp; omega⟩

end Mine
end
section
open PySem PySem.Spec PySem.SeqAt PySem.Calls PyProof.Rows
namespace Mine

theorem cellsFrom_app : ∀ (names : List (Str × NameKind)) (n : Nat) (acc : List (Str × Addr)), cellsFrom n names acc = cellsFrom n names [] ++ acc
  | [], _, _ => rfl
  | (name, kind) :: r, n, acc => by
    unfold cellsFrom
    split
    · rw [cellsFrom_app r (n + 1) ((name, n) :: acc), cellsFrom_app r (n + 1) [(name, n)], List.append_assoc]; rfl
    · exact cellsFrom_app r n acc
theorem lookup_map_kind (F : Str → NameKind → NameKind) : ∀ (l : List (Str × NameKind)) (x : Str), (l.map fun p => (p.1, F p.1 p.2)).lookup x = (l.lookup x).map (F x)
  | [], _ => rfl
  | (n, k) :: r, x => by
    simp only [List.map_cons, List.lookup_cons]
    cases hx : x == n with
    | true => simp only [Option.map_some]; rw [beq_iff_eq.mp hx]
    | false => exact lookup_map_kind F r x
theorem relabel_kind (scope : Scope) (env : Env) (x : Str) : (relabel scope env).names.lookup x = (scope.names.lookup x).map fun k => if (k == .free && env.scope.kind == .function && env.kindOf x == some .cell) then .cell else k := by
  unfold relabel
  rw [← lookup_map_kind (fun n k => if (k == .free && env.scope.kind == .function && env.kindOf n == some .cell) then .cell else k)]
  show List.lookup x _ = List.lookup x _
  congr 1
  apply List.map_congr_left
  rintro ⟨n, k⟩ _
  dsimp only
  split <;> rfl

theorem new_comp_env {M : Model} {A : Around} {E : Value → Shared → Prop} {s : Shared} {scope : Scope} {globals : Addr} {cl : List (Str × Addr)} {qual : Str} {env : Env} {Q : Env → Shared → Prop}
    (h : Q (newEnv scope s.heap.objs.size globals (cellsFrom (s.heap.objs.size + 1) scope.names cl) qual none .none (some env) builtinsNs) { s with heap := pushCells (s.heap.push { cls := .type "dict", data := .dict #[] }) scope.names }) :
    wpAny M A (newFunctionEnv scope globals cl [] qual none .none (some env)) Q E s := by
  simp only [newFunctionEnv, Option.isSome_some, if_true]
  refine wpAny_bind (wpAny_alloc ?_)
  refine wpAny_bind (wpAny_layCells _ (fun name kind cells => by cases hkc : kind == NameKind.cell <;> simp) _ _ _ _ ?_)
  rw [show ({ s with heap := s.heap.push { cls := .type "dict", data := .dict #[] } } : Shared).heap.objs.size = s.heap.objs.size + 1 from Heap.size_push ..]
  rw [List.forIn_nil]
  exact wpAny_bind (wpAny_pure (wpAny_pure h))

/-- the expression, met by a loop, yields these -/
noncomputable def Src (C : Cx) (e : Expr) (ds : List PyData) : Prop := ∀ s, C.ok s → wpAny C.M C.A (eval e C.env) (fun x s₁ => wpAny C.M C.A (pyIter x)
  (fun it s₂ => ∃ I, it = .ref I ∧ s.heap.get? I = none ∧ Grow C.G.top s s₂ ∧ ItAt C.X s₂.heap I ds) (fun _ _ => False) s₁) (fun _ _ => False) s
theorem Src.list {C : Cx} {e : Expr} {ds : List PyData} (h : Ev C e (.list ds)) : Src C e ds := fun s ok => h.use ok fun v s₁ g₁ ok₁ r => by
  obtain ⟨a, vs, n, rfl, ha, hl, ra⟩ := r.list_inv
  refine wpAny_pyIter_list (isList_of hl) ⟨_, rfl, ?_, g₁.trans (.push _ _), .inl ⟨a, 0, vs, n, ds, ⟨_, Heap.get?_push_size _ rfl, rfl, rfl⟩, ha, Heap.get?_push_of_some _ hl, ?_, rfl⟩⟩
  · exact g₁.ext.none (get_size _)
  · exact ra.ext (.push C.G.top _ _)

/-- the frame of a comprehension -/
noncomputable abbrev Cx.inner (C : Cx) (scope : Scope) (cl : List (Str × Addr)) (L : Addr) (X : List Addr) (vs : List (Str × PyData)) : Cx :=
  { C with env := compEnvC scope (cellsFrom (L + 1) scope.names cl) L C.env, X := X, vars := vs, muts := [], its := [], facts := [] }

/-- a name of the frame around that the comprehension sees -/
structure Sees (C : Cx) (scope : Scope) (cl : List (Str × Addr)) (y : Str) (d : PyData) : Prop where
  mem : C.vars.lookup y = some d
  free : scope.names.lookup y = some .free
  cell : cl.lookup y = C.env.cells.lookup y
  own : ∀ n, (cellsFrom n scope.names []).lookup y = none
  kind : C.env.kindOf y = some .cell ∨ C.env.kindOf y = some .free
  cd : (y == ("__classdict__" : Str)) = false

noncomputable def SeesAll (C : Cx) (scope : Scope) (cl : List (Str × Addr)) : List (Str × PyData) → Prop
  | [] => True
  | (y, d) :: r => Sees C scope cl y d ∧ SeesAll C scope cl r
theorem SeesAll.get {C : Cx} {scope : Scope} {cl : List (Str × Addr)} : ∀ {W : List (Str × PyData)}, SeesAll C scope cl W → ∀ {x d}, W.lookup x = some d → Sees C scope cl x d
  | [], _, x, d, h => by cases h
  | (y, e) :: r, hh, x, d, h => by
    rw [lookup_cons] at h
    split at h
    · next q => cases h; rw [beq_iff_eq.mp q]; exact hh.1
    · exact SeesAll.get hh.2 h

theorem own_ok {h : Heap} (names : List (Str × NameKind)) : CellsOk (pushCells h names) h.objs.size (cellsFrom h.objs.size names []) :=
  cellsFrom_ok names h h.objs.size [] ⟨fun _ _ hm => (nomatch hm), List.Pairwise.nil⟩ (Nat.le_refl _)

theorem comp_core {C : Cx} {elt iter tgt : Expr} {x : Str} {pos : Pos} {ifs : List Expr} {rest : List Comprehension} {scope : Scope} {cl : List (Str × Addr)} {ds outs : List PyData} {vs : List (Str × PyData)} {use : Option (Value → Sem Unit)}
    {s : Shared} {Q : Value → Shared → Prop} {E : Value → Shared → Prop} (ok : C.ok s) (hcalm : C.calm = true)
    (src : Src C iter ds) (hfold : ∀ v, foldedSetIterable iter C.env v = pure v) (hclos : closureFor scope C.env = pure cl) (hkind : scope.kind = .function)
    (hnames : ∀ x ∈ scope.names, x.2 = .local → scope.names.lookup x.1 = some .local)
    (htgt : scope.names.lookup x = some .local ∨ (scope.names.lookup x = some .cell ∧ ∀ n, ((cellsFrom n scope.names []).lookup x).isSome = true))
    (hvis : SeesAll C scope cl vs) (hnx : vs.lookup x = none)
    (loop : ∀ L X Z h₀ D I (s₀ s : Shared) (R : Result → Shared → Prop), CFix (C.inner scope cl L X vs) Z D I x → CSt (C.inner scope cl L X vs) Z h₀ D x [] s₀ s → ItAt X s.heap I ds →
      (∀ s', CEnd (C.inner scope cl L X vs) Z h₀ D I outs s₀ s' → R (.ok .next) s') →
      codeAny C.M C.A (.compLoop (.ListComp elt (⟨tgt, iter, ifs, 0⟩ :: rest) scope pos) 0 (.ref I) (.ref D) (C.inner scope cl L X vs).env) R s)
    (fin : ∀ D L s', s.heap.get? D = none → s.heap.get? L = none → (∃ m, s'.heap.Ns L m) → Grow C.G.top s s' → (∃ X, L ∈ X ∧ (∀ b ∈ C.X, b ∈ X) ∧ ∃ ys n, IsL s'.heap D (List.toArray ys) n ∧ RdAll X s'.heap outs ys) → compPost C.M C.A E use Q (.ref D) L (.ok .next) s') :
    wpAny C.M C.A (comprehension (.ListComp elt (⟨tgt, iter, ifs, 0⟩ :: rest) scope pos) scope C.env (firstIterPos (⟨tgt, iter, ifs, 0⟩ :: rest) pos) (newList []) false (eval iter C.env) use) Q E s := by
  refine wpAny_comprehension_free (g := ⟨tgt, iter, ifs, 0⟩) (gs := rest) rfl hfold hclos hkind hnames ?_
  refine wpAny_mono (src s ok) (fun v s₁ h₁ => wpAny_mono h₁ (fun it s₂ h₂ => ?_) fun _ _ e => e.elim) fun _ _ e => e.elim
  obtain ⟨I, rfl, hI, g₂, it₂⟩ := h₂
  have ok₂ := ok.grow g₂
  refine wpAny_newList ?_ (by simp)
  refine new_comp_env ?_
  -- the addresses
  generalize hH : s₂.heap.push { cls := .type "list", data := .seq ([] : List Value).toArray } = H
  have hHs : H.objs.size = s₂.heap.objs.size + 1 := by rw [← hH, Heap.size_push]
  generalize hH' : H.push { cls := .type "dict", data := .dict #[] } = H'
  have hHs' : H'.objs.size = H.objs.size + 1 := by rw [← hH', Heap.size_push]
  dsimp only
  have own := own_ok (h := H') scope.names
  rw [hHs'] at own
  have e2 : ∀ b o, s₂.heap.get? b = some o → H'.get? b = some o := fun b o e => by rw [← hH', ← hH]; exact Heap.get?_push_of_some _ (Heap.get?_push_of_some _ e)
  have e3 : ∀ b o, H'.get? b = some o → (pushCells H' scope.names).get? b = some o := fun b o e => pushCells_keeps _ _ b o e
  generalize hH3 : pushCells H' scope.names = H₃ at own e3
  have e23 : ∀ b o, s₂.heap.get? b = some o → H₃.get? b = some o := fun b o e => e3 b o (e2 b o e)
  have e13 : Ext C.G.top s.heap H₃ := g₂.ext.trans (.of e23)
  have eD : IsL H₃ s₂.heap.objs.size (List.toArray []) 0 := by
    refine e3 _ _ ?_
    rw [← hH']; refine Heap.get?_push_of_some _ ?_
    rw [← hH]; exact Heap.get?_push_size _ rfl
  have eL : H₃.Ns H.objs.size fun _ => none := (hH' ▸ Heap.Ns.new H (.type "dict")).keeps e3
  generalize hDd : s₂.heap.objs.size = D at eD hHs
  generalize hLd : H.objs.size = L at eL hHs own
  have new2 : ∀ a, D ≤ a → s₂.heap.get? a = none := fun a ha => by
    cases e : s₂.heap.get? a with
    | none => rfl
    | some o => exact absurd (hDd ▸ Heap.lt_size e) (Nat.not_lt.mpr ha)
  have new1 : ∀ a, s₂.heap.get? a = none → s.heap.get? a = none := fun a ha => g₂.ext.none ha
  have new0 : ∀ a, s.heap.get? a = none → C.G.top.get? a = none := fun a ha => by
    cases e : C.G.top.get? a with
    | none => rfl
    | some o => rw [ok.g _ _ e] at ha; cases ha
  have d2 := new2 D (Nat.le_refl _)
  have l2 := new2 L (by omega)
  obtain ⟨oI, eI, sI⟩ := it₂.soft
  have hID : I ≠ D := fun q => by rw [q, d2] at eI; cases eI
  have hIL : I ≠ L := fun q => by rw [q, l2] at eI; cases eI
  obtain ⟨X, hX⟩ : ∃ X, X = I :: D :: L :: ((cellsFrom (L + 1) scope.names []).map (·.2) ++ C.X) := ⟨_, rfl⟩
  have ownNew : ∀ c ∈ (cellsFrom (L + 1) scope.names []).map (·.2), (∃ o, H₃.get? c = some o) ∧ s₂.heap.get? c = none := fun c hc => by
    obtain ⟨⟨n, c'⟩, hm, rfl⟩ := List.mem_map.mp hc
    obtain ⟨⟨o, e, _⟩, hlo⟩ := own.empty n c' hm
    exact ⟨⟨o, e⟩, new2 _ (by omega)⟩
  -- what stood ahead of it is none of these
  have off : ∀ b o, b ∉ C.X → s.heap.get? b = some o → b ∉ X := fun b o hb e hm => by
    rw [hX] at hm
    rcases List.mem_cons.mp hm with q | hm
    · rw [q, hI] at e; cases e
    · rcases List.mem_cons.mp hm with q | hm
      · rw [q, new1 _ d2] at e; cases e
      · rcases List.mem_cons.mp hm with q | hm
        · rw [q, new1 _ l2] at e; cases e
        · rcases List.mem_append.mp hm with hm | hm
          · rw [new1 _ (ownNew b hm).2] at e; cases e
          · exact hb hm
  have off2 : ∀ b o xs n, b ∉ C.X → s₂.heap.get? b = some o → o.data = .seq xs n → b ∉ X := fun b o xs n hb e hd hm => by
    rw [hX] at hm
    rcases List.mem_cons.mp hm with q | hm
    · rw [q, eI] at e; cases e
      rcases it₂ with ⟨l, i, vs, n, all, ⟨o', ho', _, hd'⟩, _⟩ | ⟨x, hr, _⟩
      · rw [eI] at ho'; cases ho'; rw [hd] at hd'; cases hd'
      · have q := eI.symm.trans hr; cases q; cases hd
    · rcases List.mem_cons.mp hm with q | hm
      · rw [q, d2] at e; cases e
      · rcases List.mem_cons.mp hm with q | hm
        · rw [q, l2] at e; cases e
        · rcases List.mem_append.mp hm with hm | hm
          · rw [(ownNew b hm).2] at e; cases e
          · exact hb hm
  have cellsEq : ∀ y, (cellsFrom (L + 1) scope.names cl).lookup y = ((cellsFrom (L + 1) scope.names []).lookup y).or (cl.lookup y) := fun y => by
    rw [cellsFrom_app, List.lookup_append]
  obtain ⟨m₀, hm₀, hv₀⟩ := ok.ns
  have seen : ∀ y d, vs.lookup y = some d → ∃ c v, (C.inner scope cl L X vs).env.cells.lookup y = some c ∧ s.heap.IsCell c (some v) ∧ Rd C.X s.heap d v := fun y d hy => by
    have hs := hvis.get hy
    obtain ⟨v, r, i⟩ := hv₀ y d hs.mem
    rcases i with ⟨q, _⟩ | ⟨_, c, hc, hcell⟩
    · rcases hs.kind with q' | q' <;> rw [q'] at q <;> cases q
    · refine ⟨c, v, ?_, hcell, r⟩
      show (cellsFrom (L + 1) scope.names cl).lookup y = some c
      rw [cellsEq, hs.own, Option.none_or, hs.cell, hc]
  have okI : (C.inner scope cl L X vs).ok { s₂ with heap := H₃ } := by
    refine ⟨top_kept ok.g e13, hkind, ok.gl, ok.bl, fun b hb => ?_, ok.room, ok.hand, ok.dep, ok.fr.ext e13, fun _ _ hx => (nomatch hx), fun _ _ hx => (nomatch hx), fun _ _ hx => (nomatch hx), _, eL, fun y d hy => ?_⟩
    · change b ∈ X at hb
      show (∃ o, H₃.get? b = some o) ∧ C.G.top.get? b = none
      rw [hX] at hb
      rcases List.mem_cons.mp hb with q | hb
      · subst q; exact ⟨⟨_, e23 _ _ eI⟩, new0 _ hI⟩
      · rcases List.mem_cons.mp hb with q | hb
        · subst q; exact ⟨⟨_, eD⟩, new0 _ (new1 _ d2)⟩
        · rcases List.mem_cons.mp hb with q | hb
          · subst q; obtain ⟨oL, _, _, e, _⟩ := eL; exact ⟨⟨oL, e⟩, new0 _ (new1 _ l2)⟩
          · rcases List.mem_append.mp hb with hb | hb
            · exact ⟨(ownNew b hb).1, new0 _ (new1 _ (ownNew b hb).2)⟩
            · obtain ⟨⟨o, e⟩, n⟩ := ok.lo b hb; exact ⟨(e13 _ _ e).some, n⟩
    · obtain ⟨c, v, hc, hcell, r⟩ := seen y d hy
      have hs := hvis.get hy
      refine ⟨v, r.monoS fun b o xs n hb e hd => ⟨off b o hb e, e13.seq e hd⟩, .inr ⟨?_, c, hc, e13.cell hcell⟩⟩
      show (relabel scope C.env).names.lookup y = some .cell ∨ (relabel scope C.env).names.lookup y = some .free ∧ _
      rw [relabel_kind, hs.free]
      rcases hs.kind with q | q
      · left; simp [q, ok.fn]
      · right; exact ⟨by simp [q], hs.cd⟩
  obtain ⟨Z, hZ⟩ : ∃ Z, Z = I :: D :: L :: (cellsFrom (L + 1) scope.names []).map (·.2) := ⟨_, rfl⟩
  have offZ : ∀ b o, s.heap.get? b = some o → b ∉ Z := fun b o e hm => by
    rw [hZ] at hm
    rcases List.mem_cons.mp hm with q | hm
    · rw [q, hI] at e; cases e
    · rcases List.mem_cons.mp hm with q | hm
      · rw [q, new1 _ d2] at e; cases e
      · rcases List.mem_cons.mp hm with q | hm
        · rw [q, new1 _ l2] at e; cases e
        · rw [new1 _ (ownNew b hm).2] at e; cases e
  have fx : CFix (C.inner scope cl L X vs) Z D I x := ⟨by show D ∈ X; rw [hX]; simp, by show I ∈ X; rw [hX]; simp, by show L ∈ X; rw [hX]; simp, hID, by rw [hZ]; simp, by rw [hZ]; simp, by show L ∈ Z; rw [hZ]; simp, rfl, rfl, hnx, hcalm⟩
  have itI : ItAt (C.inner scope cl L X vs).X H₃ I ds := by
    rcases it₂ with ⟨l, i, us, n, all, hi, hl, hL, r, q⟩ | ⟨x, hr, e⟩
    · exact .inl ⟨l, i, us, n, all, hi.at fun o e => e23 I o e, off2 l _ _ _ hl hL rfl, e23 l _ hL, r.monoS fun b o xs n hb e hd => ⟨off2 b o xs n hb e hd, e23 b o e⟩, q⟩
    · exact .inr ⟨x, e23 I _ hr, e⟩
  have st : CSt (C.inner scope cl L X vs) Z s.heap D x [] { s₂ with heap := H₃ } { s₂ with heap := H₃ } := by
    refine ⟨okI, fun b o _ e => e13 b o e, ⟨[], 0, eD, .nil⟩, ?_, rfl, rfl, rfl⟩
    rcases htgt with q | ⟨q, q'⟩
    · left; show (relabel scope C.env).names.lookup x = some .local; rw [relabel_kind, q]; rfl
    · right
      refine ⟨by show (relabel scope C.env).names.lookup x = some .cell; rw [relabel_kind, q]; rfl, ?_⟩
      obtain ⟨c, hc⟩ := Option.isSome_iff_exists.mp (q' (L + 1))
      have hcm : c ∈ (cellsFrom (L + 1) scope.names []).map (·.2) := List.mem_map.mpr ⟨_, mem_of_lookup hc, rfl⟩
      refine ⟨c, none, ?_, by show c ∈ X; rw [hX]; simp [List.mem_append, hcm], (own.empty _ _ (mem_of_lookup hc)).1, by rw [hZ]; simp [hcm], fun y _ ⟨d, hy⟩ e => ?_⟩
      · show (cellsFrom (L + 1) scope.names cl).lookup x = some c
        rw [cellsEq, hc]; rfl
      · obtain ⟨c', v, hc', ⟨oc, ec, _⟩, _⟩ := seen y d hy
        rw [hc'] at e; cases e
        rw [new1 _ (ownNew _ hcm).2] at ec; cases ec
  have loop : codeAny C.M C.A (.compLoop (.ListComp elt (⟨tgt, iter, ifs, 0⟩ :: rest) scope pos) 0 (.ref I) (.ref D) (C.inner scope cl L X vs).env) (compPost C.M C.A E use Q (.ref D) L) { s₂ with heap := H₃ } := by
    refine loop L X Z s.heap D I { s₂ with heap := H₃ } _ _ fx st itI fun s' en => ?_
    obtain ⟨ys, n, hl, r⟩ := en.acc
    obtain ⟨m', hm', _⟩ := (en.ok' (X.filter (· ≠ I)) fun b hb => by simpa using hb).ns
    exact fin D L s' (new1 _ d2) (new1 _ l2) ⟨m', hm'⟩ ⟨fun b o e => en.base b o (offZ b o e) e, en.gens.trans g₂.gens, en.drawn.trans g₂.drawn, en.os.trans g₂.os⟩ ⟨X, by rw [hX]; simp, fun b hb => by rw [hX]; simp [List.mem_append, hb], ys, n, hl, r⟩
  exact codeAny_compStart_list loop (it_self (X := (C.inner scope cl L X vs).X) itI loop)

theorem comp1_core {C : Cx} {elt iter : Expr} {x : Str} {px pos : Pos} {ifs : List Expr} {scope : Scope} {cl : List (Str × Addr)} {ds : List PyData} {p : PyData → Bool} {f : PyData → PyData} {vs : List (Str × PyData)} {use : Option (Value → Sem Unit)}
    {s : Shared} {Q : Value → Shared → Prop} {E : Value → Shared → Prop} (ok : C.ok s) (hcalm : C.calm = true)
    (src : Src C iter ds) (hfold : ∀ v, foldedSetIterable iter C.env v = pure v) (hclos : closureFor scope C.env = pure cl) (hkind : scope.kind = .function)
    (hnames : ∀ x ∈ scope.names, x.2 = .local → scope.names.lookup x.1 = some .local)
    (htgt : scope.names.lookup x = some .local ∨ (scope.names.lookup x = some .cell ∧ ∀ n, ((cellsFrom n scope.names []).lookup x).isSome = true))
    (hvis : SeesAll C scope cl vs) (hnx : vs.lookup x = none)
    (body : ∀ L X d, d ∈ ds → Trs ((C.inner scope cl L X vs).bind x d) ifs (p d) ∧ (p d = true → Ev ((C.inner scope cl L X vs).bind x d) elt (f d)))
    (hsz : ds.length ≤ sizeLine)
    (fin : ∀ D L s', s.heap.get? D = none → s.heap.get? L = none → (∃ m, s'.heap.Ns L m) → Grow C.G.top s s' → (∃ X, L ∈ X ∧ (∀ b ∈ C.X, b ∈ X) ∧ ∃ ys n, IsL s'.heap D (List.toArray ys) n ∧ RdAll X s'.heap ((ds.filter p).map f) ys) → compPost C.M C.A E use Q (.ref D) L (.ok .next) s') :
    wpAny C.M C.A (comprehension (.ListComp elt [⟨.Name x px, iter, ifs, 0⟩] scope pos) scope C.env (firstIterPos [⟨.Name x px, iter, ifs, 0⟩] pos) (newList []) false (eval iter C.env) use) Q E s :=
  comp_core ok hcalm src hfold hclos hkind hnames htgt hvis hnx (fun L X Z h₀ D I s₀ s R fx st it k => comp_loop1 (C := C.inner scope cl L X vs) fx (fun d hd => body L X d hd) st it hsz k) fin

end Mine
end
section
open PySem PySem.Spec PySem.SeqAt PySem.Calls PyProof.Rows
namespace Mine

theorem ok_notin {C : Cx} {s : Shared} {D : Addr} (ok : C.ok s) (h : s.heap.get? D = none) : D ∉ C.X := fun hb => by
  obtain ⟨⟨o, e⟩, _⟩ := ok.lo D hb
  rw [h] at e; cases e

/-- what a comprehension leaves behind once its names are let go -/
theorem comp_left {C : Cx} {s s' : Shared} {D L : Addr} {outs : List PyData} {h' : Heap} (ok : C.ok s) (hD : s.heap.get? D = none) (hL : s.heap.get? L = none) (hn : ∃ m, s'.heap.Ns L m) (g : Grow C.G.top s s')
    (ha : ∃ X, L ∈ X ∧ (∀ b ∈ C.X, b ∈ X) ∧ ∃ ys n, IsL s'.heap D (List.toArray ys) n ∧ RdAll X s'.heap outs ys) (hs : Heap.SameBut L s'.heap h') :
    Grow C.G.top s { s' with heap := h' } ∧ Rd C.X h' (.list outs) (.ref D) := by
  obtain ⟨X, hLX, hX, ys, n, hl, r⟩ := ha
  obtain ⟨m, hm⟩ := hn
  have keep : ∀ b o, b ≠ L → s'.heap.get? b = some o → h'.get? b = some o := fun b o hb e => (hs.2 b hb).trans e
  have hDL : D ≠ L := Ne.symm (ns_ne hm hl (.inl ⟨_, _, rfl⟩))
  refine ⟨⟨fun b o e => (g.ext b o e).step fun o' e' => .inl (keep b o' (fun q => ?_) e'), g.gens, g.drawn, g.os⟩, .list_ (ok_notin ok hD) (keep D _ hDL hl) (r.mono fun b o hb e => ⟨fun q => hb (hX b q), keep b o (fun q => hb (q ▸ hLX)) e⟩)⟩
  rw [q, hL] at e; cases e

theorem Ev.comp1 {C : Cx} {elt iter : Expr} {x : Str} {px pos : Pos} {ifs : List Expr} {scope : Scope} {cl : List (Str × Addr)} {ds : List PyData} (vs : List (Str × PyData)) (p : PyData → Bool) (f : PyData → PyData)
    (src : Src C iter ds)
    (hvis : SeesAll C scope cl vs)
    (body : ∀ L X d, d ∈ ds → Trs ((C.inner scope cl L X vs).bind x d) ifs (p d) ∧ (p d = true → Ev ((C.inner scope cl L X vs).bind x d) elt (f d)))
    (hsz : ds.length ≤ sizeLine)
    (hclos : closureFor scope C.env = pure cl := by rfl)
    (hfold : ∀ v, foldedSetIterable iter C.env v = pure v := by intro _; rfl) (hkind : scope.kind = .function := by rfl)
    (hnames : ∀ x ∈ scope.names, x.2 = .local → scope.names.lookup x.1 = some .local := by decide)
    (htgt : scope.names.lookup x = some .local ∨ (scope.names.lookup x = some .cell ∧ ∀ n, ((cellsFrom n scope.names []).lookup x).isSome = true) := by first | exact .inl rfl | exact .inr ⟨rfl, fun _ => rfl⟩) (hcalm : C.calm = true := by rfl) (hnx : vs.lookup x = Option.none := by rfl) :
    Ev C (.ListComp elt [⟨.Name x px, iter, ifs, 0⟩] scope pos) (.list ((ds.filter p).map f)) := fun s ok => by
  rw [eval_ListComp]
  refine comp1_core (use := Option.none) ok hcalm src hfold hclos hkind hnames htgt hvis hnx body hsz fun D L s' hD hL hn g ha => ?_
  obtain ⟨m, hm⟩ := hn
  exact ⟨m, hm, fun h' hs => comp_left ok hD hL ⟨m, hm⟩ g ha hs⟩

/-- a comprehension that takes all -/
theorem Ev.compMap {C : Cx} {elt iter : Expr} {x : Str} {px pos : Pos} {scope : Scope} {cl : List (Str × Addr)} {ds : List PyData} (vs : List (Str × PyData)) (f : PyData → PyData)
    (src : Src C iter ds)
    (hvis : SeesAll C scope cl vs)
    (body : ∀ L X d, d ∈ ds → Ev ((C.inner scope cl L X vs).bind x d) elt (f d))
    (hsz : ds.length ≤ sizeLine)
    (hclos : closureFor scope C.env = pure cl := by rfl)
    (hfold : ∀ v, foldedSetIterable iter C.env v = pure v := by intro _; rfl) (hkind : scope.kind = .function := by rfl)
    (hnames : ∀ x ∈ scope.names, x.2 = .local → scope.names.lookup x.1 = some .local := by decide)
    (htgt : scope.names.lookup x = some .local ∨ (scope.names.lookup x = some .cell ∧ ∀ n, ((cellsFrom n scope.names []).lookup x).isSome = true) := by first | exact .inl rfl | exact .inr ⟨rfl, fun _ => rfl⟩) (hcalm : C.calm = true := by rfl) (hnx : vs.lookup x = Option.none := by rfl) :
    Ev C (.ListComp elt [⟨.Name x px, iter, [], 0⟩] scope pos) (.list (ds.map f)) := by
  have h := Ev.comp1 (px := px) (pos := pos) (ifs := []) vs (fun _ => true) f src hvis (fun L X d hd => ⟨.nil, fun _ => body L X d hd⟩) hsz hclos hfold hkind hnames htgt hcalm hnx
  rwa [List.filter_eq_self.mpr (fun _ _ => rfl)] at h

/-- one argument, by its rule -/
theorem Ev.call1 {C : Cx} {fn : Str} {p pos : Pos} {e : Expr} {a d : PyData} {v : Value} (hn : NameV C fn v) (he : Ev C e a)
    (hw : ∀ (t : Sem Value) (s : Shared) (Q : Value → Shared → Prop) (E : Value → Shared → Prop), wpAny C.M C.A t (fun u s₁ => wpAny C.M C.A (call v [u]) Q E s₁) E s → wpAny C.M C.A (callWith pos v [] [(false, t)] []) Q E s)
    (h : ∀ s u, C.ok s → Rd C.X s.heap a u → wpAny C.M C.A (call v [u]) (fun v s' => Grow C.G.top s s' ∧ Rd C.X s'.heap d v) (fun _ _ => False) s)
    (hs : starEach [e] C.env = [(false, eval e C.env)] := by rfl) : Ev C (.Call (.Name fn p) [e] [] pos) d := fun s ok => by
  refine Call_Name1 (hn s p _ _ ok (hw _ _ _ _ (he.use ok fun u s₁ g₁ ok₁ r => ?_))) hs
  exact wpAny_mono (h s₁ u ok₁ r) (fun x s₂ y => ⟨g₁.trans y.1, y.2⟩) fun _ _ x => x
theorem with_builtin1 {C : Cx} {id : String} {pos : Pos} (t : Sem Value) (s : Shared) (Q : Value → Shared → Prop) (E : Value → Shared → Prop) (h : wpAny C.M C.A t (fun u s₁ => wpAny C.M C.A (call (.builtin id) [u]) Q E s₁) E s) :
    wpAny C.M C.A (callWith pos (.builtin id) [] [(false, t)] []) Q E s :=
  callWith_builtin rfl (evalArgs_plain (spliced_cons (wpAny_mono h (fun _ _ h₁ => spliced_nil h₁) fun _ _ e => e)))
theorem with_type1 {C : Cx} {T : String} {pos : Pos} (t : Sem Value) (s : Shared) (Q : Value → Shared → Prop) (E : Value → Shared → Prop) (h : wpAny C.M C.A t (fun u s₁ => wpAny C.M C.A (call (.type T) [u]) Q E s₁) E s) :
    wpAny C.M C.A (callWith pos (.type T) [] [(false, t)] []) Q E s := PySem.callWith_type1 h

theorem Ev.len {C : Cx} {p pos : Pos} {e : Expr} {ds : List PyData} (hn : NameV C "len" (.builtin "len")) (he : Ev C e (.list ds)) (hsz : ds.length < 2 ^ 63) (hs : starEach [e] C.env = [(false, eval e C.env)] := by rfl) :
    Ev C (.Call (.Name "len" p) [e] [] pos) (.int ds.length) :=
  .call1 hn he with_builtin1 (fun s u ok r => by
    obtain ⟨a, vs, n, rfl, _, hl, ra⟩ := r.list_inv
    have hlen := ra.length
    refine call_len_list (isList_of hl) (by simp; omega) ⟨.tok _ _, ?_⟩
    rw [show ((List.toArray vs).size : Int) = ds.length by simp [hlen]]
    exact .int_) hs
theorem Ev.strOf {C : Cx} {p pos : Pos} {e : Expr} {k : Int} (hn : NameV C "str" (.type "str")) (he : Ev C e (.int k)) (hk : k.natAbs.log2 < 1920) (hs : starEach [e] C.env = [(false, eval e C.env)] := by rfl) :
    Ev C (.Call (.Name "str" p) [e] [] pos) (.str (toString k)) :=
  .call1 hn he with_type1 (fun s u ok r => by
    obtain ⟨t, rfl⟩ := r.int_inv
    exact P.str_of_int hk ⟨.tok _ _, .str_⟩) hs
theorem Src.range {C : Cx} {p pos : Pos} {e : Expr} {k : Nat} (hn : NameV C "range" (.type "range")) (he : Ev C e (.int k)) (hk : k < 2 ^ 62) (hs : starEach [e] C.env = [(false, eval e C.env)] := by rfl) :
    Src C (.Call (.Name "range" p) [e] [] pos) ((List.range k).map fun (j : Nat) => .int (j : Int)) := fun s ok => by
  refine Call_Name1 (hn s p _ _ ok (with_type1 _ _ _ _ (he.use ok fun u s₁ g₁ ok₁ r => ?_))) hs
  obtain ⟨t, rfl⟩ := r.int_inv
  refine call_range_1 ?_
  have hsm : Builtin.Range.small 0 k 1 = true := small_one (by decide) (by decide) (by omega) (by omega)
  refine wpAny_pyIter_range (a := 0) (b := k) (c := 1) (Heap.get?_push_size _ rfl) hsm ?_
  have g : Grow C.G.top s₁ { s₁ with heap := (s₁.heap.push { cls := .type "range", data := .fields #[.int 0 s₁.toks, .int k t, .int 1 (s₁.toks + 1)] }).push { cls := .type "range_iterator", data := .fields #[rawInt 0, rawInt (Builtin.Range.rangeSize 0 k 1), rawInt 1] }, toks := s₁.toks + 1 + 1 } :=
    ⟨.of fun b o e => Heap.get?_push_of_some _ (Heap.get?_push_of_some _ e), rfl, rfl, rfl⟩
  refine ⟨_, rfl, ?_, g₁.trans g, .inr ⟨0, ?_, ?_⟩⟩
  · rw [Heap.size_push]
    refine g₁.ext.none ?_
    cases e : s₁.heap.get? (s₁.heap.objs.size + 1) with
    | none => rfl
    | some o => exact absurd (Heap.lt_size e) (by simp)
  · have : Builtin.Range.rangeSize 0 k 1 = (((List.range k).map fun (j : Nat) => PyData.int (j : Int)).length : Int) := by
      rw [rangeSize_one]; simp; omega
    rw [← this]
    exact Heap.get?_push_size _ rfl
  · simp
end Mine
end
section
open PySem PySem.Spec PySem.SeqAt PySem.Calls PyProof.Rows
namespace Mine

section
variable {prog : Program} {w : World} {A : Around} {R : Result → Shared → Prop} {s : Shared}
noncomputable abbrev comp2 (elt : Expr) (x y : Str) (px py : Pos) (i1 i2 : Expr) (ifs : List Expr) (scope : Scope) (pos : Pos) : Expr := .ListComp elt [⟨.Name x px, i1, [], 0⟩, ⟨.Name y py, i2, ifs, 0⟩] scope pos

theorem compTurn_nest (elt : Expr) (x y : Str) (px py : Pos) (i1 i2 : Expr) (ifs : List Expr) (scope : Scope) (pos : Pos) (it acc : Value) (env : Env) :
    compTurn (comp2 elt x y px py i1 i2 ifs scope pos) 0 it acc env = (standAt i1.pos >>= fun _ => pyNext it >>= fun r => match r with
      | none => pure (.done .next)
      | some v => letOwnedTupleGo (.Name x px) it v >>= fun _ => assign (.Name x px) env v >>= fun _ =>
        (eval i2 env >>= fun z => standAt i2.pos >>= fun _ => foldedSetIterable i2 env z >>= fun z => holding [z] (pyIter z) >>= fun j => runOwn (.compStart (comp2 elt x y px py i1 i2 ifs scope pos) 1 j acc env) env >>= fun _ =>
          again (.compLoop (comp2 elt x y px py i1 i2 ifs scope pos) 0 it acc env))) := by
  rfl
theorem compTurn_last (elt : Expr) (x y : Str) (px py : Pos) (i1 i2 : Expr) (ifs : List Expr) (scope : Scope) (pos : Pos) (it acc : Value) (env : Env) :
    compTurn (comp2 elt x y px py i1 i2 ifs scope pos) 1 it acc env = (standAt i2.pos >>= fun _ => pyNext it >>= fun r => match r with
      | none => pure (.done .next)
      | some v => letOwnedTupleGo (.Name y py) it v >>= fun _ => assign (.Name y py) env v >>= fun _ =>
        (forIn ifs true fun c r => if r = true then do let ok ← isTrue c env (eval c env); pure (ForInStep.yield ok) else pure (ForInStep.yield r)) >>= fun ok =>
        if ok = true then (eval elt env >>= fun x => call (.builtin "list.append") [acc, x] >>= fun _ => pure ()) >>= fun _ => again (.compLoop (comp2 elt x y px py i1 i2 ifs scope pos) 1 it acc env)
        else again (.compLoop (comp2 elt x y px py i1 i2 ifs scope pos) 1 it acc env)) := by
  rfl

theorem loop_last {elt : Expr} {x y : Str} {px py : Pos} {i1 i2 : Expr} {ifs : List Expr} {scope : Scope} {pos : Pos} {it acc : Value} {env : Env} (I : Nat → Shared → Prop)
    (turn : ∀ n s, I n s → wpAny (model prog w) A (pyNext it) (fun r s₁ => match r with
      | none => R (.ok .next) s₁
      | some v => wpAny (model prog w) A (assign (.Name y py) env v) (fun _ s₂ =>
          wpAny (model prog w) A (forIn ifs true fun c r => if r = true then do let ok ← isTrue c env (eval c env); pure (ForInStep.yield ok) else pure (ForInStep.yield r)) (fun ok s₃ =>
            if ok = true then wpAny (model prog w) A (eval elt env) (fun x s₄ =>
              wpAny (model prog w) A (call (.builtin "list.append") [acc, x]) (fun _ s₅ => ∃ m, m < n ∧ I m s₅) (fun _ _ => False) s₄) (fun _ _ => False) s₃
            else ∃ m, m < n ∧ I m s₃) (fun _ _ => False) s₂) (fun _ _ => False) s₁) (fun _ _ => False) s)
    (n : Nat) (h : I n s) :
    codeAny (model prog w) A (.compLoop (comp2 elt x y px py i1 i2 ifs scope pos) 1 it acc env) R s := by
  refine codeAny_loop rfl I (fun n s hI => ?_) n h
  show wpAny _ A ((compTurn (comp2 elt x y px py i1 i2 ifs scope pos) 1 it acc env).onRaise (fun x => do noteFrame x env; theTreesLotGoes x)) _ _ s
  refine wpAny_noted ?_
  rw [compTurn_last]
  refine wpAny_bind (wpAny_standAt (wpAny_bind (wpAny_mono (turn n s hI) (fun r s₁ h₁ => ?_) fun _ _ h' => h'.elim)))
  cases r with
  | none => exact wpAny_pure h₁
  | some v =>
    refine wpAny_bind (wpAny_of_eq (a := ()) rfl ?_)
    refine wpAny_bind (wpAny_mono h₁ (fun _ s₂ h₂ => wpAny_bind (wpAny_mono h₂ (fun ok s₃ h₃ => ?_) fun _ _ h' => h'.elim)) fun _ _ h' => h'.elim)
    cases ok with
    | false => exact wpAny_pure ⟨rfl, h₃⟩
    | true =>
      exact wpAny_bind (wpAny_bind (wpAny_mono h₃ (fun x s₄ h₄ => wpAny_bind (wpAny_mono h₄ (fun _ s₅ h₅ => wpAny_pure (wpAny_pure ⟨rfl, h₅⟩)) fun _ _ h' => h'.elim)) fun _ _ h' => h'.elim))

theorem loop_nest {elt : Expr} {x y : Str} {px py : Pos} {i1 i2 : Expr} {ifs : List Expr} {scope : Scope} {pos : Pos} {it acc : Value} {env : Env} (hf : ∀ v, foldedSetIterable i2 env v = pure v) (I : Nat → Shared → Prop)
    (turn : ∀ n s, I n s → wpAny (model prog w) A (pyNext it) (fun r s₁ => match r with
      | none => R (.ok .next) s₁
      | some v => wpAny (model prog w) A (assign (.Name x px) env v) (fun _ s₂ =>
          wpAny (model prog w) A (eval i2 env) (fun z s₃ => wpAny (model prog w) A (pyIter z) (fun j s₄ =>
            codeAny (model prog w) A (.compStart (comp2 elt x y px py i1 i2 ifs scope pos) 1 j acc env) (fun r s' => match r with | .ok _ => ∃ m, m < n ∧ I m s' | .error _ => False) s₄) (fun _ _ => False) s₃) (fun _ _ => False) s₂) (fun _ _ => False) s₁) (fun _ _ => False) s)
    (n : Nat) (h : I n s) :
    codeAny (model prog w) A (.compLoop (comp2 elt x y px py i1 i2 ifs scope pos) 0 it acc env) R s := by
  refine codeAny_loop rfl I (fun n s hI => ?_) n h
  show wpAny _ A ((compTurn (comp2 elt x y px py i1 i2 ifs scope pos) 0 it acc env).onRaise (fun x => do noteFrame x env; theTreesLotGoes x)) _ _ s
  refine wpAny_noted ?_
  rw [compTurn_nest]
  refine wpAny_bind (wpAny_standAt (wpAny_bind (wpAny_mono (turn n s hI) (fun r s₁ h₁ => ?_) fun _ _ h' => h'.elim)))
  cases r with
  | none => exact wpAny_pure h₁
  | some v =>
    refine wpAny_bind (wpAny_of_eq (a := ()) rfl ?_)
    refine wpAny_bind (wpAny_mono h₁ (fun _ s₂ h₂ => ?_) fun _ _ h' => h'.elim)
    refine wpAny_bind (wpAny_mono h₂ (fun z s₃ h₃ => wpAny_bind (wpAny_standAt (wpAny_bind (wpAny_of_eq (hf z) (wpAny_bind (wpAny_holding (wpAny_mono h₃ (fun j s₄ h₄ => ?_) fun _ _ h' => h'.elim))))))) fun _ _ h' => h'.elim)
    refine wpAny_bind (wpAny_runOwn (codeAny_mono h₄ fun r s' hr => ?_))
    cases r with
    | ok f => exact wpAny_pure ⟨rfl, hr⟩
    | error x => exact hr.elim

theorem start_nest {elt : Expr} {x y : Str} {px py : Pos} {i1 i2 : Expr} {ifs : List Expr} {scope : Scope} {pos : Pos} {it acc : Value} {env : Env}
    (h0 : codeAny (model prog w) A (.compLoop (comp2 elt x y px py i1 i2 ifs scope pos) 1 it acc env) R s)
    (h : wpAny (model prog w) A (pyIter it) (fun it' s' => codeAny (model prog w) A (.compLoop (comp2 elt x y px py i1 i2 ifs scope pos) 1 it' acc env) R s') (fun _ _ => False) s) :
    codeAny (model prog w) A (.compStart (comp2 elt x y px py i1 i2 ifs scope pos) 1 it acc env) R s := by
  refine codeAny_of_tree ?_
  show wpAny _ _ ((compStart (comp2 elt x y px py i1 i2 ifs scope pos) 1 it acc env).onRaise (fun x => do noteFrame x env; standAt theWindowsPlace)) _ _ s
  refine wpAny_notedAt ?_
  unfold compStart
  show wpAny _ _ (ask >>= _) _ _ s
  refine wpAny_bind (wpAny_askSetting (wpAny_ite ?_))
  split
  · first
      | exact wpAny_bind (wpAny_pure (wpAny_pure (And.intro rfl h0)))
      | exact wpAny_pure (And.intro rfl h0)
  · refine wpAny_bind (wpAny_rule ?_)
    show wpAny _ _ (standAt i2.pos >>= _) _ _ s
    exact wpAny_bind (wpAny_standAt (wpAny_bind (wpAny_mono h (fun it' s' h' => wpAny_pure (And.intro rfl h')) fun _ _ x => x.elim)))
end
end Mine
end
section
open PySem PySem.Spec PySem.SeqAt PySem.Calls PyProof.Rows
namespace Mine

theorem ItAt.fields {X : List Addr} {h : Heap} {I : Addr} {ds : List PyData} (it : ItAt X h I ds) : ∃ o vs, h.get? I = some o ∧ o.data = .fields vs := by
  rcases it with ⟨l, i, vs, n, all, ⟨o, ho, hc, hd⟩, _⟩ | ⟨x, hr, _⟩
  · exact ⟨o, _, ho, hd⟩
  · exact ⟨_, _, hr, rfl⟩
theorem ItAt.monoZ {X X' : List Addr} {h h' : Heap} {I : Addr} {ds : List PyData} (it : ItAt X h I ds) (k : ∀ b o xs n, b ∉ X → h.get? b = some o → o.data = .seq xs n → b ∉ X' ∧ h'.get? b = some o) (kI : ∀ o, h.get? I = some o → h'.get? I = some o) : ItAt X' h' I ds := by
  rcases it with ⟨l, i, vs, n, all, hi, hl, hL, r, q⟩ | ⟨x, hr, e⟩
  · exact .inl ⟨l, i, vs, n, all, hi.at kI, (k l _ _ _ hl hL rfl).1, (k l _ _ _ hl hL rfl).2, r.monoS k, q⟩
  · exact .inr ⟨x, kI _ hr, e⟩
theorem ItAt.hideSelf {X : List Addr} {h : Heap} {I : Addr} {ds : List PyData} (it : ItAt X h I ds) : ItAt (I :: X) h I ds := by
  obtain ⟨o, vs, e, d⟩ := it.fields
  refine it.monoZ (fun b o' xs n hb e' d' => ⟨fun hm => ?_, e'⟩) fun _ e => e
  rcases List.mem_cons.mp hm with q | hm
  · rw [q, e] at e'; cases e'; rw [d] at d'; cases d'
  · exact hb hm

theorem Cx.ok.hide {C : Cx} {s s' : Shared} {a : Addr} {o : Obj} (h : C.ok s) (ha : s.heap.get? a = none) (g : Grow C.G.top s s') (ho : s'.heap.get? a = some o) : ({ C with X := a :: C.X, muts := [], its := [], facts := [] } : Cx).ok s' := by
  obtain ⟨m, hm, hv⟩ := h.ns
  refine ⟨top_kept h.g g.ext, h.fn, h.gl, h.bl, fun b hb => ?_, h.room, h.hand, h.dep, h.fr.ext g.ext, fun _ _ hx => (nomatch hx), fun _ _ hx => (nomatch hx), fun _ _ hx => (nomatch hx), m, g.ext.ns hm, fun x d hx => ?_⟩
  · rcases List.mem_cons.mp hb with q | hb
    · subst q
      refine ⟨⟨o, ho⟩, ?_⟩
      cases e : C.G.top.get? b with
      | none => rfl
      | some o => rw [h.g _ _ e] at ha; cases ha
    · obtain ⟨⟨x, e⟩, n⟩ := h.lo b hb; exact ⟨(g.ext _ _ e).some, n⟩
  · obtain ⟨v, r, i⟩ := hv x d hx
    refine ⟨v, r.monoS fun b ob xs n hb e hd => ⟨fun hm => ?_, g.ext.seq e hd⟩, i.ext g.ext⟩
    rcases List.mem_cons.mp hm with q | hm
    · rw [q, ha] at e; cases e
    · exact hb hm

theorem ok_nil {C : Cx} {s : Shared} (h : C.muts = []) (h' : C.its = []) (h'' : C.facts = []) (ok : ({ C with muts := [], its := [], facts := [] } : Cx).ok s) : C.ok s := by
  obtain ⟨p, w, A, env, X, G, vars, muts, its, facts, calm⟩ := C
  cases h; cases h'; cases h''; exact ok
theorem comp_inner {C : Cx} {Z : List Addr} {h₀ : Heap} {D I : Addr} {x y : Str} {px py pos : Pos} {elt i1 i2 : Expr} {ifs : List Expr} {scope : Scope} {R : Result → Shared → Prop} {s₀ s : Shared} {ds outs : List PyData} {p : PyData → Bool} {f : PyData → PyData}
    (fx : CFix C Z D I y) (body : ∀ d ∈ ds, Trs (C.bind y d) ifs (p d) ∧ (p d = true → Ev (C.bind y d) elt (f d)))
    (st : CSt C Z h₀ D y outs s₀ s) (it : ItAt C.X s.heap I ds) (hsz : outs.length + ds.length ≤ sizeLine)
    (k : ∀ s', CEnd C Z h₀ D I (outs ++ (ds.filter p).map f) s₀ s' → R (.ok .next) s') :
    codeAny C.M C.A (.compLoop (comp2 elt x y px py i1 i2 ifs scope pos) 1 (.ref I) (.ref D) C.env) R s := by
  refine loop_last (fun n s => ∃ ds' outs', n = ds'.length ∧ CSt C Z h₀ D y outs' s₀ s ∧ ItAt C.X s.heap I ds' ∧ (∀ d ∈ ds', d ∈ ds) ∧ outs' ++ (ds'.filter p).map f = outs ++ (ds.filter p).map f ∧ outs'.length + ds'.length ≤ sizeLine) ?_ ds.length
    ⟨ds, outs, rfl, st, it, fun d h => h, rfl, hsz⟩
  rintro n s ⟨ds', outs', rfl, st, it, hsub, heq, hlen⟩
  cases ds' with
  | nil =>
    refine it_end (st.ok.hand fx.calm) it fun h' hk => k _ ?_
    obtain ⟨ys, n, hl, r⟩ := st.acc
    obtain ⟨oI, eI, sI⟩ := it.soft
    simp only [List.filter_nil, List.map_nil, List.append_nil] at heq
    subst heq
    exact ⟨fun b ob hb e => (st.base b ob hb e).step fun o' e' => .inl (hk b o' (fun q => hb (q ▸ fx.iZ)) e'), ⟨ys, n, hk D _ (Ne.symm fx.ne) hl, r.touch fx.iX hk⟩, fun X hX => st.ok.drop fx.iX eI sI hk hX, st.gens, st.drawn, st.os⟩
  | cons d ds' =>
    obtain ⟨oI, eI, sI⟩ := it.soft
    obtain ⟨ht, he⟩ := body d (hsub d (.head _))
    refine it_next fx.iX it fun v s₁ rv it₁ tn => ?_
    have st₁ := st.turnI fx eI sI tn
    refine st₁.assign fx it₁ rv fun s₂ ok₂ st₂ it₂ => ?_
    refine ht.use ok₂ fun s₃ g₃ ok₃ => ?_
    have st₃ := st₂.grow g₃
    have it₃ := it₂.ext g₃.ext
    have hsub' : ∀ d' ∈ ds', d' ∈ ds := fun d' h => hsub d' (.tail _ h)
    simp only [List.length_cons] at hlen
    cases hp : p d with
    | false =>
      rw [if_neg (by simp)]
      exact ⟨ds'.length, by simp, ds', outs', rfl, st₃, it₃, hsub', by simpa [hp] using heq, by omega⟩
    | true =>
      rw [if_pos rfl]
      refine (he hp).use ok₃ fun y s₄ g₄ ok₄ ry => ?_
      refine (st₃.grow g₄).emit fx (it₃.ext g₄.ext) ry (by omega) fun s₅ st₅ it₅ => ?_
      exact ⟨ds'.length, by simp, ds', outs' ++ [f d], rfl, st₅, it₅, hsub', by simpa [hp] using heq, by simp; omega⟩

theorem comp_loop2 {C : Cx} {Z : List Addr} {h₀ : Heap} {D I : Addr} {x y : Str} {px py pos : Pos} {elt i1 i2 : Expr} {ifs : List Expr} {scope : Scope} {R : Result → Shared → Prop} {s₀ s : Shared} {ds : List PyData} {ds2 : PyData → List PyData} {p : PyData → PyData → Bool} {f : PyData → PyData → PyData} {N : Nat}
    (fx : CFix C Z D I x) (hx : C.env.kindOf x = some .local) (hy : C.env.kindOf y = some .local) (hxy : (y == x) = false) (hvy : C.vars.lookup y = none) (hfs : C.facts = [])
    (hf : ∀ v, foldedSetIterable i2 C.env v = pure v)
    (src2 : ∀ d ∈ ds, Src (C.bind x d) i2 (ds2 d))
    (body : ∀ d ∈ ds, ∀ X e, e ∈ ds2 d → Trs ((({ C with X := X, muts := [], its := [], facts := [] } : Cx).bind x d).bind y e) ifs (p d e) ∧ (p d e = true → Ev ((({ C with X := X, muts := [], its := [], facts := [] } : Cx).bind x d).bind y e) elt (f d e)))
    (st : CSt C Z h₀ D x [] s₀ s) (it : ItAt C.X s.heap I ds) (hN : ∀ d ∈ ds, (ds2 d).length ≤ N) (hsz : ds.length * N ≤ sizeLine)
    (k : ∀ s', CEnd C Z h₀ D I (ds.flatMap fun d => ((ds2 d).filter (p d)).map (f d)) s₀ s' → R (.ok .next) s') :
    codeAny C.M C.A (.compLoop (comp2 elt x y px py i1 i2 ifs scope pos) 0 (.ref I) (.ref D) C.env) R s := by
  refine loop_nest hf (fun n s => ∃ ds' outs', n = ds'.length ∧ CSt C Z h₀ D x outs' s₀ s ∧ ItAt C.X s.heap I ds' ∧ (∀ d ∈ ds', d ∈ ds) ∧ outs' ++ (ds'.flatMap fun d => ((ds2 d).filter (p d)).map (f d)) = (ds.flatMap fun d => ((ds2 d).filter (p d)).map (f d)) ∧ outs'.length + ds'.length * N ≤ sizeLine) ?_ ds.length
    ⟨ds, [], rfl, st, it, fun d h => h, rfl, by simpa using hsz⟩
  rintro n s ⟨ds', outs', rfl, st, it, hsub, heq, hlen⟩
  cases ds' with
  | nil =>
    refine it_end (st.ok.hand fx.calm) it fun h' hk => k _ ?_
    obtain ⟨ys, n, hl, r⟩ := st.acc
    obtain ⟨oI, eI, sI⟩ := it.soft
    simp only [List.flatMap_nil, List.append_nil] at heq
    subst heq
    exact ⟨fun b ob hb e => (st.base b ob hb e).step fun o' e' => .inl (hk b o' (fun q => hb (q ▸ fx.iZ)) e'), ⟨ys, n, hk D _ (Ne.symm fx.ne) hl, r.touch fx.iX hk⟩, fun X hX => st.ok.drop fx.iX eI sI hk hX, st.gens, st.drawn, st.os⟩
  | cons d ds' =>
    obtain ⟨oI, eI, sI⟩ := it.soft
    have hd := hsub d (.head _)
    have hsub' : ∀ d' ∈ ds', d' ∈ ds := fun d' h => hsub d' (.tail _ h)
    refine it_next fx.iX it fun v s₁ rv it₁ tn => ?_
    have st₁ := st.turnI fx eI sI tn
    refine st₁.assign fx it₁ rv fun s₂ ok₂ st₂ it₂ => ?_
    refine wpAny_mono (src2 d hd s₂ ok₂) (fun z s₃ h₃ => wpAny_mono h₃ (fun j s₄ h₄ => ?_) fun _ _ e => e) fun _ _ e => e
    obtain ⟨J, rfl, hJ, g₄, itJ⟩ := h₄
    obtain ⟨oJ, eJ, sJ⟩ := itJ.soft
    have okJ : ({ C.bind x d with X := J :: C.X, muts := [], its := [], facts := [] } : Cx).ok s₄ := ok₂.hide hJ g₄ eJ
    obtain ⟨ys, n, hl, ra⟩ := st₂.acc
    obtain ⟨m, hm, _⟩ := ok₂.ns
    have hJX : ∀ b ∈ C.X, b ≠ J := fun b hb q => by
      obtain ⟨⟨o, e⟩, _⟩ := ok₂.lo b hb
      rw [q, hJ] at e; cases e
    have fxJ : CFix ({ C.bind x d with X := J :: C.X, muts := [], its := [], facts := [] } : Cx) [J, D, C.env.locals] D J y :=
      ⟨.tail _ fx.dX, .head _, .tail _ fx.lX, fun q => hJX D fx.dX q.symm, by simp, by simp, by simp, rfl, rfl, by show ((x, d) :: C.vars).lookup y = none; rw [lookup_cons, hxy]; exact hvy, fx.calm⟩
    have stJ : CSt ({ C.bind x d with X := J :: C.X, muts := [], its := [], facts := [] } : Cx) [J, D, C.env.locals] s₄.heap D y outs' s₀ s₄ := by
      refine ⟨okJ, fun b o _ e => .inl e, ⟨ys, n, g₄.ext.list hl, ra.monoS fun b o xs n hb e hd => ⟨fun hm => ?_, g₄.ext.seq e hd⟩⟩, .inl hy, g₄.gens.trans st₂.gens, g₄.drawn.trans st₂.drawn, g₄.os.trans st₂.os⟩
      rcases List.mem_cons.mp hm with q | hm
      · rw [q, hJ] at e; cases e
      · exact hb hm
    simp only [List.length_cons, Nat.add_mul, Nat.one_mul] at hlen
    have hNd := hN d hd
    have inner : codeAny C.M C.A (.compLoop (comp2 elt x y px py i1 i2 ifs scope pos) 1 (.ref J) (.ref D) C.env) (fun r s' => match r with
        | .ok _ => ∃ m, m < (d :: ds').length ∧ ∃ ds' outs', m = ds'.length ∧ CSt C Z h₀ D x outs' s₀ s' ∧ ItAt C.X s'.heap I ds' ∧ (∀ d ∈ ds', d ∈ ds) ∧ outs' ++ (ds'.flatMap fun d => ((ds2 d).filter (p d)).map (f d)) = (ds.flatMap fun d => ((ds2 d).filter (p d)).map (f d)) ∧ outs'.length + ds'.length * N ≤ sizeLine
        | .error _ => False) s₄ := by
      refine comp_inner (C := { C.bind x d with X := J :: C.X, muts := [], its := [], facts := [] }) (p := p d) (f := f d) fxJ (fun e he => body d hd (J :: C.X) e he) stJ itJ.hideSelf (by omega) fun s' en => ?_
      have okE : (C.bind x d).ok s' := ok_nil fx.ms fx.its hfs (en.ok' C.X fun b hb => ⟨.tail _ hb, hJX b hb⟩)
      obtain ⟨ys', n', hl', ra'⟩ := en.acc
      have keep : ∀ b o, b ≠ D → b ≠ C.env.locals → s₂.heap.get? b = some o → Kept C.G.top s'.heap b o := fun b o h1 h2 e => by
        refine (g₄.ext b o e).step fun o' e' => en.base b o' (fun hm => ?_) e'
        simp only [List.mem_cons, List.not_mem_nil, or_false] at hm
        rcases hm with q | q | q
        · rw [q, hJ] at e; cases e
        · exact h1 q
        · exact h2 q
      obtain ⟨oI₂, eI₂, sI₂⟩ := it₂.soft
      refine ⟨ds'.length, by simp, ds', outs' ++ ((ds2 d).filter (p d)).map (f d), rfl, ⟨okE.less (vs := C.vars) (lookup_new fx.new), fun b o hb e => ?_, ⟨ys', n', hl', ra'.mono fun b o hb e => ⟨fun q => hb (.tail _ q), e⟩⟩, .inl hx, en.gens, en.drawn, en.os⟩, ?_, hsub', ?_, ?_⟩
      · exact (st₂.base b o hb e).step fun o' e' => keep b o' (fun q => hb (q ▸ fx.dZ)) (fun q => hb (q ▸ fx.lZ)) e'
      · exact it₂.monoZ (fun b o xs n hb e hd => ⟨hb, (keep b o (fun q => hb (q ▸ fx.dX)) (fun q => hb (q ▸ fx.lX)) e).exact fun es n q => by rw [hd] at q; cases q⟩) fun o e => (keep I o fx.ne (Ne.symm (ns_ne hm eI₂ sI₂)) e).exact fun es n q => by
          rw [eI₂] at e; cases e
          rcases sI₂ with ⟨_, _, q'⟩ | ⟨_, q'⟩ <;> rw [q'] at q <;> cases q
      · rw [← heq]; simp [List.append_assoc]
      · have h1 : (((ds2 d).filter (p d)).map (f d)).length ≤ N := by
          rw [List.length_map]; exact Nat.le_trans (List.length_filter_le _ _) hNd
        rw [List.length_append]; omega
    exact start_nest inner (it_self (X := C.X) itJ inner)

theorem Ev.comp2 {C : Cx} {elt i1 i2 : Expr} {x y : Str} {px py pos : Pos} {ifs : List Expr} {scope : Scope} {cl : List (Str × Addr)} {ds : List PyData} (vs : List (Str × PyData)) (ds2 : PyData → List PyData) (p : PyData → PyData → Bool) (f : PyData → PyData → PyData) (N : Nat)
    (src : Src C i1 ds)
    (hvis : SeesAll C scope cl vs)
    (src2 : ∀ L X d, d ∈ ds → Src ((C.inner scope cl L X vs).bind x d) i2 (ds2 d))
    (body : ∀ L X d e, d ∈ ds → e ∈ ds2 d → Trs (((C.inner scope cl L X vs).bind x d).bind y e) ifs (p d e) ∧ (p d e = true → Ev (((C.inner scope cl L X vs).bind x d).bind y e) elt (f d e)))
    (hN : ∀ d ∈ ds, (ds2 d).length ≤ N) (hsz : ds.length * N ≤ sizeLine) (hxy : (y == x) = false := by decide)
    (hclos : closureFor scope C.env = pure cl := by rfl)
    (hfold : ∀ v, foldedSetIterable i1 C.env v = pure v := by intro _; rfl) (hfold2 : ∀ (env : Env) v, foldedSetIterable i2 env v = pure v := by intro _ _; rfl) (hkind : scope.kind = .function := by rfl)
    (hnames : ∀ x ∈ scope.names, x.2 = .local → scope.names.lookup x.1 = some .local := by decide)
    (hx : scope.names.lookup x = some .local := by rfl) (hy : scope.names.lookup y = some .local := by rfl) (hcalm : C.calm = true := by rfl) (hnx : vs.lookup x = Option.none := by rfl) (hny : vs.lookup y = Option.none := by rfl) :
    Ev C (comp2 elt x y px py i1 i2 ifs scope pos) (.list (ds.flatMap fun d => ((ds2 d).filter (p d)).map (f d))) := fun s ok => by
  rw [eval_ListComp]
  refine comp_core (use := Option.none) (outs := ds.flatMap fun d => ((ds2 d).filter (p d)).map (f d)) ok hcalm src hfold hclos hkind hnames (.inl hx) hvis hnx (fun L X Z h₀ D I s₀ s R fx st it k => ?_) fun D L s' hD hL hn g ha => ?_
  · refine comp_loop2 (C := C.inner scope cl L X vs) fx ?_ ?_ hxy hny rfl (fun v => hfold2 _ v) (fun d hd => src2 L X d hd) (fun d hd X' e he => body L X' d e hd he) st it hN hsz k
    · show (relabel scope C.env).names.lookup x = some .local; rw [relabel_kind, hx]; rfl
    · show (relabel scope C.env).names.lookup y = some .local; rw [relabel_kind, hy]; rfl
  · obtain ⟨m, hm⟩ := hn
    exact ⟨m, hm, fun h' hs => comp_left ok hD hL ⟨m, hm⟩ g ha hs⟩
end Mine
end
section
open PySem PySem.Spec PySem.SeqAt PySem.Calls PyProof.Rows
namespace Mine

theorem Grow.turn {T : Heap} {s₀ s s' : Shared} {a : Addr} (g : Grow T s₀ s) (t : Turn a s s') (h : s₀.heap.get? a = none) : Grow T s₀ s' :=
  ⟨fun b o e => (g.ext b o e).step fun o' e' => .inl (t.keep b o' (fun q => by rw [q, h] at e; cases e) e'), t.gens.trans g.gens, t.drawn.trans g.drawn, t.os.trans g.os⟩

/-- the records stay -/
noncomputable def Recs (s s' : Shared) : Prop := ∀ b o vs, s.heap.get? b = some o → o.data = .fields vs → s'.heap.get? b = some o
theorem Recs.refl (s : Shared) : Recs s s := fun _ _ _ e _ => e
theorem Recs.trans {a b c : Shared} (x : Recs a b) (y : Recs b c) : Recs a c := fun i o vs e d => y i o vs (x i o vs e d) d
theorem Grow.recs {T : Heap} {s s' : Shared} (g : Grow T s s') : Recs s s' := fun b o vs e d => g.ext.fields e d

/-- inside a call that began at s₀ -/
structure FSt (C : Cx) (s₀ s : Shared) : Prop where
  ok : C.ok s
  grow : Grow C.G.top s₀ s
  lX : C.env.locals ∈ C.X
  l0 : s₀.heap.get? C.env.locals = none
  mn : (C.muts.map (·.1)).Nodup
  m0 : ∀ D ds, (D, ds) ∈ C.muts → s₀.heap.get? D = none
  im : (C.its.flatMap (·.1)).Nodup
  i0 : ∀ F P, (F, P) ∈ C.its → ∀ b ∈ F, s₀.heap.get? b = none
  cl : ∀ n c, C.env.cells.lookup n = some c → c ∈ C.X ∧ (∃ v₀, s.heap.IsCell c v₀) ∧ s₀.heap.get? c = none
  ap : ∀ n n' c, C.env.cells.lookup n = some c → C.env.cells.lookup n' = some c → n = n'

theorem FSt.step {C : Cx} {s₀ s s' : Shared} (h : FSt C s₀ s) (g : Grow C.G.top s s') : FSt C s₀ s' :=
  ⟨h.ok.grow g, h.grow.trans g, h.lX, h.l0, h.mn, h.m0, h.im, h.i0, fun n c e => let ⟨a, ⟨v, b⟩, d⟩ := h.cl n c e; ⟨a, ⟨v, g.ext.cell b⟩, d⟩, h.ap⟩

theorem cell_ne_ns {h : Heap} {c L : Addr} {v : Option Value} {m : Str → Option Value} (hc : h.IsCell c v) (hn : h.Ns L m) : c ≠ L := by
  rintro rfl
  obtain ⟨o', e, d⟩ := hc
  obtain ⟨oL, es, ep, e1, e2, _⟩ := hn
  rw [e] at e1; cases e1; rw [d] at e2; cases e2

theorem FSt.less {C : Cx} {s₀ s : Shared} {vs : List (Str × PyData)} (h : FSt C s₀ s) (hv : ∀ x d, vs.lookup x = some d → C.vars.lookup x = some d) : FSt { C with vars := vs } s₀ s :=
  ⟨h.ok.less hv, h.grow, h.lX, h.l0, h.mn, h.m0, h.im, h.i0, h.cl, h.ap⟩

/-- a name that may be bound here -/
noncomputable def Bindable (env : Env) (x : Str) : Prop := env.kindOf x = some .local ∨ (env.kindOf x = some .cell ∧ (env.cells.lookup x).isSome = true)

/-- a name is bound -/
theorem FSt.put {C : Cx} {s₀ s : Shared} {x : Str} {d : PyData} {v : Value} {Q : Unit → Shared → Prop} {E : Value → Shared → Prop} (h : FSt C s₀ s) (hk : Bindable C.env x) (r : Rd C.X s.heap d v)
    (k : ∀ s', FSt { C with vars := (x, d) :: C.vars } s₀ s' → Rd C.X s'.heap d v → Recs s s' → Q () s') : wpAny C.M C.A (storeName C.env x v) Q E s := by
  obtain ⟨m, hm, _⟩ := h.ok.ns
  rcases hk with hk | ⟨hk, hc⟩
  · refine store_local h.ok hk h.lX r fun s' ok' r' t => k s' ?_ r' fun b o vs e d => t.keep b o (Ne.symm (soft_ne_ns hm e (.inr ⟨_, d⟩))) e
    refine ⟨ok', h.grow.turn t h.l0, h.lX, h.l0, h.mn, h.m0, h.im, h.i0, fun n c e => ?_, h.ap⟩
    obtain ⟨a, ⟨v₀, oc, e1, e2⟩, d⟩ := h.cl n c e
    exact ⟨a, ⟨v₀, oc, t.keep c oc (cell_ne_ns ⟨oc, e1, e2⟩ hm) e1, e2⟩, d⟩
  · obtain ⟨c, hc⟩ := Option.isSome_iff_exists.mp hc
    obtain ⟨a, ⟨v₀, hcell⟩, c0⟩ := h.cl x c hc
    refine store_cell h.ok hk hc a hcell (fun y hy _ e => hy (h.ap _ _ _ e hc)) r fun s' ok' r' hcell' t => k s' ?_ r' fun b o vs e d => t.keep b o (Ne.symm (cell_ne hcell e (.inr ⟨_, d⟩))) e
    refine ⟨ok', h.grow.turn t c0, h.lX, h.l0, h.mn, h.m0, h.im, h.i0, fun n c' e => ?_, h.ap⟩
    obtain ⟨a', ⟨v', oc, e1, e2⟩, d'⟩ := h.cl n c' e
    by_cases q : c' = c
    · exact ⟨a', ⟨some v, q ▸ hcell'⟩, d'⟩
    · exact ⟨a', ⟨v', oc, t.keep c' oc q e1, e2⟩, d'⟩

/-- a table that nobody sees is changed -/
theorem Cx.ok.away {C : Cx} {s s' : Shared} {a : Addr} {o : Obj} {es : Array DictEntry} {n : Nat} (h : C.ok s) (ho : s.heap.get? a = some o) (hd : o.data = .dict es n) (ha : a ∉ C.X) (hT : C.G.top.get? a = none) (hL : C.env.locals ≠ a) (hF : Frms C.G.top C.A s'.heap)
    (hk : ∀ b o, b ≠ a → s.heap.get? b = some o → s'.heap.get? b = some o) : C.ok s' := by
  obtain ⟨m, hm, hv⟩ := h.ns
  have ks : ∀ b o xs n, b ∉ C.X → s.heap.get? b = some o → o.data = .seq xs n → b ∉ C.X ∧ s'.heap.get? b = some o := fun b o' xs n hb e d => ⟨hb, hk b o' (fun q => by rw [q, ho] at e; cases e; rw [hd] at d; cases d) e⟩
  have kv : ∀ x v, VarIn C.env m s.heap x v → VarIn C.env m s'.heap x v := fun x v i => by
    rcases i with i | ⟨i, c, hc, oc, e1, e2⟩
    · exact .inl i
    · exact .inr ⟨i, c, hc, oc, hk c oc (fun q => by rw [q, ho] at e1; cases e1; rw [hd] at e2; cases e2) e1, e2⟩
  have kX : ∀ b ∈ C.X, b ≠ a := fun b hb q => ha (q ▸ hb)
  refine ⟨fun b x e => hk b x (fun q => ?_) (h.g b x e), h.fn, h.gl, h.bl, fun b hb => ?_, h.room, h.hand, h.dep, hF, fun F P hi => (h.it F P hi).move (fun b hb => ((h.it F P hi).at_ b hb).1) (fun b hb o e => hk b o (kX b ((h.it F P hi).at_ b hb).1) e), fun D ds hx => ?_, fun v d hx => (h.fa v d hx).monoS ks, m, hm.at' fun x e => hk _ x hL e, fun x d hx => ?_⟩
  · rw [q, hT] at e; cases e
  · obtain ⟨⟨x, e⟩, n⟩ := h.lo b hb; exact ⟨⟨x, hk b x (kX b hb) e⟩, n⟩
  · obtain ⟨iX, ys, n, hl, r⟩ := h.mu D ds hx
    exact ⟨iX, ys, n, hk D _ (kX D iX) hl, r.monoS ks⟩
  · obtain ⟨v, r, i⟩ := hv x d hx
    exact ⟨v, r.monoS ks, kv x v i⟩

section
variable {C : Cx} {s₀ s : Shared} {x : Str} {e : Expr} {d : PyData} {p' pos : Pos} {rest : List Stmt} {Q : Flow → Shared → Prop} {E : Value → Shared → Prop}

theorem ex_assign (h : FSt C s₀ s) (he : Ev C e d) (k : ∀ s', FSt { C with vars := (x, d) :: C.vars } s₀ s' → wpAny C.M C.A (execs rest C.env) Q E s')
    (hk : Bindable C.env x := by first | exact .inl rfl | exact .inr ⟨rfl, rfl⟩) (hs : swapsWith e (some (.Name x p')) pos.line C.env = pure false := by rfl) :
    wpAny C.M C.A (execs (.Assign [.Name x p'] e pos :: rest) C.env) Q E s :=
  wpAny_execs_cons (wpAny_Assign_Name (he.use h.ok fun v s₁ g _ r => (h.step g).put hk r fun s' st _ _ => k s' st) hs)

theorem ex_if {t : Expr} {b : Bool} {body orelse : List Stmt} (h : FSt C s₀ s) (ht : Tr C t b)
    (k1 : b = true → ∀ s', FSt C s₀ s' → wpAny C.M C.A (execs body C.env) (fun f s' => match f with | .next => wpAny C.M C.A (execs rest C.env) Q E s' | f => Q f s') E s')
    (k2 : b = false → ∀ s', FSt C s₀ s' → wpAny C.M C.A (execs orelse C.env) (fun f s' => match f with | .next => wpAny C.M C.A (execs rest C.env) Q E s' | f => Q f s') E s') :
    wpAny C.M C.A (execs (.If t body orelse pos :: rest) C.env) Q E s := by
  refine wpAny_execs_cons (wpAny_If (ht.use h.ok fun s₁ g _ => ?_))
  cases b with
  | true => exact k1 rfl s₁ (h.step g)
  | false => exact k2 rfl s₁ (h.step g)

theorem ex_if_false {t : Expr} {body : List Stmt} (h : FSt C s₀ s) (ht : Tr C t false) (k : ∀ s', FSt C s₀ s' → wpAny C.M C.A (execs rest C.env) Q E s') :
    wpAny C.M C.A (execs (.If t body [] pos :: rest) C.env) Q E s :=
  ex_if h ht (fun q => by cases q) fun _ s' h' => wpAny_execs_nil (k s' h')

theorem ex_return (h : FSt C s₀ s) (he : Ev C e d) (k : ∀ v s', Grow C.G.top s₀ s' → Rd C.X s'.heap d v → Q (.ret v) s') : wpAny C.M C.A (execs (.Return (some e) pos :: rest) C.env) Q E s :=
  wpAny_execs_cons (wpAny_Return_some (he.use h.ok fun v s₁ g _ r => k v s₁ (h.grow.trans g) r))

/-- a comprehension for a local name on its own line: the store comes ahead of the names' going -/
theorem ex_assign_comp {elt iter : Expr} {y : Str} {px cpos : Pos} {ifs : List Expr} {scope : Scope} {cl : List (Str × Addr)} {ds : List PyData} (ws : List (Str × PyData)) (p : PyData → Bool) (f : PyData → PyData) (h : FSt C s₀ s)
    (src : Src C iter ds)
    (hvis : SeesAll C scope cl ws)
    (body : ∀ L X d, d ∈ ds → Trs ((C.inner scope cl L X ws).bind y d) ifs (p d) ∧ (p d = true → Ev ((C.inner scope cl L X ws).bind y d) elt (f d)))
    (hsz : ds.length ≤ sizeLine)
    (k : ∀ s', FSt { C with vars := (x, .list ((ds.filter p).map f)) :: C.vars } s₀ s' → wpAny C.M C.A (execs rest C.env) Q E s')
    (hk : C.env.kindOf x = some .local := by rfl)
    (hsw : swapsWith (.ListComp elt [⟨.Name y px, iter, ifs, 0⟩] scope cpos) (some (.Name x p')) pos.line C.env = pure true := by rfl)
    (hclos : closureFor scope C.env = pure cl := by rfl) (hfold : ∀ v, foldedSetIterable iter C.env v = pure v := by intro _; rfl) (hkind : scope.kind = .function := by rfl)
    (hnames : ∀ x ∈ scope.names, x.2 = .local → scope.names.lookup x.1 = some .local := by decide)
    (htgt : scope.names.lookup y = some .local ∨ (scope.names.lookup y = some .cell ∧ ∀ n, ((cellsFrom n scope.names []).lookup y).isSome = true) := by first | exact .inl rfl | exact .inr ⟨rfl, fun _ => rfl⟩) (hcalm : C.calm = true := by rfl) (hny : ws.lookup y = none := by rfl) :
    wpAny C.M C.A (execs (.Assign [.Name x p'] (.ListComp elt [⟨.Name y px, iter, ifs, 0⟩] scope cpos) pos :: rest) C.env) Q E s := by
  refine wpAny_execs_cons ?_
  rw [exec_Assign_Name_used _ _ _ _ hsw]
  refine wpAny_bind (wpAny_standAt (wpAny_bind ?_))
  show wpAny _ C.A (do let _ ← comprehension (.ListComp elt [⟨.Name y px, iter, ifs, 0⟩] scope cpos) scope C.env _ (newList []) false (eval iter C.env) (some (assign (.Name x p') C.env))) _ _ s
  refine wpAny_bind (wpAny_mono (comp1_core (use := some (assign (.Name x p') C.env)) (Q := fun _ s' => wpAny C.M C.A (execs rest C.env) Q E s') h.ok hcalm src hfold hclos hkind hnames htgt hvis hny body hsz fun D L s' hD hL hn g ha => ?_) (fun _ s' hq => wpAny_pure (wpAny_pure hq)) fun _ _ e => e)
  obtain ⟨m, hm⟩ := hn
  have h' := h.step g
  obtain ⟨_, r⟩ := comp_left h.ok hD hL ⟨m, hm⟩ g ha (Heap.SameBut.refl ..)
  have hLs : ∀ b o, s.heap.get? b = some o → b ≠ L := fun b o e q => by rw [q, hL] at e; cases e
  show wpAny C.M C.A (assign (.Name x p') C.env (.ref D)) _ _ s'
  refine wpAny_assign_Name ?_
  obtain ⟨m₁, hm₁, _⟩ := h.ok.ns
  have hlocL : C.env.locals ≠ L := by obtain ⟨o, _, _, e, _⟩ := hm₁; exact hLs _ _ e
  have hLX : L ∉ C.X := ok_notin h.ok hL
  have hTL : C.G.top.get? L = none := by
    cases e : C.G.top.get? L with
    | none => rfl
    | some o => exact absurd rfl (hLs _ _ (h.ok.g _ _ e))
  have h0L : s₀.heap.get? L = none := h.grow.ext.none hL
  -- the store, with what it keeps
  obtain ⟨m₂, hm₂, _⟩ := h'.ok.ns
  refine store_local h'.ok hk h.lX r fun s₂ ok₂ _ t => ?_
  obtain ⟨oL, es, n, e1, e2, e3⟩ := hm
  have e1' : s₂.heap.get? L = some oL := t.keep L oL (Ne.symm hlocL) e1
  refine ⟨m, ⟨oL, es, n, e1', e2, e3⟩, fun hh hs => k _ ?_⟩
  have keep : ∀ b o, b ≠ L → s₂.heap.get? b = some o → hh.get? b = some o := fun b o hb e => (hs.2 b hb).trans e
  have g₂ : Grow C.G.top s₀ s₂ := h'.grow.turn t h.l0
  refine ⟨ok₂.away e1' e2 hLX hTL hlocL (h.ok.fr.of fun F o es n _ e d => by
    obtain ⟨o1, es1, n1, q1, q2⟩ := (g.ext F o e).dict d
    by_cases q : F = C.env.locals
    · obtain ⟨_, hm₃, _⟩ := ok₂.ns
      obtain ⟨o3, es3, n3, z1, z2, _⟩ := hm₃
      exact ⟨o3, es3, n3, keep F o3 (hLs F o e) (q ▸ z1), z2⟩
    · exact ⟨o1, es1, n1, keep F o1 (hLs F o e) (t.keep F o1 q q1), q2⟩) keep, ⟨fun b o e => (g₂.ext b o e).step fun o' e' => .inl (keep b o' (fun q => by rw [q, h0L] at e; cases e) e'), g₂.gens, g₂.drawn, g₂.os⟩, h.lX, h.l0, h.mn, h.m0, h.im, h.i0, fun nm c e => ?_, h.ap⟩
  obtain ⟨a, ⟨v₀, oc, q1, q2⟩, d'⟩ := h'.cl nm c e
  refine ⟨a, ⟨v₀, oc, keep c oc (fun q => hLX (q ▸ a)) (t.keep c oc (cell_ne_ns ⟨oc, q1, q2⟩ hm₂) q1), q2⟩, d'⟩
end
end Mine
end
section
open PySem PySem.Spec PySem.SeqAt PySem.Calls PyProof.Rows
namespace Mine

/-- room for n calls one in another -/
structure Room (A : Around) (n : Nat) : Prop where
  u : A.units + 100 + 10 * n < cLine
  h : A.handled = none
  d : A.depth + 50 + n < recursionLimit
theorem Room.deeper {A : Around} {n : Nat} (r : Room A (n + 1)) (env : Env) : Room (A.deeper env) n :=
  ⟨by have := r.u; simp only [Around.deeper_units]; omega, r.h, by have := r.d; show A.depth + 1 + 50 + n < _; omega⟩
theorem Room.in1 {A : Around} {n : Nat} (r : Room A (n + 1)) : Room A.in1 n := ⟨by have := r.u; simp only [Around.in1_units]; omega, r.h, by have := r.d; show A.depth + 50 + n < _; omega⟩
theorem Room.le {A : Around} {n m : Nat} (r : Room A n) (h : m ≤ n) : Room A m := ⟨by have := r.u; omega, r.h, by have := r.d; omega⟩

/-- what a call is made amid: the top stands, the hidden things are there -/
structure Amid (G : Glob) (A : Around) (X : List Addr) (s : Shared) : Prop where
  fr : Frms G.top A s.heap
  g : ∀ b o, G.top.get? b = some o → s.heap.get? b = some o
  lo : ∀ b ∈ X, (∃ o, s.heap.get? b = some o) ∧ G.top.get? b = none
theorem Cx.ok.amid {C : Cx} {s : Shared} (h : C.ok s) : Amid C.G C.A C.X s := ⟨h.fr, h.g, h.lo⟩

/-- a def of the text's own -/
structure FnAt (G : Glob) (fa : Addr) (fd : FuncData) : Prop where
  at_ : ∃ o, G.top.get? fa = some o ∧ o.data = .func fd ∧ o.cls = .type "function"
  code : G.top.CodeRec fd.code fd.qualname
  gl : fd.globals = mainGlobals
  bl : fd.builtins = builtinsNs

/-- a call that only makes -/
noncomputable def CallOk (prog : Program) (w : World) (G : Glob) (n : Nat) (fa : Addr) (as : List PyData) (d : PyData) : Prop :=
  ∀ A X s vals, Room A n → Amid G A X s → RdAll X s.heap as vals → wpAny (model prog w) A (call (.ref fa) vals) (fun v s' => Grow G.top s s' ∧ Rd X s'.heap d v) (fun _ _ => False) s

noncomputable abbrev Cx.ofCall (prog : Program) (w : World) (G : Glob) (A : Around) (X : List Addr) (fd : FuncData) (L fa : Addr) (vars : List (Str × PyData)) : Cx :=
  { prog, w, A := A.deeper (callEnv fd L fa), env := callEnv fd L fa, X := L :: X, G, vars }

theorem call_fn {prog : Program} {w : World} {G : Glob} {n : Nat} {fa : Addr} {fd : FuncData} {body : List Stmt} {A : Around} {X : List Addr} {s : Shared} {vals : List Value} {binds : List (Str × Value)} {vars : List (Str × PyData)} {Q : Value → Shared → Prop} {E : Value → Shared → Prop}
    (f : FnAt G fa fd) (hbody : fd.body = .stmts body) (room : Room A (n + 1)) (am : Amid G A X s)
    (hbind : bindArgs fd ⟨vals, []⟩ = pure binds) (hcell : ∀ x ∈ fd.scope.names, x.2 ≠ .cell) (hcl : fd.closure = []) (hloc : ∀ x ∈ binds, fd.scope.names.lookup x.1 = some .local)
    (hvars : ∀ x d, vars.lookup x = some d → ∃ v, binds.reverse.lookup x = some v ∧ Rd X s.heap d v ∧ fd.scope.names.lookup x = some .local)
    (h : ∀ L s', FSt (Cx.ofCall prog w G A X fd L fa vars) s s' → Room (A.deeper (callEnv fd L fa)) n → L ∉ X →
      wpAny (model prog w) (A.deeper (callEnv fd L fa)) (execs body (callEnv fd L fa)) (fun fl s'' => Q (match fl with | .ret v => v | _ => .none) s'') (fun _ _ => False) s')
    (hco : fd.scope.isCoroutine = false := by rfl) (hgen : fd.scope.isGenerator = false := by rfl) (hk : fd.scope.kind = .function := by rfl) :
    wpAny (model prog w) A (call (.ref fa) vals) Q E s := by
  obtain ⟨⟨o, ho, hd, _⟩, hcode, hgl, hbl⟩ := f
  refine wpAny_call (codeAny_call_def (by have := room.d; omega) (am.g _ _ ho) hd (G.lim.keeps am.g) (hcode.keeps am.g) hbody (.of_eq hbind) hcell hloc (fun h₀ hns hk₀ => ?_) hco hgen hk)
  have hLX : s.heap.objs.size ∉ X := fun hb => by
    obtain ⟨⟨o, e⟩, _⟩ := am.lo _ hb
    rw [get_size] at e; cases e
  have hLT : G.top.get? s.heap.objs.size = none := by
    cases e : G.top.get? s.heap.objs.size with
    | none => rfl
    | some o => have := am.g _ _ e; rw [get_size] at this; cases this
  have room' := room.deeper (callEnv fd s.heap.objs.size fa)
  refine wpAny_mono (h s.heap.objs.size _ ⟨⟨fun b o e => hk₀ b o (am.g b o e), hk, hgl, hbl, fun b hb => ?_, by have := room'.u; show (A.deeper _).units + 100 < cLine; omega, fun _ => room'.h, by have := room'.d; show (A.deeper _).depth + 50 < _; omega, (am.fr.ext (.of hk₀)).deeper (by show fd.scope.kind ≠ .module; rw [hk]; nofun) rfl hLT hns, fun _ _ hx => (nomatch hx), fun _ _ hx => (nomatch hx), fun _ _ hx => (nomatch hx), _, hns, fun x d hx => ?_⟩,
      ⟨.of hk₀, rfl, rfl, rfl⟩, .head _, get_size _, .nil, fun _ _ hx => (nomatch hx), .nil, fun _ _ hx => (nomatch hx), fun n c e => ?_, fun n n' c e => ?_⟩ room' hLX) (fun fl s'' q => q) fun _ _ q => q.elim
  · rcases List.mem_cons.mp hb with q | hb
    · subst q; obtain ⟨o, _, _, e, _⟩ := hns; exact ⟨⟨o, e⟩, hLT⟩
    · obtain ⟨⟨o, e⟩, n⟩ := am.lo b hb; exact ⟨⟨o, hk₀ _ _ e⟩, n⟩
  · obtain ⟨v, hv, r, hl⟩ := hvars x d hx
    refine ⟨v, r.mono fun b o hb e => ⟨fun hm => ?_, hk₀ b o e⟩, .inl ⟨hl, hv⟩⟩
    rcases List.mem_cons.mp hm with q | hm
    · rw [q, get_size] at e; cases e
    · exact hb hm
  · have : (callEnv fd s.heap.objs.size fa).cells = [] := hcl
    change (callEnv fd s.heap.objs.size fa).cells.lookup n = some c at e
    rw [this] at e; cases e
  · have : (callEnv fd s.heap.objs.size fa).cells = [] := hcl
    change (callEnv fd s.heap.objs.size fa).cells.lookup n = some c at e
    rw [this] at e; cases e
end Mine
end
section
open PySem PySem.Spec PySem.SeqAt PySem.Calls PyProof.Rows
namespace Mine

theorem Ns.unique {h : Heap} {a : Addr} {m m' : Str → Option Value} (x : h.Ns a m) (y : h.Ns a m') : m = m' := by
  obtain ⟨o, es, ep, e1, e2, _, e3⟩ := x
  obtain ⟨o', es', ep', e1', e2', _, e3'⟩ := y
  rw [e1] at e1'; cases e1'; rw [e2] at e2'; cases e2'
  funext n; rw [← e3 n, ← e3' n]

theorem off_cons {X : List Addr} {h h' : Heap} {a : Addr} {T : Heap} (ha : h.get? a = none) (g : Ext T h h') : ∀ b o xs n, b ∉ X → h.get? b = some o → o.data = .seq xs n → b ∉ a :: X ∧ h'.get? b = some o := fun b ob xs n hb e hd => ⟨fun hm => by
    rcases List.mem_cons.mp hm with q | hm
    · rw [q, ha] at e; cases e
    · exact hb hm, g.seq e hd⟩

theorem Cx.ok.hideM {C : Cx} {s s' : Shared} {a : Addr} {o : Obj} (h : C.ok s) (ha : s.heap.get? a = none) (g : Grow C.G.top s s') (ho : s'.heap.get? a = some o) : ({ C with X := a :: C.X } : Cx).ok s' := by
  obtain ⟨m, hm, hv⟩ := h.ns
  have off := off_cons (X := C.X) ha g.ext
  refine ⟨top_kept h.g g.ext, h.fn, h.gl, h.bl, fun b hb => ?_, h.room, h.hand, h.dep, h.fr.ext g.ext, fun F P hi => ((h.it F P hi).ext g.ext).move (fun b hb => .tail _ ((h.it F P hi).at_ b hb).1) (fun b hb o e => e), fun D ds hx => ?_, fun v d hx => (h.fa v d hx).monoS off, m, g.ext.ns hm, fun x d hx => ?_⟩
  · rcases List.mem_cons.mp hb with q | hb
    · subst q
      refine ⟨⟨o, ho⟩, ?_⟩
      cases e : C.G.top.get? b with
      | none => rfl
      | some o => rw [h.g _ _ e] at ha; cases ha
    · obtain ⟨⟨x, e⟩, n⟩ := h.lo b hb; exact ⟨(g.ext _ _ e).some, n⟩
  · obtain ⟨iX, ys, n, hl, r⟩ := h.mu D ds hx
    exact ⟨.tail _ iX, ys, n, g.ext.list hl, r.monoS off⟩
  · obtain ⟨v, r, i⟩ := hv x d hx
    exact ⟨v, r.monoS off, i.ext g.ext⟩

/-- a new thing is hidden -/
theorem FSt.hide {C : Cx} {s₀ s s' : Shared} {a : Addr} {o : Obj} (h : FSt C s₀ s) (ha : s.heap.get? a = none) (g : Grow C.G.top s s') (ho : s'.heap.get? a = some o) : FSt { C with X := a :: C.X } s₀ s' :=
  let h' := h.step g
  ⟨h.ok.hideM ha g ho, h'.grow, .tail _ h.lX, h.l0, h.mn, h.m0, h.im, h.i0, fun n c e => let ⟨a, b, d⟩ := h'.cl n c e; ⟨.tail _ a, b, d⟩, h.ap⟩

theorem FSt.grewNone {C : Cx} {s₀ s : Shared} {a : Addr} (h : FSt C s₀ s) (ha : s.heap.get? a = none) : s₀.heap.get? a = none := h.grow.ext.none ha

/-- a new list is the call's own -/
theorem FSt.own {C : Cx} {s₀ s s' : Shared} {D : Addr} {ds : List PyData} {ys : List Value} {n : Nat} (h : FSt C s₀ s) (hD : s.heap.get? D = none) (g : Grow C.G.top s s') (hl : IsL s'.heap D ys.toArray n) (r : RdAll (D :: C.X) s'.heap ds ys) :
    FSt { C with X := D :: C.X, muts := (D, ds) :: C.muts } s₀ s' := by
  have h' := h.hide hD g hl
  have ok := h'.ok
  have hnd : ∀ D' ds', (D', ds') ∈ C.muts → D' ≠ D := fun D' ds' hy q => by
    obtain ⟨_, ys, n, e, _⟩ := h.ok.mu D' ds' hy
    have e' : s.heap.get? D = _ := q ▸ e
    rw [hD] at e'; cases e'
  refine ⟨⟨ok.g, ok.fn, ok.gl, ok.bl, ok.lo, ok.room, ok.hand, ok.dep, ok.fr, ok.it, fun D' ds' hy => ?_, ok.fa, ok.ns⟩, h'.grow, h'.lX, h'.l0, ?_, fun D' ds' hy => ?_, h'.im, h'.i0, h'.cl, h'.ap⟩
  · rcases List.mem_cons.mp hy with q | hy
    · cases q; exact ⟨.head _, ys, n, hl, r⟩
    · exact ok.mu D' ds' hy
  · simp only [List.map_cons, List.nodup_cons]
    refine ⟨fun hm => ?_, h.mn⟩
    obtain ⟨⟨D', ds'⟩, hy, q⟩ := List.mem_map.mp hm
    exact hnd D' ds' hy q
  · rcases List.mem_cons.mp hy with q | hy
    · cases q; exact h.grewNone hD
    · exact h.m0 D' ds' hy

/-- a hidden thing of the kinds that change -/
theorem Cx.ok.touchF {C : Cx} {s s' : Shared} {F : List Addr} (h : C.ok s) (hF : ∀ a ∈ F, a ∈ C.X ∧ ∃ o, s.heap.get? a = some o ∧ Soft o) (hk : ∀ b o, b ∉ F → s.heap.get? b = some o → s'.heap.get? b = some o) (hn : ∀ a ∈ F, ∃ o', s'.heap.get? a = some o')
    (hmu : ∀ D ds, (D, ds) ∈ C.muts → D ∉ F) (hit : ∀ G P, (G, P) ∈ C.its → ∀ a ∈ G, a ∉ F) : C.ok s' := by
  obtain ⟨m, hm, hv⟩ := h.ns
  have hL : C.env.locals ∉ F := fun q => by obtain ⟨_, o, e, so⟩ := hF _ q; exact soft_ne_ns hm e so rfl
  have hX : ∀ b, b ∉ C.X → b ∉ F := fun b hb q => hb (hF b q).1
  have off : ∀ b (o : Obj), b ∉ C.X → s.heap.get? b = some o → b ∉ C.X ∧ s'.heap.get? b = some o := fun b o hb e => ⟨hb, hk b o (hX b hb) e⟩
  have hcell : ∀ c v, s.heap.IsCell c v → c ∉ F := fun c v hc q => by
    obtain ⟨_, o, e, so⟩ := hF _ q; exact cell_ne hc e so rfl
  refine ⟨fun b x e => hk b x (fun q => ?_) (h.g b x e), h.fn, h.gl, h.bl, fun b hb => ?_, h.room, h.hand, h.dep, h.fr.of (fun L oL es n _ e d => ⟨oL, es, n, hk L oL (fun q => ?_) e, d⟩), fun G P hi => (h.it G P hi).move (fun b hb => ((h.it G P hi).at_ b hb).1) fun b hb o e => hk b o (hit G P hi b hb) e, fun D ds hx => ?_, fun v d hx => (h.fa v d hx).mono off, m, hm.at' fun x e => hk _ x hL e, fun x d hx => ?_⟩
  · rw [(h.lo _ (hF b q).1).2] at e; cases e
  · refine ⟨?_, (h.lo b hb).2⟩
    by_cases q : b ∈ F
    · exact hn b q
    · obtain ⟨x, e⟩ := (h.lo b hb).1; exact ⟨x, hk b x q e⟩
  · obtain ⟨_, o, e', so⟩ := hF _ q
    rw [e'] at e; cases e
    rcases so with ⟨_, _, q⟩ | ⟨_, q⟩ <;> rw [q] at d <;> cases d
  · obtain ⟨iX, ys, n, hl, r⟩ := h.mu D ds hx
    exact ⟨iX, ys, n, hk D _ (hmu D ds hx) hl, r.mono off⟩
  · obtain ⟨v, r, i⟩ := hv x d hx
    refine ⟨v, r.mono off, ?_⟩
    rcases i with i | ⟨i1, c, hc, oc, e1, e2⟩
    · exact .inl i
    · exact .inr ⟨i1, c, hc, oc, hk c oc (hcell c _ ⟨oc, e1, e2⟩) e1, e2⟩

/-- many are changed, all else stands -/
structure Turns (F : List Addr) (s s' : Shared) : Prop where
  keep : ∀ b o, b ∉ F → s.heap.get? b = some o → s'.heap.get? b = some o
  gens : s'.gens = s.gens
  drawn : s'.drawn = s.drawn
  os : s'.os = s.os
theorem Turn.many {a : Addr} {s s' : Shared} (t : Turn a s s') : Turns [a] s s' := ⟨fun b o hb e => t.keep b o (by simpa using hb) e, t.gens, t.drawn, t.os⟩
theorem Grow.turns {T : Heap} {s₀ s s' : Shared} {F : List Addr} (g : Grow T s₀ s) (t : Turns F s s') (h : ∀ a ∈ F, s₀.heap.get? a = none) : Grow T s₀ s' :=
  ⟨fun b o e => (g.ext b o e).step fun o' e' => .inl (t.keep b o' (fun q => by rw [h b q] at e; cases e) e'), t.gens.trans g.gens, t.drawn.trans g.drawn, t.os.trans g.os⟩

/-- things of the call's own are changed that are in no list of the context -/
theorem FSt.turns {C : Cx} {s₀ s s' : Shared} {F : List Addr} (h : FSt C s₀ s) (hF : ∀ a ∈ F, a ∈ C.X ∧ ∃ o, s.heap.get? a = some o ∧ Soft o) (h0 : ∀ a ∈ F, s₀.heap.get? a = none) (t : Turns F s s') (hn : ∀ a ∈ F, ∃ o', s'.heap.get? a = some o')
    (hmu : ∀ D ds, (D, ds) ∈ C.muts → D ∉ F) (hit : ∀ G P, (G, P) ∈ C.its → ∀ a ∈ G, a ∉ F) : FSt C s₀ s' :=
  ⟨h.ok.touchF hF t.keep hn hmu hit, h.grow.turns t h0, h.lX, h.l0, h.mn, h.m0, h.im, h.i0, fun n c e => by
    obtain ⟨a, ⟨v₀, oc, e1, e2⟩, d⟩ := h.cl n c e
    exact ⟨a, ⟨v₀, oc, t.keep c oc (fun q => by obtain ⟨_, o, e, so⟩ := hF _ q; exact cell_ne ⟨oc, e1, e2⟩ e so rfl) e1, e2⟩, d⟩, h.ap⟩

/-- fewer lists and iterators -/
theorem FSt.drop {C : Cx} {s₀ s : Shared} {ms : List (Addr × List PyData)} {is : List (List Addr × (Heap → Prop))} {fs : List (Value × PyData)} (h : FSt C s₀ s) (hm : ∀ p ∈ ms, p ∈ C.muts) (hn : (ms.map (·.1)).Nodup) (hi : ∀ p ∈ is, p ∈ C.its) (hin : (is.flatMap (·.1)).Nodup) (hf : ∀ p ∈ fs, p ∈ C.facts) :
    FSt { C with muts := ms, its := is, facts := fs } s₀ s :=
  ⟨⟨h.ok.g, h.ok.fn, h.ok.gl, h.ok.bl, h.ok.lo, h.ok.room, h.ok.hand, h.ok.dep, h.ok.fr, fun F P hx => h.ok.it F P (hi _ hx), fun D ds hx => h.ok.mu D ds (hm _ hx), fun v d hx => h.ok.fa v d (hf _ hx), h.ok.ns⟩, h.grow, h.lX, h.l0, hn, fun D ds hx => h.m0 D ds (hm _ hx), hin, fun F P hx => h.i0 F P (hi _ hx), h.cl, h.ap⟩
theorem FSt.dropFacts {C : Cx} {s₀ s : Shared} {fs : List (Value × PyData)} (h : FSt C s₀ s) (hf : ∀ p ∈ fs, p ∈ C.facts) : FSt { C with facts := fs } s₀ s :=
  h.drop (fun _ h => h) h.mn (fun _ h => h) h.im hf
/-- what is read is kept in mind -/
theorem FSt.fact {C : Cx} {s₀ s : Shared} {v : Value} {d : PyData} (h : FSt C s₀ s) (r : Rd C.X s.heap d v) : FSt { C with facts := (v, d) :: C.facts } s₀ s :=
  ⟨⟨h.ok.g, h.ok.fn, h.ok.gl, h.ok.bl, h.ok.lo, h.ok.room, h.ok.hand, h.ok.dep, h.ok.fr, h.ok.it, h.ok.mu, fun v d hx => by
    rcases List.mem_cons.mp hx with q | hx
    · cases q; exact r
    · exact h.ok.fa v d hx, h.ok.ns⟩, h.grow, h.lX, h.l0, h.mn, h.m0, h.im, h.i0, h.cl, h.ap⟩

/-- the list at D is another one now -/
theorem FSt.mutate {C : Cx} {s₀ s s' : Shared} {D : Addr} {ds ds' : List PyData} {ys' : List Value} {n' : Nat} {r : List (Addr × List PyData)} (h : FSt C s₀ s) (hm : C.muts = (D, ds) :: r) (t : Turn D s s')
    (hl' : IsL s'.heap D ys'.toArray n') (r' : RdAll C.X s'.heap ds' ys') : FSt { C with muts := (D, ds') :: r } s₀ s' := by
  have hmem : (D, ds) ∈ C.muts := by rw [hm]; exact .head _
  obtain ⟨hD, ys, n, hl, _⟩ := h.ok.mu D ds hmem
  have hs : Soft ({ cls := .type "list", dict := none, data := .seq ys.toArray n, slots := #[] } : Obj) := .inl ⟨_, _, rfl⟩
  have hnd := h.mn
  rw [hm] at hnd
  simp only [List.map_cons, List.nodup_cons] at hnd
  have hr : ∀ D' e, (D', e) ∈ r → D' ≠ D := fun D' e hy q => hnd.1 (List.mem_map.mpr ⟨_, hy, q⟩)
  have hrm : ∀ p ∈ r, p ∈ C.muts := fun p hp => by rw [hm]; exact .tail _ hp
  have h1 : FSt { C with muts := r } s₀ s := h.drop hrm hnd.2 (fun _ h => h) h.im fun _ h => h
  have h2 : FSt { C with muts := r } s₀ s' := h1.turns (F := [D]) (fun a ha => by simp at ha; subst ha; exact ⟨hD, _, hl, hs⟩) (fun a ha => by simp at ha; subst ha; exact h.m0 _ _ hmem) t.many (fun a ha => by simp at ha; subst ha; exact t.has) (fun D' e hy => by simpa using hr D' e hy) fun G P hi a ha => by
      simp only [List.mem_singleton]
      rintro rfl
      obtain ⟨_, o, vs, e, d⟩ := (h.ok.it G P hi).at_ a ha
      rw [hl] at e; cases e; cases d
  have ok := h2.ok
  refine ⟨⟨ok.g, ok.fn, ok.gl, ok.bl, ok.lo, ok.room, ok.hand, ok.dep, ok.fr, ok.it, fun D' e hy => ?_, ok.fa, ok.ns⟩, h2.grow, h2.lX, h2.l0, ?_, fun D' e hy => ?_, h2.im, h2.i0, h2.cl, h2.ap⟩
  · rcases List.mem_cons.mp hy with q | hy
    · cases q; exact ⟨hD, ys', n', hl', r'⟩
    · exact ok.mu D' e hy
  · simpa only [List.map_cons, List.nodup_cons] using hnd
  · rcases List.mem_cons.mp hy with q | hy
    · cases q; exact h.m0 _ _ hmem
    · exact h2.m0 D' e hy

/-- a list that will not change any more is a datum -/
theorem FSt.freeze {C : Cx} {s₀ s : Shared} {D : Addr} {ds : List PyData} {r : List (Addr × List PyData)} (h : FSt C s₀ s) (hm : C.muts = (D, ds) :: r) :
    FSt { C with X := C.X.filter (· ≠ D), muts := r, facts := (.ref D, .list ds) :: C.facts } s₀ s := by
  obtain ⟨m, hn, hv⟩ := h.ok.ns
  have hmem : (D, ds) ∈ C.muts := by rw [hm]; exact .head _
  obtain ⟨hD, ys, n, hl, ra⟩ := h.ok.mu D ds hmem
  have hs : Soft ({ cls := .type "list", dict := none, data := .seq ys.toArray n, slots := #[] } : Obj) := .inl ⟨_, _, rfl⟩
  have hnd := h.mn
  rw [hm] at hnd
  simp only [List.map_cons, List.nodup_cons] at hnd
  have hr : ∀ D' e, (D', e) ∈ r → D' ≠ D := fun D' e hy q => hnd.1 (List.mem_map.mpr ⟨_, hy, q⟩)
  have hrm : ∀ p ∈ r, p ∈ C.muts := fun p hp => by rw [hm]; exact .tail _ hp
  have mem : ∀ b, b ∈ C.X.filter (· ≠ D) ↔ b ∈ C.X ∧ b ≠ D := fun b => by simp
  have up : ∀ b (o : Obj), b ∉ C.X → s.heap.get? b = some o → b ∉ C.X.filter (· ≠ D) ∧ s.heap.get? b = some o := fun b o hb e => ⟨fun q => hb ((mem b).mp q).1, e⟩
  refine ⟨⟨h.ok.g, h.ok.fn, h.ok.gl, h.ok.bl, fun b hb => h.ok.lo b ((mem b).mp hb).1, h.ok.room, h.ok.hand, h.ok.dep, h.ok.fr, fun F P hi => (h.ok.it F P hi).move (fun b hb => (mem b).mpr ⟨((h.ok.it F P hi).at_ b hb).1, fun q => ?_⟩) (fun b hb o e => e), fun D' e hy => ?_, fun v d hx => ?_, m, hn, fun y d hy => ?_⟩,
    h.grow, (mem _).mpr ⟨h.lX, soft_ne_ns hn hl hs⟩, h.l0, hnd.2, fun D' e hy => h.m0 D' e (hrm _ hy), h.im, h.i0, fun nm c e => ?_, h.ap⟩
  · obtain ⟨_, o, vs, e, d⟩ := (h.ok.it F P hi).at_ b hb
    rw [q, hl] at e; cases e; cases d
  · obtain ⟨a, ys', n', hl', ra'⟩ := h.ok.mu D' e (hrm _ hy)
    exact ⟨(mem D').mpr ⟨a, hr D' e hy⟩, ys', n', hl', ra'.mono up⟩
  · rcases List.mem_cons.mp hx with q | hx
    · cases q; exact .list_ (fun q => ((mem D).mp q).2 rfl) hl (ra.mono up)
    · exact (h.ok.fa v d hx).mono up
  · obtain ⟨v, rv, i⟩ := hv y d hy; exact ⟨v, rv.mono up, i⟩
  · obtain ⟨a, ⟨v₀, oc, q1, q2⟩, d'⟩ := h.cl nm c e
    exact ⟨(mem c).mpr ⟨a, cell_ne ⟨oc, q1, q2⟩ hl hs⟩, ⟨v₀, oc, q1, q2⟩, d'⟩

/-- a name of a thing that is read -/
theorem FSt.know {C : Cx} {s₀ s : Shared} {x : Str} {a : Addr} {d : PyData} (h : FSt C s₀ s) (hx : C.vars.lookup x = some (raw a)) (hf : (.ref a, d) ∈ C.facts) : FSt { C with vars := (x, d) :: C.vars } s₀ s := by
  obtain ⟨m, hn, hv⟩ := h.ok.ns
  refine ⟨⟨h.ok.g, h.ok.fn, h.ok.gl, h.ok.bl, h.ok.lo, h.ok.room, h.ok.hand, h.ok.dep, h.ok.fr, h.ok.it, h.ok.mu, h.ok.fa, m, hn, fun y d' hy => ?_⟩, h.grow, h.lX, h.l0, h.mn, h.m0, h.im, h.i0, h.cl, h.ap⟩
  change ((x, d) :: C.vars).lookup y = some d' at hy
  rw [lookup_cons] at hy
  split at hy
  · next q =>
    cases hy; rw [beq_iff_eq.mp q]
    obtain ⟨v, r, i⟩ := hv x _ hx
    rw [r.raw_inv] at i
    exact ⟨_, h.ok.fa _ _ hf, i⟩
  · exact hv y d' hy
end Mine
end
section
open PySem PySem.Spec PySem.SeqAt PySem.Calls PyProof.Rows
namespace Mine

theorem FSt.hideAll {C : Cx} {s₀ s s' : Shared} (h : FSt C s₀ s) (g : Grow C.G.top s s') : ∀ F : List Addr, (∀ b ∈ F, s.heap.get? b = none) → (∀ b ∈ F, ∃ o, s'.heap.get? b = some o) → FSt { C with X := F ++ C.X } s₀ s'
  | [], _, _ => h.step g
  | b :: F, h1, h2 => by
    have h' := FSt.hideAll h g F (fun c hc => h1 c (.tail _ hc)) fun c hc => h2 c (.tail _ hc)
    obtain ⟨o, e⟩ := h2 b (.head _)
    -- b is hidden too
    have ok := h'.ok
    obtain ⟨m, hm, hv⟩ := h.ok.ns
    have offF : ∀ c o xs n, c ∉ C.X → s.heap.get? c = some o → o.data = .seq xs n → c ∉ (b :: F) ++ C.X ∧ s'.heap.get? c = some o := fun c o xs n hc e d => ⟨fun q => by
      rcases List.mem_append.mp q with q | q
      · rw [h1 c q] at e; cases e
      · exact hc q, g.ext.seq e d⟩
    have sub : ∀ c ∈ F ++ C.X, c ∈ (b :: F) ++ C.X := fun c hc => .tail _ hc
    have hb0 := h1 b (.head _)
    refine ⟨⟨ok.g, ok.fn, ok.gl, ok.bl, fun c hc => ?_, ok.room, ok.hand, ok.dep, ok.fr, fun G P hi => (ok.it G P hi).move (fun c hc => sub c ((ok.it G P hi).at_ c hc).1) fun _ _ _ e => e, fun D ds hx => ?_, fun v d hx => (h.ok.fa v d hx).monoS offF, m, g.ext.ns hm, fun x d hx => ?_⟩, h'.grow, sub _ h'.lX, h'.l0, h'.mn, h'.m0, h'.im, h'.i0, fun n c e => let ⟨a, b, d⟩ := h'.cl n c e; ⟨sub _ a, b, d⟩, h'.ap⟩
    · rcases List.mem_cons.mp hc with q | hc
      · subst q
        refine ⟨⟨o, e⟩, ?_⟩
        cases e : C.G.top.get? c with
        | none => rfl
        | some o => rw [h.ok.g _ _ e] at hb0; cases hb0
      · exact ok.lo c hc
    · obtain ⟨iX, ys, n, hl, r⟩ := h.ok.mu D ds hx
      exact ⟨sub _ (List.mem_append.mpr (.inr iX)), ys, n, g.ext.list hl, r.monoS offF⟩
    · obtain ⟨v, r, i⟩ := hv x d hx
      exact ⟨v, r.monoS offF, i.ext g.ext⟩

theorem FSt.enter {C : Cx} {s₀ s s' : Shared} {F : List Addr} {P : Heap → Prop} (h : FSt C s₀ s) (hF : ∀ b ∈ F, s.heap.get? b = none) (hnd : F.Nodup) (g : Grow C.G.top s s') (hf : ∀ b ∈ F, ∃ o vs, s'.heap.get? b = some o ∧ o.data = .fields vs) (hP : P s'.heap)
    (loc : ∀ h h', P h → (∀ b ∈ F, ∀ o, h.get? b = some o → h'.get? b = some o) → P h') : FSt { C with X := F ++ C.X, its := (F, P) :: C.its } s₀ s' := by
  have h' := h.hideAll g F hF fun b hb => let ⟨o, _, e, _⟩ := hf b hb; ⟨o, e⟩
  have ok := h'.ok
  refine ⟨⟨ok.g, ok.fn, ok.gl, ok.bl, ok.lo, ok.room, ok.hand, ok.dep, ok.fr, fun G P' hi => ?_, ok.mu, ok.fa, ok.ns⟩, h'.grow, h'.lX, h'.l0, h'.mn, h'.m0, ?_, fun G P' hi b hb => ?_, h'.cl, h'.ap⟩
  · rcases List.mem_cons.mp hi with q | hi
    · cases q; exact ⟨fun b hb => ⟨List.mem_append.mpr (.inl hb), hf b hb⟩, hP, loc⟩
    · exact ok.it G P' hi
  · simp only [List.flatMap_cons]
    refine List.nodup_append.mpr ⟨hnd, h.im, fun a ha b hb q => ?_⟩
    subst q
    obtain ⟨⟨G, P'⟩, hi, hb⟩ := List.mem_flatMap.mp hb
    obtain ⟨_, o, _, e, _⟩ := (h.ok.it G P' hi).at_ a hb
    rw [hF a ha] at e; cases e
  · rcases List.mem_cons.mp hi with q | hi
    · cases q; exact h.grewNone (hF b hb)
    · exact h.i0 G P' hi b hb

theorem FSt.itsNe {C : Cx} {s₀ s : Shared} {F : List Addr} {P : Heap → Prop} {r : List (List Addr × (Heap → Prop))} (h : FSt C s₀ s) (hi : C.its = (F, P) :: r) : ∀ G P', (G, P') ∈ r → ∀ a ∈ G, a ∉ F := fun G P' hg a ha hF => by
  have := h.im
  rw [hi, List.flatMap_cons] at this
  exact (List.nodup_append.mp this).2.2 a hF a (List.mem_flatMap.mpr ⟨_, hg, ha⟩) rfl

theorem FSt.dropIt {C : Cx} {s₀ s s' : Shared} {F : List Addr} {P : Heap → Prop} {r : List (List Addr × (Heap → Prop))} (h : FSt C s₀ s) (hi : C.its = (F, P) :: r) (t : Turns F s s') (hn : ∀ a ∈ F, ∃ o', s'.heap.get? a = some o') : FSt { C with its := r } s₀ s' := by
  have hmem : (F, P) ∈ C.its := by rw [hi]; exact .head _
  have hsub : ∀ p ∈ r, p ∈ C.its := fun p hp => by rw [hi]; exact .tail _ hp
  have hnd : (r.flatMap (·.1)).Nodup := by
    have := h.im
    rw [hi, List.flatMap_cons] at this
    exact (List.nodup_append.mp this).2.1
  have h1 : FSt { C with its := r } s₀ s := h.drop (fun _ h => h) h.mn hsub hnd fun _ h => h
  have hF := (h.ok.it F P hmem).at_
  refine h1.turns (fun a ha => ⟨(hF a ha).1, let ⟨o, vs, e, d⟩ := (hF a ha).2; ⟨o, e, .inr ⟨vs, d⟩⟩⟩) (fun a ha => h.i0 F P hmem a ha) t hn (fun D ds hx hD => ?_) (h.itsNe hi)
  obtain ⟨_, ys, n, e, _⟩ := h.ok.mu D ds hx
  obtain ⟨_, o, vs, e', d⟩ := hF D hD
  have := e.symm.trans e'; cases this; cases d

/-- the iterator moves on -/
theorem FSt.advance {C : Cx} {s₀ s s' : Shared} {F : List Addr} {P P' : Heap → Prop} {r : List (List Addr × (Heap → Prop))} (h : FSt C s₀ s) (hi : C.its = (F, P) :: r) (t : Turns F s s') (hf : ∀ b ∈ F, ∃ o vs, s'.heap.get? b = some o ∧ o.data = .fields vs) (hP : P' s'.heap)
    (loc : ∀ h h', P' h → (∀ b ∈ F, ∀ o, h.get? b = some o → h'.get? b = some o) → P' h') : FSt { C with its := (F, P') :: r } s₀ s' := by
  have hmem : (F, P) ∈ C.its := by rw [hi]; exact .head _
  have h2 := h.dropIt hi t fun a ha => let ⟨o, _, e, _⟩ := hf a ha; ⟨o, e⟩
  have ok := h2.ok
  refine ⟨⟨ok.g, ok.fn, ok.gl, ok.bl, ok.lo, ok.room, ok.hand, ok.dep, ok.fr, fun G Q hi' => ?_, ok.mu, ok.fa, ok.ns⟩, h2.grow, h2.lX, h2.l0, h2.mn, h2.m0, ?_, fun G Q hi' b hb => ?_, h2.cl, h2.ap⟩
  · rcases List.mem_cons.mp hi' with q | hi'
    · cases q; exact ⟨fun b hb => ⟨((h.ok.it F P hmem).at_ b hb).1, hf b hb⟩, hP, loc⟩
    · exact ok.it G Q hi'
  · have := h.im
    rw [hi, List.flatMap_cons] at this
    simpa only [List.flatMap_cons] using this
  · rcases List.mem_cons.mp hi' with q | hi'
    · cases q; exact h.i0 F P hmem b hb
    · exact h2.i0 G Q hi' b hb

/-- hidden things that are of no more use -/
theorem FSt.unhide {C : Cx} {s₀ s : Shared} {X' : List Addr} (h : FSt C s₀ s) (hs : ∀ b ∈ X', b ∈ C.X) (hL : C.env.locals ∈ X') (hi : ∀ F P, (F, P) ∈ C.its → ∀ b ∈ F, b ∈ X') (hm : ∀ D ds, (D, ds) ∈ C.muts → D ∈ X') (hc : ∀ n c, C.env.cells.lookup n = some c → c ∈ X') : FSt { C with X := X' } s₀ s := by
  have up : ∀ b (o : Obj), b ∉ C.X → s.heap.get? b = some o → b ∉ X' ∧ s.heap.get? b = some o := fun b o hb e => ⟨fun q => hb (hs b q), e⟩
  obtain ⟨m, hn, hv⟩ := h.ok.ns
  refine ⟨⟨h.ok.g, h.ok.fn, h.ok.gl, h.ok.bl, fun b hb => h.ok.lo b (hs b hb), h.ok.room, h.ok.hand, h.ok.dep, h.ok.fr, fun F P hx => (h.ok.it F P hx).move (hi F P hx) fun _ _ _ e => e, fun D ds hx => ?_, fun v d hx => (h.ok.fa v d hx).mono up, m, hn, fun y d hy => ?_⟩, h.grow, hL, h.l0, h.mn, h.m0, h.im, h.i0, fun n c e => let ⟨_, b, d⟩ := h.cl n c e; ⟨hc n c e, b, d⟩, h.ap⟩
  · obtain ⟨_, ys, n, hl, ra⟩ := h.ok.mu D ds hx
    exact ⟨hm D ds hx, ys, n, hl, ra.mono up⟩
  · obtain ⟨v, rv, i⟩ := hv y d hy; exact ⟨v, rv.mono up, i⟩

/-- an iterator is left behind; what it owned may be gone -/
theorem FSt.leave {C : Cx} {s₀ s s' : Shared} {F : List Addr} {P : Heap → Prop} {r : List (List Addr × (Heap → Prop))} {X : List Addr} (h : FSt C s₀ s) (hi : C.its = (F, P) :: r) (hX : C.X = F ++ X) (hFX : ∀ b ∈ F, b ∉ X) (t : Turns F s s') : FSt { C with X := X, its := r } s₀ s' := by
  have hmem : (F, P) ∈ C.its := by rw [hi]; exact .head _
  have hF := (h.ok.it F P hmem).at_
  have hsub : ∀ p ∈ r, p ∈ C.its := fun p hp => by rw [hi]; exact .tail _ hp
  have mem : ∀ b, b ∈ C.X → b ∉ F → b ∈ X := fun b hb q => by
    rw [hX] at hb
    exact (List.mem_append.mp hb).resolve_left q
  have sub : ∀ b ∈ X, b ∈ C.X := fun b hb => by rw [hX]; exact List.mem_append.mpr (.inr hb)
  have hnd : (r.flatMap (·.1)).Nodup := by
    have := h.im
    rw [hi, List.flatMap_cons] at this
    exact (List.nodup_append.mp this).2.1
  have h1 : FSt { C with its := r } s₀ s := h.drop (fun _ h => h) h.mn hsub hnd fun _ h => h
  obtain ⟨m, hn, hv⟩ := h.ok.ns
  have nF : ∀ b o, s.heap.get? b = some o → ¬ (∃ vs, o.data = .fields vs) → b ∉ F := fun b o e hd hb => by
    obtain ⟨_, o', vs, e', d⟩ := hF b hb
    rw [e] at e'; cases e'; exact hd ⟨vs, d⟩
  have h2 : FSt { C with X := X, its := r } s₀ s := h1.unhide sub (mem _ h.lX (by
      obtain ⟨o, es, ep, e, d, _⟩ := hn
      exact nF _ o e fun ⟨vs, q⟩ => by rw [d] at q; cases q)) (fun G P' hg b hb => mem b ((h.ok.it G P' (hsub _ hg)).at_ b hb).1 (h.itsNe hi G P' hg b hb)) (fun D ds hx => by
      obtain ⟨a, ys, n, e, _⟩ := h.ok.mu D ds hx
      exact mem D a (nF D _ e fun ⟨vs, q⟩ => by cases q)) fun n c e => by
      obtain ⟨a, ⟨v, o, e', d⟩, _⟩ := h.cl n c e
      exact mem c a (nF c o e' fun ⟨vs, q⟩ => by rw [d] at q; cases q)
  -- now what F owned changes at will
  obtain ⟨m, hn, hv⟩ := h2.ok.ns
  have ksq : ∀ b o xs n, b ∉ C.X → s.heap.get? b = some o → o.data = .seq xs n → b ∉ X ∧ s'.heap.get? b = some o := fun b o xs n hb e d => ⟨fun q => hb (sub b q), t.keep b o (fun q => hb (hF b q).1) e⟩
  obtain ⟨m₁, hn₁, hv₁⟩ := h1.ok.ns
  have kL := nF C.env.locals
  refine ⟨⟨fun b o e => t.keep b o (fun q => ?_) (h.ok.g b o e), h.ok.fn, h.ok.gl, h.ok.bl, fun b hb => ?_, h.ok.room, h.ok.hand, h.ok.dep, h.ok.fr.of (fun L o es n _ e d => ⟨o, es, n, t.keep L o (nF L o e fun ⟨vs, q⟩ => by rw [d] at q; cases q) e, d⟩), fun G P' hg => (h2.ok.it G P' hg).move (fun b hb => ((h2.ok.it G P' hg).at_ b hb).1) (fun b hb o e => t.keep b o (h.itsNe hi G P' hg b hb) e), fun D ds hx => ?_, fun v d hx => (h.ok.fa v d hx).monoS ksq, m₁, hn₁.at' fun o e => t.keep _ o (kL o e fun ⟨vs, q⟩ => ?_) e, fun y d hy => ?_⟩, h.grow.turns t (fun a ha => h.i0 F P hmem a ha), h2.lX, h2.l0, h2.mn, h2.m0, h2.im, h2.i0, fun n c e => ?_, h2.ap⟩
  · rw [(h.ok.lo _ (hF b q).1).2] at e; cases e
  · obtain ⟨⟨o, e⟩, q⟩ := h.ok.lo b (sub b hb)
    exact ⟨⟨o, t.keep b o (fun q => hFX b q hb) e⟩, q⟩
  · obtain ⟨_, ys, n, hl, ra⟩ := h.ok.mu D ds hx
    exact ⟨(h2.ok.mu D ds hx).inX, ys, n, t.keep D _ (nF D _ hl fun ⟨vs, q⟩ => by cases q) hl, ra.monoS ksq⟩
  · obtain ⟨o', es, ep, e', d, _⟩ := hn₁
    rw [e] at e'; cases e'; rw [d] at q; cases q
  · obtain ⟨v, rv, i⟩ := hv₁ y d hy
    refine ⟨v, rv.monoS ksq, ?_⟩
    rcases i with i | ⟨i1, c, hc, oc, e1, e2⟩
    · exact .inl i
    · exact .inr ⟨i1, c, hc, oc, t.keep c oc (nF c oc e1 fun ⟨vs, q⟩ => by rw [e2] at q; cases q) e1, e2⟩
  · obtain ⟨a, ⟨v₀, oc, e1, e2⟩, d⟩ := h2.cl n c e
    exact ⟨a, ⟨v₀, oc, t.keep c oc (nF c oc e1 fun ⟨vs, q⟩ => by rw [e2] at q; cases q) e1, e2⟩, d⟩
end Mine
end
section
open PySem PySem.Spec PySem.SeqAt PySem.Calls PyProof.Rows
namespace Mine

/-- what stays through a call -/
structure Stat where
  prog : Program
  w : World
  A : Around
  env : Env
  G : Glob
  calm : Bool := true
noncomputable abbrev Muts := List (Addr × List PyData)
noncomputable abbrev Its := List (List Addr × (Heap → Prop))
noncomputable abbrev Facts := List (Value × PyData)
noncomputable abbrev Vars := List (Str × PyData)
noncomputable abbrev cx (S : Stat) (X : List Addr) (V : Vars) (M : Muts) (I : Its) (K : Facts) : Cx := ⟨S.prog, S.w, S.A, S.env, X, S.G, V, M, I, K, S.calm⟩
/-- the state of a call that began at s₀ -/
noncomputable abbrev FS (S : Stat) (X : List Addr) (V : Vars) (M : Muts) (I : Its) (K : Facts) (s₀ s : Shared) : Prop := FSt (cx S X V M I K) s₀ s

/-- a walk over fixed things -/
structure Walk (prog : Program) (w : World) (A : Around) (It : Addr) (F : List Addr) (P : Nat → Heap → Prop) (ds : List PyData) (q : Value × PyData) (target : Expr) : Prop where
  loc : ∀ k h h', P k h → (∀ b ∈ F, ∀ o, h.get? b = some o → h'.get? b = some o) → P k h'
  fld : ∀ k h, P k h → ∀ b ∈ F, ∃ o vs, h.get? b = some o ∧ o.data = .fields vs
  nx : ∀ X k d s, ds[k]? = some d → (∀ b ∈ F, b ∈ X) → (∀ b ∈ X, ∃ o, s.heap.get? b = some o) → P k s.heap → Rd X s.heap q.2 q.1 → ∀ (Q : Value → Shared → Prop), (∀ v s', Turns F s s' → P (k + 1) s'.heap → Rd X s'.heap d v → Q v s') →
    wpAny (model prog w) A (pyNext (.ref It)) (fun r s₁ => ∃ v, r = some v ∧ wpAny (model prog w) A (letOwnedTupleGo target (.ref It) v) (fun _ s₂ => Q v s₂) (fun _ _ => False) s₁) (fun _ _ => False) s
  stop : ∀ X s, A.handled = none → P ds.length s.heap → Rd X s.heap q.2 q.1 → wpAny (model prog w) A (pyNext (.ref It)) (fun r s' => r = none ∧ Turns F s s') (fun _ _ => False) s

/-- the expression, met by a loop, yields these -/
noncomputable def Srcw (C : Cx) (e : Expr) (target : Expr) (ds : List PyData) : Prop := ∀ s, C.ok s → wpAny C.M C.A (eval e C.env) (fun x s₁ => wpAny C.M C.A (pyIter x)
  (fun it s₂ => ∃ It F P q, it = .ref It ∧ (∀ b ∈ F, s.heap.get? b = none) ∧ F.Nodup ∧ Grow C.G.top s s₂ ∧ Walk C.prog C.w C.A It F P ds q target ∧ P 0 s₂.heap ∧ Rd C.X s₂.heap q.2 q.1) (fun _ _ => False) s₁) (fun _ _ => False) s

theorem turns_of {s : Shared} {h' : Heap} {n : Nat} {F : List Addr} (k : ∀ b o, b ∉ F → s.heap.get? b = some o → h'.get? b = some o) : Turns F s { s with heap := h', toks := n } := ⟨k, rfl, rfl, rfl⟩

theorem Walk.list {prog : Program} {w : World} {A : Around} {I l : Addr} {i : Nat} {all : List PyData} {target : Expr} (ht : ∀ v, letOwnedTupleGo target (.ref I) v = pure () ∨ ∃ elts x p, target = .Tuple elts x p) :
    Walk prog w A I [I] (fun k h => h.IsListIter I l (i + k)) (all.drop i) (.ref l, .list all) target where
  loc := fun k h h' ⟨o, e, r⟩ hk => ⟨o, hk I (.head _) o e, r⟩
  fld := fun k h ⟨o, e, r, d⟩ b hb => by simp at hb; subst hb; exact ⟨o, _, e, d⟩
  nx := fun X k d s hd hF _ hP rq Q hQ => by
    obtain ⟨a, vs, n, q, hl, hL, r⟩ := rq.list_inv
    cases q
    obtain ⟨v, hx, rv⟩ := r.get (k := i + k) (by simpa using hd)
    have hIX : I ∈ X := hF I (.head _)
    refine wpAny_pyNext_list_item hP (isList_of hL) (x := v) (by simpa using hx) fun h' hit hs => ⟨v, rfl, ?_⟩
    have keep : ∀ b o, b ≠ I → s.heap.get? b = some o → h'.get? b = some o := fun b o hb e => (hs.2 b hb).trans e
    have fin : Q v { s with heap := h' } := hQ v _ (turns_of (n := s.toks) fun b o hb e => keep b o (by simpa using hb) e) hit (rv.touch hIX keep)
    rcases ht v with e | ⟨elts, x, p, rfl⟩
    · rw [e]; exact wpAny_pure fin
    · obtain ⟨o, e, hc, hd⟩ := hit
      cases v with
      | ref a =>
        unfold letOwnedTupleGo
        refine wpAny_bind (wpAny_load (s := { s with heap := h' }) e ?_)
        rw [hc, hd]
        dsimp only
        rw [if_neg (fun q => by rw [Bool.and_eq_true] at q; exact absurd q.1 (by decide))]
        exact wpAny_pure fin
      | _ => exact wpAny_pure fin
  stop := fun X s hh hP rq => by
    obtain ⟨a, vs, n, q, hl, hL, r⟩ := rq.list_inv
    cases q
    have hlen := r.length
    have hge : vs.length ≤ i + (all.drop i).length := by simp; omega
    exact wpAny_pyNext_list_end hh hP (isList_of hL) (by simpa using hge) fun h' he => ⟨rfl, turns_of (n := s.toks) fun b o hb e => he b o (by simpa using hb) e⟩

theorem Walk.tuple {prog : Program} {w : World} {A : Around} {I l : Addr} {all : List PyData} {target : Expr} (ht : ∀ v, letOwnedTupleGo target (.ref I) v = pure () ∨ ∃ elts x p, target = .Tuple elts x p) :
    Walk prog w A I [I] (fun k h => h.IsTupleIter I l k) all (.ref l, .tuple all) target where
  loc := fun k h h' ⟨o, e, r⟩ hk => ⟨o, hk I (.head _) o e, r⟩
  fld := fun k h ⟨o, e, r, d⟩ b hb => by simp at hb; subst hb; exact ⟨o, _, e, d⟩
  nx := fun X k d s hd hF _ hP rq Q hQ => by
    obtain ⟨a, vs, n, q, hl, hL, r⟩ := rq.tuple_inv
    cases q
    obtain ⟨v, hx, rv⟩ := r.get hd
    have hIX : I ∈ X := hF I (.head _)
    refine wpAny_pyNext_tuple_item hP ⟨_, hL, rfl, n, rfl⟩ (x := v) (by simpa using hx) fun h' hit hs => ⟨v, rfl, ?_⟩
    have keep : ∀ b o, b ≠ I → s.heap.get? b = some o → h'.get? b = some o := fun b o hb e => (hs.2 b hb).trans e
    have fin : Q v { s with heap := h' } := hQ v _ (turns_of (n := s.toks) fun b o hb e => keep b o (by simpa using hb) e) hit (rv.touch hIX keep)
    rcases ht v with e | ⟨elts, x, p, rfl⟩
    · rw [e]; exact wpAny_pure fin
    · obtain ⟨o, e, hc, hd⟩ := hit
      cases v with
      | ref a =>
        unfold letOwnedTupleGo
        refine wpAny_bind (wpAny_load (s := { s with heap := h' }) e ?_)
        rw [hc, hd]
        dsimp only
        rw [if_neg (fun q => by rw [Bool.and_eq_true] at q; exact absurd q.1 (by decide))]
        exact wpAny_pure fin
      | _ => exact wpAny_pure fin
  stop := fun X s hh hP rq => by
    obtain ⟨a, vs, n, q, hl, hL, r⟩ := rq.tuple_inv
    cases q
    have hlen := r.length
    exact wpAny_pyNext_tuple_end hh hP ⟨_, hL, rfl, n, rfl⟩ (by simp [hlen]) fun h' he => ⟨rfl, turns_of (n := s.toks) fun b o hb e => he b o (by simpa using hb) e⟩

theorem Walk.range {prog : Program} {w : World} {A : Around} {I : Addr} {a : Int} {n : Nat} {x : Str} {p : Pos} :
    Walk prog w A I [I] (fun k h => IsRangeIter h I (a + k) ((n : Int) - k) 1) ((List.range n).map fun (k : Nat) => .int (a + (k : Int))) (.none, .none) (.Name x p) where
  loc := fun k h h' e hk => hk I (.head _) _ e
  fld := fun k h e b hb => by simp at hb; subst hb; exact ⟨_, _, e, rfl⟩
  nx := fun X k d s hd hF _ hP rq Q hQ => by
    simp only [List.getElem?_map] at hd
    obtain ⟨j, hj, rfl⟩ := Option.map_eq_some_iff.mp hd
    have hlt := (List.getElem?_eq_some_iff.mp hj).1
    have : j = k := by rw [List.getElem?_eq_some_iff] at hj; obtain ⟨h1, h2⟩ := hj; simpa using h2.symm
    subst this
    simp at hlt
    refine wpAny_pyNext_range_item hP (by omega) fun h' hit hs => ⟨_, rfl, wpAny_pure ?_⟩
    have keep : ∀ b o, b ≠ I → s.heap.get? b = some o → h'.get? b = some o := fun b o hb e => (hs.2 b hb).trans e
    refine hQ _ _ (turns_of fun b o hb e => keep b o (by simpa using hb) e) ?_ .int_
    have e1 : a + ((j + 1 : Nat) : Int) = a + j + 1 := by push_cast; omega
    have e2 : (n : Int) - ((j + 1 : Nat) : Int) = (n : Int) - j - 1 := by push_cast; omega
    rw [e1, e2]; exact hit
  stop := fun X s hh hP rq => by
    have hP' : IsRangeIter s.heap I (a + n) ((n : Int) - n) 1 := by simpa using hP
    exact wpAny_pyNext_range_end hh hP' (by omega) fun h' he => ⟨rfl, turns_of (n := s.toks) fun b o hb e => he b o (by simpa using hb) e⟩

theorem Src.walk {C : Cx} {e : Expr} {ds : List PyData} {x : Str} {p : Pos} (h : Src C e ds) : Srcw C e (.Name x p) ds := fun s ok => by
  refine wpAny_mono (h s ok) (fun v s₁ h₁ => wpAny_mono h₁ (fun it s₂ h₂ => ?_) fun _ _ q => q) fun _ _ q => q
  obtain ⟨I, rfl, hI, g, it⟩ := h₂
  rcases it with ⟨l, i, vs, n, all, hi, hl, hL, r, q⟩ | ⟨a, hr, e⟩
  · exact ⟨I, [I], _, (.ref l, .list all), rfl, by simpa using hI, by simp, g, q ▸ Walk.list (i := i) (fun v => .inl rfl), hi, .list_ hl hL r⟩
  · rw [e]
    exact ⟨I, [I], _, (.none, .none), rfl, by simpa using hI, by simp, g, Walk.range, by simpa using hr, .none_⟩

theorem Srcw.listT {C : Cx} {e : Expr} {ds : List PyData} {elts : List Expr} {x1} {p : Pos} (h : Ev C e (.list ds)) : Srcw C e (.Tuple elts x1 p) ds := fun s ok => by
  refine h.use ok fun v s₁ g₁ ok₁ r => ?_
  obtain ⟨a, vs, n, rfl, ha, hl, ra⟩ := r.list_inv
  refine wpAny_pyIter_list (isList_of hl) ⟨_, [s₁.heap.objs.size], _, (.ref a, .list ds), rfl, ?_, by simp, g₁.trans (.push _ _), Walk.list (all := ds) (i := 0) (fun v => .inr ⟨elts, x1, p, rfl⟩), ⟨_, Heap.get?_push_size _ rfl, rfl, rfl⟩, .list_ ha (Heap.get?_push_of_some _ hl) (ra.ext (.push C.G.top _ _))⟩
  simpa using g₁.ext.none (get_size s₁.heap)
theorem Srcw.tuple {C : Cx} {e : Expr} {ds : List PyData} {target : Expr} (h : Ev C e (.tuple ds)) (ht : ∀ I v, letOwnedTupleGo target (.ref I) v = pure () ∨ ∃ elts x p, target = .Tuple elts x p) : Srcw C e target ds := fun s ok => by
  refine h.use ok fun v s₁ g₁ ok₁ r => ?_
  obtain ⟨a, vs, n, rfl, ha, hl, ra⟩ := r.tuple_inv
  refine wpAny_pyIter_tuple ⟨_, hl, rfl, n, rfl⟩ ⟨_, [s₁.heap.objs.size], _, (.ref a, .tuple ds), rfl, ?_, by simp, g₁.trans (.push _ _), Walk.tuple (all := ds) (ht _), ⟨_, Heap.get?_push_size _ rfl, rfl, rfl⟩, .tuple_ ha (Heap.get?_push_of_some _ hl) (ra.ext (.push C.G.top _ _))⟩
  simpa using g₁.ext.none (get_size s₁.heap)
end Mine
end
section
open PySem PySem.Spec PySem.SeqAt PySem.Calls PyProof.Rows
namespace Mine

/-- the target takes the datum -/
noncomputable def Asg (S : Stat) (target : Expr) (d : PyData) (T : Vars) : Prop := ∀ X V M I K s₀ s v, Rd X s.heap d v → FS S X V M I K s₀ s → ∀ Q : Unit → Shared → Prop, (∀ s', FS S X (T ++ V) M I K s₀ s' → Q () s') → wpAny (model S.prog S.w) S.A (assign target S.env v) Q (fun _ _ => False) s
theorem Asg.name {S : Stat} {x : Str} {p : Pos} {d : PyData} (hk : Bindable S.env x := by first | exact .inl rfl | exact .inr ⟨rfl, rfl⟩) : Asg S (.Name x p) d [(x, d)] := fun X V M I K s₀ s v r h Q k =>
  wpAny_assign_Name (FSt.put (C := cx S X V M I K) h hk r fun s' st _ _ => k s' st)
theorem grow_but {T : Heap} {s : Shared} {h' : Heap} (e : Heap.ExtBut s.heap.objs.size s.heap h') : Grow T s { s with heap := h' } := .heap s fun b o q => e b o (fun z => by rw [z, get_size] at q; cases q) q
theorem Asg.pair {S : Stat} {x y : Str} {p1 p2 p : Pos} {x1} {a b : PyData} (hc : S.calm = true := by rfl) (hx : Bindable S.env x := by first | exact .inl rfl | exact .inr ⟨rfl, rfl⟩) (hy : Bindable S.env y := by first | exact .inl rfl | exact .inr ⟨rfl, rfl⟩)
    (ha : assignEach [.Name x p1, .Name y p2] S.env = [(false, assign (.Name x p1) S.env), (false, assign (.Name y p2) S.env)] := by rfl) : Asg S (.Tuple [.Name x p1, .Name y p2] x1 p) (.tuple [a, b]) [(y, b), (x, a)] := fun X V M I K s₀ s v r h Q k => by
  obtain ⟨t, vs, n, rfl, ht, hl, ra⟩ := r.tuple_inv
  simp only [RdAll] at ra
  obtain ⟨va, r1, rfl, raa, vb, r2, rfl, rbb, rfl⟩ := ra
  refine wpAny_assign_Tuple (h.ok.hand hc) ⟨_, hl, rfl, n, rfl⟩ (by rw [ha]; rfl) (by rw [ha]; rfl) fun h' he => ?_
  rw [ha]
  have g : Grow S.G.top s { s with heap := h' } := grow_but he
  have h1 := FSt.step (C := cx S X V M I K) h g
  show wpAny _ S.A (do holding [vb] (assign (.Name x p1) S.env va); do holding [] (assign (.Name y p2) S.env vb); pure ()) _ _ _
  have h2 := h1.fact (rbb.ext g.ext)
  refine wpAny_bind (wpAny_holding (wpAny_assign_Name (FSt.put h2 hx (raa.ext g.ext) fun s₂ st₂ _ _ => ?_)))
  refine wpAny_bind (wpAny_holding (wpAny_assign_Name (FSt.put st₂ hy (st₂.ok.fa _ _ (.head _)) fun s₃ st₃ _ _ => wpAny_pure ?_)))
  exact k s₃ (st₃.dropFacts fun p hp => .tail _ hp)

section
variable {S : Stat} {X : List Addr} {V : Vars} {M : Muts} {I : Its} {K : Facts} {s₀ s : Shared} {x : Str} {e : Expr} {d : PyData} {p' pos : Pos} {rest : List Stmt} {Q : Flow → Shared → Prop} {E : Value → Shared → Prop}

theorem s_assign (h : FS S X V M I K s₀ s) (he : Ev (cx S X V M I K) e d) (k : ∀ s', FS S X ((x, d) :: V) M I K s₀ s' → wpAny (model S.prog S.w) S.A (execs rest S.env) Q E s')
    (hk : Bindable S.env x := by first | exact .inl rfl | exact .inr ⟨rfl, rfl⟩) (hs : swapsWith e (some (.Name x p')) pos.line S.env = pure false := by rfl) :
    wpAny (model S.prog S.w) S.A (execs (.Assign [.Name x p'] e pos :: rest) S.env) Q E s :=
  ex_assign (C := cx S X V M I K) h he k hk hs
theorem s_if {t : Expr} {b : Bool} {body orelse : List Stmt} (h : FS S X V M I K s₀ s) (ht : Tr (cx S X V M I K) t b)
    (k1 : b = true → ∀ s', FS S X V M I K s₀ s' → wpAny (model S.prog S.w) S.A (execs body S.env) (fun f s' => match f with | .next => wpAny (model S.prog S.w) S.A (execs rest S.env) Q E s' | f => Q f s') E s')
    (k2 : b = false → ∀ s', FS S X V M I K s₀ s' → wpAny (model S.prog S.w) S.A (execs orelse S.env) (fun f s' => match f with | .next => wpAny (model S.prog S.w) S.A (execs rest S.env) Q E s' | f => Q f s') E s') :
    wpAny (model S.prog S.w) S.A (execs (.If t body orelse pos :: rest) S.env) Q E s := ex_if (C := cx S X V M I K) h ht k1 k2
theorem s_if_false {t : Expr} {body : List Stmt} (h : FS S X V M I K s₀ s) (ht : Tr (cx S X V M I K) t false) (k : ∀ s', FS S X V M I K s₀ s' → wpAny (model S.prog S.w) S.A (execs rest S.env) Q E s') :
    wpAny (model S.prog S.w) S.A (execs (.If t body [] pos :: rest) S.env) Q E s := ex_if_false (C := cx S X V M I K) h ht k
theorem s_return (h : FS S X V M I K s₀ s) (he : Ev (cx S X V M I K) e d) (k : ∀ v s', Grow S.G.top s₀ s' → Rd X s'.heap d v → Q (.ret v) s') : wpAny (model S.prog S.w) S.A (execs (.Return (some e) pos :: rest) S.env) Q E s :=
  ex_return (C := cx S X V M I K) h he k

/-- x = [..]: a list of the call's own is made -/
theorem s_newlist {es : List Expr} {lpos : Pos} {ds : List PyData} (h : FS S X V M I K s₀ s) (he : Evs (cx S X V M I K) es ds) (hsz : ds.length ≤ sizeLine)
    (k : ∀ D s', D ∉ X → s.heap.get? D = none → FS S (D :: X) ((x, raw D) :: V) ((D, ds) :: M) I K s₀ s' → wpAny (model S.prog S.w) S.A (execs rest S.env) Q E s')
    (hk : Bindable S.env x := by first | exact .inl rfl | exact .inr ⟨rfl, rfl⟩) (hs : swapsWith (.List es lpos) (some (.Name x p')) pos.line S.env = pure false := by rfl) :
    wpAny (model S.prog S.w) S.A (execs (.Assign [.Name x p'] (.List es lpos) pos :: rest) S.env) Q E s := by
  refine wpAny_execs_cons (wpAny_Assign_Name (wpAny_List (wpAny_mono (he s h.ok lpos) (fun us s₁ q => ⟨by rw [q.2.length]; exact hsz, ?_⟩) fun _ _ q => q.elim)) hs)
  obtain ⟨g, r⟩ := q
  have h₁ := FSt.step (C := cx S X V M I K) h g
  have hD1 : s₁.heap.get? s₁.heap.objs.size = none := get_size _
  have hD0 : s.heap.get? s₁.heap.objs.size = none := g.ext.none hD1
  have g₂ : Grow S.G.top s₁ { s₁ with heap := s₁.heap.push { cls := .type "list", data := .seq us.toArray } } := .push _ _
  have h₂ := h₁.own (ds := ds) hD1 g₂ (isL_new s₁.heap us) (r.monoS (off_cons hD1 g₂.ext))
  exact h₂.put hk .raw_ fun s' st _ _ => k _ s' (ok_notin h₁.ok hD1) hD0 st

theorem FSt.append {C : Cx} {D : Addr} {ds : List PyData} {r : Muts} {v : Value} {Q : Value → Shared → Prop} (h : FSt C s₀ s) (hm : C.muts = (D, ds) :: r) (rv : Rd C.X s.heap d v) (hsz : ds.length ≤ sizeLine)
    (k : ∀ s', FSt { C with muts := (D, ds ++ [d]) :: r } s₀ s' → Q .none s') : wpAny C.M C.A (call (.builtin "list.append") [.ref D, v]) Q E s := by
  obtain ⟨hD, ys, n, hl, ra⟩ := h.ok.mu D ds (by rw [hm]; exact .head _)
  have hlen := ra.length
  refine wpAny_list_append_plain (hsz := by simp; omega) (⟨n, hl⟩ : s.heap.PlainList D ys.toArray) fun h' hl' hs => ?_
  have keep : ∀ b o, b ≠ D → s.heap.get? b = some o → h'.get? b = some o := fun b o hb e => (hs.2 b hb).trans e
  obtain ⟨n', hl'⟩ := hl'
  rw [show ys.toArray.push v = List.toArray (ys ++ [v]) by simp] at hl'
  exact k _ (h.mutate hm ⟨keep, ⟨_, hl'⟩, rfl, rfl, rfl⟩ hl' (RdAll.append (.one (rv.touch hD keep)) (ra.touch hD keep)))

/-- x.append(e) -/
theorem s_append {D : Addr} {ds : List PyData} {r : Muts} {p1 apos cpos epos : Pos} (h : FS S X V ((D, ds) :: r) I K s₀ s) (he : Ev (cx S X V ((D, ds) :: r) I K) e d) (hsz : ds.length ≤ sizeLine)
    (k : ∀ s', FS S X V ((D, ds ++ [d]) :: r) I K s₀ s' → wpAny (model S.prog S.w) S.A (execs rest S.env) Q E s')
    (hx : V.lookup x = some (raw D) := by rfl) (hd : (x == ("__debug__" : Str)) = false := by decide)
    (hi : interactive S.env = false := by rfl) (hs : swapsWith (.Call (.Attribute (.Name x p1) "append" apos) [e] [] cpos) none epos.line S.env = pure false := by rfl)
    (htrees : starEach [e] S.env = [(false, eval e S.env)] := by rfl) (hline : (apos.endLine == cpos.line) = true := by rfl) :
    wpAny (model S.prog S.w) S.A (execs (.Expr (.Call (.Attribute (.Name x p1) "append" apos) [e] [] cpos) epos :: rest) S.env) Q E s := by
  have ht : backTo cpos (starEach [e] S.env) = [(false, eval e S.env)] := by rw [htrees]; rfl
  refine wpAny_execs_cons (wpAny_Expr (wpAny_Call_append rfl (by rw [ht]; rfl) hline ht ?_) hi hs)
  refine (Ev.name (C := cx S X V ((D, ds) :: r) I K) hx hd).use h.ok fun u s₀' g₀ ok₀ ru => ?_
  have h₀ := FSt.step (C := cx S X V ((D, ds) :: r) I K) h g₀
  rw [ru.raw_inv]
  obtain ⟨_, ys, n, hl, _⟩ := h₀.ok.mu D ds (.head _)
  refine ⟨D, _, rfl, ⟨_, n, hl, rfl, rfl, rfl⟩, he.use h₀.ok fun v s₁ g _ rv => ?_⟩
  exact (h₀.step g).append rfl rv hsz k

theorem turns_refl (F : List Addr) (s : Shared) : Turns F s s := ⟨fun _ _ _ e => e, rfl, rfl, rfl⟩

/-- for target in iter: body, else: orelse; V, M say what holds behind so many turns; B what holds at a break -/
theorem s_forJ {target iter : Expr} {body orelse : List Stmt} {ds : List PyData} {V₀ : Vars} (T : PyData → Vars) (V : Nat → Vars) (M : Nat → Muts) (B : Vars → Muts → Prop) (J : Nat → Prop) (hJ : J 0)
    (h : FS S X V₀ (M 0) I K s₀ s) (src : Srcw (cx S X V₀ (M 0) I K) iter target ds) (hV : Has V₀ (V 0))
    (asg : ∀ (k : Nat) d, ds[k]? = some d → Asg S target d (T d))
    (turn : ∀ (k : Nat) d, ds[k]? = some d → J k → ∀ F P q s', (∀ b ∈ F, b ∉ X) → FS S (F ++ X) (T d ++ V k) (M k) ((F, P) :: I) (q :: K) s₀ s' →
      wpAny (model S.prog S.w) S.A (execs body S.env) (fun fl s'' => match fl with
        | .next | .cont => J (k + 1) ∧ FS S (F ++ X) (V (k + 1)) (M (k + 1)) ((F, P) :: I) (q :: K) s₀ s''
        | .brk => ∃ V' M', B V' M' ∧ FS S (F ++ X) V' M' ((F, P) :: I) (q :: K) s₀ s''
        | .ret v => Q (.ret v) s'') (fun _ _ => False) s')
    (brk : ∀ V' M' s', B V' M' → FS S X V' M' I K s₀ s' → wpAny (model S.prog S.w) S.A (execs rest S.env) Q E s')
    (done : J ds.length → ∀ s', FS S X (V ds.length) (M ds.length) I K s₀ s' → wpAny (model S.prog S.w) S.A (execs orelse S.env) (fun f s'' => match f with
      | .next => wpAny (model S.prog S.w) S.A (execs rest S.env) Q E s''
      | f => Q f s'') (fun _ _ => False) s')
    (hf : ∀ v, foldedSetIterable iter S.env v = pure v := by intro _; rfl) (hcalm : S.calm = true := by rfl) :
    wpAny (model S.prog S.w) S.A (execs (.For target iter body orelse pos :: rest) S.env) Q E s := by
  refine wpAny_execs_cons (wpAny_For (wpAny_mono (src s h.ok) (fun z s₁ h₁ => wpAny_mono h₁ (fun it s₂ h₂ => ?_) fun _ _ q => q.elim) fun _ _ q => q.elim) hf)
  obtain ⟨It, F, P, q, rfl, hF, hnd, g, wk, hP, rq⟩ := h₂
  have hFX : ∀ b ∈ F, b ∉ X := fun b hb => ok_notin h.ok (hF b hb)
  have st0 := FSt.enter (C := cx S X V₀ (M 0) I K) h hF hnd g (wk.fld 0 _ hP) hP (wk.loc 0)
  have rq' : Rd (F ++ X) s₂.heap q.2 q.1 := rq.monoS fun b o xs n hb e hd => ⟨fun hm => by
    rcases List.mem_append.mp hm with hm | hm
    · obtain ⟨o', vs, e', d'⟩ := wk.fld 0 _ hP b hm
      rw [e] at e'; cases e'; rw [hd] at d'; cases d'
    · exact hb hm, e⟩
  have st1 := st0.fact (v := q.1) (d := q.2) rq'
  have st : FS S (F ++ X) (V 0) (M 0) ((F, P 0) :: I) (q :: K) s₀ s₂ := st1.less fun x d hx => hV.get hx
  have stp : ∀ k s, FS S (F ++ X) (V k) (M k) ((F, P k) :: I) (q :: K) s₀ s → (∀ b ∈ F, b ∈ F ++ X) ∧ (∀ b ∈ F ++ X, ∃ o, s.heap.get? b = some o) ∧ P k s.heap ∧ Rd (F ++ X) s.heap q.2 q.1 := fun k s st =>
    ⟨fun b hb => List.mem_append.mpr (.inl hb), fun b hb => (st.ok.lo b hb).1, (st.ok.it F (P k) (.head _)).now, st.ok.fa q.1 q.2 (.head _)⟩
  refine codeAny_forLoop_any (fun n s => ∃ k, k + n = ds.length ∧ J k ∧ FS S (F ++ X) (V k) (M k) ((F, P k) :: I) (q :: K) s₀ s) ?_ ds.length ⟨0, by simp, hJ, st⟩
  rintro n s₃ ⟨k, hk, jk, st⟩
  obtain ⟨p1, p2, p3, p4⟩ := stp k s₃ st
  cases hd : ds[k]? with
  | none =>
    have hkn : k = ds.length := by have := List.getElem?_eq_none_iff.mp hd; omega
    subst hkn
    refine wpAny_mono (wk.stop _ s₃ (h.ok.hand hcalm) p3 p4) (fun r s₄ h₄ => ?_) fun _ _ q => q.elim
    obtain ⟨rfl, t⟩ := h₄
    have st' := (FSt.leave (C := cx S (F ++ X) (V ds.length) (M ds.length) ((F, P ds.length) :: I) (q :: K)) st rfl rfl hFX t).dropFacts (fs := K) fun p hp => .tail _ hp
    refine wpAny_mono (done jk _ st') (fun f s'' q => ?_) fun _ _ q => q.elim
    cases f <;> exact q
  | some d =>
    have hlt := (List.getElem?_eq_some_iff.mp hd).1
    refine wpAny_mono (wk.nx _ k d s₃ hd p1 p2 p3 p4 (fun v s₄ => FS S (F ++ X) (V k) (M k) ((F, P (k + 1)) :: I) (q :: K) s₀ s₄ ∧ Rd (F ++ X) s₄.heap d v) fun v s₄ t hP' rv => ⟨?_, rv⟩) (fun r s₄ h₄ => ?_) fun _ _ q => q.elim
    · exact FSt.advance (C := cx S (F ++ X) (V k) (M k) ((F, P k) :: I) (q :: K)) st rfl t (wk.fld _ _ hP') hP' (wk.loc _)
    · obtain ⟨v, rfl, h₄⟩ := h₄
      refine wpAny_mono h₄ (fun _ s₅ h₅ => ?_) fun _ _ q => q.elim
      refine wpAny_mono (asg k d hd _ _ _ _ _ _ _ v h₅.2 h₅.1 (fun _ s₆ => FS S (F ++ X) (T d ++ V k) (M k) ((F, P (k + 1)) :: I) (q :: K) s₀ s₆) fun s₆ st₆ => st₆) (fun _ s₆ st₆ => ?_) fun _ _ q => q.elim
      refine wpAny_mono (turn k d hd jk F (P (k + 1)) q s₆ hFX st₆) (fun fl s₇ h₇ => ?_) fun _ _ q => q.elim
      cases fl with
      | next => exact ⟨n - 1, by omega, k + 1, by omega, h₇.1, h₇.2⟩
      | cont => exact ⟨n - 1, by omega, k + 1, by omega, h₇.1, h₇.2⟩
      | brk =>
        obtain ⟨V', M', hB, st'⟩ := h₇
        exact brk V' M' s₇ hB ((FSt.leave (C := cx S (F ++ X) V' M' ((F, P (k + 1)) :: I) (q :: K)) st' rfl rfl hFX (turns_refl _ _)).dropFacts (fs := K) fun p hp => .tail _ hp)
      | ret v => exact h₇

/-- for target in iter: body, else: orelse; V, M say what holds behind so many turns; B what holds at a break -/
theorem s_for {target iter : Expr} {body orelse : List Stmt} {ds : List PyData} {V₀ : Vars} (T : PyData → Vars) (V : Nat → Vars) (M : Nat → Muts) (B : Vars → Muts → Prop)
    (h : FS S X V₀ (M 0) I K s₀ s) (src : Srcw (cx S X V₀ (M 0) I K) iter target ds) (hV : Has V₀ (V 0))
    (asg : ∀ (k : Nat) d, ds[k]? = some d → Asg S target d (T d))
    (turn : ∀ (k : Nat) d, ds[k]? = some d → ∀ F P q s', (∀ b ∈ F, b ∉ X) → FS S (F ++ X) (T d ++ V k) (M k) ((F, P) :: I) (q :: K) s₀ s' →
      wpAny (model S.prog S.w) S.A (execs body S.env) (fun fl s'' => match fl with
        | .next | .cont => FS S (F ++ X) (V (k + 1)) (M (k + 1)) ((F, P) :: I) (q :: K) s₀ s''
        | .brk => ∃ V' M', B V' M' ∧ FS S (F ++ X) V' M' ((F, P) :: I) (q :: K) s₀ s''
        | .ret v => Q (.ret v) s'') (fun _ _ => False) s')
    (brk : ∀ V' M' s', B V' M' → FS S X V' M' I K s₀ s' → wpAny (model S.prog S.w) S.A (execs rest S.env) Q E s')
    (done : ∀ s', FS S X (V ds.length) (M ds.length) I K s₀ s' → wpAny (model S.prog S.w) S.A (execs orelse S.env) (fun f s'' => match f with
      | .next => wpAny (model S.prog S.w) S.A (execs rest S.env) Q E s''
      | f => Q f s'') (fun _ _ => False) s')
    (hf : ∀ v, foldedSetIterable iter S.env v = pure v := by intro _; rfl) (hcalm : S.calm = true := by rfl) :
    wpAny (model S.prog S.w) S.A (execs (.For target iter body orelse pos :: rest) S.env) Q E s :=
  s_forJ T V M B (fun _ => True) trivial h src hV asg (fun k d hd _ F P q s' hF st => wpAny_mono (turn k d hd F P q s' hF st) (fun fl s'' x => by cases fl <;> first | exact ⟨trivial, x⟩ | exact x) fun _ _ x => x) brk (fun _ s' st => done s' st) hf hcalm

/-- a name that was bound to a list of the call's own, which will not change any more -/
theorem s_freeze {D : Addr} {ds : List PyData} {r : Muts} (h : FS S X V ((D, ds) :: r) I K s₀ s) (hx : V.lookup x = some (raw D)) : FS S (X.filter (· ≠ D)) ((x, .list ds) :: V) r I K s₀ s :=
  ((FSt.freeze (C := cx S X V ((D, ds) :: r) I K) h rfl).know hx (.head _)).dropFacts fun p hp => .tail _ hp
theorem s_less {W : Vars} (h : FS S X V M I K s₀ s) (hv : Has V W) : FS S X W M I K s₀ s := FSt.less (C := cx S X V M I K) h fun x d hx => hv.get hx
theorem s_muts {N : Muts} (h : FS S X V M I K s₀ s) (hm : ∀ p ∈ N, p ∈ M) (hn : (N.map (·.1)).Nodup) : FS S X V N I K s₀ s := FSt.drop (C := cx S X V M I K) h hm hn (fun _ h => h) h.im fun _ h => h
theorem s_swap {a b : Addr × List PyData} {r : Muts} (h : FS S X V (a :: b :: r) I K s₀ s) : FS S X V (b :: a :: r) I K s₀ s := by
  refine s_muts h (fun p hp => ?_) ?_
  · rcases List.mem_cons.mp hp with q | hp
    · subst q; exact .tail _ (.head _)
    · rcases List.mem_cons.mp hp with q | hp
      · subst q; exact .head _
      · exact .tail _ (.tail _ hp)
  · have := h.mn
    simp only [List.map_cons, List.nodup_cons, List.mem_cons, not_or] at this ⊢
    exact ⟨⟨Ne.symm this.1.1, this.2.1⟩, this.1.2, this.2.2⟩

/-- x += e -/
theorem s_aug {a b : Int} (h : FS S X V M I K s₀ s) (he : Ev (cx S X V M I K) e (.int b))
    (k : ∀ s', FS S X ((x, .int (a + b)) :: V) M I K s₀ s' → Recs s s' → wpAny (model S.prog S.w) S.A (execs rest S.env) Q E s')
    (hx : V.lookup x = some (.int a) := by rfl) (hk : S.env.kindOf x = some .local := by rfl) :
    wpAny (model S.prog S.w) S.A (execs (.AugAssign (.Name x p') .Add e pos :: rest) S.env) Q E s := by
  refine wpAny_execs_cons (wpAny_AugAssign_Name ?_)
  obtain ⟨m, hn, hv⟩ := h.ok.ns
  obtain ⟨v, r, i⟩ := hv x _ hx
  obtain ⟨t, rfl⟩ := r.int_inv
  rcases i with ⟨_, i⟩ | ⟨q | ⟨q, _⟩, _⟩
  · refine wpAny_loadName_local h.ok.fn hk hn i (he.use h.ok fun u s₁ g₁ ok₁ r₁ => ?_)
    obtain ⟨t', rfl⟩ := r₁.int_inv
    refine wpAny_iadd_int ?_
    exact ((FSt.step (C := cx S X V M I K) h g₁).step (.tok _ _)).put (.inl hk) .int_ fun s' st _ rc => k s' st (g₁.recs.trans rc)
  · change S.env.kindOf x = _ at q; rw [hk] at q; cases q
  · change S.env.kindOf x = _ at q; rw [hk] at q; cases q

/-- x = y = e -/
theorem s_assign2 {y : Str} {p'' : Pos} (h : FS S X V M I K s₀ s) (he : Ev (cx S X V M I K) e d)
    (k : ∀ s', FS S X ((y, d) :: (x, d) :: V) M I K s₀ s' → wpAny (model S.prog S.w) S.A (execs rest S.env) Q E s')
    (hk : Bindable S.env x := by first | exact .inl rfl | exact .inr ⟨rfl, rfl⟩) (hk' : Bindable S.env y := by first | exact .inl rfl | exact .inr ⟨rfl, rfl⟩)
    (hea : (assignEach [.Name x p', .Name y p''] S.env).map (·.2) = [assign (.Name x p') S.env, assign (.Name y p'') S.env] := by rfl)
    (hw : swappedStores [.Name x p', .Name y p''] e S.env = pure none := by rfl) :
    wpAny (model S.prog S.w) S.A (execs (.Assign [.Name x p', .Name y p''] e pos :: rest) S.env) Q E s := by
  refine wpAny_execs_cons (wpAny_Assign_two (he.use h.ok fun v s₁ g₁ ok₁ r₁ => ?_) hea hw)
  refine wpAny_assign_Name ((FSt.step (C := cx S X V M I K) h g₁).put hk r₁ fun s₂ st r₂ _ => ?_)
  exact wpAny_assign_Name (st.put hk' r₂ fun s₃ st₃ _ _ => k s₃ st₃)
end

noncomputable def LocOk (fd : FuncData) : List (Str × Value) → Prop
  | [] => True
  | (x, _) :: r => fd.scope.names.lookup x = some .local ∧ LocOk fd r
theorem LocOk.get {fd : FuncData} : ∀ {l : List (Str × Value)}, LocOk fd l → ∀ {x}, x ∈ l → fd.scope.names.lookup x.1 = some .local
  | [], _, x, h => by cases h
  | (y, v) :: r, hh, x, h => by
    rcases List.mem_cons.mp h with q | h
    · cases q; exact hh.1
    · exact LocOk.get hh.2 h
noncomputable def BindOk (fd : FuncData) (binds : List (Str × Value)) (X : List Addr) (h : Heap) : Vars → Prop
  | [] => True
  | (x, d) :: r => (∃ v, binds.reverse.lookup x = some v ∧ Rd X h d v ∧ fd.scope.names.lookup x = some .local) ∧ BindOk fd binds X h r
theorem BindOk.get {fd : FuncData} {binds : List (Str × Value)} {X : List Addr} {h : Heap} : ∀ {W : Vars}, BindOk fd binds X h W → ∀ {x d}, W.lookup x = some d → ∃ v, binds.reverse.lookup x = some v ∧ Rd X h d v ∧ fd.scope.names.lookup x = some .local
  | [], _, x, d, h => by cases h
  | (y, e) :: r, hh, x, d, h => by
    rw [lookup_cons] at h
    split at h
    · next q => cases h; rw [beq_iff_eq.mp q]; exact hh.1
    · exact BindOk.get hh.2 h
theorem s_call {prog : Program} {w : World} {G : Glob} {n : Nat} {fa : Addr} {fd : FuncData} {body : List Stmt} {A : Around} {X : List Addr} {s : Shared} {vals : List Value} {binds : List (Str × Value)} (vars : Vars) {Q : Value → Shared → Prop} {E : Value → Shared → Prop}
    (f : FnAt G fa fd) (hbody : fd.body = .stmts body) (room : Room A (n + 1)) (am : Amid G A X s)
    (hbind : bindArgs fd ⟨vals, []⟩ = pure binds) (hcell : ∀ x ∈ fd.scope.names, x.2 ≠ .cell) (hcl : fd.closure = []) (hloc : LocOk fd binds)
    (hvars : BindOk fd binds X s.heap vars)
    (h : ∀ L s', FS ⟨prog, w, A.deeper (callEnv fd L fa), callEnv fd L fa, G, true⟩ (L :: X) vars [] [] [] s s' → Room (A.deeper (callEnv fd L fa)) n → L ∉ X →
      wpAny (model prog w) (A.deeper (callEnv fd L fa)) (execs body (callEnv fd L fa)) (fun fl s'' => Q (match fl with | .ret v => v | _ => .none) s'') (fun _ _ => False) s')
    (hco : fd.scope.isCoroutine = false := by rfl) (hgen : fd.scope.isGenerator = false := by rfl) (hk : fd.scope.kind = .function := by rfl) :
    wpAny (model prog w) A (call (.ref fa) vals) Q E s := call_fn f hbody room am hbind hcell hcl (fun x hx => hloc.get hx) (fun x d hx => hvars.get hx) h hco hgen hk
end Mine
end
section
open PySem PySem.Spec PySem.SeqAt PySem.Calls PyProof.Rows
namespace Mine

/-- a hidden record of the call's own is changed -/
theorem FSt.touch {C : Cx} {s₀ s s' : Shared} {a : Addr} {o : Obj} {vs : Array Value} (h : FSt C s₀ s) (hi : C.its = []) (ha : a ∈ C.X) (h0 : s₀.heap.get? a = none) (ho : s.heap.get? a = some o) (hd : o.data = .fields vs) (t : Turn a s s') : FSt C s₀ s' := by
  refine h.turns (F := [a]) (fun b hb => by simp at hb; subst hb; exact ⟨ha, o, ho, .inr ⟨_, hd⟩⟩) (fun b hb => by simp at hb; subst hb; exact h0) t.many (fun b hb => by simp at hb; subst hb; exact t.has) (fun D ds hx q => ?_) (fun G P hx => by rw [hi] at hx; cases hx)
  simp at q; subst q
  obtain ⟨_, ys, n, hl, _⟩ := h.ok.mu D ds hx
  have := ho.symm.trans hl; cases this; cases hd

/-- the exception at e: its traceback is none (fl = none), or is in flight at fl -/
noncomputable def ExcAt (X : List Addr) (h₀ h : Heap) (e : Addr) (c : Value) (fl : Option Value) : Prop :=
  e ∈ X ∧ h₀.get? e = none ∧ ∃ oe vs, h.get? e = some oe ∧ oe.cls = .type "IndexError" ∧ oe.data = .fields vs ∧ 2 < vs.size ∧ vs[2]? = some c ∧
    match fl with
    | none => vs[1]? = some .none
    | some b => ∃ T oT ts, vs[1]? = some (.ref T) ∧ T ≠ e ∧ T ∈ X ∧ h₀.get? T = none ∧ h.get? T = some oT ∧ oT.data = .fields ts ∧ ts[3]? = some b

theorem slots_ext {T h h' : Heap} {S : List Addr} (x : Heap.SlotsOnly S h h') (hS : ∀ b ∈ S, T.get? b = none ∧ ∃ o es n, h.get? b = some o ∧ o.data = .dict es n) : Ext T h h' := fun b o e => by
  by_cases hb : b ∈ S
  · obtain ⟨n, o', es, k, e', d⟩ := hS b hb
    rw [e] at e'; cases e'
    obtain ⟨sl, e''⟩ := x.2.2 b o e
    exact .inr ⟨n, ⟨es, k, d⟩, sl, e''⟩
  · exact .inl ((x.2.1 b hb).trans e)

theorem Frms.funFrames {T : Heap} {A : Around} {h : Heap} (f : Frms T A h) : ∃ outer, A.frames = some outer ∧ h.FunFrames {} outer ∧ ∀ b ∈ outer.filterMap (·.frame), T.get? b = none ∧ ∃ o es n, h.get? b = some o ∧ o.data = .dict es n := by
  obtain ⟨outer, e, f⟩ := f
  refine ⟨outer, e, ?_, fun b hb => ?_⟩
  · clear e
    induction outer with
    | nil => trivial
    | cons env r ih =>
      obtain ⟨hk, L, o, es, n, f1, f2, f3, f4⟩ := f env (.head _)
      exact ⟨hk, ⟨L, o, f1, by simp [Heap.get?], f3, fun vs q => by rw [f4] at q; cases q⟩, ih fun env' h => f env' (.tail _ h)⟩
  · obtain ⟨env, he, hf⟩ := List.mem_filterMap.mp hb
    obtain ⟨hk, L, o, es, n, f1, f2, f3, f4⟩ := f env he
    rw [f1] at hf; cases hf
    exact ⟨f2, o, es, n, f3, f4⟩
end Mine
end
section
open PySem PySem.Spec PySem.SeqAt PySem.Calls PyProof.Rows
namespace Mine
section
variable {C : Cx} {s₀ s : Shared} {A : Around} {e L : Addr} {E : Value → Shared → Prop}

theorem setF_size {vs : Array Value} {i : Nat} {v : Value} : (vs.setIfInBounds i v).size = vs.size := by simp

/-- a record of the call's own gets another field -/
theorem turn_field {s : Shared} {a : Addr} {o : Obj} {vs : Array Value} (ho : s.heap.get? a = some o) (hd : o.data = .fields vs) (i : Nat) (v : Value) :
    Turn a s { s with heap := s.heap.update a (Obj.mapFields (·.setIfInBounds i v)) } ∧ (s.heap.update a (Obj.mapFields (·.setIfInBounds i v))).get? a = some (o.mapFields (·.setIfInBounds i v)) ∧ (o.mapFields (·.setIfInBounds i v)).data = .fields (vs.setIfInBounds i v) ∧ (o.mapFields (·.setIfInBounds i v)).cls = o.cls := by
  have hd' := Obj.data_mapFields hd (·.setIfInBounds i v)
  have e := Heap.get?_update_self (Obj.mapFields (·.setIfInBounds i v)) ho (Obj.isFreed_of_fields hd')
  exact ⟨⟨fun b o hb e => (Heap.get?_update_other _ _ (Ne.symm hb)).trans e, ⟨_, e⟩, rfl, rfl, rfl⟩, e, hd', Obj.cls_mapFields _ _⟩

/-- the exception is noted at this frame -/
theorem exc_note {fl : Option Value} {c : Value} {outer : List Env} {Q : Unit → Shared → Prop} (h : FSt C s₀ s) (hi : C.its = []) (hfr : C.A.frames = some (C.env :: outer)) (hA : A.frames = C.A.frames) (hf : C.env.frame = some L) (x : ExcAt C.X s₀.heap s.heap e c fl) (hfl : fl = none ∨ fl = some (rawInt L))
    (k : ∀ X' s', (∀ b ∈ C.X, b ∈ X') → FSt { C with X := X' } s₀ s' → ExcAt X' s₀.heap s'.heap e c (some (rawInt L)) → Q () s') : wpAny C.M A (noteFrame (.ref e) C.env) Q E s := by
  obtain ⟨eX, e0, oe, vs, he, hc, hd, hsz, hcx, hx⟩ := id x
  rcases hfl with rfl | rfl
  · have h1 := hx
    obtain ⟨outer', ho', hff, hS⟩ := h.ok.fr.funFrames
    rw [hfr] at ho'; cases ho'
    unfold noteFrame
    simp only [hf]
    refine wpAny_bind (wpAny_field he hd h1 ?_)
    rw [if_neg (by decide)]
    refine wpAny_bind (wpAny_frameOf_fun (hA.trans hfr) hff hf fun h₁ hs₁ => ?_)
    refine wpAny_bind (wpAny_entryPlaceOf fun pl hpl => ?_)
    unfold EntryCells.newEntry newFields
    refine wpAny_bind (wpAny_newObj_type ?_ (hpl.sizeOk5 _ _ _ _ _))
    have st1 : FSt C s₀ { s with heap := h₁ } := h.step ⟨slots_ext hs₁ hS, rfl, rfl, rfl⟩
    have he1 : h₁.get? e = some oe := (slots_ext hs₁ hS).fields he hd
    have hT0 : s₀.heap.get? h₁.objs.size = none := st1.grow.ext.none (get_size _)
    generalize hob : ({ cls := .type "traceback", dict := none, data := .fields ([Value.none, .ref L, .none, rawInt L, .none] ++ (if pl.isEmpty then List.replicate 6 Value.none else pl)).toArray } : Obj) = ob
    have hpush : (h₁.push ob).get? h₁.objs.size = some ob := by rw [← hob]; exact Heap.get?_push_size h₁ rfl
    have st2 := st1.hide (a := h₁.objs.size) (get_size _) (s' := { s with heap := h₁.push ob }) (Grow.push { s with heap := h₁ } ob) hpush
    have he2 : (h₁.push ob).get? e = some oe := Heap.get?_push_of_some _ he1
    refine wpAny_setField he2 hd (by omega) ?_
    obtain ⟨t, n1, n2, n3⟩ := turn_field (s := { s with heap := h₁.push ob }) he2 hd 1 (Value.ref h₁.objs.size)
    have hTe : h₁.objs.size ≠ e := Nat.ne_of_gt (Heap.lt_size he1)
    refine k (h₁.objs.size :: C.X) _ (fun b hb => .tail _ hb) (st2.touch (C := { C with X := h₁.objs.size :: C.X }) hi (.tail _ eX) e0 he2 hd t) ⟨.tail _ eX, e0, _, _, n1, n3.trans hc, n2, by simpa using hsz, by rw [Array.getElem?_setIfInBounds_ne (by decide)]; exact hcx, h₁.objs.size, ob, _, by rw [Array.getElem?_setIfInBounds_self_of_lt (by omega)], hTe, .head _, hT0, t.keep _ _ hTe hpush, by rw [← hob], rfl⟩
  · obtain ⟨T, oT, ts, h1, hTe, hTX, hT0, hT, hdT, h3⟩ := hx
    exact wpAny_noteFrame_inFlight hf he hd h1 hT hdT h3 (k C.X s (fun b hb => hb) h x)

/-- where the exception flies is told anew -/
theorem exc_flight {b c : Value} (fr : Option Addr) {Q : Unit → Shared → Prop} (h : FSt C s₀ s) (hi : C.its = []) (x : ExcAt C.X s₀.heap s.heap e c (some b))
    (k : ∀ s', FSt C s₀ s' → ExcAt C.X s₀.heap s'.heap e c (some (fr.elim .none fun f => rawInt f)) → Q () s') : wpAny C.M A (setFlight (.ref e) fr) Q E s := by
  obtain ⟨eX, e0, oe, vs, he, hc, hd, hsz, hcx, T, oT, ts, h1, hTe, hTX, hT0, hT, hdT, h3⟩ := id x
  unfold setFlight
  refine wpAny_bind (wpAny_field he hd h1 ?_)
  rw [if_pos (show (Value.ref T != Value.none) = true from by simp)]
  have h3' := (Array.getElem?_eq_some_iff.mp h3).1
  refine wpAny_setField hT hdT h3' ?_
  obtain ⟨t, n1, n2, n3⟩ := turn_field hT hdT 3 (fr.elim .none fun f => rawInt f)
  exact k _ (h.touch hi hTX hT0 hT hdT t) ⟨eX, e0, oe, vs, t.keep _ _ (Ne.symm hTe) he, hc, hd, hsz, hcx, T, _, _, h1, hTe, hTX, hT0, n1, n2, by simp [h3']⟩

theorem exc_came {b c : Value} {E' : Value → Shared → Prop} (h : FSt C s₀ s) (hi : C.its = []) (hf : C.env.frame = some L) (x : ExcAt C.X s₀.heap s.heap e c (some b))
    (k : ∀ s', FSt C s₀ s' → ExcAt C.X s₀.heap s'.heap e c (some (rawInt L)) → E' (.ref e) s') : cameBackBy C.M A C.env E' (.ref e) s := by
  obtain ⟨eX, e0, oe, vs, he, hc, hd, hsz, hcx, T, oT, ts, h1, hTe, hTX, hT0, hT, hdT, h3⟩ := id x
  unfold cameBackBy
  refine wpAny_bind (wpAny_field he hd h1 ?_)
  rw [if_neg (by simp)]
  show wpAny C.M A (setFlight (.ref e) C.env.frame) _ _ s
  rw [hf]
  exact exc_flight (some L) h hi x fun s' st x' => k s' st x'

theorem exc_pass {b c : Value} {what : String} {α : Type} {Q : α → Shared → Prop} (h : FSt C s₀ s) (hi : C.its = []) (hf : C.env.frame = some L) (x : ExcAt C.X s₀.heap s.heap e c (some b))
    (k : ∀ s', FSt C s₀ s' → ExcAt C.X s₀.heap s'.heap e c (some (rawInt L)) → E (.ref e) s') : wpAny C.M A (PySem.passOn (α := α) what (.ref e) C.env) Q E s := by
  obtain ⟨eX, e0, oe, vs, he, hc, hd, hsz, hcx, T, oT, ts, h1, hTe, hTX, hT0, hT, hdT, h3⟩ := id x
  unfold PySem.passOn
  refine wpAny_bind (wpAny_field he hd h1 ?_)
  rw [if_neg (by simp)]
  refine wpAny_bind ?_
  rw [hf]
  exact exc_flight (some L) h hi x fun s' st x' => wpAny_throw (k s' st x')
end
end Mine
end
section
open PySem PySem.Spec PySem.SeqAt PySem.Calls PyProof.Rows
namespace Mine

theorem entry_unchain : entryFor table "proto.unchain" = some Builtin.«proto.unchain» := entryFor_of_fast (by kernel_rfl)

/-- a new exception, with its context -/
structure NewX (h h' : Heap) (e : Addr) (c : Value) : Prop where
  keeps : ∀ b o, h.get? b = some o → h'.get? b = some o
  new : h.get? e = none
  there : ∃ ob vs, h'.get? e = some ob ∧ ob.cls = .type "IndexError" ∧ ob.data = .fields vs ∧ 2 < vs.size ∧ vs[1]? = some .none ∧ vs[2]? = some c

/-- what is being handled has no context of its own -/
noncomputable def HandOk (A : Around) (h : Heap) (c : Value) : Prop := (A.handled = none ∧ c = .none) ∨ ∃ a o vs, A.handled = some (.ref a) ∧ c = .ref a ∧ h.get? a = some o ∧ o.data = .fields vs ∧ vs[2]? = some .none

section
variable {α : Type} {prog : Program} {w : World} {A : Around} {E : Value → Shared → Prop} {s : Shared}

theorem raiseNew_in {e a : Addr} {o oe : Obj} {vs ves : Array Value} {Q : α → Shared → Prop} (hh : A.handled = some (.ref a)) (hne : a ≠ e) (ho : s.heap.get? a = some o) (hd : o.data = .fields vs) (h2 : vs[2]? = some .none)
    (he : s.heap.get? e = some oe) (hde : oe.data = .fields ves) (hsz : 2 < ves.size) (h : E (.ref e) { s with heap := s.heap.update e (Obj.mapFields (·.setIfInBounds 2 (.ref a))) }) : wpAny (model prog w) A (raiseNew (.ref e) : Sem α) Q E s := by
  unfold raiseNew
  refine wpAny_bind (wpAny_handled ?_)
  rw [hh]
  dsimp only
  rw [if_pos (show (Value.ref a != Value.ref e) = true by simpa using hne)]
  refine wpAny_bind (wpAny_holding (wpAny_runValue (codeAny_builtin entry_unchain ?_)))
  show wpAny _ _ (field (.ref a) 2 >>= _) _ _ _
  refine wpAny_bind (wpAny_field ho hd h2 ?_)
  rw [if_pos (by rfl)]
  refine wpAny_bind (wpAny_pure (wpAny_pure ?_))
  refine wpAny_bind (wpAny_setField (a := e) he hde hsz (wpAny_throw h))

theorem raise_idx {msg : String} {c : Value} {Q : α → Shared → Prop} (hh : HandOk A s.heap c)
    (h : ∀ h' tk e, NewX s.heap h' e c → E (.ref e) { s with heap := h', toks := tk }) :
    wpAny (model prog w) A (raiseErrorWords "IndexError" msg : Sem α) Q E s := by
  have hp := plainExc_IndexError
  unfold raiseErrorWords
  refine wpAny_bind (wpAny_mkText (wpAny_bind ?_))
  unfold newExc newTuple
  refine wpAny_bind (wpAny_newObj_type ?_)
  refine wpAny_bind (m := firstArgMember _ _) (wpAny_of_eq (a := Value.none) (by simp only [firstArgMember, hp.first]; rfl) ?_)
  rw [hp.own]
  refine wpAny_newObj_type ?_
  rcases hh with ⟨hh, rfl⟩ | ⟨a, o, vs, hh, rfl, ho, hd, h2⟩
  · unfold raiseNew
    refine wpAny_bind (wpAny_handled ?_)
    rw [hh]
    first
      | refine wpAny_throw ?_
      | refine wpAny_bind (wpAny_pure (wpAny_throw ?_))
    exact h _ _ _ ⟨fun b o hb => Heap.get?_push_of_some _ (Heap.get?_push_of_some _ hb), Heap.get?_none_of_le (by simp), _, _, Heap.get?_push_size _ rfl, rfl, rfl, by simp, by simp, by simp⟩
  · have hlt := Heap.lt_size ho
    refine raiseNew_in hh (Nat.ne_of_lt (by simp only [Heap.size_push]; exact Nat.lt_succ_of_lt hlt)) (Heap.get?_push_of_some _ (Heap.get?_push_of_some _ ho)) hd h2 (Heap.get?_push_size _ rfl) rfl (by simp) ?_
    obtain ⟨t, n1, n2, n3⟩ := turn_field (s := { s with heap := ((s.heap.push { cls := Value.type "tuple", data := Data.seq #[Value.str (Str.ofString msg) s.toks] }).push { cls := .type "IndexError", data := .fields (#[Value.ref s.heap.objs.size, .none, .none, .none, .bool false, .none] ++ #[]) }) }) (Heap.get?_push_size _ rfl) rfl 2 (.ref a)
    refine h _ _ _ ⟨fun b o hb => t.keep _ _ (fun q => ?_) (Heap.get?_push_of_some _ (Heap.get?_push_of_some _ hb)), Heap.get?_none_of_le (by simp), _, _, n1, n3, n2, by simp, by simp, by simp⟩
    have := Heap.lt_size hb
    rw [q, Heap.size_push] at this; exact absurd this (Nat.not_lt.mpr (Nat.le_succ _))

/-- an item behind the list's end -/
theorem getItem_out {l : Addr} {items : Array Value} {k : Int} {t : Tok} {c : Value} {Q : Value → Shared → Prop} (hh : HandOk A s.heap c) (hl : s.heap.IsList l items)
    (hout : (items.size : Int) ≤ k) (hhi : k < 2 ^ 63) (h : ∀ h' tk e, NewX s.heap h' e c → E (.ref e) { s with heap := h', toks := tk }) :
    wpAny (model prog w) A (getItem (.ref l) (.int k t)) Q E s := by
  obtain ⟨o, ho, hc, ne, hd⟩ := id hl
  have hfit : Builtin.List.listFitsIndex k = true := fitsIndex_both (by omega) hhi
  clear hhi
  unfold getItem
  try with_reducible refine wpAny_holding ?_
  first | refine wpAny_bind (wpAny_pure ?_) | skip
  refine wpAny_bind (wpAny_sequenceKey hl.typeIs (by decide) ?_)
  refine wpAny_bind (wpAny_callSpecial?_slot (name := Str.ofString "__getitem__") hl.typeIs slot_list_getitem
    (wpAny_call_entry slot_list_getitem hl.typeIs entry_list_getitem ?_ (args_list_getitem _ _)))
  show wpAny _ _ (Builtin.List.listSubscript? (.int k t) >>= _) _ _ s
  refine wpAny_bind (wpAny_listSubscript_int hfit ?_)
  clear hfit
  cases k with
  | negSucc j => exact absurd hout (by have := Int.negSucc_lt_zero j; omega)
  | ofNat j =>
    have hx : items[j]? = none := Array.getElem?_eq_none (by have : (items.size : Int) ≤ (j : Int) := hout; omega)
    show wpAny _ _ ((seqItemAt l j >>= fun r => pure (r.map (j, ·))) >>= _) _ _ s
    refine wpAny_bind (wpAny_bind (wpAny_seqItemAt ho hd (wpAny_pure ?_)))
    rw [hx]
    first
      | exact wpAny_bind (wpAny_rule (raise_idx hh h))
      | exact wpAny_bind (wpAny_rule (wpAny_bind (raise_idx hh h)))
      | exact wpAny_bind (wpAny_bind (wpAny_rule (raise_idx hh h)))
      | exact wpAny_rule (raise_idx hh h)
end
end Mine
end
section
open PySem PySem.Spec PySem.SeqAt PySem.Calls PyProof.Rows
namespace Mine

theorem HandOk.ext {A : Around} {T h h' : Heap} {c : Value} (x : HandOk A h c) (k : Ext T h h') : HandOk A h' c := by
  rcases x with x | ⟨a, o, vs, h1, h2, h3, h4, h5⟩
  · exact .inl x
  · exact .inr ⟨a, o, vs, h1, h2, k.fields h3 h4, h4, h5⟩

theorem FSt.raised {C : Cx} {s₀ s : Shared} {h' : Heap} {tk : Nat} {e : Addr} {c : Value} (h : FSt C s₀ s) (x : NewX s.heap h' e c) :
    FSt { C with X := e :: C.X } s₀ { s with heap := h', toks := tk } ∧ ExcAt (e :: C.X) s₀.heap h' e c none := by
  obtain ⟨k, hn, ob, vs, e1, e2, e3, e4, e5, e6⟩ := x
  exact ⟨h.hide hn (.of s k) e1, .head _, h.grow.ext.none hn, ob, vs, e1, e2, e3, e4, e6, e5⟩

section
variable {C : Cx} {s₀ s : Shared} {c : Value} {E : Value → Shared → Prop}
/-- an item behind the end -/
theorem item_out {v i : Expr} {pos : Pos} {xs : List PyData} {k : Int} {Q : Value → Shared → Prop} (h : FSt C s₀ s) (hh : HandOk C.A s.heap c) (hv : Ev C v (.list xs)) (hi : Ev C i (.int k)) (h0 : (xs.length : Int) ≤ k) (hf : k < 2 ^ 63)
    (kE : ∀ e s', FSt { C with X := e :: C.X } s₀ s' → ExcAt (e :: C.X) s₀.heap s'.heap e c none → E (.ref e) s')
    (hs : ∀ o j, subscripted i false o j = operate [o, j] (getItem o j) := by intro _ _; with_unfolding_all rfl) :
    wpAny C.M C.A (eval (.Subscript v i pos) C.env) Q E s := by
  refine Subscript_ (hv.use h.ok fun u s₁ g₁ ok₁ r₁ => hi.use ok₁ fun w s₂ g₂ ok₂ r₂ => ?_)
  obtain ⟨a, vs, n, rfl, _, hl, ra⟩ := (r₁.ext g₂.ext).list_inv
  obtain ⟨t, rfl⟩ := r₂.int_inv
  have hlen := ra.length
  refine tail_any (isList_of hl).typeIs slot_list_getitem.lookup (getItem_out ((hh.ext g₁.ext).ext g₂.ext) (isList_of hl) (by simp; omega) hf fun h' tk e x => ?_) (hs _ _)
  obtain ⟨f, y⟩ := ((h.step g₁).step g₂).raised (tk := tk) x
  exact kE e _ f y
end
end Mine
end
section
open PySem PySem.Spec PySem.SeqAt PySem.Calls PyProof.Rows
namespace Mine

/-- the same while something is being handled -/
noncomputable abbrev Stat.mark (S : Stat) (e : Addr) : Stat := { S with A := S.A.mark (some (.ref e)), calm := false }
theorem s_mark {S : Stat} {X : List Addr} {V : Vars} {M : Muts} {I : Its} {K : Facts} {s₀ s : Shared} (e : Addr) (h : FS S X V M I K s₀ s) : FS (S.mark e) X V M I K s₀ s := by
  obtain ⟨⟨a1, a2, a3, a4, a5, a6, a7, a8, a9, a10, a11, a12, n1⟩, b1, b2, b3, b4, b5, b6, b7, b8, b9⟩ := h
  exact ⟨⟨a1, a2, a3, a4, a5, a6, fun (q : false = true) => (nomatch q), a8, a9, a10, a11, a12, n1⟩, b1, b2, b3, b4, b5, b6, b7, b8, b9⟩
theorem s_unmark {S : Stat} {X : List Addr} {V : Vars} {M : Muts} {I : Its} {K : Facts} {s₀ s : Shared} {e : Addr} (hn : S.A.handled = none) (h : FS (S.mark e) X V M I K s₀ s) : FS S X V M I K s₀ s := by
  obtain ⟨⟨a1, a2, a3, a4, a5, a6, a7, a8, a9, a10, a11, a12, n1⟩, b1, b2, b3, b4, b5, b6, b7, b8, b9⟩ := h
  exact ⟨⟨a1, a2, a3, a4, a5, a6, fun _ => hn, a8, a9, a10, a11, a12, n1⟩, b1, b2, b3, b4, b5, b6, b7, b8, b9⟩
end Mine
end
section
open PySem PySem.Spec PySem.SeqAt PySem.Calls PyProof.Rows
namespace Mine

/-- the frame that runs is the one whose names lie at L -/
structure Own (S : Stat) (L : Addr) : Prop where
  fr : ∃ outer, S.A.frames = some (S.env :: outer)
  at_ : S.env.frame = some L
theorem Own.mark {S : Stat} {L : Addr} (o : Own S L) (e : Addr) : Own (S.mark e) L := ⟨o.fr, o.at_⟩

/-- an IndexError flies: e, raised in this frame; c its context -/
noncomputable def XS (S : Stat) (L : Addr) (X₀ : List Addr) (V : Vars) (M : Muts) (K : Facts) (s₀ : Shared) (c e : Value) (s : Shared) : Prop :=
  ∃ X a fl, e = .ref a ∧ (∀ b ∈ X₀, b ∈ X) ∧ FS S X V M [] K s₀ s ∧ ExcAt X s₀.heap s.heap a c fl ∧ (fl = none ∨ fl = some (rawInt L))

section
variable {S : Stat} {X : List Addr} {V : Vars} {M : Muts} {K : Facts} {s₀ s : Shared} {x : Str} {p' pos : Pos} {rest : List Stmt} {Q : Flow → Shared → Prop} {E : Value → Shared → Prop} {L : Addr} {c : Value}

theorem s_while_false {I : Its} {t : Expr} {b : Bool} {body : List Stmt} (h : FS S X V M I K s₀ s) (ht : Tr (cx S X V M I K) t b) (hb : b = false) (k : ∀ s', FS S X V M I K s₀ s' → wpAny (model S.prog S.w) S.A (execs rest S.env) Q E s') :
    wpAny (model S.prog S.w) S.A (execs (.While t body [] pos :: rest) S.env) Q E s := by
  subst hb
  refine wpAny_execs_cons (wpAny_While (codeAny_whileLoop (fun _ s' => FS S X V M I K s₀ s') (fun n s' h' => ht.use h'.ok fun s₁ g ok => ?_) 0 h))
  rw [if_neg (by simp)]
  exact wpAny_execs_nil (k s₁ (FSt.step (C := cx S X V M I K) h' g))

theorem note_came {a : Addr} {fl : Option Value} {A : Around} (o : Own S L) (hA : A.frames = S.A.frames) (h : FS S X V M [] K s₀ s) (x : ExcAt X s₀.heap s.heap a c fl) (hfl : fl = none ∨ fl = some (rawInt L))
    (k : ∀ X' s', (∀ b ∈ X, b ∈ X') → FS S X' V M [] K s₀ s' → ExcAt X' s₀.heap s'.heap a c (some (rawInt L)) → E (.ref a) s') {A' : Around} :
    notedBy (model S.prog S.w) A S.env (cameBackBy (model S.prog S.w) A' S.env E) (.ref a) s := by
  obtain ⟨outer, hfr⟩ := o.fr
  refine exc_note (C := cx S X V M [] K) h rfl hfr hA o.at_ x hfl fun X' s' hX st y => ?_
  exact exc_came (C := cx S X' V M [] K) st rfl o.at_ y fun s'' st' y' => k X' s'' hX st' y'

/-- while v[i] == r: v ends at i -/
theorem s_while_out {v i r : Expr} {p1 p2 : Pos} {body : List Stmt} {xs : List PyData} {k : Int} (o : Own S L) (h : FS S X V M [] K s₀ s) (hh : HandOk S.A s.heap c) (hv : Ev (cx S X V M [] K) v (.list xs)) (hi : Ev (cx S X V M [] K) i (.int k)) (h0 : (xs.length : Int) ≤ k) (hf : k < 2 ^ 63)
    (kE : ∀ e s', XS S L X V M K s₀ c e s' → E e s')
    (hs : ∀ o j, subscripted i false o j = operate [o, j] (getItem o j) := by intro _ _; with_unfolding_all rfl) (hm : behindInMarks .Eq r = false := by with_unfolding_all rfl) :
    wpAny (model S.prog S.w) S.A (execs (.While (.Compare (.Subscript v i p1) [.Eq] [r] p2) body [] pos :: rest) S.env) Q E s := by
  refine wpAny_execs_cons (wpAny_While (codeAny_whileLoop (fun _ s' => s' = s) (fun n s' h' => ?_) 0 rfl))
  subst h'
  refine wpAny_isTrue_Compare1 (item_out (C := cx S X V M [] K) h hh hv hi h0 hf (fun e s' st y => ?_) hs) hm
  exact note_came o rfl st y (.inl rfl) fun X' s'' hX st' y' => kE _ _ ⟨X', e, _, rfl, fun b hb => hX b (.tail _ hb), st', y', .inr rfl⟩

/-- try: body, except IndexError: suite; q tells where it was raised -/
theorem s_try {ι : Type} (W : ι → Vars) (N : ι → Muts) (P : ι → Prop) {body suite : List Stmt} {b₀ : Stmt} {hp np : Pos} (o : Own S L)
    (hb : wpAny (model S.prog S.w) S.A (execs body S.env) (fun f s' => match f with | .next => wpAny (model S.prog S.w) S.A (execs rest S.env) Q E s' | f => Q f s') (fun e s' => ∃ q c, P q ∧ XS S L X (W q) (N q) K s₀ c e s') s)
    (hn : ∀ X e q, NameV (cx (S.mark e) X (W q) (N q) [] K) "IndexError" (.type "IndexError"))
    (k : ∀ q, P q → ∀ e X' s', (∀ b ∈ X, b ∈ X') → FS (S.mark e) X' (W q) (N q) [] K s₀ s' → wpAny (model S.prog S.w) (S.mark e).A (execs (b₀ :: suite) S.env) (fun f s' => match f with | .next => wpAny (model S.prog S.w) S.A (execs rest S.env) Q E s' | f => Q f s') (fun _ _ => False) s') :
    wpAny (model S.prog S.w) S.A (execs (.Try body [.ExceptHandler (some (.Name "IndexError" np)) none (b₀ :: suite) hp] [] [] pos :: rest) S.env) Q E s := by
  refine wpAny_execs_cons (wpAny_Try_except (wpAny_mono hb (fun f s₁ h₁ => ?_) fun e s₁ h₁ => ?_))
  · cases f <;> first | exact wpAny_execs_nil h₁ | exact h₁
  · obtain ⟨q, c, hq, X₁, a, fl, rfl, hX₁, st, y, hfl⟩ := h₁
    obtain ⟨outer, hfr⟩ := o.fr
    refine exc_note (C := cx S X₁ (W q) (N q) [] K) st rfl hfr rfl o.at_ y hfl fun X₂ s₂ hX₂ st₂ y₂ => ?_
    refine exc_flight (C := cx S X₂ (W q) (N q) [] K) none st₂ rfl y₂ fun s₃ st₃ y₃ => ?_
    refine wpAny_handleBy_builtin (X := "IndexError") (T := "IndexError") (b := true) (isSubtype_of_subB (by decide +kernel)) (isSubtype_of_subB (by decide +kernel)) (isSubtype_of_subB (by decide +kernel)) ?_
    refine hn X₂ a q s₃ np _ _ (s_mark a st₃).ok ⟨rfl, ?_, ?_⟩
    · obtain ⟨_, _, oe, vs, he, hc, _⟩ := y₃
      exact ⟨oe, he, hc⟩
    · rw [if_pos rfl]
      refine exc_flight (C := cx S X₂ (W q) (N q) [] K) none st₃ rfl y₃ fun s₄ st₄ y₄ => ?_
      exact wpAny_mono (k q hq a X₂ s₄ (fun b hb => hX₂ b (hX₁ b hb)) (s_mark a st₄)) (fun _ _ q => q) fun _ _ q => q.elim
end
end Mine
end
section
open PySem PySem.Spec PySem.SeqAt PySem.Calls PyProof.Rows
namespace Mine

theorem ExcAt.recs {X X' : List Addr} {h₀ : Heap} {s s' : Shared} {e : Addr} {c : Value} {fl : Option Value} (x : ExcAt X h₀ s.heap e c fl) (r : Recs s s') (hX : ∀ b ∈ X, b ∈ X') : ExcAt X' h₀ s'.heap e c fl := by
  obtain ⟨eX, e0, oe, vs, he, hc, hd, hsz, hcx, hx⟩ := x
  refine ⟨hX _ eX, e0, oe, vs, r _ _ _ he hd, hc, hd, hsz, hcx, ?_⟩
  cases fl with
  | none => exact hx
  | some b =>
    obtain ⟨T, oT, ts, h1, hTe, hTX, hT0, hT, hdT, h3⟩ := hx
    exact ⟨T, oT, ts, h1, hTe, hX _ hTX, hT0, r _ _ _ hT hdT, hdT, h3⟩

theorem HandOk.recs {A : Around} {s s' : Shared} {c : Value} (x : HandOk A s.heap c) (r : Recs s s') : HandOk A s'.heap c := by
  rcases x with x | ⟨a, o, vs, h1, h2, h3, h4, h5⟩
  · exact .inl x
  · exact .inr ⟨a, o, vs, h1, h2, r _ _ _ h3 h4, h4, h5⟩
section
variable {S : Stat} {X : List Addr} {V V1 V2 : Vars} {M : Muts} {K : Facts} {s₀ s : Shared} {x : Str} {p' pos : Pos} {rest : List Stmt} {Q : Flow → Shared → Prop} {E : Value → Shared → Prop} {L : Addr} {c : Value}

theorem s_while_falseR {I : Its} {t : Expr} {b : Bool} {body : List Stmt} (h : FS S X V M I K s₀ s) (ht : Tr (cx S X V M I K) t b) (hb : b = false) (k : ∀ s', FS S X V M I K s₀ s' → Recs s s' → wpAny (model S.prog S.w) S.A (execs rest S.env) Q E s') :
    wpAny (model S.prog S.w) S.A (execs (.While t body [] pos :: rest) S.env) Q E s := by
  subst hb
  refine wpAny_execs_cons (wpAny_While (codeAny_whileLoop (fun _ s' => FS S X V M I K s₀ s' ∧ Recs s s') (fun n s' h' => ht.use h'.1.ok fun s₁ g ok => ?_) 0 ⟨h, .refl _⟩))
  rw [if_neg (by simp)]
  exact wpAny_execs_nil (k s₁ (FSt.step (C := cx S X V M I K) h'.1 g) (h'.2.trans g.recs))

/-- try: body, finally: final -/
theorem s_finally (B : Prop) {body fs : List Stmt} {f₀ : Stmt} (o : Own S L) (hh : S.A.handled = none)
    (hb : wpAny (model S.prog S.w) S.A (execs body S.env) (fun f s' => f = .next ∧ FS S X V1 M [] K s₀ s') (fun e s' => B ∧ XS S L X V1 M K s₀ .none e s') s)
    (fin : ∀ (S' : Stat) X' s' c, (S' = S ∨ ∃ e, S' = S.mark e) → (∀ b ∈ X, b ∈ X') → FS S' X' V1 M [] K s₀ s' → HandOk S'.A s'.heap c →
      wpAny (model S.prog S.w) S'.A (execs (f₀ :: fs) S.env) (fun f s'' => f = .next ∧ FS S' X' V2 M [] K s₀ s'' ∧ Recs s' s'') (fun e s'' => B ∧ XS S' L X' V2 M K s₀ c e s'') s')
    (k : ∀ s', FS S X V2 M [] K s₀ s' → wpAny (model S.prog S.w) S.A (execs rest S.env) Q E s')
    (kE : B → ∀ c e s', XS S L X V2 M K s₀ c e s' → E e s') :
    wpAny (model S.prog S.w) S.A (execs (.Try body [] [] (f₀ :: fs) pos :: rest) S.env) Q E s := by
  obtain ⟨outer, hfr⟩ := o.fr
  refine wpAny_execs_cons (wpAny_Try_finally (wpAny_mono hb (fun f s₁ h₁ => ?_) fun e s₁ h₁ => ?_))
  · obtain ⟨rfl, st⟩ := h₁
    refine wpAny_execs_nil (wpAny_mono (fin S X s₁ .none (.inl rfl) (fun b h => h) st (.inl ⟨hh, rfl⟩)) (fun f s₂ h₂ => ?_) fun e s₂ h₂ => ?_)
    · obtain ⟨rfl, st₂, _⟩ := h₂
      exact k s₂ st₂
    · obtain ⟨hB, X₁, a, fl, rfl, hX₁, st₂, y, hfl⟩ := h₂
      exact note_came o rfl st₂ y hfl fun X' s'' hX st' y' => kE hB _ _ _ ⟨X', a, _, rfl, fun b hb => hX b (hX₁ b hb), st', y', .inr rfl⟩
  · obtain ⟨hB, X₁, a, fl, rfl, hX₁, st, y, hfl⟩ := h₁
    refine exc_note (C := cx S X₁ V1 M [] K) st rfl hfr rfl o.at_ y hfl fun X₂ s₂ hX₂ st₂ y₂ => ⟨ref_ne_byPass a, ?_⟩
    refine exc_note (C := cx S X₂ V1 M [] K) st₂ rfl hfr rfl o.at_ y₂ (.inr rfl) fun X₃ s₃ hX₃ st₃ y₃ => ?_
    refine exc_flight (C := cx S X₃ V1 M [] K) none st₃ rfl y₃ fun s₄ st₄ y₄ => ?_
    have hX : ∀ b ∈ X, b ∈ X₃ := fun b hb => hX₃ b (hX₂ b (hX₁ b hb))
    refine wpAny_mono (fin (S.mark a) X₃ s₄ (.ref a) (.inr ⟨a, rfl⟩) hX (s_mark a st₄) ?_) (fun f s₅ h₅ => ?_) fun e s₅ h₅ => ?_
    · obtain ⟨_, _, oe, vs, he, _, hd, _, hcx, _⟩ := y₄
      refine .inr ⟨a, oe, vs, ?_, rfl, he, hd, hcx⟩
      show (some (Value.ref a)).or S.A.handled = _
      rfl
    · obtain ⟨rfl, st₅, r⟩ := h₅
      exact exc_pass (C := cx S X₃ V2 M [] K) (s_unmark hh st₅) rfl o.at_ (y₄.recs r fun b h => h) fun s₆ st₆ y₆ => kE hB _ _ _ ⟨X₃, a, _, rfl, hX, st₆, y₆, .inr rfl⟩
    · obtain ⟨_, X₄, a', fl', rfl, hX₄, st₅, y₅, hfl'⟩ := h₅
      exact note_came (A := S.A.mark (some (.ref a))) o rfl (s_unmark hh st₅) y₅ hfl' fun X' s'' hX' st' y' => kE hB _ _ _ ⟨X', a', _, rfl, fun b hb => hX' b (hX₄ b (hX b hb)), st', y', .inr rfl⟩
end
end Mine
end
section
open PySem PySem.Spec PySem.SeqAt PySem.Calls PyProof.Rows
namespace Mine

theorem Cmp.ltStr {C : Cx} {a b : Str} : Cmp C .Lt (.str a) (.str b) (decide (a.cps.toList < b.cps.toList)) := fun s u v ok hu hv Q E h => by
  obtain ⟨t, rfl⟩ := hu.str_inv; obtain ⟨t', rfl⟩ := hv.str_inv
  exact lt_str (h s.toks)
theorem Cmp.gtStr {C : Cx} {a b : Str} : Cmp C .Gt (.str a) (.str b) (decide (b.cps.toList < a.cps.toList)) := fun s u v ok hu hv Q E h => by
  obtain ⟨t, rfl⟩ := hu.str_inv; obtain ⟨t', rfl⟩ := hv.str_inv
  exact P.gt_str (h s.toks)
theorem Cmp.eqStr {C : Cx} {a b : Str} : Cmp C .Eq (.str a) (.str b) (a == b) := fun s u v ok hu hv Q E h => by
  obtain ⟨t, rfl⟩ := hu.str_inv; obtain ⟨t', rfl⟩ := hv.str_inv
  exact eq_str (h s.toks)

theorem Tr.true {C : Cx} {k : Nat} {pos : Pos} {b : Bool} : Tr C (.Constant (.bool b) k pos) b := fun s ok =>
  wpAny_isTrue_value (wpAny_Constant_bool (wpAny_truthy_bool ⟨.refl _ _, rfl⟩))

section
variable {prog : Program} {w : World} {A : Around} {E : Value → Shared → Prop} {s : Shared} {env : Env} {pos : Pos}
theorem Subscript_SliceB {value : Expr} {lower upper : Option Expr} {p : Pos} {Q : Value → Shared → Prop}
    (h : wpAny (model prog w) A (eval value env) (fun o s₁ => wpAny (model prog w) A (eval (.Slice lower upper Option.none p) env) (fun i s₂ => ItemOn (model prog w) A E o i Q s₂) E s₁) E s) :
    wpAny (model prog w) A (eval (.Subscript value (.Slice lower upper Option.none p) pos) env) Q E s := by
  rw [eval_Subscript]
  refine wpAny_bind (wpAny_mono h (fun o s₁ h₁ => wpAny_bind (wpAny_holding (wpAny_mono h₁ (fun i s₂ h₂ => wpAny_bind (wpAny_standAt ?_)) fun _ _ x => x)))
    fun _ _ x => x)
  obtain ⟨T, id, hl, hT, hg⟩ := h₂
  refine wpAny_bind ?_
  rw [getitemInPython_of_ne hT.not_modules]
  refine wpAny_bind (wpAny_specialOf hT hl ?_)
  have fin : wpAny (model prog w) A (operate [i, o] (getItem o i)) (fun r s₃ => wpAny (model prog w) A (letTemporaryGo value o r >>= fun _ => pure r) Q E s₃) E s₂ :=
    wpAny_operating (wpAny_mono hg (fun r s₃ h₃ => wpAny_bind (wpAny_letTemporaryGo (wpAny_pure h₃))) fun _ _ x => x)
  first
    | exact wpAny_pure (wpAny_bind fin)
    | exact wpAny_bind (wpAny_pure (wpAny_bind fin))
    | exact wpAny_bind fin
theorem list_slice_B {value : Expr} {lower upper : Option Expr} {p pos : Pos} {Q : Value → Shared → Prop}
    (h : wpAny (model prog w) A (eval value env) (fun o s₁ => wpAny (model prog w) A (evalPart lower env) (fun vl s₂ => wpAny (model prog w) A (evalPart upper env) (fun vu s₃ =>
      ∃ l items lo hi, o = .ref l ∧ s₃.heap.IsList l items ∧ items.size ≤ sizeLine ∧ IsPart vl lo ∧ IsPart vu hi ∧
        Q (.ref (s₃.heap.objs.size + 1)) { s₃ with heap := (s₃.heap.push { cls := .type "slice", data := .fields #[vl, vu, .none] }).push { cls := .type "list", data := .seq (slicePick items lo hi Option.none) } }) E s₂) E s₁) E s) :
    wpAny (model prog w) A (eval (.Subscript value (.Slice lower upper Option.none p) pos) env) Q E s := by
  refine Subscript_SliceB (wpAny_mono h (fun o s₁ h₁ => wpAny_Slice (wpAny_mono h₁ (fun vl s₂ h₂ => wpAny_mono h₂ (fun vu s₃ h₃ => ?_) fun _ _ e => e) fun _ _ e => e)) fun _ _ e => e)
  obtain ⟨l, items, lo, hi, rfl, hl, hsz, pl, pu, hQ⟩ := h₃
  rw [evalPart_none]
  refine wpAny_pure ⟨"list", _, list_getitem_lookup, (hl.push _).typeIs, wpAny_getItem_list_slice (hl.push _) (Heap.IsSliceOf.new ..) pl pu .none (by simp) ?_ hsz⟩
  rw [Heap.size_push]
  exact hQ
end
/-- v[i:] -/
theorem Ev.from {C : Cx} {v i : Expr} {p pos : Pos} {xs : List PyData} {k : Nat} (hv : Ev C v (.list xs)) (hi : Ev C i (.int k)) (hsz : xs.length ≤ sizeLine) :
    Ev C (.Subscript v (.Slice (some i) Option.none Option.none p) pos) (.list (xs.drop k)) := fun s ok => by
  refine list_slice_B (hv.use ok fun u s₁ g₁ ok₁ r₁ => wpAny_evalPart_some (hi.use ok₁ fun w s₂ g₂ ok₂ r₂ => wpAny_evalPart_none ?_))
  obtain ⟨a, vs, n, rfl, _, hl, ra⟩ := (r₁.ext g₂.ext).list_inv
  obtain ⟨t, rfl⟩ := r₂.int_inv
  refine ⟨a, _, some k, Option.none, rfl, isList_of hl, by simpa [ra.length] using hsz, .int _ _, .none, (g₁.trans g₂).trans ⟨.of fun b o e => Heap.get?_push_of_some _ (Heap.get?_push_of_some _ e), rfl, rfl, rfl⟩, ?_⟩
  rw [slicePick_from' vs.toArray k]
  refine .list_ (vs := vs.drop k) (n := 0) ?_ ?_ ((ra.drop k).ext (.of (T := C.G.top) fun b o e => Heap.get?_push_of_some _ (Heap.get?_push_of_some _ e)))
  · have := (ok₂.grow (.push s₂ { cls := .type "slice", data := .fields #[Value.int k t, .none, .none] })).new
    rwa [Heap.size_push] at this
  · have e1 := Heap.get?_push_size (s₂.heap.push { cls := .type "slice", data := .fields #[Value.int k t, .none, .none] }) (o := { cls := .type "list", data := .seq (vs.drop k).toArray }) rfl
    rw [Heap.size_push] at e1
    simpa using e1
/-- v[:k] -/
theorem Ev.upto {C : Cx} {v i : Expr} {p pos : Pos} {xs : List PyData} {k : Nat} (hv : Ev C v (.list xs)) (hi : Ev C i (.int k)) (hsz : xs.length ≤ sizeLine) :
    Ev C (.Subscript v (.Slice Option.none (some i) Option.none p) pos) (.list (xs.take k)) := fun s ok => by
  refine list_slice_B (hv.use ok fun u s₁ g₁ ok₁ r₁ => wpAny_evalPart_none (wpAny_evalPart_some (hi.use ok₁ fun w s₂ g₂ ok₂ r₂ => ?_)))
  obtain ⟨a, vs, n, rfl, _, hl, ra⟩ := (r₁.ext g₂.ext).list_inv
  obtain ⟨t, rfl⟩ := r₂.int_inv
  refine ⟨a, _, Option.none, some k, rfl, isList_of hl, by simpa [ra.length] using hsz, .none, .int _ _, (g₁.trans g₂).trans ⟨.of fun b o e => Heap.get?_push_of_some _ (Heap.get?_push_of_some _ e), rfl, rfl, rfl⟩, ?_⟩
  rw [slicePick_upto' vs.toArray k]
  refine .list_ (vs := vs.take k) (n := 0) ?_ ?_ ((ra.take k).ext (.of (T := C.G.top) fun b o e => Heap.get?_push_of_some _ (Heap.get?_push_of_some _ e)))
  · have := (ok₂.grow (.push s₂ { cls := .type "slice", data := .fields #[.none, Value.int k t, .none] })).new
    rwa [Heap.size_push] at this
  · have e1 := Heap.get?_push_size (s₂.heap.push { cls := .type "slice", data := .fields #[.none, Value.int k t, .none] }) (o := { cls := .type "list", data := .seq (vs.take k).toArray }) rfl
    rw [Heap.size_push] at e1
    simpa using e1
/-- v[:], a new list -/
theorem Ev.copy {C : Cx} {v : Expr} {p pos : Pos} {xs : List PyData} (hv : Ev C v (.list xs)) (hsz : xs.length ≤ sizeLine) :
    ∀ s, C.ok s → wpAny C.M C.A (eval (.Subscript v (.Slice Option.none Option.none Option.none p) pos) C.env) (fun u s' => Grow C.G.top s s' ∧ Rd C.X s'.heap (.list xs) u ∧ ∃ a, u = .ref a ∧ s.heap.get? a = Option.none) (fun _ _ => False) s := fun s ok => by
  refine list_slice_B (hv.use ok fun u s₁ g₁ ok₁ r₁ => wpAny_evalPart_none (wpAny_evalPart_none ?_))
  obtain ⟨a, vs, n, rfl, _, hl, ra⟩ := r₁.list_inv
  have hnew : s₁.heap.get? (s₁.heap.objs.size + 1) = Option.none := Heap.get?_none_of_le (Nat.le_succ _)
  refine ⟨a, _, Option.none, Option.none, rfl, isList_of hl, by simpa [ra.length] using hsz, .none, .none, g₁.trans ⟨.of fun b o e => Heap.get?_push_of_some _ (Heap.get?_push_of_some _ e), rfl, rfl, rfl⟩, ?_, _, rfl, g₁.ext.none hnew⟩
  rw [slicePick_all]
  refine .list_ (vs := vs) (n := 0) ?_ ?_ (ra.ext (.of (T := C.G.top) fun b o e => Heap.get?_push_of_some _ (Heap.get?_push_of_some _ e)))
  · exact ok_notin ok₁ hnew
  · have e1 := Heap.get?_push_size (s₁.heap.push { cls := .type "slice", data := .fields #[.none, .none, .none] }) (o := { cls := .type "list", data := .seq vs.toArray }) rfl
    rw [Heap.size_push] at e1
    exact e1

section
variable {S : Stat} {X : List Addr} {V : Vars} {M : Muts} {I : Its} {K : Facts} {s₀ s : Shared} {x : Str} {e : Expr} {d : PyData} {p' pos : Pos} {rest : List Stmt} {Q : Flow → Shared → Prop} {E : Value → Shared → Prop} {L : Addr} {c : Value}

/-- the doc -/
theorem s_doc {d : Str} {k : Nat} {p : Pos} (h : FS S X V M I K s₀ s) (k' : ∀ s', FS S X V M I K s₀ s' → wpAny (model S.prog S.w) S.A (execs rest S.env) Q E s')
    (hi : interactive S.env = false := by rfl) (hs : swapsWith (.Constant (.str d) k p) none pos.line S.env = pure false := by rfl) : wpAny (model S.prog S.w) S.A (execs (.Expr (.Constant (.str d) k p) pos :: rest) S.env) Q E s :=
  wpAny_execs_cons (wpAny_Expr (wpAny_Constant_str (k' _ (FSt.step (C := cx S X V M I K) h (.tok _ _)))) hi hs)

/-- x.extend(e) -/
theorem s_extend {D : Addr} {ds es : List PyData} {r : Muts} {p1 apos cpos epos : Pos} (h : FS S X V ((D, ds) :: r) I K s₀ s) (he : Ev (cx S X V ((D, ds) :: r) I K) e (.list es)) (hsz : ds.length + es.length ≤ sizeLine)
    (k : ∀ s', FS S X V ((D, ds ++ es) :: r) I K s₀ s' → wpAny (model S.prog S.w) S.A (execs rest S.env) Q E s')
    (hx : V.lookup x = some (raw D) := by rfl) (hd : (x == ("__debug__" : Str)) = false := by decide)
    (hi : interactive S.env = false := by rfl) (hs : swapsWith (.Call (.Attribute (.Name x p1) "extend" apos) [e] [] cpos) none epos.line S.env = pure false := by rfl)
    (hbase : attributeBase (.Name x p1) "extend" S.env (eval (.Name x p1) S.env) = eval (.Name x p1) S.env := by rfl)
    (htrees : starEach [e] S.env = [(false, eval e S.env)] := by rfl) (hline : (apos.endLine == cpos.line) = true := by rfl) :
    wpAny (model S.prog S.w) S.A (execs (.Expr (.Call (.Attribute (.Name x p1) "extend" apos) [e] [] cpos) epos :: rest) S.env) Q E s := by
  refine wpAny_execs_cons (wpAny_Expr (Call_method1 hbase htrees hline ?_) hi hs)
  refine (Ev.name (C := cx S X V ((D, ds) :: r) I K) hx hd).use h.ok fun u s₀' g₀ ok₀ ru => ?_
  have h₀ := FSt.step (C := cx S X V ((D, ds) :: r) I K) h g₀
  rw [ru.raw_inv]
  obtain ⟨_, ys, n, hl, _⟩ := h₀.ok.mu D ds (.head _)
  refine ⟨"list", "list.extend", F.plainAttrs_list, F.slot_list_extend, F.type_list_extend, ⟨_, hl, rfl⟩, fun a q => ⟨_, by cases q; exact hl, rfl⟩, P.extend_list ?_⟩
  refine he.use h₀.ok fun v s₁ g ok₁ rv => ?_
  have h₁ := h₀.step g
  obtain ⟨hD, ys, n, hl, ra⟩ := h₁.ok.mu D ds (.head _)
  obtain ⟨b, zs, m, rfl, hb, hlb, rb⟩ := rv.list_inv
  have l1 := ra.length; have l2 := rb.length
  refine ⟨b, ys.toArray, zs.toArray, n, m, by simp; omega, by simp; omega, extend_door (by simp; omega), rfl, hl, hlb, ?_⟩
  have e : ys.toArray ++ zs.toArray = (ys ++ zs).toArray := by simp
  have ho' : (s₁.heap.update D (Obj.mapSeq fun x => x ++ zs.toArray)).get? D = some { cls := .type "list", data := .seq (ys ++ zs).toArray (if (ys.toArray ++ zs.toArray).size == ys.toArray.size then n else n + 1) } := by
    rw [Heap.get?_update_self _ hl (by rw [mapSeq_app]; rfl), mapSeq_app, e]
  have keep : ∀ b o, b ≠ D → s₁.heap.get? b = some o → (s₁.heap.update D (Obj.mapSeq fun x => x ++ zs.toArray)).get? b = some o := fun b o hb e => (Heap.get?_update_other _ _ (Ne.symm hb)).trans e
  exact k _ (h₁.mutate rfl ⟨keep, ⟨_, ho'⟩, rfl, rfl, rfl⟩ ho' (RdAll.append (rb.touch hD keep) (ra.touch hD keep)))

/-- x = v[i]: v ends at i -/
theorem s_assign_out {v i : Expr} {p1 : Pos} {xs : List PyData} {k : Int} (h : FS S X V M [] K s₀ s) (hh : HandOk S.A s.heap c) (hv : Ev (cx S X V M [] K) v (.list xs)) (hi : Ev (cx S X V M [] K) i (.int k)) (h0 : (xs.length : Int) ≤ k) (hf : k < 2 ^ 63)
    (kE : ∀ e s', XS S L X V M K s₀ c e s' → E e s')
    (hs : ∀ o j, subscripted i false o j = operate [o, j] (getItem o j) := by intro _ _; with_unfolding_all rfl) (hw : swapsWith (.Subscript v i p1) (some (.Name x p')) pos.line S.env = pure false := by rfl) :
    wpAny (model S.prog S.w) S.A (execs (.Assign [.Name x p'] (.Subscript v i p1) pos :: rest) S.env) Q E s := by
  refine wpAny_execs_cons (wpAny_Assign_Name (item_out (C := cx S X V M [] K) h hh hv hi h0 hf (fun e s' st y => ?_) hs) hw)
  exact kE _ _ ⟨_, e, _, rfl, fun b hb => .tail _ hb, st, y, .inl rfl⟩

theorem XS.less {W : Vars} {e : Value} (h : XS S L X V M K s₀ c e s) (hv : Has V W) : XS S L X W M K s₀ c e s := by
  obtain ⟨X', a, fl, q, hX, st, y, hfl⟩ := h
  exact ⟨X', a, fl, q, hX, s_less st hv, y, hfl⟩
theorem XS.swap {e : Value} {a b : Addr × List PyData} {r : Muts} (h : XS S L X V (a :: b :: r) K s₀ c e s) : XS S L X V (b :: a :: r) K s₀ c e s := by
  obtain ⟨X', a, fl, q, hX, st, y, hfl⟩ := h
  exact ⟨X', a, fl, q, hX, s_swap st, y, hfl⟩
end
end Mine
end
section
open PySem PySem.Spec PySem.SeqAt PySem.Calls PyProof.Rows
namespace Mine

/-- the heap with these things alone -/
noncomputable def only (h : Heap) (p : Addr → Bool) : Heap := ⟨h.objs.mapIdx fun i o => if p i then o else { o with data := .freed }, h.life⟩
theorem get_only (h : Heap) (p : Addr → Bool) (a : Addr) : (only h p).get? a = if p a then h.get? a else none := by
  unfold Heap.get? only
  simp only [Array.getElem?_mapIdx]
  cases e : h.objs[a]? with
  | none => simp
  | some o =>
    simp only [Option.map_some]
    cases hp : p a with
    | true => simp
    | false =>
      obtain ⟨c, d, dt, sl⟩ := o
      simp
/-- the state without the thing at D -/
noncomputable def sans (s : Shared) (F : List Addr) : Shared := { s with heap := only s.heap fun a => !F.contains a }
theorem sans_get {s : Shared} {F : List Addr} {a : Addr} : (sans s F).heap.get? a = if a ∈ F then none else s.heap.get? a := by
  show (only s.heap _).get? a = _
  rw [get_only]
  by_cases h : a ∈ F <;> simp [h]
theorem sans_some {s : Shared} {F : List Addr} {a : Addr} {o : Obj} (h : (sans s F).heap.get? a = some o) : a ∉ F ∧ s.heap.get? a = some o := by
  rw [sans_get] at h
  split at h
  · cases h
  · next q => exact ⟨q, h⟩
theorem sans_none {s : Shared} {F : List Addr} {a : Addr} (h : s.heap.get? a = none) : (sans s F).heap.get? a = none := by
  rw [sans_get]; split <;> simp_all
theorem sans_grow {T : Heap} {s s' : Shared} {F : List Addr} (g : Grow T s s') : Grow T (sans s F) s' := ⟨fun b o e => g.ext b o (sans_some e).2, g.gens, g.drawn, g.os⟩
theorem Grow.back {T : Heap} {s s' : Shared} {F : List Addr} (g : Grow T (sans s F) s') (h : ∀ a ∈ F, ∀ o, s.heap.get? a = some o → Kept T s'.heap a o) : Grow T s s' :=
  ⟨fun b o e => by
    by_cases q : b ∈ F
    · exact h b q o e
    · exact g.ext b o (by rw [sans_get, if_neg q]; exact e), g.gens, g.drawn, g.os⟩
theorem Grow.turnsSans {T : Heap} {s s' s'' : Shared} {F : List Addr} (g : Grow T (sans s F) s') (t : Turns F s' s'') : Grow T (sans s F) s'' :=
  g.turns t fun a ha => by rw [sans_get, if_pos ha]

theorem FSt.rebase {C : Cx} {s₀ s₁ s : Shared} (h : FSt C s₀ s) (F : List Addr) (hs : s₁ = sans s₀ F) : FSt C s₁ s := by
  subst hs
  exact ⟨h.ok, sans_grow h.grow, h.lX, sans_none h.l0, h.mn, fun D ds hx => sans_none (h.m0 D ds hx), h.im, fun F P hx b hb => sans_none (h.i0 F P hx b hb), fun n c e => let ⟨a, b, d⟩ := h.cl n c e; ⟨a, b, sans_none d⟩, h.ap⟩

/-- things nobody sees are changed -/
theorem FSt.away {C : Cx} {s₀ s s' : Shared} {F : List Addr} (h : FSt C s₀ s) (hF : ∀ a ∈ F, a ∉ C.X ∧ C.G.top.get? a = none ∧ s₀.heap.get? a = none ∧ C.env.locals ≠ a ∧ ∃ o, s.heap.get? a = some o ∧ (∀ xs n, o.data ≠ .seq xs n) ∧ (∀ v, o.data ≠ .cell v) ∧ ∀ es n, o.data = .dict es n → ∃ o' es' n', s'.heap.get? a = some o' ∧ o'.data = .dict es' n')
    (t : Turns F s s') : FSt C s₀ s' := by
  obtain ⟨m, hm, hv⟩ := h.ok.ns
  have ks : ∀ b o xs n, b ∉ C.X → s.heap.get? b = some o → o.data = .seq xs n → b ∉ C.X ∧ s'.heap.get? b = some o := fun b o xs n hb e d => ⟨hb, t.keep b o (fun q => by
    obtain ⟨_, _, _, _, o', e', ns, _⟩ := hF b q
    rw [e] at e'; cases e'; exact ns _ _ d) e⟩
  have kc : ∀ c v, s.heap.IsCell c v → s'.heap.IsCell c v := fun c v ⟨o, e, d⟩ => ⟨o, t.keep c o (fun q => by
    obtain ⟨_, _, _, _, o', e', _, nc, _⟩ := hF c q
    rw [e] at e'; cases e'; exact nc _ d) e, d⟩
  have kX : ∀ b ∈ C.X, b ∉ F := fun b hb q => (hF b q).1 hb
  refine ⟨⟨fun b o e => t.keep b o (fun q => ?_) (h.ok.g b o e), h.ok.fn, h.ok.gl, h.ok.bl, fun b hb => ?_, h.ok.room, h.ok.hand, h.ok.dep, h.ok.fr.of fun L o es n _ e d => ?_, fun G P hi => (h.ok.it G P hi).move (fun b hb => ((h.ok.it G P hi).at_ b hb).1) (fun b hb o e => t.keep b o (kX b ((h.ok.it G P hi).at_ b hb).1) e), fun D ds hx => ?_, fun v d hx => (h.ok.fa v d hx).monoS ks, m, hm.at' fun o e => t.keep _ o (fun q => (hF _ q).2.2.2.1 rfl) e, fun x d hx => ?_⟩,
    h.grow.turns t (fun a ha => (hF a ha).2.2.1), h.lX, h.l0, h.mn, h.m0, h.im, h.i0, fun n c e => let ⟨a, ⟨v, b⟩, d⟩ := h.cl n c e; ⟨a, ⟨v, kc c v b⟩, d⟩, h.ap⟩
  · rw [(hF b q).2.1] at e; cases e
  · obtain ⟨⟨o, e⟩, n⟩ := h.ok.lo b hb; exact ⟨⟨o, t.keep b o (kX b hb) e⟩, n⟩
  · by_cases q : L ∈ F
    · obtain ⟨_, _, _, _, o', e', _, _, k⟩ := hF L q
      rw [e] at e'; cases e'; exact k es n d
    · exact ⟨o, es, n, t.keep L o q e, d⟩
  · obtain ⟨iX, ys, n, hl, r⟩ := h.ok.mu D ds hx
    exact ⟨iX, ys, n, t.keep D _ (kX D iX) hl, r.monoS ks⟩
  · obtain ⟨v, r, i⟩ := hv x d hx
    refine ⟨v, r.monoS ks, ?_⟩
    rcases i with i | ⟨i1, c, hc, hcell⟩
    · exact .inl i
    · exact .inr ⟨i1, c, hc, kc c _ hcell⟩

/-- more is fixed from now on -/
structure Glob.More (G G' : Glob) (F : List Addr) (h : Heap) : Prop where
  top : ∀ a, G'.top.get? a = if a ∈ F then h.get? a else G.top.get? a
  globs : G'.globs = G.globs
  nots : G'.nots = G.nots
theorem Glob.fix (G : Glob) (F : List Addr) (h : Heap) (hg : ∀ b o, G.top.get? b = some o → h.get? b = some o) (hF : ∀ a ∈ F, G.top.get? a = none) : ∃ G', Glob.More G G' F h := by
  have sub : ∀ a o, G.top.get? a = some o → (only h fun a => F.contains a || (G.top.get? a).isSome).get? a = some o := fun a o e => by
    rw [get_only, e]; simp [hg a o e]
  refine ⟨⟨only h fun a => F.contains a || (G.top.get? a).isSome, G.globs, G.nots, ?_, ?_⟩, ⟨fun a => ?_, rfl, rfl⟩⟩
  · obtain ⟨mg, mb, a, b, c⟩ := G.names
    exact ⟨mg, mb, a.keeps sub, b.keeps sub, c⟩
  · exact G.lim.keeps sub
  · show (only h _).get? a = _
    rw [get_only]
    by_cases q : a ∈ F
    · simp [q]
    · rw [if_neg q]
      cases e : G.top.get? a with
      | none => simp [q]
      | some o => simp [hg a o e]
theorem Glob.More.sub {G G' : Glob} {F : List Addr} {h : Heap} (m : Glob.More G G' F h) (hF : ∀ a ∈ F, G.top.get? a = none) {b : Addr} {o : Obj} (e : G.top.get? b = some o) : G'.top.get? b = some o := by
  rw [m.top, if_neg fun q => by rw [hF b q] at e; cases e]; exact e
theorem Glob.More.sup {G G' : Glob} {F : List Addr} {h : Heap} (m : Glob.More G G' F h) {b : Addr} (e : G'.top.get? b = none) (hF : ∀ a ∈ F, G.top.get? a = none) : G.top.get? b = none := by
  rw [m.top] at e
  split at e
  · next q => exact hF b q
  · exact e
theorem Kept.less {T T' h : Heap} {b : Addr} {o : Obj} (x : Kept T' h b o) (hT : T'.get? b = none → T.get? b = none) : Kept T h b o := by
  rcases x with x | ⟨n, r⟩
  · exact .inl x
  · exact .inr ⟨hT n, r⟩
theorem Grow.less {T T' : Heap} {s s' : Shared} (g : Grow T' s s') (hT : ∀ b, T'.get? b = none → T.get? b = none) : Grow T s s' := ⟨fun b o e => (g.ext b o e).less (hT b), g.gens, g.drawn, g.os⟩
theorem FSt.reglob {C : Cx} {s₀ s : Shared} {G' : Glob} {F : List Addr} {h : Heap} (st : FSt C s₀ s) (m : Glob.More C.G G' F h) (hF : ∀ a ∈ F, C.G.top.get? a = none ∧ s₀.heap.get? a = none ∧ a ∉ C.X ∧ h.get? a = s.heap.get? a)
    (hfr : ∀ outer, C.A.frames = some outer → ∀ env ∈ outer, ∀ L, env.frame = some L → L ∉ F) : FSt { C with G := G' } s₀ s := by
  have ok := st.ok
  have hn : ∀ b, C.G.top.get? b = none → b ∉ F → G'.top.get? b = none := fun b e q => by rw [m.top, if_neg q]; exact e
  refine ⟨⟨fun b o e => ?_, ok.fn, ok.gl, ok.bl, fun b hb => ⟨(ok.lo b hb).1, hn b (ok.lo b hb).2 fun q => (hF b q).2.2.1 hb⟩, ok.room, ok.hand, ok.dep, ?_, ok.it, ok.mu, ok.fa, ok.ns⟩, ⟨fun b o e => ?_, st.grow.gens, st.grow.drawn, st.grow.os⟩, st.lX, st.l0, st.mn, st.m0, st.im, st.i0, st.cl, st.ap⟩
  · change G'.top.get? b = some o at e
    rw [m.top] at e
    split at e
    · next q => rw [← (hF b q).2.2.2]; exact e
    · exact ok.g b o e
  · obtain ⟨outer, e, f⟩ := ok.fr
    refine ⟨outer, e, fun env he => ?_⟩
    obtain ⟨k1, L, o, es, n, f1, f2, f3, f4⟩ := f env he
    exact ⟨k1, L, o, es, n, f1, hn L f2 (hfr outer e env he L f1), f3, f4⟩
  · rcases st.grow.ext b o e with x | ⟨n, r⟩
    · exact .inl x
    · exact .inr ⟨hn b n (fun q => by rw [(hF b q).2.1] at e; cases e), r⟩
end Mine
end
section
open PySem PySem.Spec PySem.SeqAt PySem.Calls PyProof.Rows
namespace Mine

theorem Amid.new {G : Glob} {A : Around} {X : List Addr} {s : Shared} (am : Amid G A X s) {a : Addr} (h : s.heap.get? a = none) : a ∉ X ∧ G.top.get? a = none := by
  refine ⟨fun hb => ?_, ?_⟩
  · obtain ⟨⟨o, e⟩, _⟩ := am.lo _ hb
    rw [h] at e; cases e
  · cases e : G.top.get? a with
    | none => rfl
    | some o => have := am.g _ _ e; rw [h] at this; cases this

/-- a call with keywords, of a def without captured names; its binding may make things -/
theorem s_callK {prog : Program} {w : World} {G : Glob} {n : Nat} {fa : Addr} {fd : FuncData} {body : List Stmt} {A : Around} {X : List Addr} {s s₁ : Shared} {vals : List Value} {kw : List (Str × Value)} {binds : List (Str × Value)} (vars : Vars) {Q : Value → Shared → Prop} {E : Value → Shared → Prop}
    (f : FnAt G fa fd) (hbody : fd.body = .stmts body) (room : Room A (n + 1)) (am : Amid G A X s) (g₁ : Grow G.top s s₁)
    (hbind : ∀ (M : Model) (A : Around) (E : Value → Shared → Prop) (Q : List (Str × Value) → Shared → Prop), Q binds s₁ → wpAny M A (bindArgs fd ⟨vals, kw⟩) Q E s)
    (hcell : ∀ x ∈ fd.scope.names, x.2 ≠ .cell) (hcl : fd.closure = []) (hloc : LocOk fd binds)
    (hvars : BindOk fd binds X s₁.heap vars)
    (h : ∀ L s', FS ⟨prog, w, A.deeper (callEnv fd L fa), callEnv fd L fa, G, true⟩ (L :: X) vars [] [] [] s s' → ((∀ b o, s₁.heap.get? b = some o → s'.heap.get? b = some o) ∧ s₁.heap.get? L = none) → Room (A.deeper (callEnv fd L fa)) n → L ∉ X →
      wpAny (model prog w) (A.deeper (callEnv fd L fa)) (execs body (callEnv fd L fa)) (fun fl s'' => Q (match fl with | .ret v => v | _ => .none) s'') (fun _ _ => False) s')
    (hco : fd.scope.isCoroutine = false := by rfl) (hgen : fd.scope.isGenerator = false := by rfl) (hk : fd.scope.kind = .function := by rfl) :
    wpAny (model prog w) A (call (.ref fa) vals kw) Q E s := by
  obtain ⟨⟨o, ho, hd, _⟩, hcode, hgl, hbl⟩ := f
  have am₁ : Amid G A X s₁ := ⟨am.fr.ext g₁.ext, top_kept am.g g₁.ext, fun b hb => let ⟨⟨o, e⟩, n⟩ := am.lo b hb; ⟨(g₁.ext b o e).some, n⟩⟩
  refine wpAny_call (codeAny_call_function (by have := room.d; omega) (am.g _ _ ho) hd hco hgen hbody (hcode.keeps am.g) (hbind _ _ _ _ ?_))
  refine wpAny_newFunctionEnv hcell (fun x hx => hloc.get hx) (fun h₀ hns hsb₀ => ⟨(G.lim.keeps am₁.g).fresh _ hsb₀, codeAny_func ?_⟩) hk
  have hk₀ : ∀ b o, s₁.heap.get? b = some o → h₀.get? b = some o := fun b o e => hsb₀.extBut b o (Nat.ne_of_lt (Heap.lt_size e)) (Heap.get?_push_of_some _ e)
  obtain ⟨hLX, hLT⟩ := am₁.new (get_size s₁.heap)
  have room' := room.deeper (callEnv fd s₁.heap.objs.size fa)
  have g₂ : Grow G.top s₁ { s₁ with heap := h₀, toks := s₁.toks + binds.length } := .of s₁ hk₀
  refine wpAny_mono (h s₁.heap.objs.size _ ⟨⟨fun b o e => hk₀ b o (am₁.g b o e), hk, hgl, hbl, fun b hb => ?_, by have := room'.u; show (A.deeper _).units + 100 < cLine; omega, fun _ => room'.h, by have := room'.d; show (A.deeper _).depth + 50 < _; omega, (am₁.fr.ext (.of hk₀)).deeper (by show fd.scope.kind ≠ .module; rw [hk]; nofun) rfl hLT hns, fun _ _ hx => (nomatch hx), fun _ _ hx => (nomatch hx), fun _ _ hx => (nomatch hx), _, hns, fun x d hx => ?_⟩,
      g₁.trans g₂, .head _, g₁.ext.none (get_size _), .nil, fun _ _ hx => (nomatch hx), .nil, fun _ _ hx => (nomatch hx), fun n c e => ?_, fun n n' c e => ?_⟩ ⟨hk₀, get_size _⟩ room' hLX) (fun fl s'' q => q) fun _ _ q => q.elim
  · rcases List.mem_cons.mp hb with q | hb
    · subst q; obtain ⟨o, _, _, e, _⟩ := hns; exact ⟨⟨o, e⟩, hLT⟩
    · obtain ⟨⟨o, e⟩, n⟩ := am₁.lo b hb; exact ⟨⟨o, hk₀ _ _ e⟩, n⟩
  · obtain ⟨v, hv, r, hl⟩ := hvars.get hx
    refine ⟨v, r.mono fun b o hb e => ⟨fun hm => ?_, hk₀ b o e⟩, .inl ⟨hl, hv⟩⟩
    rcases List.mem_cons.mp hm with q | hm
    · rw [q, get_size] at e; cases e
    · exact hb hm
  · have : (callEnv fd s₁.heap.objs.size fa).cells = [] := hcl
    change (callEnv fd s₁.heap.objs.size fa).cells.lookup n = some c at e
    rw [this] at e; cases e
  · have : (callEnv fd s₁.heap.objs.size fa).cells = [] := hcl
    change (callEnv fd s₁.heap.objs.size fa).cells.lookup n = some c at e
    rw [this] at e; cases e

/-- how a parameter is bound where some are captured -/
noncomputable def Bound (fd : FuncData) (binds : List (Str × Value)) (x : Str) (v : Value) : Prop :=
  (fd.scope.names.lookup x = some .local ∧ bindL (fun y => fd.scope.names.lookup y) binds (fun _ => none) x = some v) ∨
  (fd.scope.names.lookup x = some .cell ∧ (∀ n, ((cellsFrom n fd.scope.names []).lookup x).isSome = true) ∧ bindC (fun y => fd.scope.names.lookup y) binds (fun _ => none) x = some v)

noncomputable def KindOk (fd : FuncData) : List (Str × Value) → Prop
  | [] => True
  | (x, _) :: r => (fd.scope.names.lookup x = some .local ∨ (fd.scope.names.lookup x = some .cell ∧ ∀ n, ((cellsFrom n fd.scope.names []).lookup x).isSome = true)) ∧ KindOk fd r
theorem KindOk.get {fd : FuncData} : ∀ {l : List (Str × Value)}, KindOk fd l → ∀ {x}, x ∈ l → fd.scope.names.lookup x.1 = some .local ∨ (fd.scope.names.lookup x.1 = some .cell ∧ ∀ n, ((cellsFrom n fd.scope.names []).lookup x.1).isSome = true)
  | [], _, x, h => by cases h
  | (y, v) :: r, hh, x, h => by
    rcases List.mem_cons.mp h with q | h
    · cases q; exact hh.1
    · exact KindOk.get hh.2 h
noncomputable def BoundOk (fd : FuncData) (binds : List (Str × Value)) (X : List Addr) (h : Heap) : Vars → Prop
  | [] => True
  | (x, d) :: r => (∃ v, Bound fd binds x v ∧ Rd X h d v) ∧ BoundOk fd binds X h r
theorem BoundOk.get {fd : FuncData} {binds : List (Str × Value)} {X : List Addr} {h : Heap} : ∀ {W : Vars}, BoundOk fd binds X h W → ∀ {x d}, W.lookup x = some d → ∃ v, Bound fd binds x v ∧ Rd X h d v
  | [], _, x, d, h => by cases h
  | (y, e) :: r, hh, x, d, h => by
    rw [lookup_cons] at h
    split at h
    · next q => cases h; rw [beq_iff_eq.mp q]; exact hh.1
    · exact BoundOk.get hh.2 h

theorem s_callC {prog : Program} {w : World} {G : Glob} {n : Nat} {fa : Addr} {fd : FuncData} {body : List Stmt} {A : Around} {X : List Addr} {s : Shared} {vals : List Value} {binds : List (Str × Value)} (vars : Vars) {Q : Value → Shared → Prop} {E : Value → Shared → Prop}
    (f : FnAt G fa fd) (hbody : fd.body = .stmts body) (room : Room A (n + 1)) (am : Amid G A X s)
    (hbind : bindArgs fd ⟨vals, []⟩ = pure binds) (hcl : fd.closure = [])
    (hkind : KindOk fd binds)
    (hvars : BoundOk fd binds X s.heap vars)
    (h : ∀ L X' s', (∀ b ∈ X, b ∈ X') → (∀ b ∈ X', b ∈ X ∨ s.heap.get? b = none) → FS ⟨prog, w, A.deeper (callEnvC fd L fa), callEnvC fd L fa, G, true⟩ X' vars [] [] [] s s' → Room (A.deeper (callEnvC fd L fa)) n →
      wpAny (model prog w) (A.deeper (callEnvC fd L fa)) (execs body (callEnvC fd L fa)) (fun fl s'' => Q (match fl with | .ret v => v | _ => .none) s'') (fun _ _ => False) s')
    (hco : fd.scope.isCoroutine = false := by rfl) (hgen : fd.scope.isGenerator = false := by rfl) (hk : fd.scope.kind = .function := by rfl) :
    wpAny (model prog w) A (call (.ref fa) vals) Q E s := by
  obtain ⟨⟨o, ho, hd, _⟩, hcode, hgl, hbl⟩ := f
  refine wpAny_call (codeAny_call_cells (by have := room.d; omega) (am.g _ _ ho) hd (G.lim.keeps am.g) (hcode.keeps am.g) hbody hbind hcl (fun x hx => (hkind.get hx).imp id fun q => ⟨q.1, q.2 _⟩) (fun s₁ ic => ?_) hco hgen hk)
  obtain ⟨hLX, hLT⟩ := am.new (get_size s.heap)
  have room' := room.deeper (callEnvC fd s.heap.objs.size fa)
  generalize hL : s.heap.objs.size = L at *
  have hcs : (callEnvC fd L fa).cells = cellsFrom (L + 1) fd.scope.names [] := rfl
  have hnew : ∀ b, L ≤ b → s.heap.get? b = none := fun b hb => by
    cases e : s.heap.get? b with
    | none => rfl
    | some o => exact absurd (hL ▸ Heap.lt_size e : b < L) (by omega)
  obtain ⟨h₁, tk, rfl⟩ := ic.toInCall.same
  have g : Grow G.top s { s with heap := h₁, toks := tk } := .of s fun b o e => ic.toInCall.keep b o e
  obtain ⟨X', hX'⟩ : ∃ X', X' = L :: ((cellsFrom (L + 1) fd.scope.names []).filterMap (fun p => (cellsFrom (L + 1) fd.scope.names []).lookup p.1) ++ X) := ⟨_, rfl⟩
  have hfresh : ∀ b ∈ X', b ∈ X ∨ (s.heap.get? b = none ∧ ∃ o, h₁.get? b = some o) := fun b hb => by
    rw [hX'] at hb
    rcases List.mem_cons.mp hb with q | hb
    · subst q
      obtain ⟨o, _, _, e, _⟩ := ic.toInCall.ns
      exact .inr ⟨hnew _ (Nat.le_refl _), o, e⟩
    · rcases List.mem_append.mp hb with hb | hb
      · obtain ⟨⟨nm, c'⟩, _, hc⟩ := List.mem_filterMap.mp hb
        obtain ⟨o, e, _⟩ := ic.cell nm b hc
        exact .inr ⟨hnew _ (Nat.le_of_lt (ic.above nm b (mem_of_lookup hc))), o, e⟩
      · exact .inl hb
  refine wpAny_mono (h L X' _ (fun b hb => by rw [hX']; simp [hb]) (fun b hb => (hfresh b hb).imp id fun q => q.1) ⟨⟨top_kept am.g g.ext, hk, hgl, hbl, fun b hb => ?_, by have := room'.u; show (A.deeper _).units + 100 < cLine; omega, fun _ => room'.h, by have := room'.d; show (A.deeper _).depth + 50 < _; omega, (am.fr.ext g.ext).deeper (by show fd.scope.kind ≠ .module; rw [hk]; nofun) rfl hLT ic.toInCall.ns, fun _ _ hx => (nomatch hx), fun _ _ hx => (nomatch hx), fun _ _ hx => (nomatch hx), _, ic.toInCall.ns, fun x d hx => ?_⟩,
      g, by rw [hX']; exact .head _, hnew _ (Nat.le_refl _), .nil, fun _ _ hx => (nomatch hx), .nil, fun _ _ hx => (nomatch hx), fun nm c e => ?_, fun nm nm' c e e' => ?_⟩ room') (fun fl s'' q => q) fun _ _ q => q.elim
  · rcases hfresh b hb with q | ⟨q1, q2⟩
    · obtain ⟨⟨o, e⟩, n⟩ := am.lo b q; exact ⟨(g.ext b o e).some, n⟩
    · exact ⟨q2, (am.new q1).2⟩
  · obtain ⟨v, hb, r⟩ := hvars.get hx
    refine ⟨v, r.mono fun b o hb e => ⟨fun hm => ?_, ic.toInCall.keep b o e⟩, ?_⟩
    · rcases hfresh b hm with q | ⟨q1, _⟩
      · exact hb q
      · rw [q1] at e; cases e
    · rcases hb with ⟨k, e⟩ | ⟨k, hc, e⟩
      · exact .inl ⟨k, e⟩
      · obtain ⟨c, hc⟩ := Option.isSome_iff_exists.mp (hc (L + 1))
        refine .inr ⟨.inl k, c, hc, ?_⟩
        have := ic.cell x c hc
        rwa [show bindC (callEnvC fd L fa).kindOf binds (fun _ => none) x = some v from e] at this
  · have hm := mem_of_lookup e
    refine ⟨by rw [hX']; exact .tail _ (List.mem_append.mpr (.inl (List.mem_filterMap.mpr ⟨_, hm, e⟩))), ⟨_, ic.cell nm c e⟩, hnew _ (Nat.le_of_lt (ic.above nm c hm))⟩
  · exact name_of_addr ic.apart (mem_of_lookup e) (mem_of_lookup e')
end Mine
end
section
open PySem PySem.Spec PySem.SeqAt PySem.Calls PyProof.Rows
namespace Mine

/-- a call of a def of the text's own -/
theorem Ev.call {C : Cx} {fn : Str} {p pos : Pos} {e : Expr} {es : List Expr} {ds : List PyData} {d : PyData} {fa : Addr} {fd : FuncData} {n : Nat} (hn : NameV C fn (.ref fa)) (he : Evs C (e :: es) ds) (f : FnAt C.G fa fd) (hc : CallOk C.prog C.w C.G n fa ds d) (room : Room C.A n)
    (hs : starEach (e :: es) C.env = (false, eval e C.env) :: starEach es C.env := by rfl) : Ev C (.Call (.Name fn p) (e :: es) [] pos) d := fun s ok => by
  obtain ⟨o, ho, hd, _⟩ := f.at_
  refine PyProof.Rows.Call_Name rfl (hn s p _ _ ok (callWith_meth hd ho (wpAny_mono (he s ok pos) (fun vs s₁ x => ⟨(ok.grow x.1).g, ?_⟩) fun _ _ x => x) hs))
  refine wpAny_mono (hc C.A C.X s₁ vs room (ok.grow x.1).amid x.2) (fun v s₂ y => ⟨x.1.trans y.1, y.2⟩) fun _ _ y => y

/-- a method of an object of a class of the text's own is fetched -/
theorem meth_fetch {C : Cx} {s : Shared} {o : Expr} {name : Str} {apos pos : Pos} {args : List Expr} {kws : List Keyword} {H Cc N f : Addr} {mN mA : Str → Option Value} {y : Option Value} {fd : FuncData} {Q : Value → Shared → Prop} {E : Value → Shared → Prop}
    (ok : C.ok s) (ho : Ev C o (raw H)) (X : ClsAt C.G.top Cc N mN) (I : C.G.top.InstFk H Cc mA) (hf : mN name = some (.ref f)) (fn : FnAt C.G f fd) (hng : mN "__getattribute__" = none) (hnh : mN "__getattr__" = none) (hsh : mA name = none) (hB : typeLookup (.type "object") name = pure y)
    (h : ∀ s', Grow C.G.top s s' → C.ok s' → wpAny C.M C.A (callWith pos (.ref f) [.ref H] (backTo pos (starEach args C.env)) (backToKw pos (keywordEach kws C.env))) Q E s')
    (hbase : attributeBase o name C.env (eval o C.env) = eval o C.env := by rfl) (hform : methodCallForm (args.length + kws.length) (backTo pos (starEach args C.env)) (backToKw pos (keywordEach kws C.env)) = true := by rfl) (hline : (apos.endLine == pos.line) = true := by rfl) :
    wpAny C.M C.A (eval (.Call (.Attribute o name apos) args kws pos) C.env) Q E s := by
  rw [arm_eval_Call, hbase]
  refine wpAny_bind (ho.use ok fun ov s₁ g₁ ok₁ r => ?_)
  rw [r.raw_inv]
  refine wpAny_bind (wpAny_standAt ?_)
  have hpos : methodCallPos true o C.env apos pos = pure pos := by unfold methodCallPos; simp [hline]
  unfold methodCall
  rw [hform]
  obtain ⟨of, hfo, _, hfc⟩ := fn.at_
  obtain ⟨nm, q, bs, sn, sub, col, dd, k0, k1, k2, k3, k5, hC⟩ := (X.keeps ok₁.g).obj
  refine wpAny_bind (wpAny_holding ?_)
  refine method_ofFk (h := s₁.heap) (g := s₁.gens) (d := s₁.drawn) (t := s₁.toks) (os := s₁.os) hC (X.keeps ok₁.g).ns hng hnh hf (ok₁.g _ _ hfo) hfc hB (I.keeps ok₁.g) hsh ?_
  exact wpAny_bind (wpAny_of_eq hpos (h s₁ g₁ ok₁))

/-- an attribute of such an object -/
theorem Ev.attr {C : Cx} {x name : Str} {np pos : Pos} {H Cc N D : Addr} {mN mA : Str → Option Value} {d : PyData} (ho : Ev C (.Name x np) (raw H)) (X : ClsAt C.G.top Cc N mN) (I : C.G.top.InstFk H Cc mA) (hv : mA name = some (.ref D))
    (hd : d = raw D ∨ (Value.ref D, d) ∈ C.facts) (hng : mN "__getattribute__" = Option.none) (hna : mN name = Option.none) (hB : typeLookup (.type "object") name = pure Option.none) : Ev C (.Attribute (.Name x np) name pos) d := fun s ok => by
  refine Attribute_name (ho.use ok fun ov s₁ g₁ ok₁ r => ?_)
  rw [r.raw_inv]
  obtain ⟨nm, q, bs, sn, sub, col, dd, k0, k1, k2, k3, k5, hC⟩ := (X.keeps ok₁.g).obj
  refine load_attrFk (h := s₁.heap) (g := s₁.gens) (d := s₁.drawn) (t := s₁.toks) (os := s₁.os) hC (X.keeps ok₁.g).ns hng hna hB (I.keeps ok₁.g) hv rfl ⟨g₁.trans (.tok _ _), ?_⟩
  rcases hd with rfl | hd
  · exact .raw_
  · exact ok₁.fa _ _ hd
end Mine
end
section
open PySem PySem.Spec PySem.SeqAt PySem.Calls PyProof.Rows
set_option maxRecDepth 100000
namespace Mine
open PySem.Builtin.Re

theorem plainAttrs_re : PlainAttrs "re.Pattern" :=
  ⟨⟨"object.__getattribute__", by rw [typeLookup_type, builtinLookup_eq_fast]; kernel_rfl, by decide +kernel⟩, by rw [typeLookup_type, builtinLookup_eq_fast]; kernel_rfl⟩
theorem slot_re_search : Slot "re.Pattern" "search" "re.Pattern.search" :=
  .of (owner := "re.Pattern") (n := "search") (by rw [typeLookup_type, builtinLookup_eq_fast]; kernel_rfl) (by decide +kernel) (by decide +kernel) (by decide +kernel)
    (by first | exact .inl (by decide +kernel) | exact .inr (by decide +kernel)) (by rw [isSubtype_type]; kernel_rfl)
theorem type_re_search : typeOf (.builtin "re.Pattern.search") = pure (.type "method_descriptor") := by show builtinType _ = _; rw [builtinType_eq_fast]; kernel_rfl
theorem entry_re_search : entryFor table "re.Pattern.search" = some Builtin.«re.Pattern.search» := entryFor_of_tree (by kernel_rfl)
theorem owner_re : Manifest.owners.lookup "re.Pattern" = some Manifest.sig_re_Pattern := by kernel_rfl
theorem args_re_search (a b : Value) : argsOk "re.Pattern.search" ⟨[a, b], []⟩ := by
  unfold argsOk
  have : Manifest.signature? "re.Pattern.search" = Manifest.sig_re_Pattern.lookup "search" := by kernel_rfl
  rw [this]; kernel_rfl

/-- the search's outcome, in so many turns -/
noncomputable def driveN : Nat → Sre.M → Option Sre.M
  | 0, _ => none
  | n + 1, m => let m := m.runFor reTurnSteps; if m.outcome.isSome then some m else driveN n m
noncomputable def fails (code text : Array Nat) : Bool := match driveN 200 (Sre.forSearch code text 0 0 text.size false) with
  | some m => match m.outcome with | some .failed => true | _ => false
  | none => false
section
variable {M : Model} {A : Around} {E : Value → Shared → Prop} {s : Shared}
theorem reDrive_of {Q : Sre.M → Shared → Prop} : ∀ (n k : Nat) (m m' : Sre.M), driveN n m = some m' → n ≤ k → Q m' s → wpAny M A (reDrive k m) Q E s
  | 0, _, _, _, h, _, _ => by cases h
  | n + 1, 0, _, _, _, hk, _ => absurd hk (by omega)
  | n + 1, k + 1, m, m', h, hk, hq => by
    unfold reDrive
    unfold driveN at h
    dsimp only at h ⊢
    split at h
    · next q => cases h; rw [if_pos q]; exact wpAny_pure hq
    · next q => rw [if_neg q]; exact wpAny_bind (wpAny_rule (reDrive_of n k _ m' h (by omega) hq))
theorem rules_of (m : Sre.M) {Q : PUnit → Shared → Prop} (h : Q ⟨⟩ s) : ∀ l : List Nat, wpAny M A (forIn l PUnit.unit fun i _ => do
    if m.seen.has i = true then do rule (Sre.names.getD i ""); pure (ForInStep.yield PUnit.unit) else pure (ForInStep.yield PUnit.unit)) Q E s
  | [] => by rw [List.forIn_nil]; exact wpAny_pure h
  | i :: l => by
    rw [List.forIn_cons]
    refine wpAny_bind ?_
    split
    · exact wpAny_bind (wpAny_rule (wpAny_pure (rules_of m h l)))
    · exact wpAny_pure (rules_of m h l)
theorem reRunToEnd_fails {code text : Array Nat} {Q : Option Sre.M → Shared → Prop} (hf : fails code text = true) (h : Q none s) : wpAny M A (reRunToEnd (Sre.forSearch code text 0 0 text.size false)) Q E s := by
  unfold fails at hf
  split at hf
  · next m hm =>
    split at hf
    · next ho =>
      unfold reRunToEnd
      refine wpAny_bind (reDrive_of 200 _ _ m hm (by decide) ?_)
      refine wpAny_bind (rules_of m ?_ _)
      rw [ho]
      exact wpAny_pure h
    · cases hf
  · cases hf
end

/-- a pattern of the text's own -/
structure PatAt (h : Heap) (P : Addr) (code : Array Nat) : Prop where
  obj : ∃ oP fs cA oc items n, h.get? P = some oP ∧ oP.cls = .type "re.Pattern" ∧ oP.dict = none ∧ oP.data = .fields fs ∧ reRawNat (fs.getD 6 .none) = 0 ∧ reRawNat (fs.getD 2 .none) = 0 ∧ fs.getD 5 .none = .ref cA ∧ h.get? cA = some oc ∧ oc.data = .seq items n ∧ (items.map reRawOf).map (·.toNat) = code
theorem PatAt.keeps {h h' : Heap} {P : Addr} {code : Array Nat} (x : PatAt h P code) (k : ∀ b o, h.get? b = some o → h'.get? b = some o) : PatAt h' P code :=
  let ⟨oP, fs, cA, oc, items, n, a, b, c, d, e, f, g, i, j, l⟩ := x.obj; ⟨⟨oP, fs, cA, oc, items, n, k _ _ a, b, c, d, e, f, g, k _ _ i, j, l⟩⟩

theorem search_fails {prog : Program} {w : World} {A : Around} {E : Value → Shared → Prop} {s : Shared} {P : Addr} {code : Array Nat} {x : Str} {t : Tok} {Q : Value → Shared → Prop} (p : PatAt s.heap P code) (hf : fails code x.cps = true) (hsz : x.cps.size ≤ 1000) (h : Q .none s) :
    wpAny (model prog w) A (Builtin.«re.Pattern.search» ⟨[.ref P, .str x t], []⟩) (fun fin s' => ∃ v, fin = .done (.ret v) ∧ Q v s') E s := by
  obtain ⟨oP, fs, cA, oc, items, n, h1, h2, h3, h4, h5, h6, h7, h8, h9, h10⟩ := p.obj
  unfold Builtin.«re.Pattern.search»
  refine wpAny_bind (m := reTarget _ _ _) ?_
  unfold reTarget
  dsimp only
  refine wpAny_bind (wpAny_of_eq (a := [some (.str x t), none, none]) rfl ?_)
  dsimp only
  refine wpAny_bind (wpAny_pure (wpAny_bind (wpAny_pure ?_)))
  refine wpAny_bind (wpAny_fieldsOf h1 h4 ?_)
  refine wpAny_bind (m := reTextOf _) (wpAny_of_eq (a := (x.cps, 0)) rfl ?_)
  dsimp only
  rw [h5, h6, h7]
  rw [if_neg (by decide), if_neg (by decide)]
  refine wpAny_bind (m := reNoCollectionInside _ _) (wpAny_of_eq (a := ()) rfl ?_)
  unfold reRawItems
  refine wpAny_bind (wpAny_bind (wpAny_seqItems h8 h9 (wpAny_pure ?_)))
  refine wpAny_pure ?_
  unfold reAnswer
  dsimp only [Option.getD]
  rw [h10]
  have e1 : min (0 : Int).toNat x.cps.size = 0 := by simp
  have e2 : min ((2 : Int) ^ 63 - 1).toNat x.cps.size = x.cps.size := by
    have : ((2 : Int) ^ 63 - 1).toNat = 9223372036854775807 := by decide
    omega
  rw [e1, e2]
  exact wpAny_bind (reRunToEnd_fails hf (wpAny_pure ⟨.none, rfl, h⟩))

/-- r.search(e) finds nothing -/
theorem Ev.search {C : Cx} {r : Str} {p1 apos pos : Pos} {e : Expr} {P : Addr} {code : Array Nat} {x : Str} (hr : Ev C (.Name r p1) (raw P)) (he : Ev C e (.str x)) (hp : PatAt C.G.top P code) (hf : fails code x.cps = Bool.true) (hsz : x.cps.size ≤ 1000)
    (hbase : attributeBase (.Name r p1) "search" C.env (eval (.Name r p1) C.env) = eval (.Name r p1) C.env := by rfl)
    (hs : starEach [e] C.env = [(false, eval e C.env)] := by rfl) (hline : (apos.endLine == pos.line) = Bool.true := by rfl) : Ev C (.Call (.Attribute (.Name r p1) "search" apos) [e] [] pos) .none := fun s ok => by
  refine Call_method1 hbase hs hline (hr.use ok fun u s₁ g₁ ok₁ ru => ?_)
  rw [ru.raw_inv]
  obtain ⟨oP, fs, cA, oc, items, n, h1, h2, h3, _⟩ := (hp.keeps ok₁.g).obj
  refine ⟨"re.Pattern", "re.Pattern.search", plainAttrs_re, slot_re_search, type_re_search, ⟨_, h1, h2⟩, fun a q => ⟨oP, by cases q; exact h1, h3⟩, ?_⟩
  refine Calls.callWith_builtin rfl (Calls.evalArgs_plain (Calls.spliced_cons (he.use ok₁ fun v s₂ g₂ ok₂ rv => Calls.spliced_nil ?_)))
  obtain ⟨t, rfl⟩ := rv.str_inv
  have hp₂ := hp.keeps ok₂.g
  obtain ⟨oP, fs, cA, oc, items, n, h1, h2, h3, _⟩ := hp₂.obj
  exact wpAny_call_entry slot_re_search ⟨_, h1, h2⟩ entry_re_search (search_fails hp₂ hf hsz ⟨g₁.trans g₂, .none_⟩) (args_re_search _ _)
theorem Tr.none {C : Cx} {e : Expr} (h : Ev C e .none) (he : isTrue e C.env (eval e C.env) = (do let v ← eval e C.env; standAt e.pos; holding [v] (truthy v)) := by rfl) : Tr C e Bool.false := fun s ok =>
  wpAny_isTrue_value (h.use ok fun v s₁ g ok₁ r => by rw [r.none_inv]; exact wpAny_of_eq (a := Bool.false) rfl ⟨g, rfl⟩) he
end Mine
end
section
open PySem PySem.Spec PySem.SeqAt PySem.Calls PyProof.Rows
namespace Mine

theorem Rd.top {C : Cx} {s : Shared} {d : PyData} {v : Value} (r : Rd [] C.G.top d v) (ok : C.ok s) : Rd C.X s.heap d v :=
  r.mono fun b o _ e => ⟨(fun q => by rw [(ok.lo b q).2] at e; cases e), ok.g b o e⟩
/-- a global that is a datum -/
theorem Ev.glob {C : Cx} {x : Str} {pos : Pos} {v : Value} {d : PyData} (hm : (x, v) ∈ C.G.globs) (hd : Rd [] C.G.top d v) (hk : C.env.kindOf x = some .globalImplicit := by rfl) (hx : (x == ("__debug__" : Str)) = false := by decide) : Ev C (.Name x pos) d := fun s ok =>
  NameV.glob hm hk hx s pos _ _ ok ⟨.refl _ _, hd.top ok⟩
theorem Tr.val {C : Cx} {e : Expr} {b : Bool} (h : Ev C e (.bool b)) (he : isTrue e C.env (eval e C.env) = (do let v ← eval e C.env; standAt e.pos; holding [v] (truthy v)) := by rfl) : Tr C e b := fun s ok =>
  wpAny_isTrue_value (h.use ok fun v s₁ g ok₁ r => by rw [r.bool_inv]; exact wpAny_truthy_bool ⟨g, rfl⟩) he
theorem Cmp.isNone {C : Cx} {d : PyData} (h : d = .none) : Cmp C .Is d .none true := fun s u v ok hu hv Q E k => by
  subst h; rw [hu.none_inv, hv.none_inv]; exact is_none (k s.toks)
theorem Cmp.isNotNone {C : Cx} : Cmp C .IsNot .none .none false := fun s u v ok hu hv Q E k => by
  rw [hu.none_inv, hv.none_inv]; exact isNot_none (k s.toks)
theorem Cmp.isNotNoneStr {C : Cx} {x : Str} : Cmp C .IsNot (.str x) .none true := fun s u v ok hu hv Q E k => by
  obtain ⟨t, rfl⟩ := hu.str_inv; rw [hv.none_inv]; exact isNot_none (k s.toks)

/-- type(e) is T -/
theorem Tr.type {C : Cx} {op : CmpOp} {tp cp p pos : Pos} {e : Expr} {T T' : String} {TN : Str} {d : PyData} {b : Bool} (hn : NameV C "type" (.type "type")) (he : Ev C e d) (hT : NameV C TN (.type T')) (ht : ∀ (s : Shared) v, C.ok s → Rd C.X s.heap d v → s.TypeIs v T) (hnb : (Value.type T == Value.type "builtin_function_or_method") = false)
    (hop : (op = .Is ∧ b = (Value.type T == Value.type T')) ∨ (op = .IsNot ∧ b = !(Value.type T == Value.type T')))
    (hs : starEach [e] C.env = [(false, eval e C.env)] := by rfl) (hm : behindInMarks op (.Name TN p) = false := by with_unfolding_all rfl) : Tr C (.Compare (.Call (.Name "type" tp) [e] [] cp) [op] [.Name TN p] pos) b := fun s ok => by
  refine wpAny_isTrue_Compare1 (Call_Name1 (hn s tp _ _ ok (with_type1 _ _ _ _ (he.use ok fun u s₁ g₁ ok₁ r => call_type_of (ht _ _ ok₁ r) hnb (hT s₁ p _ _ ok₁ ?_)))) hs) hm
  rcases hop with ⟨rfl, rfl⟩ | ⟨rfl, rfl⟩
  · exact wpAny_is_plain rfl (wpAny_truthy_bool ⟨g₁, rfl⟩)
  · exact wpAny_isNot_plain rfl (wpAny_truthy_bool ⟨g₁, rfl⟩)
theorem type_str {C : Cx} {x : Str} : ∀ (s : Shared) v, C.ok s → Rd C.X s.heap (.str x) v → s.TypeIs v "str" := fun s v _ r => by
  obtain ⟨t, rfl⟩ := r.str_inv; exact typeIs_str _ _ _

noncomputable def low (x : Str) : Str := ⟨x.cps.map lo1⟩
noncomputable def Asc (x : Str) : Prop := (∀ c ∈ x.cps.toList, c < 128) ∧ x.cps.size ≤ 100
theorem low_len (x : Str) : (low x).cps.size = x.cps.size := by simp [low]
/-- e.lower() -/
theorem Ev.lower {C : Cx} {apos pos : Pos} {e : Expr} {x : Str} (he : Ev C e (.str x)) (ha : Asc x)
    (hbase : attributeBase e "lower" C.env (eval e C.env) = eval e C.env := by rfl) (hline : (apos.endLine == pos.line) = true := by rfl) : Ev C (.Call (.Attribute e "lower" apos) [] [] pos) (.str (low x)) := fun s ok => by
  refine Call_method0 hbase hline (he.use ok fun u s₁ g₁ ok₁ r => ?_)
  obtain ⟨t, rfl⟩ := r.str_inv
  have e1 : Txt.lower x = low x := lower_ascii ha.1
  refine SB.lower ?_ ?_
  · rw [e1]
    show decide _ = false
    have : (low x).length ≤ 100 := by show (low x).cps.size ≤ 100; rw [low_len]; exact ha.2
    exact decide_eq_false (Nat.not_lt.mpr (Nat.le_trans this (by decide)))
  · rw [e1]; exact ⟨g₁.trans (.tok _ _), .str_⟩

theorem RdAll.strs {X : List Addr} {h : Heap} : ∀ {ys : List Str} {vs : List Value}, RdAll X h (ys.map .str) vs → StrsAre vs ys
  | [], _, e => by simp only [List.map_nil, RdAll] at e; subst e; exact .nil
  | y :: ys, _, e => by
    simp only [List.map_cons, RdAll] at e
    obtain ⟨v, r, rfl, h1, h2⟩ := e
    obtain ⟨t, rfl⟩ := h1.str_inv
    exact .cons _ _ (RdAll.strs h2)
/-- 'sep'.join(e) -/
theorem Ev.join {C : Cx} {apos pos p : Pos} {k : Nat} {sep : Str} {e : Expr} {ys : List Str} (he : Ev C e (.list (ys.map .str))) (hsep : sep.length ≤ 64) (hok : (ys.map (·.length)).sum + ys.length * 64 ≤ 16777216)
    (hbase : attributeBase (.Constant (.str sep) k p) "join" C.env (eval (.Constant (.str sep) k p) C.env) = eval (.Constant (.str sep) k p) C.env := by rfl)
    (hs : starEach [e] C.env = [(false, eval e C.env)] := by rfl) (hline : (apos.endLine == pos.line) = true := by rfl) : Ev C (.Call (.Attribute (.Constant (.str sep) k p) "join" apos) [e] [] pos) (.str (Txt.join sep ys)) := fun s ok => by
  refine Call_method1 hbase hs hline (wpAny_Constant_str ?_)
  refine ⟨"str", "str.join", F.plainAttrs_str, F.slot_str_join, F.type_str_join, typeIs_str _ _ _, (fun a q => nomatch q), ?_⟩
  have g : Grow C.G.top s { s with toks := s.toks + 1 } := .tok _ _
  refine Calls.callWith_builtin rfl (Calls.evalArgs_plain (Calls.spliced_cons (he.use (ok.grow g) fun v s₂ g₂ ok₂ rv => Calls.spliced_nil ?_)))
  obtain ⟨a, vs, n, rfl, _, hl, ra⟩ := rv.list_inv
  exact join_listC (isList_of hl) (by simpa using ra.strs) hsep hok fun t' k => ⟨(g.trans g₂).trans (.tok _ _), .str_⟩
theorem s_fact {S : Stat} {X : List Addr} {V : Vars} {M : Muts} {I : Its} {K : Facts} {s₀ s : Shared} {v : Value} {d : PyData} (h : FS S X V M I K s₀ s) (r : Rd X s.heap d v) : FS S X V M I ((v, d) :: K) s₀ s := FSt.fact (C := cx S X V M I K) h r
theorem s_dropFacts {S : Stat} {X : List Addr} {V : Vars} {M : Muts} {I : Its} {K K' : Facts} {s₀ s : Shared} (h : FS S X V M I K s₀ s) (hk : ∀ p ∈ K', p ∈ K) : FS S X V M I K' s₀ s := FSt.dropFacts (C := cx S X V M I K) h hk
theorem s_know {S : Stat} {X : List Addr} {V : Vars} {M : Muts} {I : Its} {K : Facts} {s₀ s : Shared} {x : Str} {a : Addr} {d : PyData} (h : FS S X V M I K s₀ s) (hx : V.lookup x = some (raw a)) (hf : (.ref a, d) ∈ K) : FS S X ((x, d) :: V) M I K s₀ s := FSt.know (C := cx S X V M I K) h hx hf
theorem s_step {S : Stat} {X : List Addr} {V : Vars} {M : Muts} {I : Its} {K : Facts} {s₀ s s' : Shared} (h : FS S X V M I K s₀ s) (g : Grow S.G.top s s') : FS S X V M I K s₀ s' := FSt.step (C := cx S X V M I K) h g
end Mine
end
section
open PySem PySem.Spec PySem.SeqAt PySem.Calls PyProof.Rows
namespace Mine

/-- two targets are bound -/
theorem cst_assign2 {C : Cx} {Z : List Addr} {h₀ : Heap} {D I : Addr} {x y : Str} {p1 p2 p : Pos} {x1} {outs rest : List PyData} {s₀ s : Shared} {a b : PyData} {v : Value} {Q : Unit → Shared → Prop} {E : Value → Shared → Prop} (f : CFix C Z D I y) (st : CSt C Z h₀ D y outs s₀ s)
    (hx : C.env.kindOf x = some .local) (hy : C.env.kindOf y = some .local) (hnx : C.vars.lookup x = none) (hxy : (y == x) = false)
    (it : ItAt C.X s.heap I rest) (r : Rd C.X s.heap (.tuple [a, b]) v)
    (k : ∀ s', ({ C with vars := (y, b) :: (x, a) :: C.vars } : Cx).ok s' → CSt C Z h₀ D y outs s₀ s' → ItAt C.X s'.heap I rest → Q () s')
    (ha : assignEach [.Name x p1, .Name y p2] C.env = [(false, assign (.Name x p1) C.env), (false, assign (.Name y p2) C.env)] := by rfl) : wpAny C.M C.A (assign (.Tuple [.Name x p1, .Name y p2] x1 p) C.env v) Q E s := by
  obtain ⟨t, vs, n, rfl, ht, hl, ra⟩ := r.tuple_inv
  simp only [RdAll] at ra
  obtain ⟨va, r1, rfl, raa, vb, r2, rfl, rbb, rfl⟩ := ra
  refine wpAny_assign_Tuple (st.ok.hand f.calm) ⟨_, hl, rfl, n, rfl⟩ (by rw [ha]; rfl) (by rw [ha]; rfl) fun h' he => ?_
  rw [ha]
  have g : Grow C.G.top s { s with heap := h' } := grow_but he
  have st1 := st.grow g
  have it1 := it.ext g.ext
  show wpAny _ C.A (do holding [vb] (assign (.Name x p1) C.env va); do holding [] (assign (.Name y p2) C.env vb); pure ()) _ _ _
  -- the first
  obtain ⟨ys, nn, hlD, raD⟩ := st1.acc
  obtain ⟨oI, eI, sI⟩ := it1.soft
  obtain ⟨oD, eD, sD⟩ := soft_list hlD
  obtain ⟨m, hm, _⟩ := st1.ok.ns
  refine wpAny_bind (wpAny_holding (wpAny_assign_Name (store_local st1.ok hx f.lX (raa.ext g.ext) fun s₂ ok₂ _ tn => ?_)))
  have st2 : CSt C Z h₀ D y outs s₀ s₂ := ⟨ok₂.less (vs := C.vars) (lookup_new hnx), fun b ob hb e => (st1.base b ob hb e).step fun o' e' => .inl (tn.keep b o' (fun q => hb (q ▸ f.lZ)) e'), ⟨ys, nn, tn.keep D _ (Ne.symm (ns_ne hm eD sD)) hlD, raD.touch f.lX tn.keep⟩, .inl hy, tn.gens.trans st1.gens, tn.drawn.trans st1.drawn, tn.os.trans st1.os⟩
  have it2 := it1.keep f.lX (Ne.symm (ns_ne hm eI sI)) tn.keep
  have rb2 : Rd C.X s₂.heap b vb := (rbb.ext g.ext).touch f.lX tn.keep
  -- the second
  obtain ⟨ys, nn, hlD, raD⟩ := st2.acc
  obtain ⟨oI, eI, sI⟩ := it2.soft
  obtain ⟨oD, eD, sD⟩ := soft_list hlD
  obtain ⟨m, hm, _⟩ := ok₂.ns
  refine wpAny_bind (wpAny_holding (wpAny_assign_Name (store_local (C := { C with vars := (x, a) :: C.vars }) ok₂ hy f.lX rb2 fun s₃ ok₃ _ tn => wpAny_pure ?_)))
  have hn2 : ((x, a) :: C.vars).lookup y = none := by rw [lookup_cons, hxy]; exact f.new
  refine k s₃ ok₃ ⟨(ok₃.less (vs := (x, a) :: C.vars) (lookup_new hn2)).less (C := { C with vars := (x, a) :: C.vars }) (vs := C.vars) (lookup_new hnx), fun b ob hb e => (st2.base b ob hb e).step fun o' e' => .inl (tn.keep b o' (fun q => hb (q ▸ f.lZ)) e'), ⟨ys, nn, tn.keep D _ (Ne.symm (ns_ne hm eD sD)) hlD, raD.touch f.lX tn.keep⟩, .inl hy, tn.gens.trans st2.gens, tn.drawn.trans st2.drawn, tn.os.trans st2.os⟩
    (it2.keep f.lX (Ne.symm (ns_ne hm eI sI)) tn.keep)

theorem comp_loopP {C : Cx} {Z : List Addr} {h₀ : Heap} {D I : Addr} {x y : Str} {p1 p2 p pos : Pos} {x1} {elt iter : Expr} {scope : Scope} {R : Result → Shared → Prop} {s₀ s : Shared} {ds : List (PyData × PyData)} {f : PyData × PyData → PyData}
    (fx : CFix C Z D I y) (hx : C.env.kindOf x = some .local) (hy : C.env.kindOf y = some .local) (hnx : C.vars.lookup x = none) (hxy : (y == x) = false)
    (body : ∀ d ∈ ds, Ev { C with vars := (y, d.2) :: (x, d.1) :: C.vars } elt (f d))
    (st : CSt C Z h₀ D y [] s₀ s) (it : ItAt C.X s.heap I (ds.map fun d => .tuple [d.1, d.2])) (hsz : ds.length ≤ sizeLine)
    (k : ∀ s', CEnd C Z h₀ D I (ds.map f) s₀ s' → R (.ok .next) s')
    (ha : assignEach [.Name x p1, .Name y p2] C.env = [(false, assign (.Name x p1) C.env), (false, assign (.Name y p2) C.env)] := by rfl) :
    codeAny C.M C.A (.compLoop (.ListComp elt [⟨.Tuple [.Name x p1, .Name y p2] x1 p, iter, [], 0⟩] scope pos) 0 (.ref I) (.ref D) C.env) R s := by
  refine LCp.codeAny_compLoop_pair (fun n s => ∃ ds' outs', n = ds'.length ∧ CSt C Z h₀ D y outs' s₀ s ∧ ItAt C.X s.heap I (ds'.map fun d => .tuple [d.1, d.2]) ∧ (∀ d ∈ ds', d ∈ ds) ∧ outs' ++ ds'.map f = ds.map f ∧ outs'.length + ds'.length ≤ sizeLine) ?_ ds.length
    ⟨ds, [], rfl, st, it, fun d h => h, rfl, by simpa using hsz⟩
  rintro n s ⟨ds', outs', rfl, st, it, hsub, heq, hlen⟩
  cases ds' with
  | nil =>
    refine it_end (st.ok.hand fx.calm) it fun h' hk => k _ ?_
    obtain ⟨ys, n, hl, r⟩ := st.acc
    obtain ⟨oI, eI, sI⟩ := it.soft
    simp only [List.map_nil, List.append_nil] at heq
    subst heq
    refine ⟨fun b ob hb e => (st.base b ob hb e).step fun o' e' => .inl (hk b o' (fun q => hb (q ▸ fx.iZ)) e'), ⟨ys, n, hk D _ (Ne.symm fx.ne) hl, r.touch fx.iX hk⟩, fun X hX => st.ok.drop fx.iX eI sI hk hX, st.gens, st.drawn, st.os⟩
  | cons d ds' =>
    obtain ⟨oI, eI, sI⟩ := it.soft
    refine it_next fx.iX it fun v s₁ rv it₁ tn => ?_
    have st₁ := st.turnI fx eI sI tn
    have go : wpAny C.M C.A (letOwnedTupleGo (.Tuple [.Name x p1, .Name y p2] x1 p) (.ref I) v) (fun _ s' => s' = s₁) (fun _ _ => False) s₁ := by
      obtain ⟨t, vs, nn, rfl, ht, hl, ra⟩ := rv.tuple_inv
      rcases it₁ with ⟨l, i, us, nn', all, hit, _⟩ | ⟨x, hr, _⟩
      · exact wpAny_letOwnedTupleGo_listiter hit rfl
      · unfold letOwnedTupleGo
        refine wpAny_bind (wpAny_load hr ?_)
        dsimp only
        rw [if_neg (fun q => by rw [Bool.and_eq_true] at q; exact absurd q.1 (by decide))]
        exact wpAny_pure rfl
    refine wpAny_mono go (fun _ s₂ q => ?_) fun _ _ q => q.elim
    subst q
    refine cst_assign2 fx st₁ hx hy hnx hxy it₁ rv (fun s₂ ok₂ st₂ it₂ => ?_) ha
    refine (body d (hsub d (.head _))).use ok₂ fun u s₄ g₄ ok₄ ru => ?_
    simp only [List.length_cons] at hlen
    refine (st₂.grow g₄).emit fx (it₂.ext g₄.ext) ru (by omega) fun s₅ st₅ it₅ => ?_
    exact ⟨ds'.length, by simp, ds', outs' ++ [f d], rfl, st₅, it₅, fun d' h => hsub d' (.tail _ h), by simpa using heq, by simp; omega⟩

/-- [elt for x, y in iter] -/
theorem Ev.compPair {C : Cx} {elt iter : Expr} {x y : Str} {p1 p2 p pos : Pos} {x1} {scope : Scope} {cl : List (Str × Addr)} (ds : List (PyData × PyData)) (vs : List (Str × PyData)) (f : PyData × PyData → PyData)
    (src : Src C iter (ds.map fun d => .tuple [d.1, d.2]))
    (hvis : SeesAll C scope cl vs)
    (body : ∀ L X d, d ∈ ds → Ev { C.inner scope cl L X vs with vars := (y, d.2) :: (x, d.1) :: vs } elt (f d))
    (hsz : ds.length ≤ sizeLine)
    (hclos : closureFor scope C.env = pure cl := by rfl)
    (hfold : ∀ v, foldedSetIterable iter C.env v = pure v := by intro _; rfl) (hkind : scope.kind = .function := by rfl)
    (hnames : ∀ x ∈ scope.names, x.2 = .local → scope.names.lookup x.1 = some .local := by decide)
    (hx : scope.names.lookup x = some .local := by rfl) (hy : scope.names.lookup y = some .local := by rfl) (hcalm : C.calm = true := by rfl) (hnx : vs.lookup x = Option.none := by rfl) (hny : vs.lookup y = Option.none := by rfl) (hxy : (y == x) = false := by decide)
    (ha : ∀ env, assignEach [.Name x p1, .Name y p2] env = [(false, assign (.Name x p1) env), (false, assign (.Name y p2) env)] := by intro _; rfl) :
    Ev C (.ListComp elt [⟨.Tuple [.Name x p1, .Name y p2] x1 p, iter, [], 0⟩] scope pos) (.list (ds.map f)) := fun s ok => by
  rw [eval_ListComp]
  refine comp_core (x := y) (use := Option.none) (outs := ds.map f) ok hcalm src hfold hclos hkind hnames (.inl hy) hvis hny (fun L X Z h₀ D I s₀ s R fx st it k => ?_) fun D L s' hD hL hn g ha => ?_
  · refine comp_loopP (C := C.inner scope cl L X vs) fx ?_ ?_ hnx hxy (fun d hd => body L X d hd) st it hsz k (ha _)
    · show (relabel scope C.env).names.lookup x = some .local; rw [relabel_kind, hx]; rfl
    · show (relabel scope C.env).names.lookup y = some .local; rw [relabel_kind, hy]; rfl
  · obtain ⟨m, hm⟩ := hn
    exact ⟨m, hm, fun h' hs => comp_left ok hD hL ⟨m, hm⟩ g ha hs⟩
end Mine
end
section
open PySem PySem.Spec PySem.SeqAt PySem.Calls PyProof.Rows
set_option maxRecDepth 100000
namespace Mine
noncomputable def lts (a b : Str) : Bool := decide (a.cps.toList < b.cps.toList)
noncomputable def sld : List Str → List Str → List Str × List Str
  | [], as => ([], as)
  | e :: es, [] => (e :: es, [])
  | e :: es, a :: as => if lts e a then (e :: (sld es (a :: as)).1, (sld es (a :: as)).2) else if lts a e then ((sld (e :: es) as).1, a :: (sld (e :: es) as).2) else sld es as
termination_by es as => es.length + as.length
noncomputable abbrev dstr (l : List Str) : List PyData := l.map .str
/-- no two equal ones side by side -/
noncomputable def NoNb (l : List Str) : Prop := ∀ (i : Nat) x y, l[i]? = some x → l[i + 1]? = some y → (y == x) = false
theorem sld_nil (as : List Str) : sld [] as = ([], as) := by simp [sld]
theorem sld_nil' (es : List Str) : sld es [] = (es, []) := by cases es <;> simp [sld]
theorem drop_of {l : List Str} {i : Nat} {x : Str} (h : l[i]? = some x) : l.drop i = x :: l.drop (i + 1) := by
  have hlt := (List.getElem?_eq_some_iff.mp h).1
  rw [List.drop_eq_getElem_cons hlt]
  congr 1
  exact (List.getElem?_eq_some_iff.mp h).2

theorem dstr_get {l : List Str} {i : Nat} {x : Str} (h : l[i]? = some x) : (dstr l)[i]? = some (.str x) := by simp [dstr, h]

section
variable {w : World} {G : Glob} {fa : Addr} {doc pm code : Value} {A : Around} {L Dm Du : Addr} {X : List Addr} {s₀ s : Shared}
noncomputable abbrev sldS (w : World) (G : Glob) (fa : Addr) (doc pm code : Value) (A : Around) (L : Addr) : Stat := ⟨pw, w, A.deeper (callEnv (sldFd doc pm code) L fa), callEnv (sldFd doc pm code) L fa, G, true⟩
noncomputable abbrev sldV (es as : List Str) (Dm Du : Addr) (i j : Nat) : Vars := [("j", .int (j : Int)), ("i", .int (i : Int)), ("unexpected", raw Du), ("missing", raw Dm), ("expected", .list (dstr es)), ("actual", .list (dstr as))]
noncomputable abbrev sldM (Dm Du : Addr) (ms us : List Str) : Muts := [(Dm, dstr ms), (Du, dstr us)]

noncomputable def whileOf : Stmt → Expr × List Stmt
  | .While t b _ _ => (t, b)
  | _ => (default, [])
noncomputable def tryOf : Stmt → List Stmt × List Stmt
  | .Try b [.ExceptHandler _ _ hb _] _ _ _ => (b, hb)
  | _ => ([], [])

noncomputable def sldBody : List Stmt := (whileOf ((defOfStmt (topStmt 4)).2.1.getD 4 default)).2
noncomputable def sldTry : List Stmt := (tryOf (sldBody.getD 0 default)).1

/-- where it was raised -/
structure At (es as : List Str) (q : Nat × Nat × List Str × List Str) : Prop where
  i : q.1 ≤ es.length
  j : q.2.1 ≤ as.length
  m : q.2.2.1 ++ es.drop q.1 = (sld es as).1
  u : q.2.2.2 ++ as.drop q.2.1 = (sld es as).2
  lm : q.2.2.1.length ≤ es.length
  lu : q.2.2.2.length ≤ as.length

/-- one turn -/
theorem sld_turn {es as : List Str} (ne : NoNb es) (na : NoNb as) (le : es.length ≤ 100) (la : as.length ≤ 100) (o : Own (sldS w G fa doc pm code A L) L) (hh : (sldS w G fa doc pm code A L).A.handled = none) {i j : Nat} {ms us : List Str} (hi : i ≤ es.length) (hj : j ≤ as.length)
    (hm : ms ++ (sld (es.drop i) (as.drop j)).1 = (sld es as).1) (hu : us ++ (sld (es.drop i) (as.drop j)).2 = (sld es as).2) (lm : ms.length ≤ i) (lu : us.length ≤ j)
    (st : FS (sldS w G fa doc pm code A L) X (sldV es as Dm Du i j) (sldM Dm Du ms us) [] [] s₀ s)
    (N : Shared → Prop) (hN : ∀ i' j' ms' us' s', i' + j' > i + j → i' ≤ es.length → j' ≤ as.length → ms'.length ≤ i' → us'.length ≤ j' → ms' ++ (sld (es.drop i') (as.drop j')).1 = (sld es as).1 → us' ++ (sld (es.drop i') (as.drop j')).2 = (sld es as).2 →
      FS (sldS w G fa doc pm code A L) X (sldV es as Dm Du i' j') (sldM Dm Du ms' us') [] [] s₀ s' → N s') :
    wpAny (model pw w) (sldS w G fa doc pm code A L).A (execs sldTry (sldS w G fa doc pm code A L).env) (fun f s' => f = .next ∧ N s')
      (fun e s' => ∃ q c, At es as q ∧ XS (sldS w G fa doc pm code A L) L X (sldV es as Dm Du q.1 q.2.1) (sldM Dm Du q.2.2.1 q.2.2.2) [] s₀ c e s') s := by
  have hsz : ∀ k : Nat, k ≤ 200 → k ≤ sizeLine := fun k h => Nat.le_trans h (by decide)
  have hand : ∀ h, HandOk (sldS w G fa doc pm code A L).A h .none := fun h => .inl ⟨hh, rfl⟩
  have lE : (dstr es).length = es.length := by simp [dstr]
  have lA : (dstr as).length = as.length := by simp [dstr]
  cases he : es[i]? with
  | none =>
    have hie : i = es.length := by have := List.getElem?_eq_none_iff.mp he; omega
    refine s_assign_out st (hand _) (.name) (.name) (by rw [lE]; omega) (by omega) fun e s' x => ⟨(i, j, ms, us), .none, ⟨hi, hj, ?_, ?_, by show ms.length ≤ _; omega, by show us.length ≤ _; omega⟩, x⟩
    · have : es.drop i = [] := by rw [hie]; simp
      rw [this, sld_nil] at hm
      show ms ++ es.drop i = _
      rw [this]; exact hm
    · have : es.drop i = [] := by rw [hie]; simp
      rw [this, sld_nil] at hu
      exact hu
  | some x =>
    have hie : i < es.length := (List.getElem?_eq_some_iff.mp he).1
    refine s_assign st (d := .str x) (.item .name .name (by omega) (by simpa using dstr_get he) (by omega)) fun s₁ st₁ => ?_
    cases ha : as[j]? with
    | none =>
      have hja : j = as.length := by have := List.getElem?_eq_none_iff.mp ha; omega
      refine s_assign_out st₁ (hand _) (.name) (.name) (by rw [lA]; omega) (by omega) fun e s' x => ⟨(i, j, ms, us), .none, ⟨hi, hj, ?_, ?_, by show ms.length ≤ _; omega, by show us.length ≤ _; omega⟩, x.less ⟨rfl, rfl, rfl, rfl, rfl, rfl, trivial⟩⟩
      · have : as.drop j = [] := by rw [hja]; simp
        rw [this, sld_nil'] at hm
        exact hm
      · have : as.drop j = [] := by rw [hja]; simp
        rw [this, sld_nil'] at hu
        show us ++ as.drop j = _
        rw [this]; exact hu
    | some y =>
      have hja : j < as.length := (List.getElem?_eq_some_iff.mp ha).1
      refine s_assign st₁ (d := .str y) (.item .name .name (by omega) (by simpa using dstr_get ha) (by omega)) fun s₂ st₂ => ?_
      rw [drop_of he, drop_of ha, sld] at hm hu
      refine s_if st₂ (.cmp .name .name .ltStr) (fun hb s₃ st₃ => ?_) (fun hb s₃ st₃ => ?_)
      · -- e < a
        rw [if_pos (show lts x y = true from hb)] at hm hu
        rw [← drop_of ha] at hm hu
        have hm' : (ms ++ [x]) ++ (sld (es.drop (i + 1)) (as.drop j)).1 = (sld es as).1 := by rw [← hm]; simp
        refine s_append st₃ .name (hsz _ (by simp [dstr]; omega)) fun s₄ st₄ => ?_
        refine s_aug (a := (i : Int)) st₄ .int fun s₅ st₅ _ => ?_
        cases he' : es[i + 1]? with
        | none =>
          have hie' : es.length = i + 1 := by have := List.getElem?_eq_none_iff.mp he'; omega
          have hd : es.drop (i + 1) = [] := by rw [← hie']; simp
          refine s_while_out o st₅ (hand _) .name .name (by rw [lE, hie']; omega) (by omega) fun e s' x' => ⟨(i + 1, j, ms ++ [x], us), .none, ⟨by show i + 1 ≤ _; omega, hj, ?_, ?_, by show (ms ++ [x]).length ≤ _; simp; omega, by show us.length ≤ _; omega⟩, ?_⟩
          · show (ms ++ [x]) ++ es.drop (i + 1) = _
            rw [hd]; rw [hd, sld_nil] at hm'; exact hm'
          · show us ++ as.drop j = _
            rw [hd, sld_nil] at hu; exact hu
          · have := x'.less (W := sldV es as Dm Du (i + 1) j) ⟨rfl, rfl, rfl, rfl, rfl, rfl, trivial⟩
            simpa [sldM, dstr] using this
        | some x' =>
          refine s_while_false st₅ (.cmp (.item .name .name (by omega) (by simpa using dstr_get (i := i + 1) he') (by omega)) .name .eqStr) (ne i x x' he he') fun s₆ st₆ => wpAny_execs_nil (wpAny_execs_nil ⟨rfl, ?_⟩)
          refine hN (i + 1) j (ms ++ [x]) us s₆ (by omega) (by omega) hj (by simp; omega) lu hm' hu ?_
          have := s_less (W := sldV es as Dm Du (i + 1) j) st₆ ⟨rfl, rfl, rfl, rfl, rfl, rfl, trivial⟩
          simpa [sldM, dstr] using this
      · rw [if_neg (show ¬ lts x y = true from by simp [lts]; simpa using hb)] at hm hu
        refine s_if st₃ (.cmp .name .name .gtStr) (fun hb' s₄ st₄ => ?_) (fun hb' s₄ st₄ => ?_)
        · -- e > a
          rw [if_pos (show lts y x = true from hb')] at hm hu
          rw [← drop_of he] at hm hu
          have hu' : (us ++ [y]) ++ (sld (es.drop i) (as.drop (j + 1))).2 = (sld es as).2 := by rw [← hu]; simp
          refine s_append (s_swap st₄) .name (hsz _ (by simp [dstr]; omega)) fun s₄ st₄ => ?_
          refine s_aug (a := (j : Int)) (s_swap st₄) .int fun s₅ st₅ _ => ?_
          cases ha' : as[j + 1]? with
          | none =>
            have hja' : as.length = j + 1 := by have := List.getElem?_eq_none_iff.mp ha'; omega
            have hd : as.drop (j + 1) = [] := by rw [← hja']; simp
            refine s_while_out o st₅ (hand _) .name .name (by rw [lA, hja']; omega) (by omega) fun e s' x' => ⟨(i, j + 1, ms, us ++ [y]), .none, ⟨hi, by show j + 1 ≤ _; omega, ?_, ?_, by show ms.length ≤ _; omega, by show (us ++ [y]).length ≤ _; simp; omega⟩, ?_⟩
            · show ms ++ es.drop i = _
              rw [hd, sld_nil'] at hm; exact hm
            · show (us ++ [y]) ++ as.drop (j + 1) = _
              rw [hd]; rw [hd, sld_nil'] at hu'; exact hu'
            · have := x'.less (W := sldV es as Dm Du i (j + 1)) ⟨rfl, rfl, rfl, rfl, rfl, rfl, trivial⟩
              simpa [sldM, dstr] using this
          | some y' =>
            refine s_while_false st₅ (.cmp (.item .name .name (by omega) (by simpa using dstr_get (i := j + 1) ha') (by omega)) .name .eqStr) (na j y y' ha ha') fun s₆ st₆ => wpAny_execs_nil (wpAny_execs_nil (wpAny_execs_nil ⟨rfl, ?_⟩))
            refine hN i (j + 1) ms (us ++ [y]) s₆ (by omega) hi (by omega) lm (by simp; omega) hm hu' ?_
            have := s_less (W := sldV es as Dm Du i (j + 1)) st₆ ⟨rfl, rfl, rfl, rfl, rfl, rfl, trivial⟩
            simpa [sldM, dstr] using this
        · -- equal
          rw [if_neg (show ¬ lts y x = true from by simp [lts]; simpa using hb')] at hm hu
          refine s_aug (a := (i : Int)) st₄ .int fun s₅ st₅ _ => ?_
          have hB : (es.drop (i + 1) = [] ∨ as.drop (j + 1) = []) → ms ++ es.drop (i + 1) = (sld es as).1 ∧ us ++ as.drop (j + 1) = (sld es as).2 := by
            rintro (q | q)
            · rw [q, sld_nil] at hm hu; rw [q]; exact ⟨hm, hu⟩
            · rw [q, sld_nil'] at hm hu; rw [q]; exact ⟨hm, hu⟩
          refine s_finally (V1 := ("i", .int ((i : Int) + 1)) :: ("a", .str y) :: ("e", .str x) :: sldV es as Dm Du i j) (V2 := ("j", .int ((j : Int) + 1)) :: ("i", .int ((i : Int) + 1)) :: ("a", .str y) :: ("e", .str x) :: sldV es as Dm Du i j) (M := sldM Dm Du ms us) (K := []) (s₀ := s₀) (L := L) (X := X) (es.drop (i + 1) = [] ∨ as.drop (j + 1) = []) o hh ?_ (fun S' X' s' c hS hX st' hd' => ?_) (fun s₆ st₆ => ?_) ?_
          · cases he' : es[i + 1]? with
            | none =>
              have hie' : es.length = i + 1 := by have := List.getElem?_eq_none_iff.mp he'; omega
              exact s_while_out o st₅ (hand _) .name .name (by rw [lE, hie']; omega) (by omega) fun e s' x' => ⟨.inl (by rw [← hie']; simp), x'⟩
            | some x' =>
              exact s_while_false st₅ (.cmp (.item .name .name (by omega) (by simpa using dstr_get (i := i + 1) he') (by omega)) .name .eqStr) (ne i x x' he he') fun s₆ st₆ => wpAny_execs_nil ⟨rfl, st₆⟩
          · have oS : Own S' L := by
              rcases hS with rfl | ⟨e, rfl⟩
              · exact o
              · exact o.mark e
            rcases hS with rfl | ⟨e, rfl⟩
            all_goals
              refine s_aug (a := (j : Int)) st' .int fun s₇ st₇ rc => ?_
              cases ha' : as[j + 1]? with
              | none =>
                have hja' : as.length = j + 1 := by have := List.getElem?_eq_none_iff.mp ha'; omega
                exact s_while_out oS st₇ (hd'.recs rc) .name .name (by rw [lA, hja']; omega) (by omega) fun e s' x' => ⟨.inr (by rw [← hja']; simp), x'⟩
              | some y' =>
                exact s_while_falseR st₇ (.cmp (.item .name .name (by omega) (by simpa using dstr_get (i := j + 1) ha') (by omega)) .name .eqStr) (na j y y' ha ha') fun s₈ st₈ rc' => wpAny_execs_nil ⟨rfl, st₈, rc.trans rc'⟩
          · refine wpAny_execs_nil (wpAny_execs_nil (wpAny_execs_nil ⟨rfl, ?_⟩))
            exact hN (i + 1) (j + 1) ms us s₆ (by omega) (by omega) (by omega) (by omega) (by omega) hm hu (s_less st₆ ⟨rfl, rfl, rfl, rfl, rfl, rfl, trivial⟩)
          · intro q c e s' x'
            exact ⟨(i + 1, j + 1, ms, us), c, ⟨by show i + 1 ≤ _; omega, by show j + 1 ≤ _; omega, (hB q).1, (hB q).2, by show ms.length ≤ _; omega, by show us.length ≤ _; omega⟩, x'.less ⟨rfl, rfl, rfl, rfl, rfl, rfl, trivial⟩⟩
end

theorem Rd.sub {X X' : List Addr} {h : Heap} {d : PyData} {v : Value} (r : Rd X h d v) (hs : ∀ b ∈ X', b ∈ X) : Rd X' h d v := r.mono fun b o hb e => ⟨fun q => hb (hs b q), e⟩

theorem sld_ok {w : World} {G : Glob} {fa : Addr} {doc pm code : Value} {n : Nat} {es as : List Str} (f : FnAt G fa (sldFd doc pm code)) (hix : (Str.ofString "IndexError") ∈ G.nots) (ne : NoNb es) (na : NoNb as) (le : es.length ≤ 100) (la : as.length ≤ 100) :
    CallOk pw w G (n + 1) fa [.list (dstr es), .list (dstr as)] (.tuple [.list (dstr (sld es as).1), .list (dstr (sld es as).2)]) := by
  intro A X s vals room am r
  obtain ⟨v1, r1, rfl, rv1, v2, r2, rfl, rv2, rfl⟩ := r
  have hsz : ∀ k : Nat, k ≤ 200 → k ≤ sizeLine := fun k h => Nat.le_trans h (by decide)
  refine s_call (binds := [("expected", v1), ("actual", v2)]) [("expected", .list (dstr es)), ("actual", .list (dstr as))] f rfl room am rfl (by show ∀ x ∈ (defOfStmt (topStmt 4)).2.2.names, x.2 ≠ .cell; decide) rfl ⟨rfl, rfl, trivial⟩ ⟨⟨v1, rfl, rv1, rfl⟩, ⟨v2, rfl, rv2, rfl⟩, trivial⟩ fun L s' st room' hLX => ?_
  obtain ⟨outer, hfr, _⟩ := am.fr
  have o : Own (sldS w G fa doc pm code A L) L := ⟨⟨outer, Around.frames_deeper hfr⟩, rfl⟩
  refine s_doc st fun s₁ st₁ => ?_
  refine s_assign2 st₁ .int fun s₂ st₂ => ?_
  refine s_newlist st₂ .nil (hsz _ (by simp)) fun Dm s₃ hDm _ st₃ => ?_
  refine s_newlist st₃ .nil (hsz _ (by simp)) fun Du s₄ hDu _ st₄ => ?_
  have hXs : ∀ b ∈ X, b ∈ Du :: Dm :: L :: X ∧ b ≠ Dm ∧ b ≠ Du := fun b hb => ⟨.tail _ (.tail _ (.tail _ hb)), fun q => hDm (q ▸ .tail _ hb), fun q => hDu (q ▸ .tail _ (.tail _ hb))⟩
  generalize hX4 : Du :: Dm :: L :: X = X4 at hXs
  have st₅ : FS (sldS w G fa doc pm code A L) X4 (sldV es as Dm Du 0 0) (sldM Dm Du [] []) [] [] s s₄ := by
    have := s_less (s_swap st₄) (W := sldV es as Dm Du 0 0) ⟨rfl, rfl, rfl, rfl, rfl, rfl, trivial⟩
    rw [← hX4]; exact this
  -- behind the loop
  have after : ∀ X' s', (∀ b ∈ X4, b ∈ X') → FS (sldS w G fa doc pm code A L) X' (("unexpected", raw Du) :: ("missing", raw Dm) :: []) (sldM Dm Du (sld es as).1 (sld es as).2) [] [] s s' →
      wpAny (model pw w) (sldS w G fa doc pm code A L).A (execs ((defOfStmt (topStmt 4)).2.1.drop 5) (sldS w G fa doc pm code A L).env) (fun fl s'' => (Grow G.top s s'' ∧ Rd X s''.heap (.tuple [.list (dstr (sld es as).1), .list (dstr (sld es as).2)]) (match fl with | .ret v => v | _ => .none))) (fun _ _ => False) s' := by
    intro X' s' hX' st
    have st1 := s_freeze (x := "missing") st rfl
    have st2 := s_freeze (x := "unexpected") st1 rfl
    refine s_return st2 (.tuple (.cons .name (.cons .name .nil)) (hsz _ (by simp))) fun v s'' g r => ⟨g, r.sub fun b hb => ?_⟩
    obtain ⟨h1, h2, h3⟩ := hXs b hb
    simp only [List.mem_filter, decide_eq_true_eq]
    exact ⟨⟨hX' b h1, by simpa using h2⟩, by simpa using h3⟩
  obtain ⟨J, hJ⟩ : ∃ J : Nat → Shared → Prop, ∀ n s', J n s' ↔ ∃ i j ms us, n + i + j = es.length + as.length ∧ i ≤ es.length ∧ j ≤ as.length ∧ ms.length ≤ i ∧ us.length ≤ j ∧ ms ++ (sld (es.drop i) (as.drop j)).1 = (sld es as).1 ∧ us ++ (sld (es.drop i) (as.drop j)).2 = (sld es as).2 ∧
      FS (sldS w G fa doc pm code A L) X4 (sldV es as Dm Du i j) (sldM Dm Du ms us) [] [] s s' := ⟨_, fun _ _ => Iff.rfl⟩
  refine wpAny_execs_cons (wpAny_While (codeAny_whileLoop J ?_ (es.length + as.length) ((hJ _ _).mpr ⟨0, 0, [], [], rfl, by simp, by simp, by simp, by simp, by simp, by simp, st₅⟩)))
  intro n s₆ hn
  obtain ⟨i, j, ms, us, hn, hi, hj, lm, lu, hm, hu, st₆⟩ := (hJ _ _).mp hn
  refine (Tr.true (C := cx (sldS w G fa doc pm code A L) X4 (sldV es as Dm Du i j) (sldM Dm Du ms us) [] [])).use st₆.ok fun s₇ g₇ _ => ?_
  rw [if_pos rfl]
  have st₇ := FSt.step (C := cx (sldS w G fa doc pm code A L) X4 (sldV es as Dm Du i j) (sldM Dm Du ms us) [] []) st₆ g₇
  refine s_try (S := sldS w G fa doc pm code A L) (X := X4) (K := []) (s₀ := s) (L := L) (fun q : Nat × Nat × List Str × List Str => sldV es as Dm Du q.1 q.2.1) (fun q => sldM Dm Du q.2.2.1 q.2.2.2) (fun q => At es as q) o
    (wpAny_mono (sld_turn ne na le la o room'.h hi hj hm hu lm lu st₇ (fun s' => ∃ m, m < n ∧ J m s') fun i' j' ms' us' s' hgt hi' hj' lm' lu' hm' hu' st' => ⟨es.length + as.length - i' - j', by omega, (hJ _ _).mpr ⟨i', j', ms', us', by omega, hi', hj', lm', lu', hm', hu', st'⟩⟩) (fun f s' h => ?_) fun e s' h => h) (fun X e q => NameV.blt hix (by boot_fast)) ?_
  · obtain ⟨rfl, h⟩ := h
    exact wpAny_execs_nil h
  · rintro ⟨i, j, ms, us⟩ ⟨hi, hj, hm, hu, lm, lu⟩ e X' s' hX' st'
    dsimp only at hi hj hm hu lm lu
    have h1 : dstr ms ++ (dstr es).drop i = dstr (sld es as).1 := by rw [← hm]; simp [dstr]
    have h2 : dstr us ++ (dstr as).drop j = dstr (sld es as).2 := by rw [← hu]; simp [dstr]
    refine s_extend st' (.from .name .name (hsz _ (by simp [dstr]; omega))) (hsz _ (by simp [dstr]; omega)) fun s₈ st₈ => ?_
    refine s_extend (s_swap st₈) (.from .name .name (hsz _ (by simp [dstr]; omega))) (hsz _ (by simp [dstr]; omega)) fun s₉ st₉ => ?_
    refine wpAny_execs_cons (wpAny_Break ?_)
    rw [h1, h2] at st₉
    refine after X' s₉ hX' (s_less (s_unmark room'.h (s_swap st₉)) ⟨rfl, rfl, trivial⟩)
end Mine
end
section
open PySem PySem.Spec PySem.SeqAt PySem.Calls PyProof.Rows
set_option maxRecDepth 100000
namespace Mine
noncomputable def hq (x : String) : Str := Str.ofString ("Headers." ++ x)
noncomputable def nameOf : Stmt → String
  | .FunctionDef n .. => n.toString
  | .ClassDef n .. => n.toString
  | _ => ""

/-- there is such a def -/
noncomputable def HasFn (G : Glob) (fa : Addr) (mk : Value → Value → Value → FuncData) : Prop := ∃ doc pm code, FnAt G fa (mk doc pm code)

/-- what the top left that the walk wants -/
structure PF (G : Glob) : Prop where
  nots : ∀ x ∈ builtinNames, x ∈ G.nots
  gName : (Str.ofString "_name_disallowed_re", Value.ref 226) ∈ G.globs
  gValue : (Str.ofString "_value_disallowed_re", Value.ref 231) ∈ G.globs
  pName : PatAt G.top 226 nameCode
  pValue : PatAt G.top 231 valueCode
  gHdr : (Str.ofString "Headers", Value.ref 360) ∈ G.globs
  cHdr : ∃ mN, ClsAt G.top 360 359 mN ∧ mN "__getattribute__" = none ∧ mN "__getattr__" = none ∧ mN "__setattr__" = none ∧ mN "_headers" = none ∧
    mN "__init__" = some (.ref 254) ∧ mN "_convert_string_type" = some (.ref 261) ∧ mN "__delitem__" = some (.ref 280) ∧ mN "get_all" = some (.ref 299) ∧ mN "values" = some (.ref 317) ∧ mN "items" = some (.ref 324) ∧ mN "add_header" = some (.ref 357)
  fInit : ∃ doc pm code oD n, FnAt G 254 (initFd (.ref 247) doc pm code) ∧ G.top.get? 247 = some oD ∧ oD.data = .seq #[.none] n
  fConv : HasFn G 261 convFd
  fDel : HasFn G 280 delFd
  fGetAll : HasFn G 299 getAllFd
  fValues : HasFn G 317 valuesFd
  fItems : HasFn G 324 itemsFd
  fAdd : HasFn G 357 addFd
  gSld : (Str.ofString "sorted_list_difference", Value.ref 88) ∈ G.globs
  fSld : HasFn G 88 sldFd
theorem FnAt.more {G G' : Glob} {F : List Addr} {h : Heap} (m : Glob.More G G' F h) (hF : ∀ a ∈ F, G.top.get? a = none) {fa : Addr} {fd : FuncData} (f : FnAt G fa fd) : FnAt G' fa fd :=
  ⟨let ⟨o, e, r⟩ := f.at_; ⟨o, m.sub hF e, r⟩, f.code.keeps fun b o e => m.sub hF e, f.gl, f.bl⟩
theorem HasFn.more {G G' : Glob} {F : List Addr} {h : Heap} (m : Glob.More G G' F h) (hF : ∀ a ∈ F, G.top.get? a = none) {fa : Addr} {mk} (f : HasFn G fa mk) : HasFn G' fa mk := let ⟨a, b, c, f⟩ := f; ⟨a, b, c, f.more m hF⟩
theorem PF.more {G G' : Glob} {F : List Addr} {h : Heap} (p : PF G) (m : Glob.More G G' F h) (hF : ∀ a ∈ F, G.top.get? a = none) : PF G' := by
  have k : ∀ b o, G.top.get? b = some o → G'.top.get? b = some o := fun b o e => m.sub hF e
  exact ⟨m.nots ▸ p.nots, m.globs ▸ p.gName, m.globs ▸ p.gValue, p.pName.keeps k, p.pValue.keeps k, m.globs ▸ p.gHdr, let ⟨mN, c, r⟩ := p.cHdr; ⟨mN, c.keeps k, r⟩, let ⟨a, b, c, d, n, f, e, r⟩ := p.fInit; ⟨a, b, c, d, n, f.more m hF, k _ _ e, r⟩, p.fConv.more m hF, p.fDel.more m hF, p.fGetAll.more m hF, p.fValues.more m hF, p.fItems.more m hF, p.fAdd.more m hF, m.globs ▸ p.gSld, p.fSld.more m hF⟩
end Mine
end
section
open PySem PySem.Spec PySem.SeqAt PySem.Calls PyProof.Rows
set_option maxRecDepth 100000
namespace Mine
/-- the name or value is taken -/
noncomputable def Clean (x : Str) : Prop := fails nameCode x.cps = true ∧ fails valueCode x.cps = true ∧ x.cps.size ≤ 1000
theorem PF.blt {G : Glob} (p : PF G) (x : Str) (h : x ∈ builtinNames := by decide) : x ∈ G.nots := p.nots x h

/-- what a call of _convert_string_type gives -/
theorem conv_ok {w : World} {G : Glob} {n : Nat} (pf : PF G) {x : Str} (hx : Clean x) (b : Bool) {A : Around} {X : List Addr} {s : Shared} {self : Addr} {v : Value} (room : Room A (n + 1)) (am : Amid G A X s) (rv : Rd X s.heap (.str x) v) :
    wpAny (model pw w) A (call (.ref 261) [.ref self, v] [(Str.ofString "name", .bool b)]) (fun u s' => Grow G.top s s' ∧ Rd X s'.heap (.str x) u) (fun _ _ => False) s := by
  obtain ⟨doc, pm, code, f⟩ := pf.fConv
  refine s_callK (s₁ := s) (binds := [("self", .ref self), ("value", v), ("name", .bool b)]) [("self", raw self), ("value", .str x), ("name", .bool b)] f rfl room am (.refl _ _) (fun M A E Q h => by
      have : bindArgs (convFd doc pm code) ⟨[.ref self, v], [(Str.ofString "name", .bool b)]⟩ = (pure [(Str.ofString "self", .ref self), (Str.ofString "value", v), (Str.ofString "name", .bool b)] : Sem (List (Str × Value))) := rfl
      rw [this]; exact wpAny_pure h) (by show ∀ x ∈ (defOfStmt (subStmt 36 2)).2.2.names, x.2 ≠ .cell; decide) rfl ⟨rfl, rfl, rfl, trivial⟩ ⟨⟨_, rfl, .raw_, rfl⟩, ⟨_, rfl, rv, rfl⟩, ⟨_, rfl, .bool_, rfl⟩, trivial⟩ fun L s' st _ room' hLX => ?_
  refine s_doc st fun s₁ st₁ => ?_
  refine s_if st₁ (Tr.type (T := "str") (T' := "str") (b := true) (.blt (pf.blt _) (by boot_fast)) .name (.blt (pf.blt _) (by boot_fast)) type_str (by decide) (.inl ⟨rfl, by decide⟩)) (fun _ s₂ st₂ => ?_) (fun q => nomatch q)
  cases b with
  | true =>
    refine s_assign st₂ (d := raw 226) (.ite (c := true) (.val .name) (fun _ => .glob pf.gName .raw_) (fun q => nomatch q)) fun s₃ st₃ => ?_
    refine s_if_false st₃ (.none (.search .name .name pf.pName hx.1 hx.2.2)) fun s₄ st₄ => ?_
    exact s_return st₄ .name fun u s₅ g r => ⟨g, r.sub fun b hb => .tail _ hb⟩
  | false =>
    refine s_assign st₂ (d := raw 231) (.ite (c := false) (.val .name) (fun q => nomatch q) (fun _ => .glob pf.gValue .raw_)) fun s₃ st₃ => ?_
    refine s_if_false st₃ (.none (.search .name .name pf.pValue hx.2.1 hx.2.2)) fun s₄ st₄ => ?_
    exact s_return st₄ .name fun u s₅ g r => ⟨g, r.sub fun b hb => .tail _ hb⟩

noncomputable def hdrMap (D : Addr) : Str → Option Value := fun y => if y = "_headers" then some (.ref D) else none
noncomputable abbrev TabAt (G : Glob) (H D : Addr) : Prop := G.top.InstFk H 360 (hdrMap D)
theorem obj_conv : typeLookup (.type "object") "_convert_string_type" = pure none := by rw [typeLookup_type, builtinLookup_eq_fast]; kernel_rfl
theorem obj_headers : typeLookup (.type "object") "_headers" = pure none := by rw [typeLookup_type, builtinLookup_eq_fast]; kernel_rfl
theorem obj_get_all : typeLookup (.type "object") "get_all" = pure none := by rw [typeLookup_type, builtinLookup_eq_fast]; kernel_rfl
theorem obj_values : typeLookup (.type "object") "values" = pure none := by rw [typeLookup_type, builtinLookup_eq_fast]; kernel_rfl
theorem obj_items : typeLookup (.type "object") "items" = pure none := by rw [typeLookup_type, builtinLookup_eq_fast]; kernel_rfl
theorem obj_add_header : typeLookup (.type "object") "add_header" = pure none := by rw [typeLookup_type, builtinLookup_eq_fast]; kernel_rfl

/-- self._convert_string_type(e, name=b) -/
theorem Ev.conv {C : Cx} {n : Nat} {sp apos pos kp bp : Pos} {bk : Nat} {e : Expr} {x : Str} {b : Bool} {H D : Addr} (pf : PF C.G) (hp : C.prog = pw) (hself : Ev C (.Name "self" sp) (raw H)) (I : TabAt C.G H D) (he : Ev C e (.str x)) (hx : Clean x) (room : Room C.A (n + 1))
    (hform : methodCallForm 2 (backTo pos (starEach [e] C.env)) (backToKw pos (keywordEach [⟨some "name", .Constant (.bool b) bk bp, kp⟩] C.env)) = true := by rfl) (hline : (apos.endLine == pos.line) = true := by rfl)
    (hs : starEach [e] C.env = [(false, eval e C.env)] := by rfl) :
    Ev C (.Call (.Attribute (.Name "self" sp) "_convert_string_type" apos) [e] [⟨some "name", .Constant (.bool b) bk bp, kp⟩] pos) (.str x) := fun s ok => by
  obtain ⟨mN, cls, n1, n2, _, _, _, m1, _⟩ := pf.cHdr
  obtain ⟨doc, pm, code, f⟩ := id pf.fConv
  refine meth_fetch ok hself cls I m1 f n1 n2 (by show (if _ then _ else _) = _; rw [if_neg (by decide)]) obj_conv (fun s₁ g₁ ok₁ => ?_) rfl hform hline
  have hb : backTo pos (starEach [e] C.env) = [(false, eval e C.env)] := by rw [hs]; rfl
  obtain ⟨o, ho, hd, _⟩ := id f.at_
  refine callWith_function_kw (o := o) (fd := convFd doc pm code) ?_
  rw [hb]
  refine evalArgs_kw rfl (Calls.spliced_cons (he.use ok₁ fun v s₂ g₂ ok₂ r => Calls.spliced_nil ?_))
  refine kws_cons (wpAny_Constant_bool (kws_nil ⟨⟨ok₂.g _ _ ho, hd⟩, ?_⟩))
  show wpAny C.M C.A (PySem.call (.ref 261) [.ref H, v] [(Str.ofString "name", .bool b)]) _ _ s₂
  rw [Cx.M, hp]
  exact wpAny_mono (conv_ok pf hx b room ok₂.amid r) (fun u s₃ y => ⟨(g₁.trans g₂).trans y.1, y.2⟩) fun _ _ y => y

noncomputable abbrev pairs (items : List (Str × Str)) : List PyData := items.map fun p => .tuple [.str p.1, .str p.2]
noncomputable def keyIs (x : Str) : PyData → Bool
  | .tuple [.str k, _] => low k == x
  | _ => false
noncomputable def valOf : PyData → PyData
  | .tuple [_, v] => v
  | _ => .none
theorem Rd.fresh {X X' : List Addr} {s s' : Shared} {T : Heap} {d : PyData} {v : Value} (r : Rd X s.heap d v) (g : Grow T s s') (hX : ∀ b ∈ X', b ∈ X ∨ s.heap.get? b = none) : Rd X' s'.heap d v :=
  r.monoS fun b o xs n hb e hd => ⟨(fun q => by
    rcases hX b q with q | q
    · exact hb q
    · rw [q] at e; cases e), g.ext.seq e hd⟩

theorem getAll_ok {w : World} {G : Glob} {n : Nat} (pf : PF G) {H D : Addr} (I : TabAt G H D) {items : List (Str × Str)} {x : Str} (hi : ∀ p ∈ items, Asc p.1) (hx : Asc x) (hc : Clean (low x)) (hlen : items.length ≤ 100)
    {A : Around} {X : List Addr} {s : Shared} {v : Value} (room : Room A (n + 2)) (am : Amid G A X s) (rt : Rd X s.heap (.list (pairs items)) (.ref D)) (rv : Rd X s.heap (.str x) v) :
    wpAny (model pw w) A (call (.ref 299) [.ref H, v]) (fun u s' => Grow G.top s s' ∧ Rd X s'.heap (.list (dstr ((items.filter fun p => low p.1 == low x).map (·.2)))) u) (fun _ _ => False) s := by
  obtain ⟨doc, pm, code, f⟩ := pf.fGetAll
  obtain ⟨mN, cls, n1, n2, _, nh, _⟩ := id pf.cHdr
  have hsz : ∀ k : Nat, k ≤ 200 → k ≤ sizeLine := fun k h => Nat.le_trans h (by decide)
  refine s_callC (binds := [("self", .ref H), ("name", v)]) [("self", raw H), ("name", .str x)] f rfl room am rfl rfl ⟨.inl rfl, .inr ⟨rfl, fun _ => rfl⟩, trivial⟩
    ⟨⟨_, .inl ⟨rfl, rfl⟩, .raw_⟩, ⟨_, .inr ⟨rfl, fun _ => rfl, rfl⟩, rv⟩, trivial⟩ fun L X' s' hX hX' st room' => ?_
  have st := s_fact st (rt.fresh st.grow hX')
  refine s_doc st fun s₁ st₁ => ?_
  refine s_assign st₁ (.conv pf rfl .name I (.lower .name hx) hc room') fun s₂ st₂ => ?_
  have e1 : ((pairs items).filter (keyIs (low x))).map valOf = dstr ((items.filter fun p => low p.1 == low x).map (·.2)) := by
    simp only [pairs, List.filter_map, List.map_map, dstr]
    congr 1
  rw [← e1]
  refine s_return st₂ (Ev.comp1 [("name", .str (low x))] (keyIs (low x)) valOf (.list (.attr .name cls I (by rfl) (.inr (.head _)) n1 nh obj_headers)) ⟨⟨rfl, rfl, rfl, fun _ => rfl, .inl rfl, rfl⟩, trivial⟩ (fun L X d hd => ?_) (hsz _ (by simp [pairs]; omega))) fun u s₃ g r => ⟨g, r.sub hX⟩
  obtain ⟨⟨k, y⟩, hp, rfl⟩ := List.mem_map.mp hd
  exact ⟨.one (.cmp (.lower (.itemT .name .int (by decide) rfl (by decide)) (hi _ hp)) .name .eqStr), fun _ => .itemT .name .int (by decide) rfl (by decide)⟩

theorem values_ok {w : World} {G : Glob} {n : Nat} (pf : PF G) {H D : Addr} (I : TabAt G H D) {items : List (Str × Str)} (hlen : items.length ≤ 100)
    {A : Around} {X : List Addr} {s : Shared} (room : Room A (n + 1)) (am : Amid G A X s) (rt : Rd X s.heap (.list (pairs items)) (.ref D)) :
    wpAny (model pw w) A (call (.ref 317) [.ref H]) (fun u s' => Grow G.top s s' ∧ Rd X s'.heap (.list (dstr (items.map (·.2)))) u) (fun _ _ => False) s := by
  obtain ⟨doc, pm, code, f⟩ := pf.fValues
  obtain ⟨mN, cls, n1, n2, _, nh, _⟩ := id pf.cHdr
  have hsz : ∀ k : Nat, k ≤ 200 → k ≤ sizeLine := fun k h => Nat.le_trans h (by decide)
  refine s_callC (binds := [("self", .ref H)]) [("self", raw H)] f rfl room am rfl rfl ⟨.inl rfl, trivial⟩ ⟨⟨_, .inl ⟨rfl, rfl⟩, .raw_⟩, trivial⟩ fun L X' s' hX hX' st room' => ?_
  have st := s_fact st (rt.fresh st.grow hX')
  refine s_doc st fun s₁ st₁ => ?_
  have e1 : (items.map fun p => (PyData.str p.1, PyData.str p.2)).map (fun d => d.2) = dstr (items.map (·.2)) := by simp [dstr]
  have e2 : ((items.map fun p => (PyData.str p.1, PyData.str p.2)).map fun d => PyData.tuple [d.1, d.2]) = pairs items := by simp [pairs]
  rw [← e1]
  refine s_return st₁ (Ev.compPair (cl := []) (items.map fun p => (PyData.str p.1, PyData.str p.2)) [] (fun d => d.2) (.list (.attr .name cls I (by rfl) (.inr (by rw [e2]; exact .head _)) n1 nh obj_headers)) trivial (fun L X d hd => .name) (hsz _ (by simp; omega))) fun u s₃ g r => ⟨g, r.sub hX⟩

theorem items_ok {w : World} {G : Glob} {n : Nat} (pf : PF G) {H D : Addr} (I : TabAt G H D) {items : List (Str × Str)} (hlen : items.length ≤ 100)
    {A : Around} {X : List Addr} {s : Shared} (room : Room A (n + 1)) (am : Amid G A X s) (rt : Rd X s.heap (.list (pairs items)) (.ref D)) :
    wpAny (model pw w) A (call (.ref 324) [.ref H]) (fun u s' => Grow G.top s s' ∧ Rd X s'.heap (.list (pairs items)) u ∧ ∃ a, u = .ref a ∧ s.heap.get? a = none) (fun _ _ => False) s := by
  obtain ⟨doc, pm, code, f⟩ := pf.fItems
  obtain ⟨mN, cls, n1, n2, _, nh, _⟩ := id pf.cHdr
  have hsz : ∀ k : Nat, k ≤ 200 → k ≤ sizeLine := fun k h => Nat.le_trans h (by decide)
  refine s_callC (binds := [("self", .ref H)]) [("self", raw H)] f rfl room am rfl rfl ⟨.inl rfl, trivial⟩ ⟨⟨_, .inl ⟨rfl, rfl⟩, .raw_⟩, trivial⟩ fun L X' s' hX hX' st room' => ?_
  have st := s_fact st (rt.fresh st.grow hX')
  refine s_doc st fun s₁ st₁ => ?_
  refine wpAny_execs_cons (wpAny_Return_some (wpAny_mono (Ev.copy (C := cx _ _ _ _ _ _) (.attr .name cls I (by rfl) (.inr (.head _)) n1 nh obj_headers) (hsz _ (by simp [pairs]; omega)) s₁ st₁.ok) (fun u s₂ h => ?_) fun _ _ h => h))
  obtain ⟨g, r, a, rfl, ha⟩ := h
  exact ⟨st₁.grow.trans g, r.sub hX, a, rfl, st₁.grow.ext.none ha⟩
end Mine
end
section
open PySem PySem.Spec PySem.SeqAt PySem.Calls PyProof.Rows
set_option maxRecDepth 100000
namespace Mine
section
variable {prog : Program} {w : World} {A : Around} {E : Value → Shared → Prop} {s : Shared}
/-- l[:] = b -/
theorem setItem_all {l b sl : Addr} {items zs : List Value} {n m : Nat} {Q : Unit → Shared → Prop} (hl : IsL s.heap l items.toArray n) (hb : IsL s.heap b zs.toArray m) (hlb : l ≠ b) (hs : s.heap.IsSliceOf sl .none .none .none) (hsz : items.length + zs.length ≤ sizeLine)
    (h : ∀ h' n', IsL h' l zs.toArray n' → Heap.SameBut l s.heap h' → Q () { s with heap := h' }) : wpAny (model prog w) A (setItem (.ref l) (.ref sl) (.ref b)) Q E s := by
  obtain ⟨os, hos, hcs, hds⟩ := id hs
  have hT : s.TypeIs (.ref l) "list" := ⟨_, hl, rfl⟩
  have hTs : s.TypeIs (.ref sl) "slice" := ⟨os, hos, hcs⟩
  have hTb : s.TypeIs (.ref b) "list" := ⟨_, hb, rfl⟩
  unfold setItem
  refine wpAny_holding ?_
  refine wpAny_bind (wpAny_sequenceKey hT (by decide) ?_)
  refine wpAny_bind (wpAny_callSpecial?_slot (name := Str.ofString "__setitem__") hT slot_list_setitem
    (wpAny_call_entry slot_list_setitem hT entry_list_setitem ?_ (args_list_setitem _ _ _)))
  show wpAny _ _ (Builtin.List.listSubscript? (.ref sl) >>= _) _ _ s
  refine wpAny_bind ?_
  unfold Builtin.List.listSubscript?
  refine wpAny_bind (wpAny_specialOf hTs slice_no_index ?_)
  simp only [Option.isNone_none, if_true]
  refine wpAny_pure ?_
  show wpAny _ _ (typeOf (.ref sl) >>= _) _ _ s
  refine wpAny_bind (wpAny_typeOf hTs ?_)
  rw [if_neg (by decide)]
  rw [listSliceParts_eq]
  refine wpAny_bind (wpAny_bind (wpAny_field hos hds (x := .none) rfl (wpAny_bind (wpAny_listPart .none ?_))))
  rw [if_neg (by decide)]
  refine wpAny_bind (wpAny_field hos hds (x := .none) rfl (wpAny_bind (wpAny_listPart .none ?_)))
  refine wpAny_bind (wpAny_field hos hds (x := .none) rfl (wpAny_bind (wpAny_listPart .none (wpAny_pure ?_))))
  dsimp only
  rw [if_neg (by simpa [Builtin.List.listSameRef] using hlb)]
  refine wpAny_bind (m := Builtin.List.listAllItems _ _) ?_
  unfold Builtin.List.listAllItems
  refine wpAny_bind (wpAny_typeOf hTb ?_)
  rw [if_pos (by decide)]
  unfold Builtin.List.listItems
  refine wpAny_bind (m := seqItems? (.ref b)) (wpAny_seqItems hb rfl (wpAny_pure ?_))
  refine wpAny_bind ?_
  refine wpAny_bind (m := seqItems? (.ref l)) (wpAny_seqItems hl rfl (wpAny_pure ?_))
  refine wpAny_bind (wpAny_of_eq (sliceIndices_raw none none none items.toArray.size (by simp)) ?_)
  have eb : sliceBounds none none none items.toArray.size = (0, (items.length : Int), 1) := by
    simp [sliceBounds]
  rw [eb]
  dsimp only
  rw [if_pos (by decide)]
  refine wpAny_bind (wpAny_rule ?_)
  have hd : Builtin.List.listTooLong (items.toArray.size + zs.toArray.size) = false := by
    unfold Builtin.List.listTooLong
    exact decide_eq_false (by simpa using Nat.not_lt.mpr hsz)
  rw [hd]
  have e : ∀ (xs : Array Value), xs = items.toArray → xs.extract 0 (0 : Int).toNat ++ zs.toArray ++ xs.extract (max (0 : Int) (items.length : Int)).toNat = zs.toArray := by
    rintro xs rfl
    have : (max (0 : Int) (items.length : Int)).toNat = items.length := by omega
    rw [this]
    simp
  simp only [Bool.false_eq_true, if_false]
  have ee := e _ rfl
  refine wpAny_bind (m := Builtin.List.listUpdate _ _) ?_
  unfold Builtin.List.listUpdate
  refine wpAny_updateSeq hl rfl ?_ (hz := by simp; omega) (_hz' := by rw [ee]; simp; omega)
  refine wpAny_bind (wpAny_letGo (wpAny_pure ⟨.none, rfl, wpAny_pure ?_⟩))
  have hob : ∃ n', (Obj.mapSeq (fun xs : Array Value => xs.extract 0 (0 : Int).toNat ++ zs.toArray ++ xs.extract (max (0 : Int) (items.length : Int)).toNat) ({ cls := .type "list", dict := none, data := .seq items.toArray n, slots := #[] } : Obj)) = { cls := .type "list", dict := none, data := .seq zs.toArray n', slots := #[] } := by
    refine ⟨if zs.toArray.size == items.toArray.size then n else n + 1, ?_⟩
    show ({ cls := .type "list", dict := none, data := .seq (items.toArray.extract 0 (0 : Int).toNat ++ zs.toArray ++ items.toArray.extract (max (0 : Int) (items.length : Int)).toNat) (if (items.toArray.extract 0 (0 : Int).toNat ++ zs.toArray ++ items.toArray.extract (max (0 : Int) (items.length : Int)).toNat).size == items.toArray.size then n else n + 1), slots := #[] } : Obj) = _
    rw [ee]
  obtain ⟨n', hob⟩ := hob
  refine h _ n' ?_ (Heap.SameBut.update ..)
  show (s.heap.update l _).get? l = _
  rw [Heap.get?_update_self _ hl (by rw [hob]; rfl), hob]
end
end Mine
end
section
open PySem PySem.Spec PySem.SeqAt PySem.Calls PyProof.Rows
set_option maxRecDepth 100000
namespace Mine

theorem Rd.pair_off {X X' : List Addr} {h : Heap} {D : Addr} {ys : Array Value} {n : Nat} {a b : Str} {v : Value} (hl : IsL h D ys n) (r : Rd X' h (.tuple [.str a, .str b]) v) (hX : ∀ c ∈ X, c ∈ X' ∨ c = D) : Rd X h (.tuple [.str a, .str b]) v := by
  obtain ⟨t, vs, m, rfl, ht, hT, ra⟩ := r.tuple_inv
  have htD : t ≠ D := fun q => by rw [q] at hT; have := hl.symm.trans hT; simp at this
  refine .tuple_ (fun q => ?_) hT ?_
  · rcases hX t q with q | q
    · exact ht q
    · exact htD q
  · simp only [RdAll] at ra
    obtain ⟨va, r1, rfl, raa, vb, r2, rfl, rbb, rfl⟩ := ra
    obtain ⟨t1, rfl⟩ := raa.str_inv; obtain ⟨t2, rfl⟩ := rbb.str_inv
    exact .cons .str_ (.one .str_)
theorem RdAll.pairs_off {X X' : List Addr} {h : Heap} {D : Addr} {ys : Array Value} {n : Nat} (hl : IsL h D ys n) (hX : ∀ c ∈ X, c ∈ X' ∨ c = D) : ∀ {items : List (Str × Str)} {vs : List Value}, RdAll X' h (pairs items) vs → RdAll X h (pairs items) vs
  | [], _, r => by simp only [pairs, List.map_nil, RdAll] at r ⊢; exact r
  | p :: items, _, r => by
    simp only [pairs, List.map_cons, RdAll] at r ⊢
    obtain ⟨v, rest, rfl, h1, h2⟩ := r
    exact ⟨v, rest, rfl, h1.pair_off hl hX, RdAll.pairs_off hl hX h2⟩

theorem comp1F {C : Cx} {elt iter : Expr} {x : Str} {px pos : Pos} {ifs : List Expr} {scope : Scope} {cl : List (Str × Addr)} {ds : List PyData} (vs : List (Str × PyData)) (p : PyData → Bool) (f : PyData → PyData)
    (src : Src C iter ds) (hvis : SeesAll C scope cl vs)
    (body : ∀ L X d, d ∈ ds → Trs ((C.inner scope cl L X vs).bind x d) ifs (p d) ∧ (p d = true → Ev ((C.inner scope cl L X vs).bind x d) elt (f d)))
    (hsz : ds.length ≤ sizeLine)
    (hclos : closureFor scope C.env = pure cl := by rfl)
    (hfold : ∀ v, foldedSetIterable iter C.env v = pure v := by intro _; rfl) (hkind : scope.kind = .function := by rfl)
    (hnames : ∀ x ∈ scope.names, x.2 = .local → scope.names.lookup x.1 = some .local := by decide)
    (htgt : scope.names.lookup x = some .local ∨ (scope.names.lookup x = some .cell ∧ ∀ n, ((cellsFrom n scope.names []).lookup x).isSome = true) := by first | exact .inl rfl | exact .inr ⟨rfl, fun _ => rfl⟩) (hcalm : C.calm = true := by rfl) (hnx : vs.lookup x = none := by rfl) :
    ∀ s, C.ok s → wpAny C.M C.A (eval (.ListComp elt [⟨.Name x px, iter, ifs, 0⟩] scope pos) C.env) (fun u s' => Grow C.G.top s s' ∧ Rd C.X s'.heap (.list ((ds.filter p).map f)) u ∧ ∃ a, u = .ref a ∧ s.heap.get? a = none) (fun _ _ => False) s := fun s ok => by
  rw [eval_ListComp]
  refine comp1_core (use := none) ok hcalm src hfold hclos hkind hnames htgt hvis hnx body hsz fun D L s' hD hL hn g ha => ?_
  obtain ⟨m, hm⟩ := hn
  refine ⟨m, hm, fun h' hs => ?_⟩
  obtain ⟨g', r⟩ := comp_left ok hD hL ⟨m, hm⟩ g ha hs
  exact ⟨g', r, D, rfl, hD⟩

noncomputable def keyNot (x : Str) : PyData → Bool
  | .tuple [.str k, _] => !(low k == x)
  | _ => false
theorem Cmp.neStr {C : Cx} {a b : Str} : Cmp C .NotEq (.str a) (.str b) (!(a == b)) := fun s u v ok hu hv Q E h => by
  obtain ⟨t, rfl⟩ := hu.str_inv; obtain ⟨t', rfl⟩ := hv.str_inv
  exact ne_str (h s.toks)

/-- the list at D is changed by a call -/
structure Changed (T : Heap) (D : Addr) (X : List Addr) (s s' : Shared) (ds : List PyData) : Prop where
  mid : ∃ s₁, Grow T s s₁ ∧ Turn D s₁ s'
  lst : ∃ ys n, IsL s'.heap D (List.toArray ys) n ∧ RdAll X s'.heap ds ys

theorem del_ok {w : World} {G : Glob} {n : Nat} (pf : PF G) {H D : Addr} (I : TabAt G H D) {items : List (Str × Str)} {x : Str} (hi : ∀ p ∈ items, Asc p.1) (hx : Asc x) (hc : Clean (low x)) (hlen : items.length ≤ 100)
    {A : Around} {X : List Addr} {s : Shared} {v : Value} (room : Room A (n + 2)) (am : Amid G A X s) (mt : MutAt X s.heap D (pairs items)) (rv : Rd X s.heap (.str x) v) :
    wpAny (model pw w) A (call (.ref 280) [.ref H, v]) (fun u s' => u = .none ∧ Changed G.top D X s s' (pairs (items.filter fun p => !(low p.1 == low x)))) (fun _ _ => False) s := by
  obtain ⟨doc, pm, code, f⟩ := pf.fDel
  obtain ⟨mN, cls, n1, n2, _, nh, _⟩ := id pf.cHdr
  have hsz : ∀ k : Nat, k ≤ 200 → k ≤ sizeLine := fun k h => Nat.le_trans h (by decide)
  obtain ⟨hDX, ys, nn, hl, ra⟩ := mt
  have sub : ∀ b ∈ X.filter (· ≠ D), b ∈ X ∧ b ≠ D := fun b hb => by simpa using hb
  have am₀ : Amid G A (X.filter (· ≠ D)) s := ⟨am.fr, am.g, fun b hb => am.lo b (sub b hb).1⟩
  have rt : Rd (X.filter (· ≠ D)) s.heap (.list (pairs items)) (.ref D) := .list_ (fun q => (sub D q).2 rfl) hl (ra.mono fun b o hb e => ⟨fun q => hb (sub b q).1, e⟩)
  refine s_callC (X := X.filter (· ≠ D)) (binds := [("self", .ref H), ("name", v)]) [("self", raw H), ("name", .str x)] f rfl room am₀ rfl rfl ⟨.inl rfl, .inr ⟨rfl, fun _ => rfl⟩, trivial⟩
    ⟨⟨_, .inl ⟨rfl, rfl⟩, .raw_⟩, ⟨_, .inr ⟨rfl, fun _ => rfl, rfl⟩, rv.sub fun b hb => (sub b hb).1⟩, trivial⟩ fun L X' s' hX hX' st room' => ?_
  have st := s_fact st (rt.fresh st.grow hX')
  refine s_doc st fun s₁ st₁ => ?_
  refine s_assign st₁ (.conv pf rfl .name I (.lower .name hx) hc room') fun s₂ st₂ => ?_
  have e1 : ((pairs items).filter (keyNot (low x))).map id = pairs (items.filter fun p => !(low p.1 == low x)) := by
    simp only [pairs, List.filter_map, List.map_map, List.map_id]
    congr 1
  refine wpAny_execs_cons ?_
  rw [exec_Assign_Subscript _ _ _ _ _ rfl]
  refine wpAny_bind (wpAny_standAt (wpAny_bind (wpAny_mono (comp1F (C := cx _ _ _ _ _ _) [("name", .str (low x))] (keyNot (low x)) id (.list (.attr .name cls I (by rfl) (.inr (.head _)) n1 nh obj_headers)) ⟨⟨rfl, rfl, rfl, fun _ => rfl, .inl rfl, rfl⟩, trivial⟩ (fun L X d hd => ?_) (hsz _ (by simp [pairs]; omega)) rfl (fun _ => rfl) rfl (by decide) (.inl rfl) rfl rfl s₂ st₂.ok) (fun u s₃ h₃ => ?_) fun _ _ h => h.elim)))
  · obtain ⟨⟨k, y⟩, hp, rfl⟩ := List.mem_map.mp hd
    exact ⟨.one (.cmp (.lower (.itemT .name .int (by decide) rfl (by decide)) (hi _ hp)) .name .neStr), fun _ => .name⟩
  · obtain ⟨g₃, r₃, R, rfl, hR⟩ := h₃
    rw [e1] at r₃
    have st₃ := s_step st₂ g₃
    rw [assign_Subscript]
    refine wpAny_bind (wpAny_bind (wpAny_holding ((Ev.attr (C := cx _ _ _ _ _ _) (d := raw D) .name cls I (by rfl) (.inl rfl) n1 nh obj_headers).use st₃.ok fun ov s₄ g₄ ok₄ r₄ => ?_)))
    rw [r₄.raw_inv]
    refine wpAny_bind (wpAny_holding (wpAny_Slice (wpAny_evalPart_none (wpAny_evalPart_none ?_))))
    rw [evalPart_none]
    refine wpAny_pure ?_
    refine wpAny_bind (wpAny_standAt ?_)
    have g₅ : Grow G.top s₄ { s₄ with heap := s₄.heap.push { cls := .type "slice", data := .fields #[.none, .none, .none] } } := .push _ _
    have gs₄ : Grow G.top s s₄ := st₃.grow.trans g₄
    have hl₅ := (gs₄.trans g₅).ext.list hl
    obtain ⟨R', zs, m, q, hRX, hlR, rR⟩ := (r₃.ext (g₄.trans g₅).ext).list_inv
    cases q
    have hDR : D ≠ R := fun q => by
      have := (st₂.grow.ext.list hl)
      rw [q] at this
      have h2 : s₂.heap.get? R = _ := this
      rw [hR] at h2; cases h2
    refine wpAny_bind (wpAny_holding (setItem_all hl₅ hlR hDR (Heap.IsSliceOf.new ..) (hsz _ ?_) fun h' n' hl' hs' => ?_))
    · have l1 := ra.length
      have l2 := rR.length
      have l3 : (items.filter fun p => !(low p.1 == low x)).length ≤ items.length := List.length_filter_le _ _
      simp [pairs] at l1 l2
      omega
    · refine wpAny_release (wpAny_pure (wpAny_execs_nil ⟨rfl, ⟨_, gs₄.trans g₅, fun b o hb e => (hs'.2 b hb).trans e, ⟨_, hl'⟩, rfl, rfl, rfl⟩, zs, n', hl', ?_⟩))
      have keep : ∀ b o, b ≠ D → ({ s₄ with heap := s₄.heap.push { cls := .type "slice", data := .fields #[.none, .none, .none] } } : Shared).heap.get? b = some o → h'.get? b = some o := fun b o hb e => (hs'.2 b hb).trans e
      refine RdAll.touch (RdAll.pairs_off (X := X) hl₅ (fun c hc => ?_) rR) hDX keep
      by_cases q : c = D
      · exact .inr q
      · exact .inl (hX c (by simpa using ⟨hc, q⟩))
end Mine
end
section
open PySem PySem.Spec PySem.SeqAt PySem.Calls PyProof.Rows
set_option maxRecDepth 100000
namespace Mine

theorem s_for_empty {S : Stat} {X : List Addr} {V : Vars} {M : Muts} {I : Its} {K : Facts} {s₀ s : Shared} {pos : Pos} {rest : List Stmt} {Q : Flow → Shared → Prop} {E : Value → Shared → Prop} {target iter : Expr} {body : List Stmt}
    (h : FS S X V M I K s₀ s)
    (src : ∀ s, (cx S X V M I K).ok s → wpAny (model S.prog S.w) S.A (eval iter S.env) (fun x s₁ => wpAny (model S.prog S.w) S.A (pyIter x) (fun it s₂ => wpAny (model S.prog S.w) S.A (pyNext it) (fun r s₃ => r = none ∧ Grow S.G.top s s₃) (fun _ _ => False) s₂) (fun _ _ => False) s₁) (fun _ _ => False) s)
    (k : ∀ s', FS S X V M I K s₀ s' → wpAny (model S.prog S.w) S.A (execs rest S.env) Q E s')
    (hf : ∀ v, foldedSetIterable iter S.env v = pure v := by intro _; rfl) :
    wpAny (model S.prog S.w) S.A (execs (.For target iter body [] pos :: rest) S.env) Q E s := by
  refine wpAny_execs_cons (wpAny_For (wpAny_mono (src s h.ok) (fun z s₁ h₁ => wpAny_mono h₁ (fun it s₂ h₂ => ?_) fun _ _ q => q.elim) fun _ _ q => q.elim) hf)
  refine codeAny_forLoop_any (fun n s' => s' = s₂) ?_ 0 rfl
  rintro n s₃ rfl
  refine wpAny_mono h₂ (fun r s₄ h₄ => ?_) fun _ _ q => q.elim
  obtain ⟨rfl, g⟩ := h₄
  exact wpAny_execs_nil (k s₄ (s_step h g))

/-- for .. in x.items(): x an empty dict -/
theorem no_items {C : Cx} {x : Str} {np apos pos : Pos} {P : Addr} (ho : Ev C (.Name x np) (raw P)) (hm : C.G.top.get? P = some { cls := .type "dict", data := .dict #[] }) (hP : (P == sysModules) = false) (hcalm : C.calm = true)
    (hbase : attributeBase (.Name x np) "items" C.env (eval (.Name x np) C.env) = eval (.Name x np) C.env := by rfl) (hline : (apos.endLine == pos.line) = true := by rfl) :
    ∀ s, C.ok s → wpAny C.M C.A (eval (.Call (.Attribute (.Name x np) "items" apos) [] [] pos) C.env) (fun u s₁ => wpAny C.M C.A (pyIter u) (fun it s₂ => wpAny C.M C.A (pyNext it) (fun r s₃ => r = none ∧ Grow C.G.top s s₃) (fun _ _ => False) s₂) (fun _ _ => False) s₁) (fun _ _ => False) s := fun s ok => by
  refine Call_method0 hbase hline (ho.use ok fun u s₁ g₁ ok₁ r => ?_)
  rw [r.raw_inv]
  have h1 := ok₁.g _ _ hm
  have hd : ∀ h : Heap, h.get? P = some { cls := .type "dict", data := .dict #[] } → h.DictAt (PySem.strKind C.prog C.w) P [] 0 := fun h e => ⟨_, #[], e, ⟨rfl, rfl, rfl⟩, rfl, fun e he => by simp at he, .nil, by simp⟩
  refine ⟨"dict", "dict.items", F.plainAttrs_dict, F.slot_dict_items, F.type_dict_items, ⟨_, h1, rfl⟩, (fun a q => by cases q; exact ⟨_, h1, rfl⟩), ?_⟩
  refine Calls.callWith_builtin rfl (PySem.evalArgs_none ?_)
  refine call_meetsIn F.slot_dict_items ⟨_, h1, rfl⟩ F.entry_dict_items (F.args_dict_items_1 _) (meets_dict_items (PySem.strKind C.prog C.w) P hP) ⟨⟨[], (hd _ h1).dictOf⟩, ?_⟩
  show wpAny _ _ _ _ _ _
  have h2 := Heap.get?_push_of_some { cls := .type "dict_items", data := .fields #[.ref P] } h1
  refine wpAny_pyIter_items (knd := PySem.strKind C.prog C.w) ⟨_, Heap.get?_push_size _ rfl, rfl, rfl⟩ (hd _ h2) ?_
  have h3 := Heap.get?_push_of_some { cls := .type "dict_itemiterator", data := .fields #[.none, .bool false, .ref P, .int 0 0, .int (([] : List (Str × Value)).length : Int) 0, .int (0 : Nat) 0, .none, .none] } h2
  refine wpAny_pyNext_items_end (knd := PySem.strKind C.prog C.w) (kvs := []) (i := 0) (ok.hand hcalm) (Heap.get?_push_size _ rfl) (hd _ h3) rfl fun h' he => ⟨rfl, ?_⟩
  refine g₁.trans ⟨.of fun b o e => he b o (fun q => ?_) (Heap.get?_push_of_some _ (Heap.get?_push_of_some _ e)), rfl, rfl, rfl⟩
  have := Heap.lt_size e
  rw [q, Heap.size_push] at this
  exact absurd this (Nat.not_lt.mpr (Nat.le_succ _))

theorem TabAt.more {G G' : Glob} {F : List Addr} {h : Heap} (m : Glob.More G G' F h) (hF : ∀ a ∈ F, G.top.get? a = none) {H D : Addr} (I : TabAt G H D) : TabAt G' H D := I.keeps fun b o e => m.sub hF e

theorem join_one (sep y : Str) : Txt.join sep [y] = y := by
  unfold Txt.join
  rw [StrLaws.glued_eq_join]
  rfl

theorem add_ok {w : World} {G : Glob} {n : Nat} (pf : PF G) {H D : Addr} (I : TabAt G H D) {items : List (Str × Str)} {x y : Str} (hx : Clean x) (hy : Clean y) (hyl : y.length ≤ 100) (hlen : items.length ≤ 100)
    {A : Around} {X : List Addr} {s : Shared} {v1 v2 : Value} (room : Room A (n + 2)) (am : Amid G A X s) (mt : MutAt X s.heap D (pairs items)) (r1 : Rd X s.heap (.str x) v1) (r2 : Rd X s.heap (.str y) v2) :
    wpAny (model pw w) A (call (.ref 357) [.ref H, v1, v2]) (fun u s' => u = .none ∧ Changed G.top D X s s' (pairs (items ++ [(x, y)]))) (fun _ _ => False) s := by
  obtain ⟨doc, pm, code, f⟩ := pf.fAdd
  have hsz : ∀ k : Nat, k ≤ 200 → k ≤ sizeLine := fun k h => Nat.le_trans h (by decide)
  obtain ⟨hDX, ys, nn, hl, ra⟩ := mt
  have g₁ : Grow G.top s { s with heap := s.heap.push { cls := .type "dict", data := .dict #[] } } := .push _ _
  refine s_callK (s₁ := { s with heap := s.heap.push { cls := .type "dict", data := .dict #[] } }) (binds := [("self", .ref H), ("_name", v1), ("_value", v2), ("_params", .ref s.heap.objs.size)]) [("self", raw H), ("_name", .str x), ("_value", .str y), ("_params", raw s.heap.objs.size)] f rfl room am g₁ (fun M A E Q h => by
      have : bindArgs (addFd doc pm code) ⟨[.ref H, v1, v2], []⟩ = ((alloc { cls := .type "dict", data := .dict #[] } >>= fun d => pure [(Str.ofString "self", .ref H), (Str.ofString "_name", v1), (Str.ofString "_value", v2), (Str.ofString "_params", .ref d)]) : Sem (List (Str × Value))) := rfl
      rw [this]; exact wpAny_bind (wpAny_alloc (wpAny_pure h))) (by show ∀ x ∈ (defOfStmt (subStmt 36 17)).2.2.names, x.2 ≠ .cell; decide) rfl ⟨rfl, rfl, rfl, rfl, trivial⟩
    ⟨⟨_, rfl, .raw_, rfl⟩, ⟨_, rfl, r1.ext g₁.ext, rfl⟩, ⟨_, rfl, r2.ext g₁.ext, rfl⟩, ⟨_, rfl, .raw_, rfl⟩, trivial⟩ fun L s' st g₂ room' hLX => ?_
  -- the dict of the keywords is fixed
  have hP0 : s.heap.get? s.heap.objs.size = none := get_size _
  obtain ⟨hPX, hPT⟩ := am.new hP0
  have hPob : ({ s with heap := s.heap.push { cls := .type "dict", data := .dict #[] } } : Shared).heap.get? s.heap.objs.size = some { cls := .type "dict", data := .dict #[] } := Heap.get?_push_size _ rfl
  have hP' := g₂.1 _ _ hPob
  have hF : ∀ a ∈ [s.heap.objs.size], G.top.get? a = none := by intro a ha; simp at ha; subst ha; exact hPT
  obtain ⟨G', mo⟩ := G.fix [s.heap.objs.size] s'.heap st.ok.g hF
  have pf' := pf.more mo hF
  have I' : TabAt G' H D := TabAt.more mo hF I
  have hLP : L ≠ s.heap.objs.size := fun q => by
    have := g₂.2
    rw [q, hPob] at this; cases this
  have st' : FS ⟨pw, w, A.deeper (callEnv (addFd doc pm code) L 357), callEnv (addFd doc pm code) L 357, G', true⟩ (L :: X) [("self", raw H), ("_name", .str x), ("_value", .str y), ("_params", raw s.heap.objs.size)] [] [] [] s s' := by
    refine FSt.reglob (C := cx ⟨pw, w, A.deeper (callEnv (addFd doc pm code) L 357), callEnv (addFd doc pm code) L 357, G, true⟩ (L :: X) [("self", raw H), ("_name", .str x), ("_value", .str y), ("_params", raw s.heap.objs.size)] [] [] []) st mo (fun a ha => ?_) (fun outer e env he L' hL' => ?_)
    · simp at ha; subst ha
      exact ⟨hPT, hP0, fun q => by
        rcases List.mem_cons.mp q with q | q
        · exact hLP q.symm
        · exact hPX q, rfl⟩
    · obtain ⟨outer', e', fr⟩ := am.fr
      have e2 : (A.deeper (callEnv (addFd doc pm code) L 357)).frames = some (callEnv (addFd doc pm code) L 357 :: outer') := Around.frames_deeper e'
      rw [show (A.deeper (callEnv (addFd doc pm code) L 357)).frames = some outer from e] at e2
      cases e2
      simp only [List.mem_singleton]
      rcases List.mem_cons.mp he with q | he
      · subst q
        have : L' = L := by cases hL'; rfl
        rw [this]; exact hLP
      · obtain ⟨_, L2, o, es, m, f1, _, f3, _⟩ := fr env he
        rw [f1] at hL'; cases hL'
        rintro rfl
        rw [hP0] at f3; cases f3
  have hPG : G'.top.get? s.heap.objs.size = some { cls := .type "dict", data := .dict #[] } := by rw [mo.top, if_pos (by simp)]; exact hP'
  have hPS : (s.heap.objs.size == sysModules) = false := by
    obtain ⟨o, e, _⟩ := f.at_
    have h1 := Heap.lt_size (am.g _ _ e)
    have h2 : sysModules < 357 := by decide
    rw [beq_eq_false_iff_ne]; exact Nat.ne_of_gt (Nat.lt_trans h2 h1)
  obtain ⟨mN, cls, n1, n2, _, nh, _⟩ := id pf'.cHdr
  refine s_doc st' fun s₁ st₁ => ?_
  refine s_newlist st₁ .nil (hsz _ (by simp)) fun Dp s₂ hDp _ st₂ => ?_
  refine s_if st₂ (.cmp .name .none .isNotNoneStr) (fun _ s₃ st₃ => ?_) (fun q => nomatch q)
  refine s_assign st₃ (.conv pf' rfl .name I' .name hy room') fun s₄ st₄ => ?_
  refine s_append st₄ .name (hsz _ (by simp)) fun s₅ st₅ => wpAny_execs_nil ?_
  have st₆ := s_freeze (x := "parts") st₅ rfl
  refine s_for_empty st₆ (no_items .name hPG hPS rfl) fun s₇ st₇ => ?_
  -- the entry goes onto the list
  have hDpX : Dp ≠ D := fun q => hDp (q ▸ .tail _ hDX)
  have hXs : ∀ b ∈ X, b ∈ (Dp :: L :: X).filter (· ≠ Dp) := fun b hb => by
    have : b ≠ Dp := fun q => hDp (q ▸ .tail _ hb)
    simp [hb, this]
  refine wpAny_execs_cons (wpAny_Expr (wpAny_Call_append rfl rfl rfl rfl ?_) rfl rfl)
  refine (Ev.attr (C := cx _ _ _ _ _ _) (d := raw D) .name cls I' (by rfl) (.inl rfl) n1 nh obj_headers).use st₇.ok fun ov s₈ g₈ ok₈ r₈ => ?_
  rw [r₈.raw_inv]
  have gs₈ : Grow G'.top s s₈ := st₇.grow.trans g₈
  refine ⟨D, _, rfl, ⟨_, nn, gs₈.ext.list hl, rfl, rfl, rfl⟩, ?_⟩
  have hjoin : Txt.join "; " [y] = y := join_one _ _
  refine (Ev.tuple (C := cx _ _ _ _ _ _) (ds := [.str x, .str (Txt.join "; " [y])]) (.cons (.conv pf' rfl .name I' .name hx room') (.cons (.join (ys := [y]) .name (by decide) (by simp; omega)) .nil)) (hsz _ (by simp))).use ok₈ fun v s₉ g₉ ok₉ r₉ => ?_
  rw [hjoin] at r₉
  have gs₉ : Grow G'.top s s₉ := gs₈.trans g₉
  have hl₉ := gs₉.ext.list hl
  have l1 := ra.length
  refine wpAny_list_append_plain (hsz := by simp [pairs] at l1 ⊢; exact hsz _ (by omega)) (⟨nn, hl₉⟩ : s₉.heap.PlainList D ys.toArray) fun h' hl' hs => ?_
  have keep : ∀ b o, b ≠ D → s₉.heap.get? b = some o → h'.get? b = some o := fun b o hb e => (hs.2 b hb).trans e
  obtain ⟨n', hl'⟩ := hl'
  rw [show ys.toArray.push v = List.toArray (ys ++ [v]) by simp] at hl'
  refine wpAny_execs_nil ⟨rfl, ⟨s₉, gs₉.less fun b e => mo.sup e hF, keep, ⟨_, hl'⟩, rfl, rfl, rfl⟩, _, n', hl', ?_⟩
  have : pairs (items ++ [(x, y)]) = pairs items ++ [.tuple [.str x, .str y]] := by simp [pairs]
  rw [this]
  exact RdAll.append (.one ((r₉.sub hXs).touch hDX keep)) ((ra.ext gs₉.ext).touch hDX keep)
end Mine
end
section
open PySem PySem.Spec PySem.SeqAt PySem.Calls PyProof.Rows
set_option maxRecDepth 100000
namespace Mine

theorem InstFk.ext {T h h' : Heap} {x C : Addr} {mA : Str → Option Value} (I : h.InstFk x C mA) (e : Ext T h h') : h'.InstFk x C mA := by
  obtain ⟨o, ho, hc, hd, r⟩ := I
  have k : ∀ b ob, h.get? b = some ob → ∃ sl, h'.get? b = some { ob with slots := sl } := fun b ob q => by
    rcases e b ob q with y | ⟨_, _, sl, y⟩
    · exact ⟨ob.slots, y⟩
    · exact ⟨sl, y⟩
  obtain ⟨sl, ho'⟩ := k x o ho
  refine ⟨_, ho', hc, hd, ?_⟩
  rcases r with r | ⟨d, h1, h2, ⟨od, es, ep, q1, q2, q3⟩, od', q4, q5, q6⟩
  · exact .inl r
  · rw [q1] at q4; cases q4
    obtain ⟨sl', e'⟩ := k d od q1
    exact .inr ⟨d, h1, h2, ⟨_, es, ep, e', q2, q3⟩, _, e', q5, q6⟩

theorem Room.under {A : Around} {n : Nat} (r : Room A (n + 1)) (C : Addr) (rest : List Value) : Room (A.under (.builtin "type.__call__" ⟨.ref C :: rest, []⟩)) n :=
  ⟨by have := r.u; show A.units + 1 + 100 + 10 * n < _; omega, r.h, by have := r.d; show A.depth + 1 + 50 + n < _; omega⟩

/-- x = b if t else []: a list of the call's own is made -/
theorem s_newlistIf {S : Stat} {X : List Addr} {V : Vars} {M : Muts} {I : Its} {K : Facts} {s₀ s : Shared} {x : Str} {p' pos ipos lpos : Pos} {t b : Expr} {rest : List Stmt} {Q : Flow → Shared → Prop} {E : Value → Shared → Prop} (h : FS S X V M I K s₀ s) (ht : Tr (cx S X V M I K) t false)
    (k : ∀ D s', D ∉ X → s.heap.get? D = none → FS S (D :: X) ((x, raw D) :: V) ((D, []) :: M) I K s₀ s' → wpAny (model S.prog S.w) S.A (execs rest S.env) Q E s')
    (hk : Bindable S.env x := by first | exact .inl rfl | exact .inr ⟨rfl, rfl⟩) (hs : swapsWith (.IfExp t b (.List [] lpos) ipos) (some (.Name x p')) pos.line S.env = pure false := by rfl) :
    wpAny (model S.prog S.w) S.A (execs (.Assign [.Name x p'] (.IfExp t b (.List [] lpos) ipos) pos :: rest) S.env) Q E s := by
  refine wpAny_execs_cons (wpAny_Assign_Name (wpAny_IfExp (ht.use h.ok fun s₁ g ok₁ => ?_)) hs)
  show wpAny _ _ (eval (.List [] lpos) _) _ _ s₁
  refine wpAny_List (wpAny_items_nil ⟨by simp, ?_⟩)
  have h₁ := s_step h g
  have hD1 : s₁.heap.get? s₁.heap.objs.size = none := get_size _
  have hD0 : s.heap.get? s₁.heap.objs.size = none := g.ext.none hD1
  have g₂ : Grow S.G.top s₁ { s₁ with heap := s₁.heap.push { cls := .type "list", data := .seq ([] : List Value).toArray } } := .push _ _
  have h₂ := FSt.own (C := cx S X V M I K) (ds := []) h₁ hD1 g₂ (isL_new s₁.heap []) .nil
  exact h₂.put hk .raw_ fun s' st _ _ => k _ s' (ok_notin h₁.ok hD1) hD0 st

theorem type_own {C : Cx} {D : Addr} {ds : List PyData} (hm : (D, ds) ∈ C.muts) : ∀ (s : Shared) v, C.ok s → Rd C.X s.heap (raw D) v → s.TypeIs v "list" := fun s v ok r => by
  rw [r.raw_inv]
  obtain ⟨_, ys, n, hl, _⟩ := ok.mu D ds hm
  exact ⟨_, hl, rfl⟩

theorem new_ok {w : World} {G : Glob} {n : Nat} (pf : PF G) {A : Around} {X : List Addr} {s : Shared} (room : Room A (n + 3)) (am : Amid G A X s) :
    wpAny (model pw w) A (call (.ref 360) []) (fun u s' => ∃ H hd D m oH, u = .ref H ∧ Grow G.top s s' ∧ s.heap.get? H = none ∧ s.heap.get? hd = none ∧ s.heap.get? D = none ∧ s'.heap.InstFk H 360 (hdrMap D) ∧ s'.heap.get? H = some oH ∧ oH.dict = some hd ∧ IsL s'.heap D (List.toArray []) m) (fun _ _ => False) s := by
  obtain ⟨mN, cls, n1, n2, n3, nh, m0, _⟩ := id pf.cHdr
  obtain ⟨doc, pm, code, oD, nD, f, hdf, hdd⟩ := id pf.fInit
  obtain ⟨of, hfo, _, hfc⟩ := f.at_
  have hsz : ∀ k : Nat, k ≤ 200 → k ≤ sizeLine := fun k h => Nat.le_trans h (by decide)
  obtain ⟨nm, q, bs, sn, sub, col, dd, k0, k1, k2, k3, k5, hC⟩ := (cls.keeps am.g).obj
  refine wpAny_call_obj_initFk (h := s.heap) (g := s.gens) (d := s.drawn) (t := s.toks) (os := s.os) PySem.F.objNew hC (cls.keeps am.g).ns m0 (am.g _ _ hfo) hfc fun h' x dx Mk => ?_
  have g₀ : Grow G.top s ⟨h', s.gens, s.drawn, s.toks, s.os⟩ := ⟨.of Mk.keeps, rfl, rfl, rfl⟩
  have am' : Amid G (A.under (.builtin "type.__call__" ⟨.ref 360 :: [], []⟩)) X ⟨h', s.gens, s.drawn, s.toks, s.os⟩ := ⟨am.fr.ext g₀.ext, top_kept am.g g₀.ext, fun b hb => let ⟨⟨o, e⟩, n⟩ := am.lo b hb; ⟨(g₀.ext b o e).some, n⟩⟩
  obtain ⟨hxX, hxT⟩ := am.new Mk.newX
  obtain ⟨hdX, hdT⟩ := am.new Mk.newD
  refine s_callK (s₁ := ⟨h', s.gens, s.drawn, s.toks, s.os⟩) (kw := []) (binds := [("self", .ref x), ("headers", .none)]) [("self", raw x), ("headers", .none)] f rfl (room.under 360 []) am' (.refl _ _) (fun M A E Q h => ?_) (by show ∀ x ∈ (defOfStmt (subStmt 36 1)).2.2.names, x.2 ≠ .cell; decide) rfl ⟨rfl, rfl, trivial⟩
    ⟨⟨_, rfl, .raw_, rfl⟩, ⟨_, rfl, .none_, rfl⟩, trivial⟩ fun L s' st g₂ room' hLX => ?_
  · exact BindsTo.of_defaults (s := ⟨h', s.gens, s.drawn, s.toks, s.os⟩) (fd := initFd (.ref 247) doc pm code) (args := ⟨[.ref x], []⟩) (binds := [("self", .ref x), ("headers", .none)]) (T := 247) rfl (Mk.keeps _ _ (am.g _ _ hdf)) hdd rfl rfl M A E Q h
  refine s_newlistIf st (.cmp .name .none .isNotNone) fun D s₁ hD hD0 st₁ => ?_
  refine s_if_false st₁ (Tr.type (T := "list") (T' := "list") (.blt (pf.blt _) (by boot_fast)) .name (.blt (pf.blt _) (by boot_fast)) (type_own (.head _)) (by decide) (.inr ⟨rfl, by decide⟩)) fun s₂ st₂ => ?_
  -- self._headers = headers
  refine wpAny_execs_cons (plainObj_wpAny_Assign_Attribute ((Ev.name (C := cx _ _ _ _ _ _)).use st₂.ok fun v s₃ g₃ ok₃ r₃ => (Ev.name (C := cx _ _ _ _ _ _)).use ok₃ fun ov s₄ g₄ ok₄ r₄ => ?_) rfl)
  rw [r₃.raw_inv, r₄.raw_inv]
  have st₄ := s_step (s_step st₂ g₃) g₄
  have I₄ : s₄.heap.InstFk x 360 (fun _ => none) := InstFk.ext (T := G.top) (h := h') Mk.inst st₄.grow.ext
  obtain ⟨ox, hox, _⟩ := id Mk.inst
  have hdict₄ : ∀ o, s₄.heap.get? x = some o → o.dict = some dx := fun o e => by
    have hd := Mk.dict ox hox
    rcases st₄.grow.ext x ox hox with y | ⟨_, _, sl, y⟩
    · rw [y] at e; cases e; exact hd
    · rw [y] at e; cases e; exact hd
  have hx360 : x ≠ 360 := fun q => by
    have := Mk.newX
    rw [q, hC] at this; cases this
  obtain ⟨nm, q, bs, sn, sub, col, dd, k0, k1, k2, k3, k5, hC₄⟩ := (cls.keeps st₄.ok.g).obj
  refine store_attrFk (h := s₄.heap) (g := s₄.gens) (d := s₄.drawn) (t := s₄.toks) (os := s₄.os) (ns := []) PySem.F.store_object hC₄ (cls.keeps st₄.ok.g).ns n3 nh obj_headers hx360 I₄ (fun h₅ tk I₅ hk hsame => ?_) Within.nil (by simp)
  replace I₅ : h₅.InstFk x 360 (hdrMap D) := I₅
  -- where things lie
  obtain ⟨o₄, ho₄, hc₄, hnc₄, hr₄⟩ := id I₄
  have hd₄ := hdict₄ o₄ ho₄
  obtain ⟨od₄, es₄, ep₄, hod₄, hdd₄⟩ : ∃ od es ep, s₄.heap.get? dx = some od ∧ od.data = .dict es ep := by
    rcases hr₄ with ⟨z, _⟩ | ⟨d, z1, _, ⟨od, es, ep, z2, z3, _⟩, _⟩
    · rw [z] at hd₄; cases hd₄
    · rw [z1] at hd₄; cases hd₄; exact ⟨od, es, ep, z2, z3⟩
  obtain ⟨o₅, ho₅, c₅, t₅, sl₅, dk₅⟩ := hsame o₄ ho₄
  have ho₅' : h₅.get? x = some o₄ := by
    rw [ho₅]
    obtain ⟨a1, a2, a3, a4⟩ := o₄
    obtain ⟨b1, b2, b3, b4⟩ := o₅
    simp only at c₅ t₅ sl₅ hd₄
    have := dk₅ dx hd₄
    simp only at this
    simp [c₅, t₅, sl₅, this, hd₄]
  have hdict₅ : ∃ od es ep, h₅.get? dx = some od ∧ od.data = .dict es ep := by
    obtain ⟨o, e, _, _, r⟩ := id I₅
    rw [ho₅'] at e; cases e
    rcases r with ⟨z, _⟩ | ⟨d, z1, _, ⟨od, es, ep, z2, z3, _⟩, _⟩
    · rw [z] at hd₄; cases hd₄
    · rw [z1] at hd₄; cases hd₄; exact ⟨od, es, ep, z2, z3⟩
  have t : Turns [dx] s₄ ⟨h₅, s₄.gens, s₄.drawn, tk, s₄.os⟩ := ⟨fun b o hb e => by
    by_cases q : b = x
    · subst q; rw [ho₄] at e; cases e; exact ho₅'
    · exact hk b o q (fun o₀ d e₀ ed => by rw [ho₄] at e₀; cases e₀; rw [hd₄] at ed; cases ed; simpa using hb) e, rfl, rfl, rfl⟩
  -- they are new, and none of the hidden ones
  obtain ⟨odx, _, _, hodx, _⟩ : ∃ od es ep, h'.get? dx = some od ∧ od.data = .dict es ep := by
    obtain ⟨o, e, _, _, r⟩ := id Mk.inst
    have hd := Mk.dict o e
    rcases r with ⟨z, _⟩ | ⟨d, z1, _, ⟨od, es, ep, z2, z3, _⟩, _⟩
    · rw [z] at hd; cases hd
    · rw [z1] at hd; cases hd; exact ⟨od, es, ep, z2, z3⟩
  have apart : ∀ a o, h'.get? a = some o → L ≠ a ∧ D ≠ a := fun a o e => by
    refine ⟨fun q => ?_, fun q => ?_⟩
    · have := g₂.2; rw [q] at this; rw [show h'.get? a = none from this] at e; cases e
    · rw [← q] at e; rw [g₂.1 _ _ e] at hD0; cases hD0
  have nX : ∀ a o, h'.get? a = some o → a ∉ X → a ∉ D :: L :: X := fun a o e hX hm => by
    rcases List.mem_cons.mp hm with z | hm
    · exact (apart a o e).2 z.symm
    · rcases List.mem_cons.mp hm with z | hm
      · exact (apart a o e).1 z.symm
      · exact hX hm
  have st₅ := FSt.away (F := [dx]) (FSt.rebase st₄ [x, dx] rfl) (fun a ha => by
    simp only [List.mem_singleton] at ha; subst ha
    exact ⟨nX _ _ hodx hdX, hdT, by rw [sans_get, if_pos (by simp)], (apart _ _ hodx).1, od₄, hod₄, (fun xs n e => by rw [hdd₄] at e; cases e), (fun v e => by rw [hdd₄] at e; cases e), fun es n _ => hdict₅⟩) t
  -- from now on they are fixed
  have hF : ∀ a ∈ [x, dx], G.top.get? a = none := by intro a ha; simp at ha; rcases ha with rfl | rfl <;> assumption
  obtain ⟨G', mo⟩ := G.fix [x, dx] h₅ st₅.ok.g hF
  have st₆ : FS ⟨pw, w, (A.under (.builtin "type.__call__" ⟨.ref 360 :: [], []⟩)).deeper (callEnv (initFd (.ref 247) doc pm code) L 254), callEnv (initFd (.ref 247) doc pm code) L 254, G', true⟩ (D :: L :: X) [("headers", raw D), ("self", raw x), ("headers", .none)] [(D, [])] [] [] (sans ⟨h', s.gens, s.drawn, s.toks, s.os⟩ [x, dx]) ⟨h₅, s₄.gens, s₄.drawn, tk, s₄.os⟩ := by
    refine FSt.reglob st₅ mo (fun a ha => ?_) (fun outer e env he L' hL' => ?_)
    · have h1 := hF a ha
      refine ⟨h1, by rw [sans_get, if_pos ha], ?_, rfl⟩
      simp at ha
      rcases ha with rfl | rfl
      · exact nX _ _ hox hxX
      · exact nX _ _ hodx hdX
    · obtain ⟨outer', e', fr⟩ := am.fr
      have e3 : (A.under (.builtin "type.__call__" ⟨.ref 360 :: [], []⟩)).frames = some outer' := e'
      have e2 := Around.frames_deeper (env := callEnv (initFd (.ref 247) doc pm code) L 254) e3
      rw [show ((A.under (.builtin "type.__call__" ⟨.ref 360 :: [], []⟩)).deeper (callEnv (initFd (.ref 247) doc pm code) L 254)).frames = some outer from e] at e2
      cases e2
      rcases List.mem_cons.mp he with z | he
      · subst z
        have : L' = L := by cases hL'; rfl
        rw [this]
        simp only [List.mem_cons, List.not_mem_nil, or_false, not_or]
        exact ⟨(apart _ _ hox).1, (apart _ _ hodx).1⟩
      · obtain ⟨_, L2, o, es, m, f1, _, f3, _⟩ := fr env he
        rw [f1] at hL'; cases hL'
        simp only [List.mem_cons, List.not_mem_nil, or_false, not_or]
        exact ⟨(fun z => by rw [z, Mk.newX] at f3; cases f3), (fun z => by rw [z, Mk.newD] at f3; cases f3)⟩
  have I₆ : G'.top.InstFk x 360 (hdrMap D) := by
    obtain ⟨o, e, z1, z2, z3⟩ := id I₅
    rw [ho₅'] at e; cases e
    refine ⟨o₄, by rw [mo.top, if_pos (by simp)]; exact ho₅', z1, z2, ?_⟩
    rcases z3 with z3 | ⟨d, q1, q2, ⟨od, es, ep, q3, q4⟩, od', q5, q6⟩
    · exact .inl z3
    · rw [q1] at hd₄; cases hd₄
      exact .inr ⟨_, q1, q2, ⟨od, es, ep, by rw [mo.top, if_pos (by simp)]; exact q3, q4⟩, od', by rw [mo.top, if_pos (by simp)]; exact q5, q6⟩
  have hx₆ : G'.top.get? x = some o₄ := by rw [mo.top, if_pos (by simp)]; exact ho₅'
  have fin : ∀ s₈, FS ⟨pw, w, (A.under (.builtin "type.__call__" ⟨.ref 360 :: [], []⟩)).deeper (callEnv (initFd (.ref 247) doc pm code) L 254), callEnv (initFd (.ref 247) doc pm code) L 254, G', true⟩ (D :: L :: X) [("headers", raw D), ("self", raw x), ("headers", .none)] [(D, [])] [] [] (sans ⟨h', s.gens, s.drawn, s.toks, s.os⟩ [x, dx]) s₈ →
      ∃ H hd D m oH, Value.ref x = .ref H ∧ Grow G.top s s₈ ∧ s.heap.get? H = none ∧ s.heap.get? hd = none ∧ s.heap.get? D = none ∧ s₈.heap.InstFk H 360 (hdrMap D) ∧ s₈.heap.get? H = some oH ∧ oH.dict = some hd ∧ IsL s₈.heap D (List.toArray []) m := fun s₈ st₈ => by
    obtain ⟨_, ys, m, hl, ra⟩ := st₈.ok.mu D [] (.head _)
    simp only [RdAll] at ra
    subst ra
    refine ⟨x, dx, D, m, o₄, rfl, ⟨fun b o e => ?_, st₈.grow.gens, st₈.grow.drawn, st₈.grow.os⟩, Mk.newX, Mk.newD, g₀.ext.none (h' := h') ?_, I₆.keeps st₈.ok.g, st₈.ok.g _ _ hx₆, hd₄, hl⟩
    · have hb : b ∉ [x, dx] := by
        simp only [List.mem_cons, List.not_mem_nil, or_false, not_or]
        exact ⟨(fun z => by rw [z, Mk.newX] at e; cases e), (fun z => by rw [z, Mk.newD] at e; cases e)⟩
      exact (st₈.grow.ext b o (by rw [sans_get, if_neg hb]; exact Mk.keeps b o e)).less fun z => mo.sup z hF
    · cases z : h'.get? D with
      | none => rfl
      | some o => rw [g₂.1 _ _ z] at hD0; cases hD0
  refine s_if (S := ⟨pw, w, (A.under (.builtin "type.__call__" ⟨.ref 360 :: [], []⟩)).deeper (callEnv (initFd (.ref 247) doc pm code) L 254), callEnv (initFd (.ref 247) doc pm code) L 254, G', true⟩) st₆ .true (fun _ s₇ st₇ => ?_) (fun z => nomatch z)
  refine s_for_empty st₇ (fun s₈ ok₈ => ?_) fun s₈ st₈ => wpAny_execs_nil (wpAny_execs_nil ⟨rfl, fin s₈ st₈⟩)
  refine (Ev.name (C := cx _ _ _ _ _ _)).use ok₈ fun u s₉ g₉ ok₉ r₉ => ?_
  rw [r₉.raw_inv]
  obtain ⟨_, ys, m, hl, ra⟩ := ok₉.mu D [] (.head _)
  simp only [RdAll] at ra
  subst ra
  refine wpAny_pyIter_list (isList_of hl) (wpAny_pyNext_list_end (ok₉.hand rfl) (i := 0) ⟨_, Heap.get?_push_size _ rfl, rfl, rfl⟩ (isList_of (Heap.get?_push_of_some _ hl)) (by simp) fun h₁ he => ⟨rfl, ?_⟩)
  refine g₉.trans ⟨.of fun b o e => he b o (fun z => ?_) (Heap.get?_push_of_some _ e), rfl, rfl, rfl⟩
  rw [z, get_size] at e; cases e
end Mine
end
section
open PySem PySem.Spec PySem.SeqAt PySem.Calls PyProof.Rows
namespace Mine
/-- a whole number that is not below nought -/
noncomputable abbrev nat (n : Nat) : PyData := .int (n : Int)
theorem Ev.nat {C : Cx} (n : Nat) {k : Nat} {pos : Pos} : Ev C (.Constant (.int (n : Int)) k pos) (nat n) := Ev.int
section
variable {C : Cx} {l r : Expr} {pos : Pos} {a b : Nat}
theorem Ev.addN (hl : Ev C l (Mine.nat a)) (hr : Ev C r (Mine.nat b)) : Ev C (.BinOp l .Add r pos) (Mine.nat (a + b)) := by
  have := Ev.add (pos := pos) hl hr
  rwa [← Int.natCast_add] at this
theorem Ev.mulN (hl : Ev C l (Mine.nat a)) (hr : Ev C r (Mine.nat b)) (ha : Builtin.Int.intBits (a : Int) ≤ 64) : Ev C (.BinOp l .Mult r pos) (Mine.nat (a * b)) := by
  have := Ev.mul (pos := pos) hl hr (IntMulOk.of_left ha)
  rwa [← Int.natCast_mul] at this
theorem Ev.subN (hl : Ev C l (Mine.nat a)) (hr : Ev C r (Mine.nat b)) (h : b ≤ a) : Ev C (.BinOp l .Sub r pos) (Mine.nat (a - b)) := by
  have := Ev.sub (pos := pos) hl hr
  rwa [← Int.ofNat_sub h] at this
theorem Ev.fdivN (hl : Ev C l (Mine.nat a)) (hr : Ev C r (Mine.nat b)) (h0 : b ≠ 0) (hb : b < 1073741824) : Ev C (.BinOp l .FloorDiv r pos) (Mine.nat (a / b)) := by
  have := Ev.fdiv (pos := pos) hl hr (by simpa using h0) (PyProof.noPylong_small (by simpa using hb))
  rwa [show (a : Int).fdiv (b : Int) = ((a / b : Nat) : Int) from (Int.fdiv_eq_ediv_of_nonneg _ (by omega)).trans (Int.natCast_ediv a b).symm] at this
theorem Ev.modN (hl : Ev C l (Mine.nat a)) (hr : Ev C r (Mine.nat b)) (h0 : b ≠ 0) : Ev C (.BinOp l .Mod r pos) (Mine.nat (a % b)) := by
  have := Ev.mod (pos := pos) hl hr (by simpa using h0)
  rwa [show (a : Int).fmod (b : Int) = ((a % b : Nat) : Int) from (Int.fmod_eq_emod_of_nonneg _ (by omega)).trans (Int.natCast_emod a b).symm] at this
theorem Ev.powN (hl : Ev C l (Mine.nat a)) (hr : Ev C r (Mine.nat b)) (hb : b ≤ 1000000) (ha : a < 2 ^ 64) : Ev C (.BinOp l .Pow r pos) (Mine.nat (a ^ b)) := by
  have := Ev.pow (pos := pos) hl hr (by omega) (by omega) (by simpa using ha)
  rw [show ((b : Int).toNat) = b by simp] at this
  rwa [show ((a : Int) ^ b) = ((a ^ b : Nat) : Int) from (Int.natCast_pow a b).symm] at this
/-- the sign at a place -/
noncomputable def chAt (t : Str) (k : Nat) : Nat := (t.cps[k]?).getD 0
theorem Ev.ch {v i : Expr} {x : Str} {k : Nat} (hv : Ev C v (.str x)) (hi : Ev C i (Mine.nat k)) (hk : k < x.cps.size) (hf : k < 2 ^ 62)
    (hs : ∀ o j, subscripted i false o j = operate [o, j] (getItem o j) := by intro _ _; with_unfolding_all rfl) : Ev C (.Subscript v i pos) (.str (chr (chAt x k))) := by
  have : x.cps[k]? = some (chAt x k) := by unfold chAt; rw [Array.getElem?_eq_getElem hk]; rfl
  exact Ev.itemStr hv hi (by omega) (by simpa using this) (by omega) hs
theorem Ev.itemN {v i : Expr} {xs : List PyData} {k : Nat} {d : PyData} (hv : Ev C v (.list xs)) (hi : Ev C i (Mine.nat k)) (hx : xs[k]? = some d) (hf : k < 2 ^ 62)
    (hs : ∀ o j, subscripted i false o j = operate [o, j] (getItem o j) := by intro _ _; with_unfolding_all rfl) : Ev C (.Subscript v i pos) d := Ev.item hv hi (by omega) (by simpa using hx) (by omega) hs
theorem Ev.itemTN {v i : Expr} {xs : List PyData} {k : Nat} {d : PyData} (hv : Ev C v (.tuple xs)) (hi : Ev C i (Mine.nat k)) (hx : xs[k]? = some d) (hf : k < 2 ^ 62)
    (hs : ∀ o j, subscripted i false o j = operate [o, j] (getItem o j) := by intro _ _; with_unfolding_all rfl) : Ev C (.Subscript v i pos) d := Ev.itemT hv hi (by omega) (by simpa using hx) (by omega) hs
end
/-- range(n) -/
noncomputable abbrev nats (n : Nat) : List PyData := (List.range n).map Mine.nat
theorem nats_get {n k : Nat} {d : PyData} (h : (nats n)[k]? = some d) : k < n ∧ d = Mine.nat k := by
  simp only [nats, List.getElem?_map] at h
  obtain ⟨j, hj, rfl⟩ := Option.map_eq_some_iff.mp h
  have hlt := (List.getElem?_eq_some_iff.mp hj).1
  have : j = k := by rw [List.getElem?_eq_some_iff] at hj; obtain ⟨h1, h2⟩ := hj; simpa using h2.symm
  subst this
  exact ⟨by simpa using hlt, rfl⟩
theorem Src.rangeN {C : Cx} {p pos : Pos} {e : Expr} {k : Nat} (hn : NameV C "range" (.type "range")) (he : Ev C e (Mine.nat k)) (hk : k < 2 ^ 62) (hs : starEach [e] C.env = [(false, eval e C.env)] := by rfl) :
    Src C (.Call (.Name "range" p) [e] [] pos) (nats k) := Src.range hn he hk hs
theorem Ev.lenN {C : Cx} {p pos : Pos} {e : Expr} {ds : List PyData} {n : Nat} (hn : NameV C "len" (.builtin "len")) (he : Ev C e (.list ds)) (hd : ds.length = n) (hsz : n < 2 ^ 62) (hs : starEach [e] C.env = [(false, eval e C.env)] := by rfl) :
    Ev C (.Call (.Name "len" p) [e] [] pos) (Mine.nat n) := by
  subst hd; exact Ev.len hn he (by omega) hs
theorem Ev.lenS {C : Cx} {p pos : Pos} {e : Expr} {x : Str} {n : Nat} (hn : NameV C "len" (.builtin "len")) (he : Ev C e (.str x)) (hd : x.length = n) (hsz : n < 2 ^ 62) (hs : starEach [e] C.env = [(false, eval e C.env)] := by rfl) :
    Ev C (.Call (.Name "len" p) [e] [] pos) (Mine.nat n) := by
  subst hd
  exact .call1 hn he with_builtin1 (fun s u ok r => by
    obtain ⟨t, rfl⟩ := r.str_inv
    exact P.len_str (by omega) ⟨.tok _ _, .int_⟩) hs
theorem Ev.strN {C : Cx} {p pos : Pos} {e : Expr} {k : Nat} (hn : NameV C "str" (.type "str")) (he : Ev C e (Mine.nat k)) (hk : k < 1000) (hs : starEach [e] C.env = [(false, eval e C.env)] := by rfl) :
    Ev C (.Call (.Name "str" p) [e] [] pos) (.str (Str.ofString (toString k))) := by
  have := Ev.strOf (pos := pos) (p := p) hn he (by
    show (k : Int).natAbs.log2 < 1920
    have : (k : Int).natAbs = k := by simp
    rw [this]
    have : k.log2 ≤ k := Nat.log2_le_self k
    omega) hs
  exact this
end Mine
end
section
open PySem PySem.Spec PySem.SeqAt PySem.Calls PyProof.Rows
set_option maxRecDepth 100000
namespace Mine
noncomputable def fig (m p : Nat) : Nat := m / 8 ^ (2 - p) % 8
noncomputable def ovr (m p : Nat) : Nat := m / 512 / 2 ^ (2 - p) % 2
noncomputable def tabX (p : Nat) : Str := if p = 2 then "-xTt" else "-xSs"
noncomputable def three (m p : Nat) : List Nat := [chAt "-r" (fig m p / 4), chAt "-w" (fig m p / 2 % 2), chAt (tabX p) (2 * ovr m p + fig m p % 2)]
noncomputable def rowC (m : Nat) : List Nat := chAt "?pc?d?b?-?l?s???" (m / 4096 % 16) :: (List.range 3).flatMap (three m)
noncomputable abbrev dchr (l : List Nat) : List PyData := l.map fun c => .str (chr c)
theorem flatMap_len {m : Nat} : ∀ l : List Nat, (l.flatMap (three m)).length = 3 * l.length
  | [] => rfl
  | a :: l => by simp only [List.flatMap_cons, List.length_append, flatMap_len l, List.length_cons, three, List.length_nil]; omega
theorem rowC_len (m : Nat) : (rowC m).length = 10 := by simp only [rowC, List.length_cons, flatMap_len, List.length_range]

noncomputable abbrev rowFd (doc pm code : Value) : FuncData := topFd 39 "_law_row" doc pm code
theorem row_ok {w : World} {G : Glob} {fa : Addr} {n m : Nat} (pf : PF G) (f : HasFn G fa rowFd) :
    CallOk pw w G (n + 1) fa [nat m] (.list (dchr (rowC m))) := by
  intro A X s vals room am r
  obtain ⟨v, vs', rfl, rv, r'⟩ := r
  simp only [RdAll] at r'; subst r'
  obtain ⟨doc, pm, code, f⟩ := f
  refine s_call (binds := [("mode", v)]) [("mode", nat m)] f rfl room am rfl (by show ∀ x ∈ (defOfStmt (topStmt 39)).2.2.names, x.2 ≠ .cell; decide) rfl ⟨rfl, trivial⟩ ⟨⟨v, rfl, rv, rfl⟩, trivial⟩ fun L s' st room' hLX => ?_
  have hsz : ∀ k : Nat, k ≤ 100 → k ≤ sizeLine := fun k h => Nat.le_trans h (by decide)
  refine s_newlist st (ds := [.str (chr (chAt "?pc?d?b?-?l?s???" (m / 4096 % 16)))]) (.cons (.ch .str (.modN (.fdivN .name (.nat 4096) (by decide) (by decide)) (.nat 16) (by decide)) (by show _ < 16; omega) (by omega)) .nil) (hsz _ (by simp)) ?_
  intro D s₁ hDX hD st₁
  refine s_for (fun d => [("place", d)]) (fun _ => [("signs", raw D), ("mode", nat m)]) (fun k => [(D, dchr (chAt "?pc?d?b?-?l?s???" (m / 4096 % 16) :: (List.range k).flatMap (three m)))]) (fun _ _ => False) st₁
    (Src.walk (Src.rangeN (k := 3) (.blt (pf.blt _) (by boot_fast)) (.nat 3) (by decide))) ⟨rfl, rfl, trivial⟩ (fun _ _ _ => .name) ?_ (fun _ _ _ h => h.elim) ?_
  · intro k d hd F P q s₂ hFX st₂
    obtain ⟨hk, rfl⟩ := nats_get hd
    have fl : fig m k < 8 := Nat.mod_lt _ (by decide)
    have ol : ovr m k < 2 := Nat.mod_lt _ (by decide)
    have p8 : 8 ^ (2 - k) ≠ 0 ∧ 8 ^ (2 - k) < 1073741824 := by
      obtain rfl | rfl | rfl : k = 0 ∨ k = 1 ∨ k = 2 := by omega
      all_goals decide
    have p2 : 2 ^ (2 - k) ≠ 0 ∧ 2 ^ (2 - k) < 1073741824 := by
      obtain rfl | rfl | rfl : k = 0 ∨ k = 1 ∨ k = 2 := by omega
      all_goals decide
    have hfl : ((List.range k).flatMap (three m)).length ≤ 9 := by rw [flatMap_len]; simp; omega
    refine s_assign st₂ (d := nat (fig m k)) (.modN (.fdivN .name (.powN (.nat 8) (.subN (.nat 2) .name (by omega)) (by omega) (by decide)) p8.1 p8.2) (.nat 8) (by decide)) fun s₃ st₃ => ?_
    refine s_assign st₃ (d := nat (ovr m k)) (.modN (.fdivN (.fdivN .name (.nat 512) (by decide) (by decide)) (.powN (.nat 2) (.subN (.nat 2) .name (by omega)) (by omega) (by decide)) p2.1 p2.2) (.nat 2) (by decide)) fun s₄ st₄ => ?_
    refine s_append st₄ (.ch .str (.fdivN .name (.nat 4) (by decide) (by decide)) (by show _ < 2; omega) (by omega)) (hsz _ (by simp only [dchr, List.length_map, List.length_cons, List.length_append, List.length_nil]; omega)) fun s₅ st₅ => ?_
    refine s_append st₅ (.ch .str (.modN (.fdivN .name (.nat 2) (by decide) (by decide)) (.nat 2) (by decide)) (by show _ < 2; omega) (by omega)) (hsz _ (by simp only [dchr, List.length_map, List.length_cons, List.length_append, List.length_nil]; omega)) fun s₆ st₆ => ?_
    refine s_append st₆ (d := .str (chr (chAt (tabX k) (2 * ovr m k + fig m k % 2)))) (.ch (.itemTN (.tuple (.cons .str (.cons .str (.cons .str .nil))) (hsz _ (by simp))) .name ?_ (by omega)) (.addN (.mulN (.nat 2) .name (by decide)) (.modN .name (.nat 2) (by decide))) ?_ (by omega)) (hsz _ (by simp only [dchr, List.length_map, List.length_cons, List.length_append, List.length_nil]; omega)) fun s₇ st₇ => ?_
    · obtain rfl | rfl | rfl : k = 0 ∨ k = 1 ∨ k = 2 := by omega
      all_goals rfl
    · have : (tabX k).cps.size = 4 := by unfold tabX; split <;> rfl
      omega
    refine wpAny_execs_nil ?_
    have := s_less (W := [("signs", raw D), ("mode", nat m)]) st₇ ⟨rfl, rfl, trivial⟩
    simpa [three, dchr, List.range_succ, List.append_assoc] using this
  · intro s₂ st₂
    refine wpAny_execs_nil ?_
    have := s_freeze (x := "signs") st₂ rfl
    refine s_return this .name fun v s' g r => ⟨g, ?_⟩
    refine r.sub fun b hb => ?_
    have : b ≠ D := fun q => hDX (q ▸ .tail _ hb)
    simp [hb, this]
end Mine
end
section
open PySem PySem.Spec PySem.SeqAt PySem.Calls PyProof.Rows
set_option maxRecDepth 100000
namespace Mine
section
variable {prog : Program} {w : World} {A : Around} {E : Value → Shared → Prop} {s : Shared}
theorem nextOf_tuple {it t : Addr} {i : Nat} {items : Array Value} {x : Value} {Q : Value → Shared → Prop} (hit : s.heap.IsTupleIter it t i) (ht : s.heap.IsTuple t items) (hx : items[i]? = some x)
    (hQ : ∀ h', h'.IsTupleIter it t (i + 1) → Heap.SameBut it s.heap h' → Q x { s with heap := h' }) : wpAny (model prog w) A (Builtin.SmallTypes.nextOf (.ref it)) Q E s := by
  obtain ⟨o, ho, hc, hd⟩ := id hit
  obtain ⟨ol, hol, _, nl, hdl⟩ := ht
  unfold Builtin.SmallTypes.nextOf
  refine wpAny_bind (wpAny_callSpecial?_slot (name := Str.ofString "__next__") hit.typeIs F.slot_tuple_iterator_next
    (wpAny_call_entry F.slot_tuple_iterator_next hit.typeIs F.entry_tuple_iterator_next ?_ (F.args_tuple_iterator_next_1 _)))
  show wpAny _ _ (field (.ref it) 0 >>= _) _ _ s
  refine wpAny_bind (wpAny_field ho hd (x := .ref t) rfl ?_)
  show wpAny _ _ (if (Value.ref t == Value.none) = true then _ else _) _ _ s
  rw [if_neg (show ¬ ((Value.ref t == Value.none) = true) from Bool.false_ne_true)]
  show wpAny _ _ (field (.ref it) 1 >>= _) _ _ s
  refine wpAny_bind (wpAny_field ho hd (x := .int i 0) rfl ?_)
  show wpAny _ _ (seqItems? (.ref t) >>= _) _ _ s
  refine wpAny_bind (wpAny_seqItems hol hdl ?_)
  simp only [Int.toNat_natCast, hx]
  refine wpAny_bind (wpAny_setField ho hd (by simp) (wpAny_pure ⟨x, rfl, wpAny_pure (hQ _ ?_ (Heap.SameBut.update ..))⟩))
  exact ⟨_, Heap.get?_update_self _ ho (Obj.isFreed_of_fields (Obj.data_mapFields hd _)), (Obj.cls_mapFields ..).trans hc, by
    rw [Obj.data_mapFields hd]; simp [rawInt]⟩
theorem nextOf_tuple_end {it t : Addr} {i : Nat} {items : Array Value} {Q : Value → Shared → Prop} (hh : A.handled = none) (hit : s.heap.IsTupleIter it t i) (ht : s.heap.IsTuple t items) (hx : items[i]? = none)
    (hE : ∀ h' e, Heap.ExtBut it s.heap h' → (∃ o, h'.get? e = some o ∧ o.cls = .type "StopIteration") → E (.ref e) { s with heap := h' }) : wpAny (model prog w) A (Builtin.SmallTypes.nextOf (.ref it)) Q E s := by
  obtain ⟨o, ho, hc, hd⟩ := id hit
  obtain ⟨ol, hol, _, nl, hdl⟩ := ht
  unfold Builtin.SmallTypes.nextOf
  refine wpAny_bind (wpAny_callSpecial?_slot (name := Str.ofString "__next__") hit.typeIs F.slot_tuple_iterator_next
    (wpAny_call_entry F.slot_tuple_iterator_next hit.typeIs F.entry_tuple_iterator_next ?_ (F.args_tuple_iterator_next_1 _)))
  show wpAny _ _ (field (.ref it) 0 >>= _) _ _ s
  refine wpAny_bind (wpAny_field ho hd (x := .ref t) rfl ?_)
  show wpAny _ _ (if (Value.ref t == Value.none) = true then _ else _) _ _ s
  rw [if_neg (show ¬ ((Value.ref t == Value.none) = true) from Bool.false_ne_true)]
  show wpAny _ _ (field (.ref it) 1 >>= _) _ _ s
  refine wpAny_bind (wpAny_field ho hd (x := .int i 0) rfl ?_)
  show wpAny _ _ (seqItems? (.ref t) >>= _) _ _ s
  refine wpAny_bind (wpAny_seqItems hol hdl ?_)
  simp only [Int.toNat_natCast, hx]
  refine wpAny_bind (wpAny_rule (wpAny_bind (wpAny_setField ho hd (by simp) ?_)))
  show wpAny _ _ (newExc (.type "StopIteration") [] >>= _) _ _ _
  refine wpAny_bind ?_
  simp only [newExc, newTuple]
  refine wpAny_bind (wpAny_newObj_type ?_ (by size_fits))
  refine wpAny_bind (m := firstArgMember _ _) (wpAny_of_eq (a := Value.none) (by first | rfl | (simp only [firstArgMember]; rfl)) ?_)
  refine wpAny_newObj_type ?_ (by size_fits)
  simp only [raiseNew]
  refine wpAny_bind (wpAny_handled ?_)
  rw [show A.in1.handled = none from hh]
  refine wpAny_bind (wpAny_pure (wpAny_throw ?_))
  exact hE _ _ (((Heap.SameBut.update ..).extBut.push _).push _) ⟨_, Heap.get?_push_size _ rfl, rfl⟩
end
theorem draws_tuple {prog : Program} {w : World} {A : Around} (hh : A.handled = none) (it l : Addr) (hne : l ≠ it) (items : Array Value) :
    Draws prog w A it [it, l] items.size (fun i v => items[i]? = some v) (fun i h => h.IsTupleIter it l i ∧ h.IsTuple l items) where
  live := fun _ _ st => let ⟨o, ho, _⟩ := st.1; ⟨o, ho⟩
  frame := fun _ _ _ st hk => ⟨let ⟨o, e, r⟩ := st.1; ⟨o, hk it (by simp) o e, r⟩, let ⟨o, e, r⟩ := st.2; ⟨o, hk l (by simp) o e, r⟩⟩
  item := fun i s Q E hi st hQ => by
    refine nextOf_tuple st.1 st.2 (x := items[i]) (by simp [hi]) fun h' hit' hs' => ?_
    exact hQ _ h' s.toks (by simp [hi]) ⟨hit', st.2.extBut hs'.extBut hne⟩ hs'
  done := fun s Q E st hE => nextOf_tuple_end hh st.1 st.2 (by simp) hE

open AutoSeq1 (wpAny_loadPart')
theorem meets_enum_tuple (l : Addr) (items : Array Value) (n : Nat) :
    Meets (Builtin.«enumerate.__new__» ⟨[.type "enumerate", .ref l], []⟩) (fun _ R s => s.heap.get? l = some { cls := .type "tuple", dict := none, data := .seq items n, slots := #[] } ∧
      R (.ok (.ret (.ref (s.heap.push { cls := .type "tuple_iterator", data := .fields #[.ref l, .int 0 0] }).objs.size)))
        { s with heap := (s.heap.push { cls := .type "tuple_iterator", data := .fields #[.ref l, .int 0 0] }).push { cls := .type "enumerate", data := .fields #[.none, .bool false, .ref s.heap.objs.size, rawInt 0, .none, .none] } }) :=
  .of_wp fun prog w A R s h => by
    obtain ⟨hp, g, d, tk, os⟩ := s; obtain ⟨hl, h⟩ := h
    have hsub := sub_enumerate
    have hL : Heap.IsTuple (Shared.heap ⟨hp, g, d, tk, os⟩) l items := ⟨_, hl, rfl, n, rfl⟩
    wp_walk using wpAny_loadPart' hl
    refine wpAny_stack_any fun st => wpAny_pure ?_
    split
    · rename_i c _ _ _ _ _
      cases (c == Value.type "enumerate")
      · wp_walk using wpAny_loadPart' hl, wpAny_pyIter_tuple hL
        exact ⟨_, rfl, h⟩
      · wp_walk using wpAny_loadPart' hl, wpAny_pyIter_tuple hL
        exact ⟨_, rfl, h⟩
    · wp_walk using wpAny_loadPart' hl, wpAny_pyIter_tuple hL
      exact ⟨_, rfl, h⟩
section
variable {prog : Program} {w : World} {A : Around} {E : Value → Shared → Prop} {s : Shared}
theorem call_enum_tuple {l : Addr} {items : Array Value} {n : Nat} {Q : Value → Shared → Prop} (hl : IsT s.heap l items n)
    (h : ∀ h', IsEnum h' (s.heap.objs.size + 1) s.heap.objs.size 0 .none → h'.IsTupleIter s.heap.objs.size l 0 → h'.objs.size = s.heap.objs.size + 2 →
      (∀ b o, s.heap.get? b = some o → h'.get? b = some o) → Q (.ref (s.heap.objs.size + 1)) { s with heap := h' }) :
    wpAny (model prog w) A (call (.type "enumerate") [.ref l]) Q E s := by
  refine callType_new F.called_enumerate (by decide) (F.typeCall_enumerate_1 _) (F.newCall_enumerate_1 _) (fun obj => F.args_object_init_2 obj _) F.entry_enumerate_new
    (meets_enum_tuple l items n) ⟨hl, ?_⟩
  have hz : (s.heap.push { cls := .type "tuple_iterator", data := .fields #[.ref l, .int 0 0] }).objs.size = s.heap.objs.size + 1 := Heap.size_push ..
  show _ ∧ _
  rw [hz]
  have he : IsEnum ((s.heap.push { cls := .type "tuple_iterator", data := .fields #[.ref l, .int 0 0] }).push
      { cls := .type "enumerate", data := .fields #[.none, .bool false, .ref s.heap.objs.size, rawInt 0, .none, .none] }) (s.heap.objs.size + 1) s.heap.objs.size 0 .none := by
    have := Heap.get?_push_size (s.heap.push { cls := .type "tuple_iterator", data := .fields #[.ref l, .int 0 0] })
      (o := { cls := .type "enumerate", data := .fields #[.none, .bool false, .ref s.heap.objs.size, rawInt 0, .none, .none] }) rfl
    rw [hz] at this; exact this
  refine ⟨⟨_, he, rfl⟩, h _ he ⟨_, Heap.get?_push_of_some _ (Heap.get?_push_size _ rfl), rfl, rfl⟩ (by rw [Heap.size_push, hz]) fun b o x => Heap.get?_push_of_some _ (Heap.get?_push_of_some _ x)⟩
end

/-- enumerate over a tuple -/
noncomputable abbrev enums (ds : List PyData) : List PyData := ds.mapIdx fun i d => .tuple [nat i, d]
theorem Walk.enumT {prog : Program} {w : World} {A : Around} (hh : A.handled = none) {J I l : Addr} {all : List PyData} {elts : List Expr} {x1} {p : Pos} (hne : J ≠ I) :
    Walk prog w A J [J, I] (fun k h => (∃ old, IsEnum h J I k old) ∧ h.IsTupleIter I l k) (enums all) (.ref l, .tuple all) (.Tuple elts x1 p) where
  loc := fun k h h' ⟨⟨old, e⟩, o, e', r⟩ hk => ⟨⟨old, hk J (.head _) _ e⟩, o, hk I (.tail _ (.head _)) o e', r⟩
  fld := fun k h ⟨⟨old, e⟩, o, e', r, d⟩ b hb => by
    simp at hb
    rcases hb with rfl | rfl
    · exact ⟨_, _, e, rfl⟩
    · exact ⟨o, _, e', d⟩
  nx := fun X k d s hd hF hX hP rq Q hQ => by
    obtain ⟨a, vs, n, q, hl, hL, r⟩ := rq.tuple_inv
    cases q
    simp only [enums, List.getElem?_mapIdx, Option.map_eq_some_iff] at hd
    obtain ⟨d', hd', rfl⟩ := hd
    obtain ⟨v, hx, rv⟩ := r.get hd'
    have hlt := (List.getElem?_eq_some_iff.mp hx).1
    obtain ⟨⟨old, he⟩, hit⟩ := hP
    have hJX : J ∈ X := hF J (.head _)
    have hIX : I ∈ X := hF I (.tail _ (.head _))
    have hlI : l ≠ I := fun q => hl (q ▸ hIX)
    have hlJ : l ≠ J := fun q => hl (q ▸ hJX)
    have T : s.heap.IsTuple l vs.toArray := ⟨_, hL, rfl, n, rfl⟩
    refine wpAny_pyNext_enum_itemD (draws_tuple (A := A.in1) hh I l hlI vs.toArray) he ⟨hit, T⟩ (by simpa using hlt) hne (by simp [hne, Ne.symm hlJ]) fun x h' tk hPx ho hst hT hsz hk => ⟨_, rfl, ?_⟩
    have hxv : x = v := by simp at hPx; rw [hx] at hPx; cases hPx; rfl
    subst hxv
    refine wpAny_letOwnedTupleGo_enum ho fun h₂ he₂ hs₂ => ?_
    have hJlt : J < s.heap.objs.size := Heap.lt_size he
    have hTJ : s.heap.objs.size ≠ J := Nat.ne_of_gt hJlt
    have keep : ∀ b o, b ∉ [J, I] → s.heap.get? b = some o → h₂.get? b = some o := fun b o hb e => by
      simp at hb
      exact (hs₂.2 b hb.1).trans (hk b o hb.1 hb.2 e)
    refine hQ _ _ ⟨keep, rfl, rfl, rfl⟩ ⟨⟨x, by simpa using he₂⟩, ?_⟩ ?_
    · obtain ⟨o, e, z⟩ := hst.1
      exact ⟨o, (hs₂.2 I (Ne.symm hne)).trans e, z⟩
    · have hnX : s.heap.objs.size ∉ X := fun q => by obtain ⟨o, e⟩ := hX _ q; rw [get_size] at e; cases e
      refine .tuple_ (vs := [.int k tk, x]) (n := 0) hnX ((hs₂.2 _ hTJ).trans hT) (.cons .int_ (.one ?_))
      exact rv.mono fun b o hb e => ⟨hb, keep b o (by simp; exact ⟨fun q => hb (q ▸ hJX), fun q => hb (q ▸ hIX)⟩) e⟩
  stop := fun X s hh' hP rq => by
    obtain ⟨a, vs, n, q, hl, hL, r⟩ := rq.tuple_inv
    cases q
    have hlen := r.length
    obtain ⟨⟨old, he⟩, hit⟩ := hP
    have hlI : l ≠ I := fun q => by
      obtain ⟨o, e, c, _⟩ := hit
      rw [← q] at e; have := hL.symm.trans e; cases this; simp at c
    have e1 : (enums all).length = vs.toArray.size := by simp [hlen]
    rw [e1] at hit
    exact wpAny_pyNext_enum_endD (draws_tuple (A := A.in1) hh I l hlI vs.toArray) he ⟨hit, _, hL, rfl, n, rfl⟩ fun h' hx => ⟨rfl, turns_of (n := s.toks) fun b o hb e => hx b o (by simp at hb; exact hb.2) e⟩
theorem Srcw.enumT {C : Cx} {ep pos p : Pos} {e : Expr} {ds : List PyData} {elts : List Expr} {x1} (hn : NameV C "enumerate" (.type "enumerate")) (h : Ev C e (.tuple ds)) (hcalm : C.calm = true) (hs : starEach [e] C.env = [(false, eval e C.env)] := by rfl) :
    Srcw C (.Call (.Name "enumerate" ep) [e] [] pos) (.Tuple elts x1 p) (enums ds) := fun s ok => by
  refine Call_Name1 (hn s ep _ _ ok (with_type1 _ _ _ _ (h.use ok fun u s₁ g₁ ok₁ r => ?_))) hs
  obtain ⟨a, vs, n, rfl, ha, hl, ra⟩ := r.tuple_inv
  refine call_enum_tuple hl fun h' he hit hsz hk => wpAny_pyIter_enum he ?_
  have g₂ : Grow C.G.top s₁ { s₁ with heap := h' } := .heap s₁ hk
  have n1 : s₁.heap.get? s₁.heap.objs.size = none := get_size _
  have n2 : s₁.heap.get? (s₁.heap.objs.size + 1) = none := Heap.get?_none_of_le (Nat.le_succ _)
  refine ⟨_, [s₁.heap.objs.size + 1, s₁.heap.objs.size], _, (.ref a, .tuple ds), rfl, fun b hb => ?_, by simp, g₁.trans g₂, Walk.enumT (ok.hand hcalm) (Nat.succ_ne_self _), ⟨⟨_, he⟩, hit⟩, .tuple_ ha (hk _ _ hl) (ra.ext g₂.ext)⟩
  simp at hb
  rcases hb with rfl | rfl
  · exact g₁.ext.none n2
  · exact g₁.ext.none n1
end Mine
end
section
open PySem PySem.Spec PySem.SeqAt PySem.Calls PyProof.Rows
set_option maxRecDepth 100000
namespace Mine
noncomputable def fmRow (row : List (Nat × Nat)) : List PyData := row.map fun p => .tuple [nat p.1, .str (chr p.2)]
noncomputable def fmD : List PyData := fmTab.map fun row => .tuple (fmRow row)
structure PF2 (G : Glob) : Prop extends PF G where
  gTab : (Str.ofString "_filemode_table", Value.ref 209) ∈ G.globs
  rTab : Rd [] G.top (.tuple fmD) (.ref 209)
  gIfmt : (Str.ofString "S_IFMT", Value.ref 176) ∈ G.globs
  fIfmt : HasFn G 176 (topFd 9 "S_IFMT")
  gFm : (Str.ofString "filemode", Value.ref 216) ∈ G.globs
  fFm : HasFn G 216 (topFd 30 "filemode")
  gModes : (Str.ofString "_law_modes", Value.ref 371) ∈ G.globs
  fModes : HasFn G 371 (topFd 38 "_law_modes")
  gRow : (Str.ofString "_law_row", Value.ref 378) ∈ G.globs
  fRow : HasFn G 378 (topFd 39 "_law_row")
  gTable : (Str.ofString "_law_table", Value.ref 385) ∈ G.globs
  fTable : HasFn G 385 (topFd 40 "_law_table")
  gMeet : (Str.ofString "_law_meet", Value.ref 392) ∈ G.globs
  fMeet : HasFn G 392 (topFd 41 "_law_meet")
  gStrike : (Str.ofString "_law_strike", Value.ref 399) ∈ G.globs
  fStrike : HasFn G 399 (topFd 42 "_law_strike")
  gAnswer : (Str.ofString "_law_answer", Value.ref 404) ∈ G.globs
  fAnswer : HasFn G 404 (topFd 43 "_law_answer")
  gCount : (Str.ofString "_count_diff_all_purpose", Value.ref 169) ∈ G.globs
  fCount : HasFn G 169 (topFd 7 "_count_diff_all_purpose")
theorem PF2.more {G G' : Glob} {F : List Addr} {h : Heap} (p : PF2 G) (m : Glob.More G G' F h) (hF : ∀ a ∈ F, G.top.get? a = none) : PF2 G' := by
  have k : ∀ b o, G.top.get? b = some o → G'.top.get? b = some o := fun b o e => m.sub hF e
  exact ⟨p.toPF.more m hF, m.globs ▸ p.gTab, p.rTab.mono fun b o hb e => ⟨hb, k b o e⟩, m.globs ▸ p.gIfmt, p.fIfmt.more m hF, m.globs ▸ p.gFm, p.fFm.more m hF, m.globs ▸ p.gModes, p.fModes.more m hF, m.globs ▸ p.gRow, p.fRow.more m hF, m.globs ▸ p.gTable, p.fTable.more m hF, m.globs ▸ p.gMeet, p.fMeet.more m hF, m.globs ▸ p.gStrike, p.fStrike.more m hF, m.globs ▸ p.gAnswer, p.fAnswer.more m hF, m.globs ▸ p.gCount, p.fCount.more m hF⟩

theorem bitAndN (a b : Nat) : Builtin.bitAnd (a : Int) (b : Int) = ((a &&& b : Nat) : Int) := by simp [Builtin.bitAnd]
noncomputable def xorN (a b : Nat) : Nat := (a ||| b) - (a &&& b)
theorem bitXorN (a b : Nat) : Builtin.bitXor (a : Int) (b : Int) = ((xorN a b : Nat) : Int) := by
  have h1 : (a &&& b) ≤ (a ||| b) := Nat.le_trans Nat.and_le_left Nat.left_le_or
  have h2 : Builtin.bitOr (a : Int) (b : Int) = ((a ||| b : Nat) : Int) := by
    unfold Builtin.bitOr Builtin.bitAnd Builtin.bitNot
    have d1 : decide (0 ≤ -(a : Int) - 1) = false := decide_eq_false (by omega)
    have d2 : decide (0 ≤ -(b : Int) - 1) = false := decide_eq_false (by omega)
    simp only [d1, d2]
    have e1 : (-(-(a : Int) - 1) - 1).toNat = a := by omega
    have e2 : (-(-(b : Int) - 1) - 1).toNat = b := by omega
    rw [e1, e2]; omega
  unfold Builtin.bitXor xorN
  rw [h2, bitAndN, Int.ofNat_sub h1]
section
variable {C : Cx} {l r : Expr} {pos : Pos} {a b : Nat}
theorem Ev.andN (hl : Ev C l (Mine.nat a)) (hr : Ev C r (Mine.nat b)) : Ev C (.BinOp l .BitAnd r pos) (Mine.nat (a &&& b)) := by
  have := Ev.and (pos := pos) hl hr
  rwa [bitAndN] at this
theorem Ev.xorN (hl : Ev C l (Mine.nat a)) (hr : Ev C r (Mine.nat b)) : Ev C (.BinOp l .BitXor r pos) (Mine.nat (Mine.xorN a b)) := by
  have := Ev.xor (pos := pos) hl hr
  rwa [bitXorN] at this
theorem Cmp.eqN : Cmp C .Eq (Mine.nat a) (Mine.nat b) (a == b) := fun s u v ok hu hv Q E h => by
  obtain ⟨t, rfl⟩ := hu.int_inv; obtain ⟨t', rfl⟩ := hv.int_inv
  have e : decide ((a : Int) = (b : Int)) = (a == b) := by
    rw [Bool.eq_iff_iff]; simp; exact ⟨fun h => by exact_mod_cast h, fun h => by rw [h]⟩
  refine eq_int ?_
  first
    | exact e ▸ h s.toks
    | (have := h s.toks; rw [← e] at this; exact this)
end
theorem ifmt_ok {w : World} {G : Glob} {n m : Nat} (pf : PF2 G) : CallOk pw w G (n + 1) 176 [nat m] (nat (m &&& 61440)) := by
  intro A X s vals room am r
  obtain ⟨v, vs', rfl, rv, r'⟩ := r
  simp only [RdAll] at r'; subst r'
  obtain ⟨doc, pm, code, f⟩ := pf.fIfmt
  refine s_call (binds := [("mode", v)]) [("mode", nat m)] f rfl room am rfl (by show ∀ x ∈ (defOfStmt (topStmt 9)).2.2.names, x.2 ≠ .cell; decide) rfl ⟨rfl, trivial⟩ ⟨⟨v, rfl, rv, rfl⟩, trivial⟩ fun L s' st room' hLX => ?_
  refine s_doc st fun s₁ st₁ => ?_
  exact s_return st₁ (.andN .name (.nat 61440)) fun v s' g r => ⟨g, r.sub fun b hb => .tail _ hb⟩
end Mine
end
section
open PySem PySem.Spec PySem.SeqAt PySem.Calls PyProof.Rows
set_option maxRecDepth 100000
namespace Mine
noncomputable def fmHit (m i : Nat) (p : Nat × Nat) : Bool := if i = 0 then m &&& 61440 == p.1 else m &&& p.1 == p.1
noncomputable def fmSign (m i : Nat) (row : List (Nat × Nat)) : Nat := match row.find? (fmHit m i) with
  | some p => p.2
  | none => if i = 0 then 63 else 45
noncomputable def fmC (m : Nat) : List Nat := fmTab.mapIdx (fmSign m)
theorem fmC_len (m : Nat) : (fmC m).length = 10 := by simp [fmC, fmTab]
theorem glue_fold : ∀ (l : List Nat) (acc : Array Nat), (l.map chr).foldl (fun acc p => acc ++ (Str.ofString "").cps ++ p.cps) acc = acc ++ l.toArray
  | [], acc => by simp
  | a :: l, acc => by
    rw [List.map_cons, List.foldl_cons, glue_fold l]
    apply Array.toList_inj.mp
    have e : (Str.ofString "").cps = #[] := rfl
    simp [e]
theorem glue_chr (l : List Nat) : Txt.join "" (l.map chr) = ⟨l.toArray⟩ := by
  unfold Txt.join
  cases l with
  | nil => rfl
  | cons a l =>
    show (⟨(l.map chr).foldl (fun acc p => acc ++ (Str.ofString "").cps ++ p.cps) (chr a).cps⟩ : Str) = _
    rw [glue_fold]
    congr 1
    apply Array.toList_inj.mp
    simp

theorem find_none_take {m i : Nat} {row : List (Nat × Nat)} {k : Nat} {p : Nat × Nat} (h : ∀ q ∈ row.take k, fmHit m i q = false) (hp : row[k]? = some p) (ht : fmHit m i p = false) : ∀ q ∈ row.take (k + 1), fmHit m i q = false := by
  intro q hq
  rw [List.take_add_one, hp] at hq
  simp at hq
  rcases hq with hq | rfl
  · exact h q hq
  · exact ht
theorem find_here {m i : Nat} {row : List (Nat × Nat)} {k : Nat} {p : Nat × Nat} (h : ∀ q ∈ row.take k, fmHit m i q = false) (hp : row[k]? = some p) (ht : fmHit m i p = true) : fmSign m i row = p.2 := by
  have : row.find? (fmHit m i) = some p := by
    rw [← List.take_append_drop k row, List.find?_append]
    have h1 : (row.take k).find? (fmHit m i) = none := List.find?_eq_none.mpr fun q hq => by simp [h q hq]
    have h2 : row.drop k = p :: row.drop (k + 1) := by
      have hlt := (List.getElem?_eq_some_iff.mp hp).1
      rw [List.drop_eq_getElem_cons hlt, (List.getElem?_eq_some_iff.mp hp).2]
    rw [h1, h2]; simp [ht]
  simp [fmSign, this]
theorem find_nowhere {m i : Nat} {row : List (Nat × Nat)} (h : ∀ q ∈ row.take row.length, fmHit m i q = false) : fmSign m i row = if i = 0 then 63 else 45 := by
  have : row.find? (fmHit m i) = none := List.find?_eq_none.mpr fun q hq => by simp [h q (by simpa using hq)]
  simp [fmSign, this]

theorem fm_ok {w : World} {G : Glob} {n m : Nat} (pf : PF2 G) : CallOk pw w G (n + 2) 216 [nat m] (.str ⟨(fmC m).toArray⟩) := by
  intro A X s vals room am r
  obtain ⟨v, vs', rfl, rv, r'⟩ := r
  simp only [RdAll] at r'; subst r'
  obtain ⟨doc, pm, code, f⟩ := pf.fFm
  obtain ⟨_, _, _, fI⟩ := id pf.fIfmt
  have hsz : ∀ k : Nat, k ≤ 100 → k ≤ sizeLine := fun k h => Nat.le_trans h (by decide)
  refine s_call (binds := [("mode", v)]) [("mode", nat m)] f rfl room am rfl (by show ∀ x ∈ (defOfStmt (topStmt 30)).2.2.names, x.2 ≠ .cell; decide) rfl ⟨rfl, trivial⟩ ⟨⟨v, rfl, rv, rfl⟩, trivial⟩ fun L s' st room' hLX => ?_
  refine s_doc st fun s₁ st₁ => ?_
  refine s_newlist st₁ .nil (hsz _ (by simp)) fun D s₂ hDX hD st₂ => ?_
  refine s_for (ds := enums fmD) (fun d => match d with | .tuple [i, t] => [("table", t), ("index", i)] | _ => []) (fun _ => [("perm", raw D), ("mode", nat m)]) (fun k => [(D, dchr ((fmC m).take k))]) (fun _ _ => False) st₂
    (.enumT (.blt (pf.blt _) (by boot_fast)) (.glob pf.gTab pf.rTab) rfl) ⟨rfl, rfl, trivial⟩ (fun k d hd => ?_) ?_ (fun _ _ _ h => h.elim) ?_
  · simp only [enums, List.getElem?_mapIdx, Option.map_eq_some_iff] at hd
    obtain ⟨d', hd', rfl⟩ := hd
    exact .pair
  · intro i d hd F P q s₃ hFX st₃
    simp only [enums, List.getElem?_mapIdx, Option.map_eq_some_iff] at hd
    obtain ⟨d', hd', rfl⟩ := hd
    simp only [fmD, List.getElem?_map, Option.map_eq_some_iff] at hd'
    obtain ⟨row, hrow, rfl⟩ := hd'
    have hi : i < 10 := by have := (List.getElem?_eq_some_iff.mp hrow).1; simpa [fmTab] using this
    have hsign : (fmC m)[i]? = some (fmSign m i row) := by simp [fmC, hrow]
    have htake : (fmC m).take (i + 1) = (fmC m).take i ++ [fmSign m i row] := by rw [List.take_add_one, hsign]; rfl
    have hlen : ((fmC m).take i).length ≤ 10 := by simp [fmC_len]; omega
    have hap : ∀ c, dchr ((fmC m).take i) ++ [.str (chr c)] = dchr ((fmC m).take i ++ [c]) := fun c => by simp [dchr]
    refine s_forJ (ds := fmRow row) (fun d => match d with | .tuple [b, c] => [("char", c), ("bit", b)] | _ => []) (fun _ => [("table", .tuple (fmRow row)), ("index", nat i), ("perm", raw D), ("mode", nat m)]) (fun _ => [(D, dchr ((fmC m).take i))])
      (fun V' M' => V' = [(Str.ofString "perm", raw D), (Str.ofString "mode", nat m)] ∧ M' = [(D, dchr ((fmC m).take (i + 1)))]) (fun k => ∀ p ∈ row.take k, fmHit m i p = false) (by simp) st₃ (.tuple .name fun _ _ => .inr ⟨_, _, _, rfl⟩) ⟨rfl, rfl, rfl, rfl, trivial⟩ (fun k d hd => ?_) ?_ ?_ ?_
    · simp only [fmRow, List.getElem?_map, Option.map_eq_some_iff] at hd
      obtain ⟨p, hp, rfl⟩ := hd
      exact .pair
    · intro k d hd hJ F' P' q' s₄ hFX' st₄
      simp only [fmRow, List.getElem?_map, Option.map_eq_some_iff] at hd
      obtain ⟨p, hp, rfl⟩ := hd
      refine s_if st₄ (.cmp .name (.nat 0) .eqN) (fun hb s₅ st₅ => ?_) (fun hb s₅ st₅ => ?_)
      · have hi0 : i = 0 := by simpa using hb
        refine s_if st₅ (.cmp (.call (.glob pf.gIfmt) (.cons .name .nil) fI (ifmt_ok pf) room') .name .eqN) (fun hb' s₆ st₆ => ?_) (fun hb' s₆ st₆ => ?_)
        · have ht : fmHit m i p = true := by unfold fmHit; rw [if_pos hi0]; exact hb'
          refine s_append st₆ (d := .str (chr p.2)) .name (hsz _ (by simp only [dchr, List.length_map]; omega)) fun s₇ st₇ => ?_
          rw [hap, ← find_here hJ hp ht, ← htake] at st₇
          exact wpAny_execs_cons (wpAny_Break ⟨_, _, ⟨rfl, rfl⟩, s_less st₇ ⟨rfl, rfl, trivial⟩⟩)
        · have ht : fmHit m i p = false := by unfold fmHit; rw [if_pos hi0]; exact hb'
          exact wpAny_execs_nil (wpAny_execs_nil (wpAny_execs_nil ⟨find_none_take hJ hp ht, s_less st₆ ⟨rfl, rfl, rfl, rfl, trivial⟩⟩))
      · have hi0 : i ≠ 0 := by simpa using hb
        refine s_if st₅ (.cmp (.andN .name .name) .name .eqN) (fun hb' s₆ st₆ => ?_) (fun hb' s₆ st₆ => ?_)
        · have ht : fmHit m i p = true := by unfold fmHit; rw [if_neg hi0]; exact hb'
          refine s_append st₆ (d := .str (chr p.2)) .name (hsz _ (by simp only [dchr, List.length_map]; omega)) fun s₇ st₇ => ?_
          rw [hap, ← find_here hJ hp ht, ← htake] at st₇
          exact wpAny_execs_cons (wpAny_Break ⟨_, _, ⟨rfl, rfl⟩, s_less st₇ ⟨rfl, rfl, trivial⟩⟩)
        · have ht : fmHit m i p = false := by unfold fmHit; rw [if_neg hi0]; exact hb'
          exact wpAny_execs_nil (wpAny_execs_nil (wpAny_execs_nil ⟨find_none_take hJ hp ht, s_less st₆ ⟨rfl, rfl, rfl, rfl, trivial⟩⟩))
    · rintro V' M' s₄ ⟨rfl, rfl⟩ st₄
      exact wpAny_execs_nil st₄
    · intro hJ s₄ st₄
      have hs := find_nowhere (m := m) (i := i) (row := row) (by simpa [fmRow] using hJ)
      refine s_if st₄ (.cmp .name (.nat 0) .eqN) (fun hb s₅ st₅ => ?_) (fun hb s₅ st₅ => ?_)
      · have hi0 : i = 0 := by simpa using hb
        rw [if_pos hi0] at hs
        refine s_append st₅ (d := .str (chr 63)) .str (hsz _ (by simp only [dchr, List.length_map]; omega)) fun s₆ st₆ => ?_
        rw [hap, ← hs, ← htake] at st₆
        exact wpAny_execs_nil (wpAny_execs_nil (wpAny_execs_nil (s_less st₆ ⟨rfl, rfl, trivial⟩)))
      · have hi0 : i ≠ 0 := by simpa using hb
        rw [if_neg hi0] at hs
        refine s_append st₅ (d := .str (chr 45)) .str (hsz _ (by simp only [dchr, List.length_map]; omega)) fun s₆ st₆ => ?_
        rw [hap, ← hs, ← htake] at st₆
        exact wpAny_execs_nil (wpAny_execs_nil (wpAny_execs_nil (s_less st₆ ⟨rfl, rfl, trivial⟩)))
  · intro s₃ st₃
    refine wpAny_execs_nil ?_
    have hl : (enums fmD).length = 10 := by simp [enums, fmD, fmTab]
    rw [hl, show (fmC m).take 10 = fmC m from List.take_of_length_le (by rw [fmC_len]; exact Nat.le_refl _)] at st₃
    have := s_freeze (x := "perm") st₃ rfl
    have e1 : dchr (fmC m) = ((fmC m).map chr).map PyData.str := by simp [dchr]
    rw [e1] at this
    refine s_return this (d := .str (Txt.join "" ((fmC m).map chr))) (.join (ys := (fmC m).map chr) .name (by decide) ?_) fun v s' g r => ⟨g, ?_⟩
    · have : ∀ l : List Nat, ((l.map chr).map (·.length)).sum = l.length := fun l => by
        induction l with
        | nil => rfl
        | cons a l ih => simp only [List.map_cons, List.sum_cons, ih, List.length_cons]; show 1 + l.length = _; omega
      rw [this, List.length_map, fmC_len]; decide
    · rw [glue_chr] at r
      refine r.sub fun b hb => ?_
      have : b ≠ D := fun q => hDX (q ▸ .tail _ hb)
      simp [hb, this]
end Mine
end
section
open PySem PySem.Spec PySem.SeqAt PySem.Calls PyProof.Rows
set_option maxRecDepth 100000
namespace Mine
noncomputable abbrev dnat (l : List Nat) : List PyData := l.map nat
noncomputable def addMode (ms : List Nat) (x : Nat) : List Nat := ms ++ [if x % 2 = 0 then x / 2 else xorN (ms.getLastD 0) (2 ^ (x / 2 % 32))]
noncomputable def modesOf (l : List Nat) : List Nat := (l.take 2).foldl addMode [35309, 35245, 16832]
theorem addMode_len (ms : List Nat) (x : Nat) : (addMode ms x).length = ms.length + 1 := by simp [addMode]
theorem foldMode_len : ∀ (l ms : List Nat), (l.foldl addMode ms).length = ms.length + l.length
  | [], ms => rfl
  | x :: l, ms => by rw [List.foldl_cons, foldMode_len l, addMode_len]; simp; omega
theorem modesOf_len (l : List Nat) : (modesOf l).length = 3 + min 2 l.length := by rw [modesOf, foldMode_len]; simp
theorem foldMode_ne (l ms : List Nat) (h : ms ≠ []) : l.foldl addMode ms ≠ [] := fun q => by
  have := congrArg List.length q
  rw [foldMode_len] at this
  cases ms with
  | nil => exact h rfl
  | cons => simp at this

theorem dnat_get {l : List Nat} {k n : Nat} (h : l[k]? = some n) : (dnat l)[k]? = some (nat n) := by simp [h]
section
variable {C : Cx} {pos : Pos}
/-- an item of a list of the call's own -/
theorem Ev.itemM {v i : Expr} {D : Addr} {ds : List PyData} {k : Nat} {d : PyData} (hv : Ev C v (raw D)) (hm : (D, ds) ∈ C.muts) (hi : Ev C i (Mine.nat k)) (hx : ds[k]? = some d) (hf : k < 2 ^ 62)
    (hs : ∀ o j, subscripted i false o j = operate [o, j] (getItem o j) := by intro _ _; with_unfolding_all rfl) : Ev C (.Subscript v i pos) d := fun s ok => by
  refine Subscript_ (hv.use ok fun u s₁ g₁ ok₁ r₁ => hi.use ok₁ fun w s₂ g₂ ok₂ r₂ => ?_)
  rw [r₁.raw_inv]
  obtain ⟨_, ys, n, hl, ra⟩ := ok₂.mu D ds hm
  obtain ⟨t, rfl⟩ := r₂.int_inv
  obtain ⟨y, hy, ry⟩ := ra.get hx
  exact tail_any (isList_of hl).typeIs slot_list_getitem.lookup (wpAny_getItem_list (isList_of hl) (by omega) (by omega) (by simpa using hy) ⟨g₁.trans g₂, ry⟩) (hs _ _)
theorem Ev.lastM {v : Expr} {up cp : Pos} {ck : Nat} {D : Addr} {ds : List PyData} {d : PyData} (hv : Ev C v (raw D)) (hm : (D, ds) ∈ C.muts) (hd : ds.getLast? = some d) :
    Ev C (.Subscript v (.UnaryOp .USub (.Constant (.int 1) ck cp) up) pos) d := fun s ok => by
  have hi : Ev C (.UnaryOp .USub (.Constant (.int 1) ck cp) up) (.int (-1)) := fun s ok => wpAny_UnaryOp (Ev.int.use ok fun u s₁ g₁ ok₁ r => by
    obtain ⟨t, rfl⟩ := r.int_inv
    exact PyProof.Rows.neg_int ⟨g₁.trans (.tok _ _), .int_⟩)
  refine Subscript_ (hv.use ok fun u s₁ g₁ ok₁ r₁ => hi.use ok₁ fun w s₂ g₂ ok₂ r₂ => ?_)
  rw [r₁.raw_inv]
  obtain ⟨_, ys, n, hl, ra⟩ := ok₂.mu D ds hm
  obtain ⟨t, rfl⟩ := r₂.int_inv
  have hlen := ra.length
  rw [List.getLast?_eq_getElem?] at hd
  have hne : 0 < ds.length := by
    cases ds with
    | nil => simp at hd
    | cons => simp
  obtain ⟨y, hy, ry⟩ := ra.get hd
  refine tail_any (isList_of hl).typeIs slot_list_getitem.lookup (wpAny_getItem_list_neg (isList_of hl) (by decide) (by simp; omega) (by decide) (x := y) ?_ ⟨g₁.trans g₂, ry⟩) (by with_unfolding_all rfl)
  have : ((-1 : Int) + ys.toArray.size).toNat = ds.length - 1 := by simp; omega
  rw [this]; simpa using hy
end

theorem modes_ok {w : World} {G : Glob} {n : Nat} {l : List Nat} (pf : PF2 G) (hl : l.length ≤ 100) : CallOk pw w G (n + 1) 371 [.list (dnat l)] (.list (dnat (modesOf l))) := by
  intro A X s vals room am r
  obtain ⟨v, vs', rfl, rv, r'⟩ := r
  simp only [RdAll] at r'; subst r'
  obtain ⟨doc, pm, code, f⟩ := pf.fModes
  have hsz : ∀ k : Nat, k ≤ 100 → k ≤ sizeLine := fun k h => Nat.le_trans h (by decide)
  refine s_call (binds := [("numbers", v)]) [("numbers", .list (dnat l))] f rfl room am rfl (by show ∀ x ∈ (defOfStmt (topStmt 38)).2.2.names, x.2 ≠ .cell; decide) rfl ⟨rfl, trivial⟩ ⟨⟨v, rfl, rv, rfl⟩, trivial⟩ fun L s' st room' hLX => ?_
  refine s_newlist st (ds := dnat [35309, 35245, 16832]) (.cons (.nat 35309) (.cons (.nat 35245) (.cons (.nat 16832) .nil))) (hsz _ (by simp)) fun D s₁ hDX hD st₁ => ?_
  refine s_for (ds := (dnat l).take 2) (fun d => [("x", d)]) (fun _ => [("modes", raw D), ("numbers", .list (dnat l))]) (fun k => [(D, dnat (((l.take 2).take k).foldl addMode [35309, 35245, 16832]))]) (fun _ _ => False) st₁
    (Src.walk (.list (.upto .name (.nat 2) (hsz _ (by simpa using hl))))) ⟨rfl, rfl, trivial⟩ (fun _ _ _ => .name) ?_ (fun _ _ _ h => h.elim) ?_
  · intro k d hd F P q s₂ hFX st₂
    have hd' : (dnat (l.take 2))[k]? = some d := by simpa [dnat, List.map_take] using hd
    simp only [dnat, List.getElem?_map, Option.map_eq_some_iff] at hd'
    obtain ⟨x, hx, rfl⟩ := hd'
    have hk : k < 2 := by have := (List.getElem?_eq_some_iff.mp hx).1; simp at this; omega
    have e1 : ((l.take 2).take (k + 1)).foldl addMode [35309, 35245, 16832] = addMode (((l.take 2).take k).foldl addMode [35309, 35245, 16832]) x := by
      rw [List.take_add_one, hx, List.foldl_append]; rfl
    generalize hms : ((l.take 2).take k).foldl addMode [35309, 35245, 16832] = ms at st₂ e1
    have hne : ms ≠ [] := hms ▸ foldMode_ne _ _ (by simp)
    have hml : ms.length ≤ 5 := by rw [← hms, foldMode_len]; simp; omega
    have hlast : (dnat ms).getLast? = some (nat (ms.getLastD 0)) := by
      rw [List.getLast?_map]
      cases ms with
      | nil => exact absurd rfl hne
      | cons a r => simp [List.getLast?_eq_some_getLast, List.getLastD_eq_getLast?]
    refine s_append st₂ (d := nat (if x % 2 = 0 then x / 2 else xorN (ms.getLastD 0) (2 ^ (x / 2 % 32)))) (.ite (c := (x % 2 == 0)) (.cmp (.modN .name (.nat 2) (by decide)) (.nat 0) .eqN) (fun hc => ?_) (fun hc => ?_)) (hsz _ (by simp; omega)) fun s₃ st₃ => ?_
    · rw [if_pos (by simpa using hc)]
      exact .fdivN .name (.nat 2) (by decide) (by decide)
    · rw [if_neg (by simpa using hc)]
      exact .xorN (.lastM .name (.head _) hlast) (.powN (.nat 2) (.modN (.fdivN .name (.nat 2) (by decide) (by decide)) (.nat 32) (by decide)) (by omega) (by decide))
    · refine wpAny_execs_nil ?_
      show FS _ _ _ [(D, dnat (((l.take 2).take (k + 1)).foldl addMode [35309, 35245, 16832]))] _ _ _ _
      rw [e1]
      have : dnat (addMode ms x) = dnat ms ++ [nat (if x % 2 = 0 then x / 2 else xorN (ms.getLastD 0) (2 ^ (x / 2 % 32)))] := by simp [addMode, dnat]
      rw [this]
      exact s_less st₃ ⟨rfl, rfl, trivial⟩
  · intro s₂ st₂
    refine wpAny_execs_nil ?_
    have e1 : ((l.take 2).take ((dnat l).take 2).length).foldl addMode [35309, 35245, 16832] = modesOf l := by
      rw [List.take_of_length_le (by simp [dnat])]; rfl
    rw [e1] at st₂
    refine s_return (s_freeze (x := "modes") st₂ rfl) .name fun v s' g r => ⟨g, r.sub fun b hb => ?_⟩
    have : b ≠ D := fun q => hDX (q ▸ .tail _ hb)
    simp [hb, this]
end Mine
end
section
open PySem PySem.Spec PySem.SeqAt PySem.Calls PyProof.Rows
set_option maxRecDepth 100000
namespace Mine
/-- strictly upward -/
noncomputable abbrev Inc (l : List Str) : Prop := l.Pairwise fun x y => lts x y = true
theorem lts_irrefl (x : Str) : lts x x = false := by
  unfold lts
  exact decide_eq_false (List.lt_irrefl _)
theorem Inc.noNb {l : List Str} (h : Inc l) : NoNb l := fun i x y hx hy => by
  have := List.pairwise_iff_getElem.mp h i (i + 1) (List.getElem?_eq_some_iff.mp hx).1 (List.getElem?_eq_some_iff.mp hy).1 (Nat.lt_succ_self _)
  rw [(List.getElem?_eq_some_iff.mp hx).2, (List.getElem?_eq_some_iff.mp hy).2] at this
  rw [beq_eq_false_iff_ne]
  rintro rfl
  rw [lts_irrefl] at this; cases this
theorem sld_sub : ∀ es as : List Str, (sld es as).1.Sublist es ∧ (sld es as).2.Sublist as
  | [], as => by rw [sld_nil]; exact ⟨.refl _, .refl _⟩
  | e :: es, [] => by rw [sld_nil']; exact ⟨.refl _, .refl _⟩
  | e :: es, a :: as => by
    rw [sld]
    split
    · exact ⟨(sld_sub es (a :: as)).1.cons_cons _, (sld_sub es (a :: as)).2⟩
    · split
      · exact ⟨(sld_sub (e :: es) as).1, (sld_sub (e :: es) as).2.cons_cons _⟩
      · exact ⟨(sld_sub es as).1.cons _, (sld_sub es as).2.cons _⟩
termination_by es as => es.length + as.length

section
variable {S : Stat} {X : List Addr} {V : Vars} {M : Muts} {I : Its} {K : Facts} {s₀ s : Shared} {e : Expr} {pos : Pos} {rest : List Stmt} {Q : Flow → Shared → Prop} {E : Value → Shared → Prop}
/-- x, y = e -/
theorem s_assignT {x y : Str} {p1 p2 p : Pos} {x1} {a b : PyData} (h : FS S X V M I K s₀ s) (he : Ev (cx S X V M I K) e (.tuple [a, b])) (k : ∀ s', FS S X ((y, b) :: (x, a) :: V) M I K s₀ s' → wpAny (model S.prog S.w) S.A (execs rest S.env) Q E s')
    (hc : S.calm = true := by rfl) (hx : Bindable S.env x := by first | exact .inl rfl | exact .inr ⟨rfl, rfl⟩) (hy : Bindable S.env y := by first | exact .inl rfl | exact .inr ⟨rfl, rfl⟩)
    (ha : assignEach [.Name x p1, .Name y p2] S.env = [(false, assign (.Name x p1) S.env), (false, assign (.Name y p2) S.env)] := by rfl)
    (hs : swapsWithSole [.Tuple [.Name x p1, .Name y p2] x1 p] e pos.line S.env = pure false := by rfl) (hw : swappedStores [.Tuple [.Name x p1, .Name y p2] x1 p] e S.env = pure none := by rfl) :
    wpAny (model S.prog S.w) S.A (execs (.Assign [.Tuple [.Name x p1, .Name y p2] x1 p] e pos :: rest) S.env) Q E s := by
  refine wpAny_execs_cons (wpAny_Assign_stores (he.use h.ok fun v s₁ g₁ ok₁ r₁ => ?_) hs hw)
  show wpAny _ _ (assign (.Tuple [.Name x p1, .Name y p2] x1 p) S.env v) _ _ s₁
  exact wpAny_mono (Asg.pair (S := S) (x1 := x1) hc hx hy ha X V M I K s₀ s₁ v r₁ (s_step h g₁) (fun _ s' => wpAny (model S.prog S.w) S.A (execs rest S.env) Q E s') fun s' st => k s' st) (fun _ _ q => q) fun _ _ q => q.elim
end
noncomputable def meet (a b : List Str) : List Str := (sld a (sld a b).1).1
theorem meet_sub (a b : List Str) : (meet a b).Sublist a := (sld_sub _ _).1
theorem meet_ok {w : World} {G : Glob} {n : Nat} {a b : List Str} (pf : PF2 G) (ha : Inc a) (hb : Inc b) (la : a.length ≤ 100) (lb : b.length ≤ 100) : CallOk pw w G (n + 2) 392 [.list (dstr a), .list (dstr b)] (.list (dstr (meet a b))) := by
  intro A X s vals room am r
  obtain ⟨v1, r1, rfl, rv1, v2, r2, rfl, rv2, rfl⟩ := r
  obtain ⟨doc, pm, code, f⟩ := pf.fMeet
  obtain ⟨d1, d2, d3, fS⟩ := id pf.fSld
  refine s_call (binds := [("one", v1), ("other", v2)]) [("one", .list (dstr a)), ("other", .list (dstr b))] f rfl room am rfl (by show ∀ x ∈ (defOfStmt (topStmt 41)).2.2.names, x.2 ≠ .cell; decide) rfl ⟨rfl, rfl, trivial⟩ ⟨⟨v1, rfl, rv1, rfl⟩, ⟨v2, rfl, rv2, rfl⟩, trivial⟩ fun L s' st room' hLX => ?_
  have l1 := (sld_sub a b).1.length_le
  refine s_assignT st (.call (.glob pf.gSld) (.cons .name (.cons .name .nil)) fS (sld_ok fS (pf.blt _) ha.noNb hb.noNb la lb) room') fun s₁ st₁ => ?_
  exact s_return st₁ (.itemTN (.call (.glob pf.gSld) (.cons .name (.cons .name .nil)) fS (sld_ok fS (pf.blt _) ha.noNb (Inc.noNb (ha.sublist (sld_sub a b).1)) la (by omega)) room') (.nat 0) rfl (by decide)) fun v s' g r => ⟨g, r.sub fun b hb => .tail _ hb⟩
end Mine
end
section
open PySem PySem.Spec PySem.SeqAt PySem.Calls PyProof.Rows
set_option maxRecDepth 100000
namespace Mine

/-- one thing of the heap is put anew -/
noncomputable def putAt (h : Heap) (D : Addr) (o : Obj) : Heap := ⟨h.objs.mapIdx fun i x => if i = D then o else x, h.life⟩
theorem get_putAt (h : Heap) (D : Addr) (o o' : Obj) (hD : h.get? D = some o') (a : Addr) (ho : o.data ≠ .freed) : (putAt h D o).get? a = if a = D then some o else h.get? a := by
  unfold Heap.get? putAt
  simp only [Array.getElem?_mapIdx]
  by_cases q : a = D
  · subst q
    unfold Heap.get? at hD
    cases e : h.objs[a]? with
    | none => rw [e] at hD; simp at hD
    | some x =>
      obtain ⟨c, d, dt, sl⟩ := o
      simp only [if_true, Option.map_some]
      cases dt <;> first | rfl | exact absurd rfl ho
  · cases e : h.objs[a]? with
    | none => simp [q]
    | some x => simp [q]
theorem changed_of {T : Heap} {D : Addr} {s s' : Shared} {o o' : Obj} (g : Grow T (sans s [D]) s') (ho : s.heap.get? D = some o) (hf : o.data ≠ .freed) (ho' : s'.heap.get? D = some o') : ∃ s₁, Grow T s s₁ ∧ Turn D s₁ s' := by
  have gp : ∀ a, (putAt s'.heap D o).get? a = if a = D then some o else s'.heap.get? a := fun a => get_putAt s'.heap D o o' ho' a hf
  refine ⟨{ s' with heap := putAt s'.heap D o }, ⟨fun b ob e => ?_, g.gens, g.drawn, g.os⟩, ⟨fun b ob hb e => ?_, ⟨o', ho'⟩, rfl, rfl, rfl⟩⟩
  · by_cases q : b = D
    · subst q; rw [ho] at e; cases e; exact .inl (by show (putAt s'.heap b o).get? b = _; rw [gp, if_pos rfl])
    · have := g.ext b ob (by rw [sans_get, if_neg (by simpa using q)]; exact e)
      rcases this with x | ⟨n, d, sl, x⟩
      · exact .inl (by show (putAt s'.heap D o).get? b = _; rw [gp, if_neg q]; exact x)
      · exact .inr ⟨n, d, sl, by show (putAt s'.heap D o).get? b = _; rw [gp, if_neg q]; exact x⟩
  · change (putAt s'.heap D o).get? b = some ob at e
    rwa [gp, if_neg hb] at e

/-- a list of the caller's that this call may change -/
theorem FSt.adopt {C : Cx} {s₀ s : Shared} {D : Addr} {ds : List PyData} (h : FSt C s₀ s) (m : MutAt C.X s.heap D ds) (h0 : s₀.heap.get? D = none) (hn : ∀ p ∈ C.muts, p.1 ≠ D) : FSt { C with muts := (D, ds) :: C.muts } s₀ s := by
  refine ⟨⟨h.ok.g, h.ok.fn, h.ok.gl, h.ok.bl, h.ok.lo, h.ok.room, h.ok.hand, h.ok.dep, h.ok.fr, h.ok.it, fun D' e hy => ?_, h.ok.fa, h.ok.ns⟩, h.grow, h.lX, h.l0, ?_, fun D' e hy => ?_, h.im, h.i0, h.cl, h.ap⟩
  · rcases List.mem_cons.mp hy with q | hy
    · cases q; exact m
    · exact h.ok.mu D' e hy
  · simp only [List.map_cons, List.nodup_cons]
    refine ⟨fun q => ?_, h.mn⟩
    obtain ⟨p, hp, q⟩ := List.mem_map.mp q
    exact hn p hp q
  · rcases List.mem_cons.mp hy with q | hy
    · cases q; exact h0
    · exact h.m0 D' e hy

theorem obj_delitem : typeLookup (.type "object") "__delitem__" = pure none := by rw [typeLookup_type, builtinLookup_eq_fast]; kernel_rfl

/-- del x[v], x an object of a class of the text's own with a def for it -/
theorem delItem_fk {prog : Program} {w : World} {A : Around} {s : Shared} {H Cc N f : Addr} {v : Value} {mN mA : Str → Option Value} {of : Obj} {Q : Unit → Shared → Prop} {E : Value → Shared → Prop} (X : ClsAt s.heap Cc N mN) (I : s.heap.InstFk H Cc mA) (hf : mN "__delitem__" = some (.ref f)) (hfo : s.heap.get? f = some of) (hfc : of.cls = .type "function")
    (h : wpAny (model prog w) A (call (.ref f) [.ref H, v]) (fun _ s' => Q () s') E s) : wpAny (model prog w) A (delItem (.ref H) v) Q E s := by
  obtain ⟨nm, q, bs, sn, sub, col, dd, k0, k1, k2, k3, k5, hC⟩ := X.obj
  obtain ⟨o, hx, hc, hnc, hd⟩ := I
  obtain ⟨sh, sg, sd, stk, sos⟩ := s
  have ht : ∀ {R : Value → Shared → Prop} {E : Value → Shared → Prop}, R (.ref Cc) ⟨sh, sg, sd, stk, sos⟩ → wpAny (model prog w) A (typeOf (.ref H)) R E ⟨sh, sg, sd, stk, sos⟩ := fun r => by
    unfold typeOf
    repeat (first | (with_reducible refine wpAny_loadPart_at hx ?_; rw [hc]) | wp_step)
    exact r
  unfold delItem
  refine wpAny_holding (wpAny_bind ?_)
  unfold sequenceKey
  refine wpAny_bind (ht ?_)
  refine wpAny_bind ?_
  show wpAny _ _ (List.anyM _ ["collections.deque"]) _ _ _
  rw [List.anyM_cons]
  refine wpAny_bind (wpAny_isSubtype_exc hC ?_)
  rw [show ((Value.ref Cc :: [Value.type "object"]).contains (.type "collections.deque")) = false from rfl]
  dsimp only
  rw [if_neg (by decide), List.anyM_nil]
  refine wpAny_pure ?_
  rw [if_pos (by rfl)]
  refine wpAny_pure (wpAny_bind ?_)
  unfold callSpecial? specialOf
  refine wpAny_bind (wpAny_bind (ht (wpAny_typeLookup_exc hC X.ns PySem.F.mro_object obj_delitem ?_)))
  rw [hf]
  refine wpAny_holding ?_
  unfold bindSpecial
  refine wpAny_bind (wpAny_bind (wpAny_typeOf (T := "function") ⟨_, hfo, hfc⟩ ?_))
  rw [if_pos (by rfl)]
  refine wpAny_pure (wpAny_bind (wpAny_mono h (fun u s' z => wpAny_pure (wpAny_pure z)) fun _ _ z => z))

/-- x.items() -/
theorem tab_items {C : Cx} {n : Nat} {x : Str} {np apos pos : Pos} {H D : Addr} {items : List (Str × Str)} {s : Shared} (ok : C.ok s) (pf : PF C.G) (hp : C.prog = pw) (hx : Ev C (.Name x np) (raw H)) (I : TabAt C.G H D) (hf : (Value.ref D, PyData.list (pairs items)) ∈ C.facts) (hlen : items.length ≤ 100) (room : Room C.A (n + 1))
    (hform : methodCallForm 0 (backTo pos (starEach [] C.env)) (backToKw pos (keywordEach [] C.env)) = true := by rfl) (hline : (apos.endLine == pos.line) = true := by rfl) (hbase : attributeBase (.Name x np) "items" C.env (eval (.Name x np) C.env) = eval (.Name x np) C.env := by rfl) :
    wpAny C.M C.A (eval (.Call (.Attribute (.Name x np) "items" apos) [] [] pos) C.env) (fun u s' => Grow C.G.top s s' ∧ Rd C.X s'.heap (.list (pairs items)) u ∧ ∃ a, u = .ref a ∧ s.heap.get? a = none) (fun _ _ => False) s := by
  obtain ⟨mN, cls, n1, n2, n3, n4, m0, m1, m2, m3, m4, m5, m6⟩ := pf.cHdr
  obtain ⟨doc, pm, code, f⟩ := id pf.fItems
  refine meth_fetch ok hx cls I m5 f n1 n2 (by show (if _ then _ else _) = _; rw [if_neg (by decide)]) obj_items (fun s₁ g₁ ok₁ => ?_) hbase hform hline
  obtain ⟨o, ho, hd, _⟩ := id f.at_
  refine callWith_meth0 hd (ok₁.g _ _ ho) ?_
  rw [Cx.M, hp]
  refine wpAny_mono (items_ok pf I hlen room ok₁.amid (ok₁.fa _ _ hf)) (fun u s₂ y => ⟨g₁.trans y.1, y.2.1, ?_⟩) fun _ _ y => y
  obtain ⟨a, q, e⟩ := y.2.2
  exact ⟨a, q, g₁.ext.none e⟩
/-- x.values() -/
theorem Ev.values {C : Cx} {n : Nat} {x : Str} {np apos pos : Pos} {H D : Addr} {items : List (Str × Str)} (pf : PF C.G) (hp : C.prog = pw) (hx : Ev C (.Name x np) (raw H)) (I : TabAt C.G H D) (hf : (Value.ref D, PyData.list (pairs items)) ∈ C.facts) (hlen : items.length ≤ 100) (room : Room C.A (n + 1))
    (hform : methodCallForm 0 (backTo pos (starEach [] C.env)) (backToKw pos (keywordEach [] C.env)) = true := by rfl) (hline : (apos.endLine == pos.line) = true := by rfl) (hbase : attributeBase (.Name x np) "values" C.env (eval (.Name x np) C.env) = eval (.Name x np) C.env := by rfl) :
    Ev C (.Call (.Attribute (.Name x np) "values" apos) [] [] pos) (.list (dstr (items.map (·.2)))) := fun s ok => by
  obtain ⟨mN, cls, n1, n2, n3, n4, m0, m1, m2, m3, m4, m5, m6⟩ := pf.cHdr
  obtain ⟨doc, pm, code, f⟩ := id pf.fValues
  refine meth_fetch ok hx cls I m4 f n1 n2 (by show (if _ then _ else _) = _; rw [if_neg (by decide)]) obj_values (fun s₁ g₁ ok₁ => ?_) hbase hform hline
  obtain ⟨o, ho, hd, _⟩ := id f.at_
  refine callWith_meth0 hd (ok₁.g _ _ ho) ?_
  rw [Cx.M, hp]
  exact wpAny_mono (values_ok pf I hlen room ok₁.amid (ok₁.fa _ _ hf)) (fun u s₂ y => ⟨g₁.trans y.1, y.2⟩) fun _ _ y => y
/-- x.get_all(e) -/
theorem Ev.getAll {C : Cx} {n : Nat} {x : Str} {np apos pos : Pos} {e : Expr} {y : Str} {H D : Addr} {items : List (Str × Str)} (pf : PF C.G) (hp : C.prog = pw) (hx : Ev C (.Name x np) (raw H)) (I : TabAt C.G H D) (hf : (Value.ref D, PyData.list (pairs items)) ∈ C.facts) (he : Ev C e (.str y)) (hi : ∀ p ∈ items, Asc p.1) (hy : Asc y) (hc : Clean (low y)) (hlen : items.length ≤ 100) (room : Room C.A (n + 2))
    (hform : methodCallForm 1 (backTo pos (starEach [e] C.env)) (backToKw pos (keywordEach [] C.env)) = true := by rfl) (hline : (apos.endLine == pos.line) = true := by rfl) (hbase : attributeBase (.Name x np) "get_all" C.env (eval (.Name x np) C.env) = eval (.Name x np) C.env := by rfl)
    (hs : starEach [e] C.env = [(false, eval e C.env)] := by rfl) :
    Ev C (.Call (.Attribute (.Name x np) "get_all" apos) [e] [] pos) (.list (dstr ((items.filter fun p => low p.1 == low y).map (·.2)))) := fun s ok => by
  obtain ⟨mN, cls, n1, n2, n3, n4, m0, m1, m2, m3, m4, m5, m6⟩ := pf.cHdr
  obtain ⟨doc, pm, code, f⟩ := id pf.fGetAll
  refine meth_fetch ok hx cls I m3 f n1 n2 (by show (if _ then _ else _) = _; rw [if_neg (by decide)]) obj_get_all (fun s₁ g₁ ok₁ => ?_) hbase hform hline
  obtain ⟨o, ho, hd, _⟩ := id f.at_
  refine callWith_meth hd ho (wpAny_mono (Evs.cons he .nil (he := hs) s₁ ok₁ pos) (fun vs s₂ z => ⟨(ok₁.grow z.1).g, ?_⟩) fun _ _ z => z) hs
  obtain ⟨g₂, r₂⟩ := z
  simp only [RdAll] at r₂
  obtain ⟨v, r, rfl, rv, rfl⟩ := r₂
  have ok₂ := ok₁.grow g₂
  show wpAny C.M C.A (PySem.call (.ref 299) [.ref H, v]) _ _ s₂
  rw [Cx.M, hp]
  exact wpAny_mono (getAll_ok pf I hi hy hc hlen room ok₂.amid (ok₂.fa _ _ hf) rv) (fun u s₃ y => ⟨(g₁.trans g₂).trans y.1, y.2⟩) fun _ _ y => y

/-- the entries left when these names are struck -/
noncomputable def struck (items : List (Str × Str)) : List Str → List (Str × Str)
  | [] => items
  | x :: xs => struck (items.filter fun p => !(low p.1 == low x)) xs
theorem struck_snoc (x : Str) : ∀ (xs : List Str) (items : List (Str × Str)), struck items (xs ++ [x]) = (struck items xs).filter fun p => !(low p.1 == low x)
  | [], _ => rfl
  | y :: ys, items => by show struck _ (ys ++ [x]) = _; rw [struck_snoc x ys]; rfl
theorem struck_sub : ∀ (xs : List Str) (items : List (Str × Str)), (struck items xs).Sublist items
  | [], _ => .refl _
  | y :: ys, items => (struck_sub ys _).trans List.filter_sublist
theorem RdAll.fresh {X X' : List Addr} {s s' : Shared} {T : Heap} {d : List PyData} {v : List Value} (r : RdAll X s.heap d v) (g : Grow T s s') (hX : ∀ b ∈ X', b ∈ X ∨ s.heap.get? b = none) : RdAll X' s'.heap d v :=
  r.monoS fun b o xs n hb e hd => ⟨(fun q => by
    rcases hX b q with q | q
    · exact hb q
    · rw [q] at e; cases e), g.ext.seq e hd⟩
theorem MutAt.fresh {X X' : List Addr} {s s' : Shared} {T : Heap} {D : Addr} {d : List PyData} (r : MutAt X s.heap D d) (g : Grow T s s') (hX : ∀ b ∈ X, b ∈ X') (hX' : ∀ b ∈ X', b ∈ X ∨ s.heap.get? b = none) : MutAt X' s'.heap D d :=
  let ⟨a, ys, n, hl, ra⟩ := r; ⟨hX _ a, ys, n, g.ext.list hl, ra.fresh g hX'⟩
theorem FSt.changed {C : Cx} {s₀ s s' : Shared} {D : Addr} {ds ds' : List PyData} {r : Muts} (h : FSt C s₀ s) (hm : C.muts = (D, ds) :: r) (c : Changed C.G.top D C.X s s' ds') : FSt { C with muts := (D, ds') :: r } s₀ s' := by
  obtain ⟨⟨s₁, g, t⟩, ys, n, hl, ra⟩ := c
  exact (h.step g).mutate hm t hl ra

section
variable {S : Stat} {X : List Addr} {V : Vars} {M : Muts} {I : Its} {K : Facts} {s₀ s s' : Shared} {D : Addr} {ds ds' : List PyData}
theorem s_rebase (F : List Addr) (h : FS S X V M I K s₀ s) : FS S X V M I K (sans s₀ F) s := FSt.rebase (C := cx S X V M I K) h F rfl
theorem s_adopt (h : FS S X V M I K s₀ s) (m : MutAt X s.heap D ds) (h0 : s₀.heap.get? D = none) (hn : ∀ p ∈ M, p.1 ≠ D) : FS S X V ((D, ds) :: M) I K s₀ s := FSt.adopt (C := cx S X V M I K) h m h0 hn
theorem s_changed (h : FS S X V ((D, ds) :: M) I K s₀ s) (c : Changed S.G.top D X s s' ds') : FS S X V ((D, ds') :: M) I K s₀ s' := FSt.changed (C := cx S X V ((D, ds) :: M) I K) h rfl c
theorem s_unhide (h : FS S X V ((D, ds) :: M) I K s₀ s) : FS S (X.filter (· ≠ D)) V M I ((.ref D, .list ds) :: K) s₀ s := FSt.freeze (C := cx S X V ((D, ds) :: M) I K) h rfl
end

theorem strike_ok {w : World} {G : Glob} {n : Nat} (pf : PF2 G) {H D : Addr} (I : TabAt G H D) {items : List (Str × Str)} {xs : List Str} (hi : ∀ p ∈ items, Asc p.1) (hx : ∀ x ∈ xs, Asc x ∧ Clean (low x)) (hlen : items.length ≤ 100)
    {A : Around} {X : List Addr} {s : Shared} {v : Value} (room : Room A (n + 3)) (am : Amid G A X s) (mt : MutAt X s.heap D (pairs items)) (rv : Rd X s.heap (.list (dstr xs)) v) :
    wpAny (model pw w) A (call (.ref 399) [.ref H, v]) (fun u s' => Changed G.top D X s s' (pairs (struck items xs)) ∧ Rd X s'.heap (.list (pairs (struck items xs))) u) (fun _ _ => False) s := by
  obtain ⟨doc, pm, code, f⟩ := pf.fStrike
  obtain ⟨mN, cls, n1, n2, n3, n4, m0, m1, m2, m3, m4, m5, m6⟩ := id pf.cHdr
  obtain ⟨dd, dp, dc, fD⟩ := id pf.fDel
  obtain ⟨oD, hoD, _, hcD⟩ := fD.at_
  obtain ⟨hDX, ys, nn, hl, ra⟩ := id mt
  refine s_call (binds := [("table", .ref H), ("names", v)]) [("table", raw H), ("names", .list (dstr xs))] f rfl room am rfl (by show ∀ x ∈ (defOfStmt (topStmt 42)).2.2.names, x.2 ≠ .cell; decide) rfl ⟨rfl, rfl, trivial⟩ ⟨⟨_, rfl, .raw_, rfl⟩, ⟨v, rfl, rv, rfl⟩, trivial⟩ fun L s' st room' hLX => ?_
  have hL0 : s.heap.get? L = none := st.l0
  have hX' : ∀ b ∈ L :: X, b ∈ X ∨ s.heap.get? b = none := fun b hb => by
    rcases List.mem_cons.mp hb with rfl | hb
    · exact .inr hL0
    · exact .inl hb
  have st₁ := s_adopt (D := D) (ds := pairs items) (s_rebase [D] st) (mt.fresh st.grow (fun b hb => .tail _ hb) hX') (by rw [sans_get, if_pos (by simp)]) (fun p hp => nomatch hp)
  refine s_for (fun d => [("name", d)]) (fun k => [("table", raw H), ("names", .list (dstr xs))]) (fun k => [(D, pairs (struck items (xs.take k)))]) (fun _ _ => False) st₁ (Src.walk (.list .name)) ⟨rfl, rfl, trivial⟩ (fun k d hd => .name) (fun k d hd F P q s₂ hF st₂ => ?_) (fun _ _ _ q => q.elim) fun s₂ st₂ => ?_
  · have hk : ∃ x, xs[k]? = some x ∧ d = .str x := by
      rw [show dstr xs = xs.map PyData.str from rfl, List.getElem?_map] at hd
      cases e : xs[k]? with
      | none => rw [e] at hd; cases hd
      | some x => rw [e] at hd; cases hd; exact ⟨x, rfl, rfl⟩
    obtain ⟨x, ex, rfl⟩ := hk
    have hmem : x ∈ xs := List.mem_of_getElem? ex
    have et : xs.take (k + 1) = xs.take k ++ [x] := by rw [List.take_add_one, ex]; rfl
    refine wpAny_execs_cons (wpAny_Delete (wpAny_deleteEach_cons ?_))
    rw [arm_delete_Subscript]
    refine wpAny_bind ((Ev.name (C := cx _ _ _ _ _ _) (d := raw H)).use st₂.ok fun ov s₃ g₃ ok₃ r₃ => ?_)
    rw [r₃.raw_inv]
    refine wpAny_bind (wpAny_holding ((Ev.name (C := cx _ _ _ _ _ _) (d := .str x)).use ok₃ fun iv s₄ g₄ ok₄ r₄ => wpAny_bind (wpAny_standAt (wpAny_bind (wpAny_holding ?_)))))
    have hsub := struck_sub (xs.take k) items
    refine delItem_fk (cls.keeps ok₄.g) (I.keeps ok₄.g) m2 (ok₄.g _ _ hoD) hcD ?_
    refine wpAny_mono (del_ok pf.toPF I (fun p hp => hi p (hsub.subset hp)) (hx x hmem).1 (hx x hmem).2 (Nat.le_trans hsub.length_le hlen) room' ok₄.amid (ok₄.mu _ _ (.head _)) r₄) (fun u s₅ h₅ => ?_) fun _ _ z => z.elim
    refine wpAny_release (wpAny_deleteEach_nil (wpAny_execs_nil ?_))
    have st₄ := s_step st₂ (g₃.trans g₄)
    have st₅ := s_changed st₄ h₅.2
    rw [et, struck_snoc]
    exact s_less st₅ ⟨rfl, rfl, trivial⟩
  · rw [show (dstr xs).length = xs.length by simp [dstr], List.take_length] at st₂
    have hsub := struck_sub xs items
    refine wpAny_execs_nil ?_
    have fz := s_unhide st₂
    refine wpAny_execs_cons (wpAny_Return_some (wpAny_mono (tab_items fz.ok pf.toPF rfl .name I (.head _) (Nat.le_trans hsub.length_le hlen) room') (fun u s₃ h₃ => ?_) fun _ _ z => z))
    obtain ⟨g₃, r₃, a, rfl, ha⟩ := h₃
    have st₃ := s_step st₂ g₃
    obtain ⟨_, zs, m, hl₃, ra₃⟩ := st₃.ok.mu D _ (.head _)
    have hl₂ : ∃ ys n, IsL s₂.heap D (List.toArray ys) n := let ⟨_, ys, n, h, _⟩ := st₂.ok.mu D _ (.head _); ⟨ys, n, h⟩
    have sub : ∀ b ∈ X, b ∈ L :: X := fun b hb => .tail _ hb
    refine ⟨⟨changed_of st₃.grow hl (by nofun) hl₃, zs, m, hl₃, ra₃.mono fun b o hb e => ⟨fun q => hb (sub b q), e⟩⟩, ?_⟩
    obtain ⟨b, vs, k, q, hb, hlb, rb⟩ := r₃.list_inv
    cases q
    have haX : a ∉ L :: X := fun q => by
      obtain ⟨⟨o, e⟩, _⟩ := st₂.ok.lo a q
      rw [ha] at e; cases e
    refine .list_ (fun q => haX (sub a q)) hlb (RdAll.pairs_off hl₃ (fun c hc => ?_) rb)
    by_cases q : c = D
    · exact .inr q
    · exact .inl (by simpa using ⟨.inr hc, q⟩)
end Mine
end
section
open PySem PySem.Spec PySem.SeqAt PySem.Calls PyProof.Rows
set_option maxRecDepth 100000
namespace Mine
/-- a table was made: its record is fixed, its list is the call's own -/
theorem s_table {S : Stat} {X : List Addr} {V : Vars} {M : Muts} {I : Its} {K : Facts} {s₀ s s' : Shared} {H hd D : Addr} {m : Nat} {oH : Obj} {ds : List PyData} {ys : List Value} (h : FS S X V M I K s₀ s) (g : Grow S.G.top s s') (h1 : s.heap.get? H = none) (h2 : s.heap.get? hd = none) (h3 : s.heap.get? D = none)
    (J : s'.heap.InstFk H 360 (hdrMap D)) (hH : s'.heap.get? H = some oH) (hdd : oH.dict = some hd) (hl : IsL s'.heap D (List.toArray ys) m) (ra : RdAll (D :: X) s'.heap ds ys) :
    ∃ G', Glob.More S.G G' [H, hd] s'.heap ∧ (∀ a ∈ [H, hd], S.G.top.get? a = none) ∧ TabAt G' H D ∧ FS { S with G := G' } (D :: X) V ((D, ds) :: M) I K s₀ s' := by
  have n1 := h.ok.amid.new h1
  have n2 := h.ok.amid.new h2
  have hF : ∀ a ∈ [H, hd], S.G.top.get? a = none := by intro a ha; simp at ha; rcases ha with rfl | rfl; exact n1.2; exact n2.2
  have st := FSt.own (C := cx S X V M I K) h h3 g hl ra
  obtain ⟨G', mo⟩ := S.G.fix [H, hd] s'.heap st.ok.g hF
  obtain ⟨o, e, z1, z2, z3⟩ := id J
  rw [hH] at e; cases e
  have hHD : H ≠ D := fun q => by rw [q, hl] at hH; cases hH; cases z1
  rcases z3 with z3 | ⟨d, q1, q2, ⟨od, es, ep, q3, q4, q5⟩, od', q6, q7⟩
  · rw [z3.1] at hdd; cases hdd
  rw [hdd] at q1; cases q1
  have hdD : hd ≠ D := fun q => by rw [q, hl] at q3; cases q3; cases q4
  refine ⟨G', mo, hF, ⟨oH, by rw [mo.top, if_pos (by simp)]; exact hH, z1, z2, .inr ⟨_, hdd, q2, ⟨od, es, ep, by rw [mo.top, if_pos (by simp)]; exact q3, q4, q5⟩, od', by rw [mo.top, if_pos (by simp)]; exact q6, q7⟩⟩, ?_⟩
  refine FSt.reglob (C := cx S (D :: X) V ((D, ds) :: M) I K) st mo (fun a ha => ?_) (fun outer e env he L' hL' => ?_)
  · refine ⟨hF a ha, ?_, ?_, rfl⟩
    · simp at ha
      rcases ha with rfl | rfl
      · exact h.grow.ext.none h1
      · exact h.grow.ext.none h2
    · simp at ha
      rcases ha with rfl | rfl
      · simp only [List.mem_cons, not_or]; exact ⟨hHD, n1.1⟩
      · simp only [List.mem_cons, not_or]; exact ⟨hdD, n2.1⟩
  · obtain ⟨outer', e', fr⟩ := h.ok.fr
    have e2 : S.A.frames = some outer' := e'
    rw [show S.A.frames = some outer from e] at e2
    cases e2
    obtain ⟨_, L2, o, es, m, f1, _, f3, _⟩ := fr env he
    rw [f1] at hL'; cases hL'
    simp only [List.mem_cons, List.not_mem_nil, or_false, not_or]
    exact ⟨(fun z => by rw [z, h1] at f3; cases f3), (fun z => by rw [z, h2] at f3; cases f3)⟩

/-- a name of the table: a place and its sign -/
noncomputable def nm (p c : Nat) : Str := Str.ofString (toString p) ++ chr c
noncomputable def fl (i : Nat) : Str := Str.ofString "f" ++ Str.ofString (toString i)
noncomputable def signs : List Nat := [108, 115, 45, 98, 100, 99, 112, 63, 114, 119, 83, 120, 116, 84]
noncomputable def goodB (x : Str) : Bool := fails nameCode x.cps && fails valueCode x.cps && fails nameCode (low x).cps && fails valueCode (low x).cps && decide (x.cps.size ≤ 100) && decide (x.cps.size ≤ 1000) && x.cps.toList.all (· < 128)
theorem goodB_nm : ((List.range 10).all fun p => signs.all fun c => goodB (nm p c)) = true := by decide +kernel
theorem goodB_fl : ((List.range 5).all fun i => goodB (fl i)) = true := by decide +kernel

structure Good (x : Str) : Prop where
  asc : Asc x
  cl : Clean x
  clow : Clean (low x)
  len : x.length ≤ 100
theorem good_of {x : Str} (h : goodB x = true) : Good x := by
  simp only [goodB, Bool.and_eq_true, decide_eq_true_eq, List.all_eq_true] at h
  obtain ⟨⟨⟨⟨⟨⟨a, b⟩, c⟩, d⟩, e⟩, f⟩, g⟩ := h
  exact ⟨⟨g, e⟩, ⟨a, b, f⟩, ⟨c, d, by rw [low_len]; exact f⟩, e⟩
theorem good_nm {p c : Nat} (hp : p < 10) (hc : c ∈ signs) : Good (nm p c) := good_of (List.all_eq_true.mp (List.all_eq_true.mp goodB_nm p (List.mem_range.mpr hp)) c hc)
theorem good_fl {i : Nat} (hi : i < 5) : Good (fl i) := good_of (List.all_eq_true.mp goodB_fl i (List.mem_range.mpr hi))
theorem fmSign_mem (m i : Nat) (row : List (Nat × Nat)) (h : ∀ p ∈ row, p.2 ∈ signs) : fmSign m i row ∈ signs := by
  unfold fmSign
  cases e : row.find? (fmHit m i) with
  | some p => exact h p (List.mem_of_find?_eq_some e)
  | none => dsimp only; split <;> decide
/-- the sign at a place of the row of a mode -/
noncomputable def sg (m p : Nat) : Nat := chAt ⟨(fmC m).toArray⟩ p
theorem sg_mem (m : Nat) {p : Nat} (hp : p < 10) : sg m p ∈ signs := by
  have h1 : (fmC m)[p]? = (fmTab[p]?).map fun row => fmSign m p row := by rw [fmC, List.getElem?_mapIdx]
  have hl : p < fmTab.length := hp
  have h2 : fmTab[p]? = some fmTab[p] := List.getElem?_eq_getElem hl
  have h3 : sg m p = fmSign m p fmTab[p] := by
    unfold sg chAt
    rw [show (⟨(fmC m).toArray⟩ : Str).cps[p]? = (fmC m)[p]? by simp, h1, h2]; rfl
  rw [h3]
  refine fmSign_mem _ _ _ ?_
  have : ∀ row ∈ fmTab, ∀ q ∈ row, q.2 ∈ signs := by decide
  exact this _ (List.getElem_mem hl)

noncomputable def rowI (m i k : Nat) : List (Str × Str) := (List.range k).map fun p => (nm p (sg m p), fl i)
noncomputable def tabI (ms : List Nat) (k : Nat) : List (Str × Str) := (List.range k).flatMap fun i => rowI (ms.getD i 0) i 10
theorem rowI_succ (m i k : Nat) : rowI m i (k + 1) = rowI m i k ++ [(nm k (sg m k), fl i)] := by simp [rowI, List.range_succ]
theorem tabI_succ (ms : List Nat) (k : Nat) : tabI ms (k + 1) = tabI ms k ++ rowI (ms.getD k 0) k 10 := by simp [tabI, List.range_succ]
theorem rowI_len (m i k : Nat) : (rowI m i k).length = k := by simp [rowI]
theorem tabI_len (ms : List Nat) : ∀ k, (tabI ms k).length = 10 * k
  | 0 => rfl
  | k + 1 => by rw [tabI_succ, List.length_append, tabI_len ms k, rowI_len]; omega
noncomputable abbrev tab (ms : List Nat) : List (Str × Str) := tabI ms ms.length
theorem tabI_mem {ms : List Nat} {k : Nat} {q : Str × Str} (h : q ∈ tabI ms k) : ∃ i p, i < k ∧ p < 10 ∧ q = (nm p (sg (ms.getD i 0) p), fl i) := by
  simp only [tabI, rowI, List.mem_flatMap, List.mem_map, List.mem_range] at h
  obtain ⟨i, hi, p, hp, rfl⟩ := h
  exact ⟨i, p, hi, hp, rfl⟩

theorem tostr_len : ∀ k < 10, (Str.ofString (toString k)).length ≤ 10 := by decide +kernel
theorem Evs.at {C : Cx} {s : Shared} {es : List Expr} {ds : List PyData} {pos : Pos} (ok : C.ok s) (h : Evs C es ds) : wpAny C.M C.A (spliced (backTo pos (starEach es C.env))) (fun vs s' => Grow C.G.top s s' ∧ RdAll C.X s'.heap ds vs) (fun _ _ => False) s := h s ok pos
theorem table_ok {w : World} {G : Glob} {n : Nat} {ms : List Nat} (pf : PF2 G) (hms : ms.length ≤ 5) {A : Around} {X : List Addr} {s : Shared} {v : Value} (room : Room A (n + 4)) (am : Amid G A X s) (rv : Rd X s.heap (.list (dnat ms)) v) :
    wpAny (model pw w) A (call (.ref 385) [v]) (fun u s' => ∃ H hd D m oH ys, u = .ref H ∧ Grow G.top s s' ∧ s.heap.get? H = none ∧ s.heap.get? hd = none ∧ s.heap.get? D = none ∧ s'.heap.InstFk H 360 (hdrMap D) ∧ s'.heap.get? H = some oH ∧ oH.dict = some hd ∧ IsL s'.heap D (List.toArray ys) m ∧ RdAll (D :: X) s'.heap (pairs (tab ms)) ys) (fun _ _ => False) s := by
  obtain ⟨doc, pm, code, f⟩ := pf.fTable
  obtain ⟨mN, cls, n1, n2, n3, n4, m0, m1, m2, m3, m4, m5, m6⟩ := id pf.cHdr
  have hsz : ∀ k : Nat, k ≤ 100 → k ≤ sizeLine := fun k h => Nat.le_trans h (by decide)
  refine s_call (binds := [("modes", v)]) [("modes", .list (dnat ms))] f rfl room am rfl (by show ∀ x ∈ (defOfStmt (topStmt 40)).2.2.names, x.2 ≠ .cell; decide) rfl ⟨rfl, trivial⟩ ⟨⟨v, rfl, rv, rfl⟩, trivial⟩ fun L s' st room' hLX => ?_
  refine wpAny_execs_cons (wpAny_Assign_Name (Call_Name0 ((NameV.glob (C := cx _ _ _ _ _ _) pf.gHdr) s' _ _ _ st.ok (callWith_clsA (args := []) cls rfl (PySem.evalArgs_none ⟨rfl, st.ok.g, wpAny_mono (new_ok pf.toPF room' st.ok.amid) (fun u s₁ h₁ => ?_) fun _ _ z => z.elim⟩)))) rfl)
  obtain ⟨H, hd, D, m, oH, rfl, g₁, f1, f2, f3, J, hoH, hdd, hl⟩ := h₁
  obtain ⟨G', mo, hF, I', st₁⟩ := s_table st g₁ f1 f2 f3 J hoH hdd hl .nil
  have pf' := pf.more mo hF
  have fin : ∀ A' e' s₈, FS ⟨pw, w, A', e', G', true⟩ (D :: L :: X) [("table", raw H), ("modes", .list (dnat ms))] [(D, pairs (tab ms))] [] [] s s₈ → ∀ u, Rd (D :: L :: X) s₈.heap (raw H) u → ∃ H hd D m oH ys, u = Value.ref H ∧ Grow G.top s s₈ ∧ s.heap.get? H = none ∧ s.heap.get? hd = none ∧ s.heap.get? D = none ∧ s₈.heap.InstFk H 360 (hdrMap D) ∧ s₈.heap.get? H = some oH ∧ oH.dict = some hd ∧ IsL s₈.heap D (List.toArray ys) m ∧ RdAll (D :: X) s₈.heap (pairs (tab ms)) ys := fun A' e' s₈ st₈ u ru => by
    obtain ⟨_, ys, k, hl₈, ra₈⟩ := st₈.ok.mu D _ (.head _)
    refine ⟨H, hd, D, k, oH, ys, ru.raw_inv, st₈.grow.less fun b e => mo.sup e hF, st.grow.ext.none f1, st.grow.ext.none f2, st.grow.ext.none f3, I'.keeps st₈.ok.g, st₈.ok.g _ _ (by rw [mo.top, if_pos (by simp)]; exact hoH), hdd, hl₈, ra₈.mono fun b o hb e => ⟨fun q => hb ?_, e⟩⟩
    rcases List.mem_cons.mp q with rfl | q
    · exact .head _
    · exact .tail _ (.tail _ q)
  refine st₁.put (.inl rfl) .raw_ fun s₂ st₂ _ _ => ?_
  refine s_for (S := ⟨pw, w, A.deeper (callEnv (topFd 40 "_law_table" doc pm code) L 385), callEnv (topFd 40 "_law_table" doc pm code) L 385, G', true⟩) (fun d => [("i", d)]) (fun k => [("table", raw H), ("modes", .list (dnat ms))]) (fun k => [(D, pairs (tabI ms k))]) (fun _ _ => False) st₂ (Src.walk (Src.rangeN (k := ms.length) (.blt (pf'.blt _) (by boot_fast)) (.lenN (.blt (pf'.blt _) (by boot_fast)) .name (by simp) (by omega)) (by omega))) ⟨rfl, rfl, trivial⟩ (fun _ _ _ => .name) (fun k d hd F P q s₃ hFX st₃ => ?_) (fun _ _ _ z => z.elim) fun s₃ st₃ => ?_
  · obtain ⟨hk, rfl⟩ := nats_get hd
    obtain ⟨dF, pF, cF, fF⟩ := id pf'.fFm
    have hget : (dnat ms)[k]? = some (nat (ms.getD k 0)) := by simp [dnat, hk]
    generalize hmk : ms.getD k 0 = mk at hget
    refine s_assign st₃ (.call (.glob pf'.gFm) (.cons (.itemN .name .name hget (by omega)) .nil) fF (fm_ok pf') room') fun s₄ st₄ => ?_
    have hlen : (⟨(fmC mk).toArray⟩ : Str).length = 10 := by show (fmC mk).toArray.size = 10; simp [fmC_len]
    refine s_for (fun d => [("place", d)]) (fun j => [("row", .str ⟨(fmC mk).toArray⟩), ("i", nat k), ("table", raw H), ("modes", .list (dnat ms))]) (fun j => [(D, pairs (tabI ms k ++ rowI mk k j))]) (fun _ _ => False) (by simpa [rowI] using st₄) (Src.walk (Src.rangeN (k := 10) (.blt (pf'.blt _) (by boot_fast)) (.lenS (.blt (pf'.blt _) (by boot_fast)) .name hlen (by omega)) (by omega))) ⟨rfl, rfl, rfl, rfl, trivial⟩ (fun _ _ _ => .name) (fun j d hd F' P' q' s₅ hFX' st₅ => ?_) (fun _ _ _ z => z.elim) fun s₅ st₅ => ?_
    · obtain ⟨hj, rfl⟩ := nats_get hd
      obtain ⟨dA, pA, cA, fA⟩ := id pf'.fAdd
      obtain ⟨mN', cls', n1', n2', n3', n4', m0', m1', m2', m3', m4', m5', m6'⟩ := id pf'.cHdr
      obtain ⟨oA, hoA, hdA, _⟩ := id fA.at_
      refine wpAny_execs_cons (wpAny_Expr (meth_fetch (C := cx _ _ _ _ _ _) st₅.ok .name cls' I' m6' fA n1' n2' (by show (if _ then _ else _) = _; rw [if_neg (by decide)]) obj_add_header (fun s₆ g₆ ok₆ => ?_)) rfl rfl)
      refine callWith_meth hdA hoA (wpAny_mono (Evs.at ok₆ (Evs.cons (d := .str (nm j (sg mk j))) (.addStr (.strN (.blt (pf'.blt _) (by boot_fast)) .name (by omega)) (.ch .name .name (by show j < (fmC mk).toArray.size; simpa [fmC_len] using hj) (by omega)) ?_) (.cons (d := .str (fl k)) (.addStr .str (.strN (.blt (pf'.blt _) (by boot_fast)) .name (by omega)) ?_) .nil))) (fun vs s₇ z => ⟨(ok₆.grow z.1).g, ?_⟩) fun _ _ z => z)
      · have := tostr_len j hj; exact hsz _ (by show _ + 1 ≤ 100; omega)
      · have := tostr_len k (by omega); exact hsz _ (by show 1 + _ ≤ 100; omega)
      · obtain ⟨g₇, r₇⟩ := z
        simp only [RdAll] at r₇
        obtain ⟨v1, r1, rfl, rv1, v2, r2, rfl, rv2, rfl⟩ := r₇
        have ok₇ := ok₆.grow g₇
        have gj := good_nm hj (sg_mem mk hj)
        have gk := good_fl (i := k) (by omega)
        have hl1 : (tabI ms k ++ rowI mk k j).length ≤ 100 := by rw [List.length_append, tabI_len, rowI_len]; omega
        refine wpAny_mono (add_ok pf'.toPF I' gj.cl gk.cl gk.len hl1 room' ok₇.amid (ok₇.mu _ _ (.head _)) rv1 rv2) (fun u s₈ h₈ => ?_) fun _ _ z => z.elim
        obtain ⟨rfl, h₈⟩ := h₈
        refine wpAny_execs_nil ?_
        have st₈ := s_changed (s_step st₅ (g₆.trans g₇)) h₈
        rw [List.append_assoc, ← rowI_succ] at st₈
        exact s_less st₈ ⟨rfl, rfl, rfl, rfl, trivial⟩
    · refine wpAny_execs_nil (wpAny_execs_nil ?_)
      rw [show (nats 10).length = 10 by simp, ← hmk, ← tabI_succ] at st₅
      exact s_less st₅ ⟨rfl, rfl, trivial⟩
  · rw [show (nats ms.length).length = ms.length by simp] at st₃
    refine wpAny_execs_nil (wpAny_execs_cons (wpAny_Return_some ((Ev.name (C := cx _ _ _ _ _ _) (d := raw H)).use st₃.ok fun u s₄ g₄ ok₄ r₄ => ?_)))
    exact fin _ _ s₄ (s_step st₃ g₄) u r₄
end Mine
end
section
open PySem PySem.Spec PySem.SeqAt PySem.Calls PyProof.Rows
set_option maxRecDepth 100000
namespace Mine
theorem low_nm_all : ((List.range 10).all fun p => (List.range 10).all fun q => signs.all fun c => signs.all fun d => (low (nm p c) == low (nm q d)) == (p == q && lo1 c == lo1 d)) = true := by decide +kernel
theorem low_nm {p q c d : Nat} (hp : p < 10) (hq : q < 10) (hc : c ∈ signs) (hd : d ∈ signs) : (low (nm p c) == low (nm q d)) = (p == q && lo1 c == lo1 d) := by
  have h := List.all_eq_true.mp (List.all_eq_true.mp (List.all_eq_true.mp (List.all_eq_true.mp low_nm_all p (List.mem_range.mpr hp)) q (List.mem_range.mpr hq)) c hc) d hd
  exact beq_iff_eq.mp h
theorem lts_fl_all : ((List.range 5).all fun i => (List.range 5).all fun j => lts (fl i) (fl j) == decide (i < j)) = true := by decide +kernel
theorem lts_fl {i j : Nat} (hi : i < 5) (hj : j < 5) : lts (fl i) (fl j) = decide (i < j) := by
  have h := List.all_eq_true.mp (List.all_eq_true.mp lts_fl_all i (List.mem_range.mpr hi)) j (List.mem_range.mpr hj)
  exact beq_iff_eq.mp h
theorem fl_inj {i j : Nat} (hi : i < 5) (hj : j < 5) (h : fl i = fl j) : i = j := by
  have h1 := lts_fl hi hj
  have h2 := lts_fl hj hi
  rw [h, lts_irrefl] at h1
  rw [h, lts_irrefl] at h2
  have := (decide_eq_false_iff_not.mp h1.symm)
  have := (decide_eq_false_iff_not.mp h2.symm)
  omega
/-- indices of files, upward -/
structure Up (l : List Nat) : Prop where
  inc : l.Pairwise (· < ·)
  lt : ∀ i ∈ l, i < 5
theorem Up.tail {a : Nat} {l : List Nat} (h : Up (a :: l)) : Up l := ⟨(List.pairwise_cons.mp h.inc).2, fun i hi => h.lt i (.tail _ hi)⟩
theorem Up.filter {l : List Nat} (h : Up l) (p : Nat → Bool) : Up (l.filter p) := ⟨h.inc.sublist List.filter_sublist, fun i hi => h.lt i (List.mem_filter.mp hi).1⟩
theorem Up.range {n : Nat} (h : n ≤ 5) : Up (List.range n) := ⟨List.pairwise_lt_range, fun i hi => Nat.lt_of_lt_of_le (List.mem_range.mp hi) h⟩
theorem Up.map {l : List Nat} (h : Up l) : Inc (l.map fl) := by
  refine List.pairwise_map.mpr (h.inc.imp_of_mem fun {a b} ha hb q => ?_)
  rw [lts_fl (h.lt a ha) (h.lt b hb)]; exact decide_eq_true q
theorem up_len : ∀ (l : List Nat) (k : Nat), l.Pairwise (· < ·) → (∀ i ∈ l, k ≤ i ∧ i < 5) → k ≤ 5 → l.length + k ≤ 5
  | [], k, _, _, hk => by simpa using hk
  | a :: l, k, h, hl, hk => by
    have h' := List.pairwise_cons.mp h
    have ha := hl a (.head _)
    have := up_len l (a + 1) h'.2 (fun i hi => ⟨h'.1 i hi, (hl i (.tail _ hi)).2⟩) (by omega)
    simp only [List.length_cons]; omega
theorem Up.len {l : List Nat} (h : Up l) : l.length ≤ 5 := by
  have := up_len l 0 h.inc (fun i hi => ⟨Nat.zero_le _, h.lt i hi⟩) (by decide)
  omega
noncomputable def minus (a b : List Nat) : List Nat := a.filter fun i => !b.contains i
theorem minus_nil (a : List Nat) : minus a [] = a := by simp [minus]
theorem Up.below {a : Nat} {l : List Nat} (h : Up (a :: l)) : ∀ i ∈ l, a < i := fun i hi => (List.pairwise_cons.mp h.inc).1 i hi
theorem minus_skip {a : Nat} {l as : List Nat} (h : ∀ i ∈ l, i ≠ a) : minus l (a :: as) = minus l as := by
  refine List.filter_congr fun i hi => ?_
  simp [List.contains_cons, h i hi]
theorem sldI : ∀ (a b : List Nat), Up a → Up b → sld (a.map fl) (b.map fl) = ((minus a b).map fl, (minus b a).map fl)
  | [], b, _, _ => by simp only [List.map_nil]; rw [sld_nil, minus_nil]; rfl
  | x :: a, [], _, _ => by simp only [List.map_nil]; rw [sld_nil', minus_nil]; rfl
  | x :: a, y :: b, ha, hb => by
    have hx := ha.lt x (.head _)
    have hy := hb.lt y (.head _)
    simp only [List.map_cons]
    rw [sld, lts_fl hx hy, lts_fl hy hx]
    have xa := ha.below
    have yb := hb.below
    by_cases h1 : x < y
    · rw [if_pos (decide_eq_true h1)]
      have := sldI a (y :: b) ha.tail hb
      simp only [List.map_cons] at this
      rw [this]
      have e1 : minus (x :: a) (y :: b) = x :: minus a (y :: b) := by
        have hn : x ∉ y :: b := fun q => by
          rcases List.mem_cons.mp q with q | q
          · omega
          · have := yb x q; omega
        unfold minus
        rw [List.filter_cons_of_pos (by simpa using hn)]
      have e2 : minus (y :: b) (x :: a) = minus (y :: b) a := minus_skip fun i hi => by
        rcases List.mem_cons.mp hi with q | q
        · omega
        · have := yb i q; omega
      rw [e1, e2]; rfl
    · rw [if_neg (by simpa using h1)]
      by_cases h2 : y < x
      · rw [if_pos (decide_eq_true h2)]
        have := sldI (x :: a) b ha hb.tail
        simp only [List.map_cons] at this
        rw [this]
        have e1 : minus (y :: b) (x :: a) = y :: minus b (x :: a) := by
          have hn : y ∉ x :: a := fun q => by
            rcases List.mem_cons.mp q with q | q
            · omega
            · have := xa y q; omega
          unfold minus
          rw [List.filter_cons_of_pos (by simpa using hn)]
        have e2 : minus (x :: a) (y :: b) = minus (x :: a) b := minus_skip fun i hi => by
          rcases List.mem_cons.mp hi with q | q
          · omega
          · have := xa i q; omega
        rw [e1, e2]; rfl
      · rw [if_neg (by simpa using h2)]
        have hxy : x = y := by omega
        subst hxy
        rw [sldI a b ha.tail hb.tail]
        have e : ∀ {a b : List Nat}, (∀ i ∈ a, x < i) → minus (x :: a) (x :: b) = minus a b := fun {a b} h => by
          unfold minus
          rw [List.filter_cons_of_neg (by simp)]
          exact minus_skip fun i hi => by have := h i hi; omega
        rw [e xa, e yb]
termination_by a b => a.length + b.length
noncomputable def both (a b : List Nat) : List Nat := a.filter fun i => b.contains i
theorem minus_minus (a b : List Nat) : minus a (minus a b) = both a b := by
  unfold both minus
  refine List.filter_congr fun i hi => ?_
  by_cases h : i ∈ b
  · simp [h]
  · simp [h, hi]
theorem meetI {a b : List Nat} (ha : Up a) (hb : Up b) : meet (a.map fl) (b.map fl) = (both a b).map fl := by
  unfold meet
  rw [sldI a b ha hb]
  rw [sldI a (minus a b) ha (ha.filter _), minus_minus]

/-- the files that have this sign at this place, great or small -/
noncomputable def colI (ms : List Nat) (p c : Nat) : List Nat := (List.range ms.length).filter fun i => lo1 (sg (ms.getD i 0) p) == lo1 c
theorem row_col (m i p c k : Nat) (hp : p < 10) (hc : c ∈ signs) (hk : k ≤ 10) : ((rowI m i k).filter fun q => low q.1 == low (nm p c)).map (·.2) = if p < k ∧ (lo1 (sg m p) == lo1 c) = true then [fl i] else [] := by
  induction k with
  | zero => simp [rowI]
  | succ k ih =>
    rw [rowI_succ, List.filter_append, List.map_append, ih (by omega)]
    have e : (low (nm k (sg m k)) == low (nm p c)) = (k == p && lo1 (sg m k) == lo1 c) := low_nm (by omega) hp (sg_mem m (by omega)) hc
    simp only [List.filter_cons, List.filter_nil, e]
    by_cases q : k = p
    · subst q
      rw [if_neg (by omega)]
      by_cases r : (lo1 (sg m k) == lo1 c) = true
      · simp [r]
      · simp [r]
    · have : (k == p) = false := by simpa using q
      simp only [this, Bool.false_and, Bool.false_eq_true, if_false, List.map_nil, List.append_nil]
      by_cases r : p < k
      · have : p < k + 1 := by omega
        simp [r, this]
      · have : ¬ p < k + 1 := by omega
        simp [r, this]
theorem col_eq (ms : List Nat) (p c : Nat) (hp : p < 10) (hc : c ∈ signs) : ((tab ms).filter fun q => low q.1 == low (nm p c)).map (·.2) = (colI ms p c).map fl := by
  have : ∀ k, ((tabI ms k).filter fun q => low q.1 == low (nm p c)).map (·.2) = ((List.range k).filter fun i => lo1 (sg (ms.getD i 0) p) == lo1 c).map fl := fun k => by
    induction k with
    | zero => rfl
    | succ k ih =>
      rw [tabI_succ, List.filter_append, List.map_append, ih, row_col _ _ _ _ _ hp hc (Nat.le_refl _), List.range_succ, List.filter_append, List.map_append]
      congr 1
      simp only [hp, true_and, List.filter_cons, List.filter_nil]
      split <;> rfl
  exact this ms.length
end Mine
end
section
open PySem PySem.Spec PySem.SeqAt PySem.Calls PyProof.Rows
set_option maxRecDepth 100000
namespace Mine
noncomputable def ls (m p : Nat) : Nat := lo1 (sg m p)
noncomputable def m0 (ms pk : List Nat) : Nat := ms.getD (pk.getD 0 0) 0
noncomputable def cmn (ms pk : List Nat) (k : Nat) : List Nat := (List.range k).filter fun p => pk.all fun i => ls (ms.getD i 0) p == ls (m0 ms pk) p
noncomputable def dueI (ms : List Nat) (m : Nat) (ps : List Nat) : List Nat := (List.range ms.length).filter fun i => ps.all fun p => ls (ms.getD i 0) p == ls m p
noncomputable def nmsI (m : Nat) (ps : List Nat) : List Str := ps.map fun p => nm p (sg m p)
theorem cmn_succ (ms pk : List Nat) (k : Nat) : cmn ms pk (k + 1) = cmn ms pk k ++ if (pk.all fun i => ls (ms.getD i 0) k == ls (m0 ms pk) k) then [k] else [] := by
  unfold cmn
  rw [List.range_succ, List.filter_append]
  simp only [List.filter_cons, List.filter_nil]
theorem contains_col {ms : List Nat} {p c i : Nat} (hi : i < ms.length) : (colI ms p c).contains i = (lo1 (sg (ms.getD i 0) p) == lo1 c) := by
  rw [Bool.eq_iff_iff, List.contains_iff_mem]
  simp [colI, hi]
theorem due_snoc (ms : List Nat) (m p : Nat) (ps : List Nat) : dueI ms m (ps ++ [p]) = both (dueI ms m ps) (colI ms p (sg m p)) := by
  unfold dueI both
  rw [List.filter_filter]
  refine List.filter_congr fun i hi => ?_
  rw [contains_col (List.mem_range.mp hi), List.all_append]
  simp only [List.all_cons, List.all_nil, Bool.and_true, ls]
  rw [Bool.and_comm]
theorem minus_col {ms pk : List Nat} {p c : Nat} (h : ∀ i ∈ pk, i < ms.length) : (minus pk (colI ms p c)).isEmpty = pk.all fun i => lo1 (sg (ms.getD i 0) p) == lo1 c := by
  rw [Bool.eq_iff_iff, List.isEmpty_iff, minus, List.filter_eq_nil_iff, List.all_eq_true]
  refine forall_congr' fun i => forall_congr' fun hi => ?_
  rw [contains_col (h i hi)]; simp
theorem due_up {ms : List Nat} {m : Nat} {ps : List Nat} (h : ms.length ≤ 5) : Up (dueI ms m ps) := (Up.range h).filter _
theorem col_up {ms : List Nat} {p c : Nat} (h : ms.length ≤ 5) : Up (colI ms p c) := (Up.range h).filter _
theorem canStrs : ∀ {l : List Str}, (∀ x ∈ l, PyData.strOk x = true) → PyData.canLayAll0 (dstr l) = true
  | [], _ => rfl
  | a :: l, h => by
    simp only [dstr, List.map_cons, PyData.canLayAll0, Bool.and_eq_true]
    exact ⟨by simpa [PyData.canLay0] using h a (.head _), canStrs fun x hx => h x (.tail _ hx)⟩
theorem ok_fl_all : ((List.range 5).all fun i => PyData.strOk (fl i)) = true := by decide +kernel
theorem ok_fl {i : Nat} (h : i < 5) : PyData.strOk (fl i) = true := List.all_eq_true.mp ok_fl_all i (List.mem_range.mpr h)
theorem ok_nm_all : ((List.range 10).all fun p => signs.all fun c => PyData.strOk (nm p c)) = true := by decide +kernel
theorem ok_nm {p c : Nat} (hp : p < 10) (hc : c ∈ signs) : PyData.strOk (nm p c) = true := List.all_eq_true.mp (List.all_eq_true.mp ok_nm_all p (List.mem_range.mpr hp)) c hc
theorem ok_fls {l : List Nat} (h : ∀ i ∈ l, i < 5) : ∀ x ∈ l.map fl, PyData.strOk x = true := fun x hx => by
  obtain ⟨i, hi, rfl⟩ := List.mem_map.mp hx
  exact ok_fl (h i hi)
theorem RdAll.strsX {X X' : List Addr} {h h' : Heap} : ∀ {l : List Str} {vs : List Value}, RdAll X h (dstr l) vs → RdAll X' h' (dstr l) vs
  | [], _, r => by simp only [dstr, List.map_nil, RdAll] at r ⊢; exact r
  | a :: l, _, r => by
    simp only [dstr, List.map_cons, RdAll] at r ⊢
    obtain ⟨v, rest, rfl, h1, h2⟩ := r
    obtain ⟨t, rfl⟩ := h1.str_inv
    exact ⟨_, rest, rfl, .str_, RdAll.strsX h2⟩
theorem Cmp.empty {C : Cx} {l : List Str} (hl : ∀ x ∈ l, PyData.strOk x = true) : Cmp C .Eq (.list (dstr l)) (.list []) l.isEmpty := fun s u v ok hu hv Q E h => by
  have : Cmp C .Eq (.list (dstr l)) (.list []) (PyData.eqv (.list (dstr l)) (.list [])) := .eq (by
      rw [PyData.canLay0]; exact canStrs hl) rfl (Nat.le_trans (Nat.min_le_right _ _) (by decide))
  have e : PyData.eqv (.list (dstr l)) (.list []) = l.isEmpty := by cases l <;> rfl
  rw [e] at this
  exact this s u v ok hu hv Q E h

theorem Rd.strs_off {X X' : List Addr} {h : Heap} {D t : Addr} {ys : List Value} {n : Nat} {l : List Str} {v : Value} (hl : IsL h D (List.toArray (.ref t :: ys)) n) (r : Rd X' h (.list (dstr l)) v) (hX : ∀ c ∈ X, c ∈ X' ∨ c = D) : Rd X h (.list (dstr l)) v := by
  obtain ⟨a, vs, m, rfl, ha, hL, ra⟩ := r.list_inv
  have haD : a ≠ D := fun q => by
    rw [q] at hL
    have := hl.symm.trans hL
    simp at this
    obtain ⟨e, _⟩ := this
    rw [← e] at ra
    cases l with
    | nil => simp only [dstr, List.map_nil, RdAll] at ra; cases ra
    | cons x l =>
      simp only [dstr, List.map_cons, RdAll] at ra
      obtain ⟨v, r, q1, q2, _⟩ := ra
      cases q1
      obtain ⟨t', q⟩ := q2.str_inv
      cases q
  refine .list_ (fun q => ?_) hL ra.strsX
  rcases hX a q with q | q
  · exact ha q
  · exact haD q

theorem s_assign_comp {S : Stat} {X : List Addr} {V : Vars} {M : Muts} {I : Its} {K : Facts} {s₀ s : Shared} {x : Str} {p' pos : Pos} {rest : List Stmt} {Q : Flow → Shared → Prop} {E : Value → Shared → Prop} {elt iter : Expr} {y : Str} {px cpos : Pos} {ifs : List Expr} {scope : Scope} {cl : List (Str × Addr)} {ds : List PyData} (ws : List (Str × PyData)) (p : PyData → Bool) (f : PyData → PyData) (h : FS S X V M I K s₀ s)
    (src : Src (cx S X V M I K) iter ds)
    (hvis : SeesAll (cx S X V M I K) scope cl ws)
    (body : ∀ L X' d, d ∈ ds → Trs (((cx S X V M I K).inner scope cl L X' ws).bind y d) ifs (p d) ∧ (p d = true → Ev (((cx S X V M I K).inner scope cl L X' ws).bind y d) elt (f d)))
    (hsz : ds.length ≤ sizeLine)
    (k : ∀ s', FS S X ((x, .list ((ds.filter p).map f)) :: V) M I K s₀ s' → wpAny (model S.prog S.w) S.A (execs rest S.env) Q E s')
    (hk : S.env.kindOf x = some .local := by rfl)
    (hsw : swapsWith (.ListComp elt [⟨.Name y px, iter, ifs, 0⟩] scope cpos) (some (.Name x p')) pos.line S.env = pure true := by rfl)
    (hclos : closureFor scope S.env = pure cl := by rfl) (hfold : ∀ v, foldedSetIterable iter S.env v = pure v := by intro _; rfl) (hkind : scope.kind = .function := by rfl)
    (hnames : ∀ x ∈ scope.names, x.2 = .local → scope.names.lookup x.1 = some .local := by decide)
    (htgt : scope.names.lookup y = some .local ∨ (scope.names.lookup y = some .cell ∧ ∀ n, ((cellsFrom n scope.names []).lookup y).isSome = true) := by first | exact .inl rfl | exact .inr ⟨rfl, fun _ => rfl⟩) (hcalm : S.calm = true := by rfl) (hny : ws.lookup y = none := by rfl) :
    wpAny (model S.prog S.w) S.A (execs (.Assign [.Name x p'] (.ListComp elt [⟨.Name y px, iter, ifs, 0⟩] scope cpos) pos :: rest) S.env) Q E s :=
  ex_assign_comp (C := cx S X V M I K) ws p f h src hvis body hsz k hk hsw hclos hfold hkind hnames htgt hcalm hny
theorem tab_first {ms : List Nat} (h : 0 < ms.length) : ∃ a b r, pairs (tab ms) = .tuple [.str a, .str b] :: r := by
  obtain ⟨k, hk⟩ : ∃ k, ms.length = k + 1 := ⟨ms.length - 1, by omega⟩
  show ∃ a b r, pairs (tabI ms ms.length) = _
  rw [hk]
  exact ⟨nm 0 (sg (ms.getD 0 0) 0), fl 0, _, by
    unfold pairs tabI
    rw [List.range_succ_eq_map]
    rfl⟩

noncomputable abbrev fls (l : List Nat) : List PyData := dstr (l.map fl)

theorem answer_ok {w : World} {G : Glob} {n : Nat} (pf : PF2 G) {H D : Addr} (I : TabAt G H D) {ms pk : List Nat} (hms : ms.length ≤ 5) (hpk : Up pk) (hpl : ∀ i ∈ pk, i < ms.length) (hpn : pk ≠ [])
    {A : Around} {X : List Addr} {s : Shared} {vf vm vp : Value} (room : Room A (n + 3)) (am : Amid G A X s) (mt : MutAt X s.heap D (pairs (tab ms))) (rf : Rd X s.heap (.list (fls (List.range ms.length))) vf) (rm : Rd X s.heap (.list (dnat ms)) vm) (rp : Rd X s.heap (.list (dnat pk)) vp) :
    wpAny (model pw w) A (call (.ref 404) [.ref H, vf, vm, vp]) (fun u s' => Grow G.top s s' ∧ Rd X s'.heap (.tuple [.list (dstr (nmsI (m0 ms pk) (cmn ms pk 10))), .list (fls (dueI ms (m0 ms pk) (cmn ms pk 10)))]) u) (fun _ _ => False) s := by
  obtain ⟨doc, pm, code, f⟩ := pf.fAnswer
  obtain ⟨dF, pF, cF, fF⟩ := id pf.fFm
  obtain ⟨dS, pS, cS, fS⟩ := id pf.fSld
  obtain ⟨dM, pM, cM, fM⟩ := id pf.fMeet
  obtain ⟨hDX, ys, nn, hl, ra⟩ := mt
  have hsz : ∀ k : Nat, k ≤ 100 → k ≤ sizeLine := fun k h => Nat.le_trans h (by decide)
  obtain ⟨p0, pr, hpk0⟩ : ∃ p0 pr, pk = p0 :: pr := by cases pk with
    | nil => exact absurd rfl hpn
    | cons a b => exact ⟨a, b, rfl⟩
  have hp0 : p0 < ms.length := hpl p0 (by rw [hpk0]; exact .head _)
  have sub : ∀ b ∈ X.filter (· ≠ D), b ∈ X ∧ b ≠ D := fun b hb => by simpa using hb
  have am₀ : Amid G A (X.filter (· ≠ D)) s := ⟨am.fr, am.g, fun b hb => am.lo b (sub b hb).1⟩
  have rt : Rd (X.filter (· ≠ D)) s.heap (.list (pairs (tab ms))) (.ref D) := .list_ (fun q => (sub D q).2 rfl) hl (ra.mono fun b o hb e => ⟨fun q => hb (sub b q).1, e⟩)
  have rf := rf.sub fun b hb => (sub b hb).1
  have rm := rm.sub fun b hb => (sub b hb).1
  have rp := rp.sub fun b hb => (sub b hb).1
  refine s_callC (X := X.filter (· ≠ D)) (binds := [("table", .ref H), ("files", vf), ("modes", vm), ("pick", vp)]) [("table", raw H), ("files", .list (fls (List.range ms.length))), ("modes", .list (dnat ms)), ("pick", .list (dnat pk))] f rfl room am₀ rfl rfl ⟨.inl rfl, .inr ⟨rfl, fun _ => rfl⟩, .inl rfl, .inl rfl, trivial⟩
    ⟨⟨_, .inl ⟨rfl, rfl⟩, .raw_⟩, ⟨_, .inr ⟨rfl, fun _ => rfl, rfl⟩, rf⟩, ⟨_, .inl ⟨rfl, rfl⟩, rm⟩, ⟨_, .inl ⟨rfl, rfl⟩, rp⟩, trivial⟩ fun L X' s' hX hX' st room' => ?_
  have st := s_fact st (rt.fresh st.grow hX')
  have g1 : (dnat pk)[0]? = some (nat p0) := by rw [hpk0]; rfl
  have hm0 : m0 ms pk = ms.getD p0 0 := by rw [hpk0]; rfl
  have g2 : (dnat ms)[p0]? = some (nat (m0 ms pk)) := by rw [hm0]; simp [dnat, hp0]
  refine s_assign st (.call (.glob pf.gFm) (.cons (.itemN .name (.itemN .name (.nat 0) g1 (by decide)) g2 (by omega)) .nil) fF (fm_ok pf) room') fun s₁ st₁ => ?_
  have ha : ((dnat pk).filter fun _ => true).map (fun d => match d with | .int i => .str (fl i.toNat) | d => d) = fls pk := by
    rw [List.filter_eq_self.mpr fun _ _ => rfl]
    simp only [dnat, fls, dstr, List.map_map]
    exact List.map_congr_left fun i _ => rfl
  refine s_assign_comp [("files", .list (fls (List.range ms.length)))] (fun _ => true) (fun d => match d with | .int i => .str (fl i.toNat) | d => d) st₁ (.list .name) ⟨⟨rfl, rfl, rfl, fun _ => rfl, .inl rfl, rfl⟩, trivial⟩ (fun L X d hd => ?_) (hsz _ (by simp; have := hpk.len; omega)) fun s₂ st₂ => ?_
  · obtain ⟨i, hi, rfl⟩ := List.mem_map.mp hd
    have hil := hpl i hi
    refine ⟨.nil, fun _ => .itemN .name .name ?_ (by omega)⟩
    show (dstr ((List.range ms.length).map fl))[i]? = some (.str (fl ((i : Int)).toNat))
    simp [dstr, hil]
  rw [ha] at st₂
  refine s_newlist st₂ .nil (hsz _ (by simp)) fun N s₃ hNX hN st₃ => ?_
  refine s_assign st₃ .name fun s₄ st₄ => ?_
  have hlen : (⟨(fmC (m0 ms pk)).toArray⟩ : Str).length = 10 := by show (fmC (m0 ms pk)).toArray.size = 10; simp [fmC_len]
  have d0 : dueI ms (m0 ms pk) (cmn ms pk 0) = List.range ms.length := by unfold dueI cmn; simp
  refine s_for (fun d => [("place", d)]) (fun k => [("answer", .list (fls (dueI ms (m0 ms pk) (cmn ms pk k)))), ("names", raw N), ("asked", .list (fls pk)), ("row", .str ⟨(fmC (m0 ms pk)).toArray⟩), ("table", raw H)]) (fun k => [(N, dstr (nmsI (m0 ms pk) (cmn ms pk k)))]) (fun _ _ => False) st₄ (Src.walk (Src.rangeN (k := 10) (.blt (pf.blt _) (by boot_fast)) (.lenS (.blt (pf.blt _) (by boot_fast)) .name hlen (by omega)) (by omega))) ⟨by rw [d0]; rfl, rfl, rfl, rfl, rfl, trivial⟩ (fun _ _ _ => .name) (fun k d hd F P q s₅ hFX st₅ => ?_) (fun _ _ _ z => z.elim) fun s₅ st₅ => ?_
  · obtain ⟨hk, rfl⟩ := nats_get hd
    have hc := sg_mem (m0 ms pk) hk
    have hg := good_nm hk hc
    have ecol := col_eq ms k (sg (m0 ms pk) k) hk hc
    have hasc : ∀ q ∈ tab ms, Asc q.1 := fun q hq => by
      obtain ⟨i, p, hi, hp, rfl⟩ := tabI_mem hq
      exact (good_nm hp (sg_mem _ hp)).asc
    have htl : (tab ms).length ≤ 100 := by rw [tabI_len]; omega
    have upc := col_up (ms := ms) (p := k) (c := sg (m0 ms pk) k) hms
    have upd := due_up (ms := ms) (m := m0 ms pk) (ps := cmn ms pk k) hms
    have hlk := hsz _ (show (Str.ofString (toString k)).length + 1 ≤ 100 by have := tostr_len k hk; omega)
    have hfk : k < (fmC (m0 ms pk)).toArray.size := by simpa [fmC_len] using hk
    have hcl : (cmn ms pk k).length ≤ 10 := by
      have : (cmn ms pk k).length ≤ (List.range k).length := List.length_filter_le _ _
      simp at this; omega
    refine s_assign st₅ (d := .list (dstr (((tab ms).filter fun q => low q.1 == low (nm k (sg (m0 ms pk) k))).map (·.2)))) (.getAll pf.toPF rfl .name I (.tail _ (.head _)) (.addStr (.strN (.blt (pf.blt _) (by boot_fast)) .name (by omega)) (.ch .name .name hfk (by omega)) hlk) hasc hg.asc hg.clow htl room') fun s₆ st₆ => ?_
    rw [ecol] at st₆
    have esl := sldI pk (colI ms k (sg (m0 ms pk) k)) hpk upc
    have hempty : ((minus pk (colI ms k (sg (m0 ms pk) k))).map fl).isEmpty = pk.all fun i => ls (ms.getD i 0) k == ls (m0 ms pk) k := by
      have := minus_col (p := k) (c := sg (m0 ms pk) k) hpl
      refine Eq.trans ?_ this
      cases minus pk (colI ms k (sg (m0 ms pk) k)) <;> rfl
    have hpl5 := hpk.len
    have hcl5 := upc.len
    have hdl5 := upd.len
    refine s_if st₆ (.cmp (.itemTN (.call (.glob pf.gSld) (.cons .name (.cons .name .nil)) fS (sld_ok fS (pf.blt _) hpk.map.noNb upc.map.noNb (by simp; omega) (by simp; omega)) room') (.nat 0) rfl (by decide)) (.list .nil (hsz _ (by simp))) (Cmp.empty (by rw [esl]; exact ok_fls fun i hi => hpk.lt i (List.mem_filter.mp hi).1))) (fun hb s₇ st₇ => ?_) (fun hb s₇ st₇ => ?_)
    · rw [esl, hempty] at hb
      refine s_append st₇ (d := .str (nm k (sg (m0 ms pk) k))) (.addStr (.strN (.blt (pf.blt _) (by boot_fast)) .name (by omega)) (.ch .name .name hfk (by omega)) hlk) (hsz _ (by simp [nmsI]; omega)) fun s₈ st₈ => ?_
      refine s_assign st₈ (.call (.glob pf.gMeet) (.cons .name (.cons .name .nil)) fM (meet_ok pf upd.map upc.map (by simp; omega) (by simp; omega)) room') fun s₉ st₉ => ?_
      rw [meetI upd upc, ← due_snoc] at st₉
      refine wpAny_execs_nil (wpAny_execs_nil ?_)
      have e1 : cmn ms pk (k + 1) = cmn ms pk k ++ [k] := by rw [cmn_succ, if_pos hb]
      have e2 : dstr (nmsI (m0 ms pk) (cmn ms pk k)) ++ [.str (nm k (sg (m0 ms pk) k))] = dstr (nmsI (m0 ms pk) (cmn ms pk (k + 1))) := by rw [e1]; simp [nmsI]
      rw [e2, ← e1] at st₉
      exact s_less st₉ ⟨rfl, rfl, rfl, rfl, rfl, trivial⟩
    · rw [esl, hempty] at hb
      have e1 : cmn ms pk (k + 1) = cmn ms pk k := by rw [cmn_succ, if_neg (by rw [hb]; decide)]; simp
      refine wpAny_execs_nil (wpAny_execs_nil ?_)
      have st₈ := s_less (W := [("answer", .list (fls (dueI ms (m0 ms pk) (cmn ms pk k)))), ("names", raw N), ("asked", .list (fls pk)), ("row", .str ⟨(fmC (m0 ms pk)).toArray⟩), ("table", raw H)]) st₇ ⟨rfl, rfl, rfl, rfl, rfl, trivial⟩
      rw [← e1] at st₈
      exact st₈
  · rw [show (nats 10).length = 10 by simp] at st₅
    refine wpAny_execs_nil ?_
    refine s_return (s_freeze (x := "names") st₅ rfl) (.tuple (.cons .name (.cons .name .nil)) (hsz _ (by simp))) fun u s₆ g r => ⟨g, ?_⟩
    have hXs : ∀ b ∈ X.filter (· ≠ D), b ∈ (N :: X').filter (· ≠ N) := fun b hb => by
      have h1 := hX b hb
      have : b ≠ N := fun q => hNX (q ▸ h1)
      simp [h1, this]
    have r := r.sub hXs
    obtain ⟨a, b, rr, hab⟩ := tab_first (ms := ms) (by omega)
    rw [hab] at ra
    simp only [RdAll] at ra
    obtain ⟨v, vr, rfl, rv, _⟩ := ra
    obtain ⟨t, vs, m, rfl, _⟩ := rv.tuple_inv
    have hl' := g.ext.list hl
    have hXD : ∀ c ∈ X, c ∈ X.filter (· ≠ D) ∨ c = D := fun c hc => by
      by_cases q : c = D
      · exact .inr q
      · exact .inl (by simpa using ⟨hc, q⟩)
    obtain ⟨ta, vs', m', rfl, hta, hT, rT⟩ := r.tuple_inv
    simp only [RdAll] at rT
    obtain ⟨x1, y1, rfl, q1, x2, y2, rfl, q2, rfl⟩ := rT
    refine .tuple_ (fun q => ?_) hT (.cons (q1.strs_off hl' hXD) (.one (q2.strs_off hl' hXD)))
    rcases hXD ta q with q | q
    · exact hta q
    · rw [q] at hT; have := hl'.symm.trans hT; simp at this
end Mine
end
section
open PySem PySem.Spec PySem.SeqAt PySem.Calls PyProof.Rows
open AutoSeq1 (wpAny_loadPart')
set_option maxRecDepth 100000
namespace Mine
structure MisCls (h : Heap) : Prop where
  obj : ∃ nm q hd sn sub col dd k0 k1 k2 k3 k5, h.get? 159 = some (misClass nm q hd sn sub col dd k0 k1 k2 k3 k5)
  ns : ∃ mN, h.Ns 158 mN ∧ mN "__new__" = some (.ref 160) ∧ mN "__init__" = none ∧ mN "__eq__" = none ∧ mN "__ne__" = none
  sta : ∃ mS, h.Ns cStatics mS ∧ mS "thirdparty.any" = none
  st : ∃ o, h.get? 160 = some o ∧ o.cls = .type "staticmethod" ∧ o.data = .fields #[.ref 106]
theorem MisCls.keeps {h h' : Heap} (m : MisCls h) (k : ∀ b o, h.get? b = some o → h'.get? b = some o) : MisCls h' :=
  ⟨let ⟨nm, q, hd, sn, sub, col, dd, k0, k1, k2, k3, k5, e⟩ := m.obj; ⟨nm, q, hd, sn, sub, col, dd, k0, k1, k2, k3, k5, k _ _ e⟩, let ⟨mN, n, r⟩ := m.ns; ⟨mN, n.keeps k, r⟩, let ⟨mN, n, r⟩ := m.sta; ⟨mN, n.keeps k, r⟩, let ⟨o, e, r⟩ := m.st; ⟨o, k _ _ e, r⟩⟩
section
variable {M : Model} {A : Around} {E : Value → Shared → Prop} {h : Heap} {g : Array GenState} {d : Drawn} {t : Nat} {os : OsState}
variable {nm q : Str} {hd : Bool} {sn : List Str} {sub : List Value} {col : Option Bool} {dd : Option Addr} {k0 k1 k2 k3 k5 : Option Value}
theorem mis_isSubtype {base : Value} {Q : Bool → Shared → Prop} (hC : h.get? 159 = some (misClass nm q hd sn sub col dd k0 k1 k2 k3 k5)) (hq : Q ([Value.ref 159, .type "tuple", .type "object"].contains base) ⟨h, g, d, t, os⟩) : wpAny M A (isSubtype (.ref 159) base) Q E ⟨h, g, d, t, os⟩ := by
  unfold isSubtype
  repeat (any_goals (first | assumption | wp_step))
theorem mis_mro {Q : List Value → Shared → Prop} (hC : h.get? 159 = some (misClass nm q hd sn sub col dd k0 k1 k2 k3 k5)) (hq : Q [Value.ref 159, .type "tuple", .type "object"] ⟨h, g, d, t, os⟩) : wpAny M A (mroOf (.ref 159)) Q E ⟨h, g, d, t, os⟩ := by
  unfold mroOf
  repeat (any_goals (first | assumption | wp_step))
theorem mis_lookup {name : Str} {mN : Str → Option Value} {y : Option Value} {Q : Option Value → Shared → Prop} (hC : h.get? 159 = some (misClass nm q hd sn sub col dd k0 k1 k2 k3 k5)) (hn : h.Ns 158 mN) (hB : typeLookup (.type "tuple") name = pure y)
    (hq : Q (match mN name with | some v => some v | none => y) ⟨h, g, d, t, os⟩) : wpAny M A (typeLookup (.ref 159) name) Q E ⟨h, g, d, t, os⟩ := by
  have hrest : lookupAlong [.type "tuple", .type "object"] name = pure y := by rw [typeLookup_eq, F.mro_tuple] at hB; exact hB
  rw [typeLookup_eq]
  refine wpAny_bind (mis_mro hC ?_)
  rw [lookupAlong_cons]
  refine wpAny_bind ?_
  unfold classOwn
  refine wpAny_bind ?_
  unfold classData
  refine wpAny_bind (wpAny_load hC (wpAny_pure (wpAny_nsGet hn ?_)))
  cases hv : mN name with
  | some v => rw [hv] at hq; exact wpAny_pure hq
  | none => rw [hv] at hq; rw [hrest]; exact wpAny_pure hq
theorem mis_madeBy {Q : Option String → Shared → Prop} (hC : h.get? 159 = some (misClass nm q hd sn sub col dd k0 k1 k2 k3 k5)) (hq : Q none ⟨h, g, d, t, os⟩) : wpAny M A (Bind.madeBy (.ref 159)) Q E ⟨h, g, d, t, os⟩ := by
  unfold Bind.madeBy
  repeat (first | refine wpAny_loadPart_at hC ?_ | refine mis_mro hC ?_ | wp_step)
  exact hq
theorem best_tuple : Builtin.Slots.bestBase [.type "tuple"] = pure (.type "tuple") := by
  first | kernel_rfl | rfl
theorem mis_staticBase {Q : Value → Shared → Prop} (hC : h.get? 159 = some (misClass nm q hd sn sub col dd k0 k1 k2 k3 k5)) (hq : Q (.type "tuple") ⟨h, g, d, t, os⟩) : wpAny M A (Bind.staticBase (.ref 159)) Q E ⟨h, g, d, t, os⟩ := by
  have f1 := F.called_tuple.made
  have f2 := best_tuple
  unfold Bind.staticBase
  refine wpAny_bind (mis_mro hC ?_)
  rw [List.forIn_cons]
  refine wpAny_bind (wpAny_bind (wpAny_bind (mis_madeBy hC ?_)))
  rw [if_neg (by simp)]
  dsimp only
  unfold classData
  refine wpAny_bind (wpAny_bind (wpAny_load hC (wpAny_pure ?_)))
  refine wpAny_bind (wpAny_of_eq f2 (wpAny_pure ?_))
  dsimp only
  rw [List.forIn_cons]
  refine wpAny_bind (wpAny_bind (wpAny_of_eq f1 ?_))
  rw [if_pos (by rfl)]
  refine wpAny_pure ?_
  dsimp only
  refine wpAny_pure ?_
  dsimp only
  exact wpAny_pure hq
theorem mis_madeHere {Q : Unit → Shared → Prop} (hC : h.get? 159 = some (misClass nm q hd sn sub col dd k0 k1 k2 k3 k5)) (hq : Q () ⟨h, g, d, t, os⟩) : wpAny M A (Bind.madeHere "tuple.__new__" (.ref 159)) Q E ⟨h, g, d, t, os⟩ := by
  unfold Bind.madeHere
  refine wpAny_bind (mis_staticBase hC (wpAny_bind (wpAny_of_eq F.called_tuple.made ?_)))
  rw [if_neg (by simp)]
  exact wpAny_pure hq
theorem type_new : typeLookup (.type "type") "__new__" = pure (some (.builtin "type.__new__")) := by rw [typeLookup_type, builtinLookup_eq_fast]; kernel_rfl
end
section
variable {prog : Program} {w : World} {A : Around} {E : Value → Shared → Prop} {h : Heap} {g : Array GenState} {d : Drawn} {t : Nat} {os : OsState}
variable {nm q : Str} {hd : Bool} {sn : List Str} {sub : List Value} {col : Option Bool} {dd : Option Addr} {k0 k1 k2 k3 k5 : Option Value}
theorem slot_sm_get : Slot "staticmethod" "__get__" "staticmethod.__get__" :=
  .of (owner := "staticmethod") (n := "__get__") (by rw [typeLookup_type, builtinLookup_eq_fast]; kernel_rfl) (by decide +kernel) (by decide +kernel) (by decide +kernel)
    (by first | exact .inl (by decide +kernel) | exact .inr (by decide +kernel)) (by rw [isSubtype_type]; kernel_rfl)
theorem entry_sm_get : entryFor table "staticmethod.__get__" = some Builtin.«staticmethod.__get__» := entryFor_of_tree (by kernel_rfl)
theorem args_sm_get (a b c : Value) : argsOk "staticmethod.__get__" ⟨[a, b, c], []⟩ := by unfold argsOk; kernel_rfl
theorem mis_new {Q : Value → Shared → Prop} (hC : h.get? 159 = some (misClass nm q hd sn sub col dd k0 k1 k2 k3 k5)) {mN mS : Str → Option Value} (hn : h.Ns 158 mN) (h1 : mN "__new__" = some (.ref 160)) (hS : h.Ns cStatics mS) (hS1 : mS "thirdparty.any" = none) {o : Obj} (h2 : h.get? 160 = some o) (h3 : o.cls = .type "staticmethod") (h4 : o.data = .fields #[.ref 106])
    (hq : ∀ t', Q (.ref 106) ⟨h, g, d, t', os⟩) : wpAny (model prog w) A (getAttr (.ref 159) "__new__") Q E ⟨h, g, d, t, os⟩ := by
  have f1 : typeLookup (.type "type") "__getattribute__" = pure (some (.builtin "type.__getattribute__")) := by rw [typeLookup_type, builtinLookup_eq_fast]; kernel_rfl
  have f5 : typeLookup (.type "tuple") "__new__" = pure (some (.builtin "tuple.__new__")) := F.lookup_tuple_new
  have f6 : specialOf (.builtin "type.__new__") "__get__" = pure none := by kernel_rfl
  have hT : ∀ t, (⟨h, g, d, t, os⟩ : Shared).TypeIs (.ref 159) "type" := fun t => ⟨_, hC, rfl⟩
  have hT2 : ∀ t, (⟨h, g, d, t, os⟩ : Shared).TypeIs (.ref 160) "staticmethod" := fun t => ⟨_, h2, h3⟩
  unfold getAttr getAttrBy
  refine wpAny_bind (wpAny_mkText (wpAny_holding (wpAny_bind (wpAny_typeOf (hT _) (wpAny_bind (wpAny_of_eq f1 ?_))))))
  dsimp only
  rw [if_neg (by decide)]
  unfold getAttrByItsOwn hookBefore
  rw [if_neg (by decide)]
  refine wpAny_bind (wpAny_pure (wpAny_bind (wpAny_attempt (wpAny_holding ?_))))
  unfold callGetattribute
  rw [if_neg (by decide)]
  unfold boundAndCalled
  rw [W.KF.slot_tga.bind]
  refine wpAny_bind (wpAny_pure ?_)
  show wpAny _ _ (call (.builtin "type.__getattribute__") [.ref 159, .str "__new__" t]) _ _ _
  refine wpAny_call_entry W.KF.slot_tga (hT _) W.KF.entry_tga ?_ (W.KF.args_tga _ _)
  unfold Builtin.«type.__getattribute__»
  have fo : ∀ {R : Option Str → Shared → Prop} {A : Around} {E : Value → Shared → Prop} {t : Nat}, R none ⟨h, g, d, t, os⟩ → wpAny (model prog w) A (opaqueClassAbove (.ref 159)) R E ⟨h, g, d, t, os⟩ := fun r => by
    unfold opaqueClassAbove anyOpaqueLoaded
    refine wpAny_bind (wpAny_bind (wpAny_nsGet hS ?_))
    rw [hS1]
    exact wpAny_pure (by rw [if_pos (by rfl)]; exact wpAny_pure r)
  dsimp only
  refine wpAny_bind (wpAny_of_eq (a := some (Str.ofString "__new__")) rfl ?_)
  dsimp only
  refine wpAny_bind (fo ?_)
  dsimp only
  refine wpAny_bind (wpAny_typeOf (hT _) (wpAny_bind (wpAny_of_eq type_new ?_)))
  dsimp only
  refine wpAny_bind (wpAny_of_eq f6 ?_)
  dsimp only
  refine wpAny_bind (mis_lookup hC hn f5 ?_)
  rw [h1]
  dsimp only
  rw [if_neg (by decide)]
  refine wpAny_bind (wpAny_typeOf (hT2 _) ?_)
  rw [if_neg (by decide)]
  unfold specialOf
  refine wpAny_bind (wpAny_bind (wpAny_typeOf (hT2 _) (wpAny_of_eq slot_sm_get.lookup ?_)))
  dsimp only
  refine wpAny_bind (wpAny_holding (wpAny_call_entry slot_sm_get (hT2 _) entry_sm_get ?_ (args_sm_get _ _ _)))
  unfold Builtin.«staticmethod.__get__»
  refine wpAny_bind (wpAny_of_eq (a := (Value.ref 160, none, some (.ref 159))) rfl ?_)
  dsimp only
  exact wpAny_bind (wpAny_field h2 h4 (x := .ref 106) rfl (wpAny_pure ⟨_, rfl, wpAny_pure ⟨_, rfl, wpAny_pure (hq _)⟩⟩))
theorem tn_kind : builtinKind "tuple.__new__" = some .builtinFn := by decide +kernel
theorem tn_split : splitId "tuple.__new__" = some ("tuple", "__new__") := by decide +kernel
theorem tn_row : Manifest.signature? "tuple.__new__" = some ⟨.constructor, "tuple", "tuple", .cls, [{ name := "iterable", kind := .posOnly, required := false }]⟩ := by kernel_rfl
theorem mis_isType {Q : Bool → Shared → Prop} (hC : h.get? 159 = some (misClass nm q hd sn sub col dd k0 k1 k2 k3 k5)) (hq : Q true ⟨h, g, d, t, os⟩) : wpAny (model prog w) A (isType (.ref 159)) Q E ⟨h, g, d, t, os⟩ := by
  unfold isType
  repeat (first | with_reducible refine wpAny_loadPart_at hC ?_ | wp_step)
  exact hq
theorem mis_check {Q : Unit → Shared → Prop} {v : Value} (hC : h.get? 159 = some (misClass nm q hd sn sub col dd k0 k1 k2 k3 k5)) (hq : Q () ⟨h, g, d, t, os⟩) : wpAny (model prog w) A (checkBuiltinCall "tuple.__new__" ⟨[.ref 159, v], []⟩) Q E ⟨h, g, d, t, os⟩ := by
  simp only [checkBuiltinCall, tn_kind, tn_split]
  rw [if_pos (by decide)]
  refine wpAny_bind (mis_isType hC ?_)
  rw [if_neg (by decide)]
  refine wpAny_bind (mis_isSubtype hC ?_)
  rw [show ([Value.ref 159, .type "tuple", .type "object"].contains (.type "tuple")) = true from rfl]
  rw [if_neg (by decide)]
  refine wpAny_bind (mis_staticBase hC (wpAny_bind (wpAny_of_eq F.called_tuple.made ?_)))
  dsimp only
  rw [if_neg (by simp), tn_row]
  dsimp only
  exact wpAny_of_eq (a := ()) (by kernel_rfl) hq
theorem mis_tnew {Q : Fin → Shared → Prop} {tup : Addr} {items : Array Value} (hC : h.get? 159 = some (misClass nm q hd sn sub col dd k0 k1 k2 k3 k5)) {mN : Str → Option Value} (hn : h.Ns 158 mN) (h1 : mN "__init__" = none) (ht : h.IsTuple tup items) (hsz : items.size ≤ 100)
    (hq : ∀ h' x o, (∀ b o, h.get? b = some o → h'.get? b = some o) → h.get? x = none → h'.get? x = some o → o.cls = .ref 159 → o.data = .seq items 0 → Q (.done (.ret (.ref x))) ⟨h', g, d, t, os⟩) : wpAny (model prog w) A (Builtin.«tuple.__new__» ⟨[.ref 159, .ref tup], []⟩) Q E ⟨h, g, d, t, os⟩ := by
  have f1 := init_tuple_lookup
  have hT : ∀ t, (⟨h, g, d, t, os⟩ : Shared).TypeIs (.ref 159) "type" := fun t => ⟨_, hC, rfl⟩
  obtain ⟨ot, ht, htc, nt, htd⟩ := ht
  unfold Builtin.«tuple.__new__»
  dsimp only
  refine wpAny_bind (mis_isType hC ?_)
  rw [if_neg (by decide)]
  refine wpAny_bind (mis_isSubtype hC ?_)
  rw [show ([Value.ref 159, .type "tuple", .type "object"].contains (.type "tuple")) = true from rfl]
  rw [if_neg (by decide)]
  refine wpAny_bind (mis_madeHere hC ?_)
  refine wpAny_bind (mis_lookup hC hn f1 ?_)
  rw [h1]
  dsimp only
  rw [if_pos (by decide)]
  refine wpAny_bind (wpAny_of_eq (a := ()) rfl (wpAny_bind (wpAny_of_eq (a := ()) rfl ?_)))
  rw [if_neg (by decide)]
  refine wpAny_bind (wpAny_collect_seq tup (.inr rfl) ht htc htd (fun h' hk => ?_) (Nat.le_trans hsz (by decide)))
  refine wpAny_bind (wpAny_pure ?_)
  refine wpAny_bind (wpAny_alloc ?_)
  have hC' : (h'.push { cls := .type "dict", data := .dict #[] }).get? 159 = some (misClass nm q hd sn sub col dd k0 k1 k2 k3 k5) := Heap.get?_push_of_some _ (hk _ _ hC)
  unfold newObj
  dsimp only
  have hs : ¬ (items.toList.toArray.size > sizeLine) := by
    have : (100 : Nat) ≤ sizeLine := by decide
    simp; omega
  rw [if_neg hs]
  unfold newObjAsIs
  refine wpAny_bind (wpAny_bind (wpAny_alloc ?_))
  dsimp only
  unfold classHasDel
  refine wpAny_bind (wpAny_bind (wpAny_load (Heap.get?_push_of_some _ hC') (wpAny_pure ?_)))
  rw [if_neg (by simp)]
  refine wpAny_pure (wpAny_pure ?_)
  have hz : (h'.push { cls := .type "dict", data := .dict #[] }).objs.size = h'.objs.size + 1 := Heap.size_push ..
  refine hq _ _ _ (fun b o e => Heap.get?_push_of_some _ (Heap.get?_push_of_some _ (hk b o e))) ?_ (Heap.get?_push_size _ (by rfl)) rfl (by simp)
  cases e : h.get? (h'.push { cls := .type "dict", data := .dict #[] }).objs.size with
  | none => rfl
  | some o =>
    have := Heap.lt_size (hk _ _ e)
    rw [hz] at this
    exact absurd this (Nat.not_lt.mpr (Nat.le_succ _))
/-- tuple.__new__(_cls, t) -/
theorem mis_call_tnew {Q : Value → Shared → Prop} {tup : Addr} {items : Array Value} (hC : h.get? 159 = some (misClass nm q hd sn sub col dd k0 k1 k2 k3 k5)) {mN : Str → Option Value} (hn : h.Ns 158 mN) (h1 : mN "__init__" = none) (ht : h.IsTuple tup items) (hsz : items.size ≤ 100)
    (hq : ∀ h' x o, (∀ b o, h.get? b = some o → h'.get? b = some o) → h.get? x = none → h'.get? x = some o → o.cls = .ref 159 → o.data = .seq items 0 → Q (.ref x) ⟨h', g, d, t, os⟩) : wpAny (model prog w) A (call (.builtin "tuple.__new__") [.ref 159, .ref tup]) Q E ⟨h, g, d, t, os⟩ := by
  refine wpAny_call (codeAny_call_builtin_at (Code.quiet_builtin _ (by decide +kernel)) F.entry_tuple_new (mis_check hC (mis_tnew hC hn h1 ht hsz fun h' x o k1 k2 k3 k4 k5 => ?_)))
  exact hq h' x o k1 k2 k3 k4 k5
/-- object.__init__ of a named triple -/
theorem mis_init {Q : Option Value → Shared → Prop} {x : Addr} {o : Obj} {rest : List Value} (hC : h.get? 159 = some (misClass nm q hd sn sub col dd k0 k1 k2 k3 k5)) {mN : Str → Option Value} (hn : h.Ns 158 mN) (h1 : mN "__init__" = none) (hx : h.get? x = some o) (hc : o.cls = .ref 159) (hr : rest.length = 3)
    (hq : Q (some .none) ⟨h, g, d, t, os⟩) : wpAny (model prog w) A (callSpecial? (.ref x) "__init__" rest) Q E ⟨h, g, d, t, os⟩ := by
  have ht : ∀ {R : Value → Shared → Prop} {A : Around} {E : Value → Shared → Prop}, R (.ref 159) ⟨h, g, d, t, os⟩ → wpAny (model prog w) A (typeOf (.ref x)) R E ⟨h, g, d, t, os⟩ := fun r => by
    unfold typeOf
    repeat (first | (with_reducible refine wpAny_loadPart_at hx ?_; rw [hc]) | wp_step)
    exact r
  unfold callSpecial? specialOf
  refine wpAny_bind (wpAny_bind (ht (mis_lookup hC hn init_tuple_lookup ?_)))
  rw [h1]
  dsimp only
  refine wpAny_holding ?_
  have f3 : bindSpecial (.builtin "object.__init__") (.ref x) = pure (.builtin "object.__init__", [.ref x]) := by kernel_rfl
  refine wpAny_bind (wpAny_of_eq f3 ?_)
  dsimp only
  have lk : W.Looks (model prog w) h (do isSubtype (← typeOf (.ref x)) (.type "object")) true := fun A Q E s hk hq => by
    obtain ⟨hh, g, d, t, os⟩ := s
    refine wpAny_bind ?_
    unfold typeOf
    repeat (first | (with_reducible refine wpAny_loadPart_at (hk _ _ hx) ?_; rw [hc]) | wp_step)
    exact mis_isSubtype (hk _ _ hC) hq
  refine wpAny_bind (wpAny_call ?_)
  refine codeAny_call_builtin (by decide +kernel) F.entry_object_init ?_
  obtain ⟨a, b, c, rfl⟩ : ∃ a b c, rest = [a, b, c] := by
    match rest, hr with
    | [a, b, c], _ => exact ⟨a, b, c, rfl⟩
  refine @W.check_slot (model prog w) _ _ ⟨h, g, d, t, os⟩ "object.__init__" "object" "__init__" (.ref x) [a, b, c] [] _ (by decide +kernel) (by decide +kernel) lk (by unfold argsOk; kernel_rfl) ?_
  unfold Builtin.«object.__init__»
  dsimp only [List.cons_append, List.nil_append]
  rw [if_pos (by rfl)]
  refine wpAny_bind (ht (wpAny_bind (mis_lookup hC hn init_tuple_lookup ?_)))
  rw [h1]
  dsimp only
  refine wpAny_bind (mis_madeBy hC ?_)
  rw [if_neg (by simp), if_neg (by simp)]
  exact wpAny_pure (wpAny_pure hq)
theorem mis_check_tc {M : Model} {rest : List Value} {Q : Unit → Shared → Prop} (hC : h.get? 159 = some (misClass nm q hd sn sub col dd k0 k1 k2 k3 k5)) (hq : Q () ⟨h, g, d, t, os⟩) : wpAny M A (checkBuiltinCall "type.__call__" ⟨.ref 159 :: rest, []⟩) Q E ⟨h, g, d, t, os⟩ := by
  have f3 := tc_sub
  have hT : (⟨h, g, d, t, os⟩ : Shared).TypeIs (.ref 159) "type" := ⟨_, hC, rfl⟩
  simp only [checkBuiltinCall, tc_kind, tc_split]
  repeat (any_goals (first | assumption | with_reducible refine wpAny_loadPart_at hC ?_ | with_reducible refine wpAny_onRaise ?_ | with_reducible refine wpAny_map ?_ | wp_step))
/-- the class is called -/
theorem mis_make {Q : Value → Shared → Prop} {a b c : Value} (m : MisCls h)
    (hq : ∀ t', wpAny (model prog w) (A.under (.builtin "type.__call__" ⟨[.ref 159, a, b, c], []⟩)) (call (.ref 106) [.ref 159, a, b, c]) (fun v s' => ∃ x o, v = .ref x ∧ MisCls s'.heap ∧ s'.heap.get? x = some o ∧ o.cls = .ref 159 ∧ Q (.ref x) s') E ⟨h, g, d, t', os⟩) : wpAny (model prog w) A (call (.ref 159) [a, b, c]) Q E ⟨h, g, d, t, os⟩ := by
  obtain ⟨⟨nm, q, hd, sn, sub, col, dd, k0, k1, k2, k3, k5, hC⟩, ⟨mN, hn, n1, n2, n3, n4⟩, ⟨mS, hS, hS1⟩, ⟨o, h2, h3, h4⟩⟩ := m
  have f1 := tc_lookup
  have f2 := tc_bind (.ref 159)
  have hT : (⟨h, g, d, t, os⟩ : Shared).TypeIs (.ref 159) "type" := ⟨_, hC, rfl⟩
  refine wpAny_call (codeAny_of_tree ?_)
  show wpAny _ _ (callAny (.ref 159) _) _ _ _
  repeat (any_goals (first | assumption | with_reducible refine wpAny_loadPart_at hC ?_ | wp_step))
  refine ⟨rfl, ?_⟩
  refine codeAny_call_builtin_at (Code.quiet_builtin _ (by decide +kernel)) entry_typeCall ?_
  refine mis_check_tc hC ?_
  unfold Builtin.«type.__call__»
  dsimp only [List.cons_append, List.nil_append]
  rw [if_neg (by decide)]
  refine wpAny_bind (mis_mro hC ?_)
  rw [if_neg (by decide)]
  refine wpAny_bind (mis_madeBy hC ?_)
  dsimp only
  refine wpAny_bind (mis_new hC hn n1 hS hS1 h2 h3 h4 fun t' => ?_)
  refine wpAny_bind (wpAny_holding (wpAny_mono (hq t') (fun v s' z => ?_) fun _ _ z => z))
  obtain ⟨x, o', rfl, ⟨⟨nm', q', hd', sn', sub', col', dd', k0', k1', k2', k3', k5', hC'⟩, ⟨mN', hn', n1', n2', n3', n4'⟩, _⟩, hx, hxc, hQ⟩ := z
  obtain ⟨hh, g', d', t'', os'⟩ := s'
  refine wpAny_bind ?_
  unfold isInstance
  have ht : ∀ {R : Value → Shared → Prop} {A : Around} {E : Value → Shared → Prop}, R (.ref 159) ⟨hh, g', d', t'', os'⟩ → wpAny (model prog w) A (typeOf (.ref x)) R E ⟨hh, g', d', t'', os'⟩ := fun r => by
    unfold typeOf
    repeat (first | (with_reducible refine wpAny_loadPart_at hx ?_; rw [hxc]) | wp_step)
    exact r
  refine wpAny_bind (ht (mis_isSubtype hC' ?_))
  rw [show ([Value.ref 159, .type "tuple", .type "object"].contains (.ref 159)) = true from rfl]
  rw [if_neg (by decide)]
  refine wpAny_bind (wpAny_holding (mis_init hC' hn' n2' hx hxc rfl ?_))
  dsimp only
  rw [if_neg (by decide)]
  exact wpAny_pure hQ
theorem callWith_mis {pos : Pos} {args : List (Bool × Sem Value)} {Q : Value → Shared → Prop} {s : Shared} (hst : (args.any (fun x => x.fst) || ([] : List (Option Str × Sem Value)).any fun x => x.fst.isNone) = false)
    (hq : wpAny (model prog w) A (evalArgs (.ref 159) true args []) (fun as s₁ => as.kw = [] ∧ MisCls s₁.heap ∧ wpAny (model prog w) A (call (.ref 159) as.pos) Q E s₁) E s) :
    wpAny (model prog w) A (callWith pos (.ref 159) [] args []) Q E s := by
  unfold callWith
  refine wpAny_bind (wpAny_holding (wpAny_mono hq (fun as s₁ h₁ => ?_) fun _ _ x => x))
  obtain ⟨e, m, hc⟩ := h₁
  obtain ⟨hh, g, d, t, os⟩ := s₁
  obtain ⟨ps, kw⟩ := as
  cases e
  obtain ⟨nm, q, hd, sn, sub, col, dd, k0, k1, k2, k3, k5, hC⟩ := m.obj
  have f1 := tc_lookup
  have hT : (⟨hh, g, d, t, os⟩ : Shared).TypeIs (.ref 159) "type" := ⟨_, hC, rfl⟩
  refine wpAny_bind (wpAny_standAt ?_)
  show wpAny _ _ (keeperOf (.ref 159) >>= _) _ _ _
  unfold keeperOf specialOf
  repeat (any_goals (first | assumption | with_reducible refine wpAny_loadPart_at hC ?_ | with_reducible refine wpAny_load' hC ?_ | wp_step))
  rw [if_pos (by rfl), hst]
  show wpAny _ _ (call (.ref 159) ps [] >>= fun r => do holding [r] point; pure r) _ _ _
  exact wpAny_bind (wpAny_mono hc (fun r s' hr => wpAny_bind (wpAny_holding (wpAny_point (wpAny_pure hr)))) fun _ _ x => x)
end
end Mine
end
section
open PySem PySem.Spec PySem.SeqAt PySem.Calls PyProof.Rows
set_option maxRecDepth 100000
namespace Mine
structure PF3 (G : Glob) : Prop extends PF2 G where
  gMis : (Str.ofString "_Mismatch", Value.ref 159) ∈ G.globs
  cMis : MisCls G.top
  fMis : HasFn G 106 misNewFd
theorem PF3.more {G G' : Glob} {F : List Addr} {h : Heap} (p : PF3 G) (m : Glob.More G G' F h) (hF : ∀ a ∈ F, G.top.get? a = none) : PF3 G' :=
  ⟨p.toPF2.more m hF, m.globs ▸ p.gMis, p.cMis.keeps fun b o e => m.sub hF e, p.fMis.more m hF⟩
theorem tuple_new_method {prog : Program} {w : World} {A : Around} {E : Value → Shared → Prop} {s : Shared} {pl : Sem Bool} {Q : Value × List Value → Shared → Prop} (h : Q (.builtin "tuple.__new__", []) { s with toks := s.toks + 1 }) : wpAny (model prog w) A (getMethod (.type "tuple") "__new__" pl) Q E s := by
  have X : W.Frag.In [] s.heap := fun a o e => by cases e
  have hstub : opaqueClassAbove (.type "tuple") = pure none := by unfold opaqueClassAbove; dsimp only; rw [show Manifest.isStub "tuple" = false by decide +kernel]; rfl
  have L0 : W.Looks (model prog w) s.heap (typeOf (.type "tuple")) (.type "type") := W.Looks.of_pure (by kernel_rfl)
  have hg : W.findIn [] (.type "type") "__getattribute__" = some (some (.builtin "type.__getattribute__")) := W.type_tga
  unfold getMethod specialOf
  refine wpAny_bind (wpAny_bind (L0.here ((W.looks_findIn X hg).here ?_)))
  dsimp only
  rw [if_pos W.canon_tga]
  refine wpAny_bind (wpAny_mono (Q := fun v => Q (v, [])) (E := E) ?_ (fun _ _ z => wpAny_pure z) fun _ _ z => z)
  have LO : W.Looks (model prog w) s.heap (opaqueClassAbove (.type "tuple")) none := W.Looks.of_pure hstub
  refine W.cls_open X LO L0 hg (W.looks_hook X (r := none) (by rfl)) (by show W.subIn _ _ _ = _; rfl) (r := .val (.builtin "tuple.__new__")) (by kernel_rfl)
    (wpAny_pure (by show wpAny _ _ (handedOut (.builtin "tuple.__new__")) _ _ _; rw [W.handedOut_of (by decide +kernel)]; exact wpAny_pure h))
theorem misNew_ok {w : World} {G : Glob} {n : Nat} (pf : PF3 G) {i j : Int} {x : Str} {A : Around} {X : List Addr} {s : Shared} {a b c : Value} (room : Room A (n + 1)) (am : Amid G A X s) (ra : Rd X s.heap (.int i) a) (rb : Rd X s.heap (.int j) b) (rc : Rd X s.heap (.str x) c) :
    wpAny (model pw w) A (call (.ref 106) [.ref 159, a, b, c]) (fun u s' => ∃ y, u = .ref y ∧ Grow G.top s s' ∧ s.heap.get? y = none ∧ IsMis s'.heap y i j x) (fun _ _ => False) s := by
  obtain ⟨doc, pm, code, f⟩ := pf.fMis
  have hsz : ∀ k : Nat, k ≤ 100 → k ≤ sizeLine := fun k h => Nat.le_trans h (by decide)
  refine s_call (binds := [("_cls", .ref 159), ("actual", a), ("expected", b), ("value", c)]) [("_cls", raw 159), ("actual", .int i), ("expected", .int j), ("value", .str x)] f rfl room am rfl (by show ∀ x ∈ (defOfStmt (subStmt 5 4)).2.2.names, x.2 ≠ .cell; decide) rfl ⟨rfl, rfl, rfl, rfl, trivial⟩ ⟨⟨_, rfl, .raw_, rfl⟩, ⟨a, rfl, ra, rfl⟩, ⟨b, rfl, rb, rfl⟩, ⟨c, rfl, rc, rfl⟩, trivial⟩ fun L s' st room' hLX => ?_
  refine s_doc st fun s₁ st₁ => ?_
  refine wpAny_execs_cons (wpAny_Return_some ?_)
  refine W.methodCall_KW ((NameV.blt (C := cx _ _ _ _ _ _) (pf.blt _) (by boot_fast)) s₁ _ _ _ st₁.ok (tuple_new_method ?_))
  have st₂ := s_step st₁ (Grow.tok s₁ (s₁.toks + 1))
  refine callWith_builtin rfl ?_
  refine Calls.evalArgs_plain (wpAny_mono (Evs.at (pos := ⟨71, 15, 71, 61⟩) st₂.ok (Evs.cons (d := raw 159) .name (.cons (d := .tuple [.int i, .int j, .str x]) (.tuple (.cons .name (.cons .name (.cons .name .nil))) (hsz _ (by simp))) .nil))) (fun vs s₃ z => ?_) fun _ _ z => z)
  obtain ⟨g₃, r₃⟩ := z
  simp only [RdAll] at r₃
  obtain ⟨v1, q1, rfl, rv1, v2, q2, rfl, rv2, rfl⟩ := r₃
  rw [rv1.raw_inv]
  obtain ⟨tp, vs, m, rfl, _, hT, rT⟩ := rv2.tuple_inv
  simp only [RdAll] at rT
  obtain ⟨w1, y1, rfl, p1, w2, y2, rfl, p2, w3, y3, rfl, p3, rfl⟩ := rT
  obtain ⟨t1, rfl⟩ := p1.int_inv
  obtain ⟨t2, rfl⟩ := p2.int_inv
  obtain ⟨t3, rfl⟩ := p3.str_inv
  have st₃ := s_step st₂ g₃
  have gs : Grow G.top s s₃ := st₃.grow
  have mc : MisCls s₃.heap := pf.cMis.keeps st₃.ok.g
  obtain ⟨⟨nm, q, hd, sn, sub, col, dd, k0, k1, k2, k3, k5, hC⟩, ⟨mN, hn, n1, n2, n3, n4⟩, _⟩ := mc
  obtain ⟨hh, g, d, t, os⟩ := s₃
  refine mis_call_tnew hC hn n2 ⟨_, hT, rfl, m, rfl⟩ (by simp) fun h' y o e1 e2 e3 e4 e5 => ?_
  exact ⟨y, rfl, gs.trans ⟨.of e1, rfl, rfl, rfl⟩, gs.ext.none e2, o, 0, t1, t2, t3, e3, e4, e5⟩
theorem Room.under' {A : Around} {n : Nat} (r : Room A (n + 1)) (C : Addr) (rest : List Value) : Room (A.under (.builtin "type.__call__" ⟨.ref C :: rest, []⟩)) n := r.under C rest
/-- _Mismatch(e1, e2, e3) -/
theorem Ev.mis {C : Cx} {n : Nat} {p pos : Pos} {e1 e2 e3 : Expr} {i j : Int} {x : Str} (pf : PF3 C.G) (hp : C.prog = pw) (hn : NameV C "_Mismatch" (.ref 159)) (h1 : Ev C e1 (.int i)) (h2 : Ev C e2 (.int j)) (h3 : Ev C e3 (.str x)) (room : Room C.A (n + 2))
    (hs : starEach [e1, e2, e3] C.env = [(false, eval e1 C.env), (false, eval e2 C.env), (false, eval e3 C.env)] := by rfl) (hs2 : starEach [e2, e3] C.env = [(false, eval e2 C.env), (false, eval e3 C.env)] := by rfl) (hs3 : starEach [e3] C.env = [(false, eval e3 C.env)] := by rfl) :
    Ev C (.Call (.Name "_Mismatch" p) [e1, e2, e3] [] pos) (misD i j x) := fun s ok => by
  refine PyProof.Rows.Call_Name rfl (hn s p _ _ ok ?_)
  rw [Cx.M, hp]
  refine callWith_mis (by rw [hs]; rfl) ?_
  have h' : Evs C [e1, e2, e3] [.int i, .int j, .str x] := Evs.cons h1 (Evs.cons h2 (Evs.cons h3 .nil hs3) (by rw [hs2, hs3])) (by rw [hs, hs2])
  have key := Evs.at (pos := pos) ok h'
  rw [hs] at key ⊢
  rw [Cx.M, hp] at key
  refine Calls.evalArgs_plain (wpAny_mono key (fun vs s₁ z => ?_) fun _ _ z => z)
  obtain ⟨g₁, r₁⟩ := z
  have ok₁ := ok.grow g₁
  simp only [RdAll] at r₁
  obtain ⟨v1, q1, rfl, rv1, v2, q2, rfl, rv2, v3, q3, rfl, rv3, rfl⟩ := r₁
  have mc : MisCls s₁.heap := pf.cMis.keeps ok₁.g
  refine ⟨rfl, mc, ?_⟩
  obtain ⟨hh, g, d, t, os⟩ := s₁
  refine mis_make mc fun t' => ?_
  have gt : Grow C.G.top ⟨hh, g, d, t, os⟩ ⟨hh, g, d, t', os⟩ := ⟨.refl _ _, rfl, rfl, rfl⟩
  have ok₂ := ok₁.grow gt
  have am : Amid C.G (C.A.under (.builtin "type.__call__" ⟨[.ref 159, v1, v2, v3], []⟩)) C.X ⟨hh, g, d, t', os⟩ := ⟨ok₂.fr, ok₂.g, ok₂.lo⟩
  refine wpAny_mono (misNew_ok pf (room.under 159 [v1, v2, v3]) am rv1 rv2 rv3) (fun u s₃ z => ?_) fun _ _ z => z
  obtain ⟨y, rfl, g₃, hy, hm⟩ := z
  obtain ⟨o, m, t1, t2, t3, e3, e4, e5⟩ := id hm
  exact ⟨y, o, rfl, pf.cMis.keeps (ok₂.grow g₃).g, e3, e4, (g₁.trans gt).trans g₃, .mis_ (ok_notin ok₂ hy) hm⟩
end Mine
end
section
open PySem PySem.Spec PySem.SeqAt PySem.Calls PyProof.Rows PySem.W
open PySem.Builtin.Re
set_option maxRecDepth 100000
namespace Mine
theorem codeName_spec {h : Heap} {v : Value} {q : Str} (e : codeName h v = some q) : h.CodeRec v q := by
  unfold codeName at e
  split at e
  · rename_i c
    split at e
    · rename_i o ho
      split at e
      · rename_i vs hv
        split at e
        · rename_i q' t hq
          cases e
          exact ⟨c, o, vs, t, rfl, ho, hv, hq⟩
        · cases e
      · cases e
    · cases e
  · cases e
theorem seeFn_spec {h : Heap} {a : Addr} {st : Stmt} {name qual : Str} {dfl kwd : Value} (e : seeFn h a = goodFn (mkFd st name qual dfl kwd)) :
    ∃ doc pm code o, h.get? a = some o ∧ o.data = .func (mkFd st name qual dfl kwd doc pm code) ∧ o.cls = .type "function" ∧ h.CodeRec code qual := by
  unfold seeFn at e
  split at e
  · rename_i o ho
    split at e
    · rename_i fd hd
      have e := Option.some.inj e
      have e1 := (Prod.mk.inj e).1
      have e2 := (Prod.mk.inj (Prod.mk.inj e).2).1
      have e3 := (Prod.mk.inj (Prod.mk.inj e).2).2
      obtain ⟨n, qn, ps, b, sc, gl, cl, df, kd, dc, pm, an, cd, ct, bl⟩ := fd
      unfold bareFd mkFd at e2
      injection e2 with i1 i2 i3 i4 i5 i6 i7 i8 i9 i10 i11 i12 i13 i14 i15
      subst i1 i2 i3 i4 i5 i6 i7 i8 i9 i12 i14 i15
      exact ⟨dc, pm, cd, o, ho, hd, e1, codeName_spec e3⟩
    · cases e
  · cases e

theorem seePat_spec {h : Heap} {a : Addr} {code : Array Nat} (e : seePat h a = goodPat code) : PatAt h a code := by
  unfold seePat at e
  split at e
  · rename_i o ho
    split at e
    · rename_i fs hf
      split at e
      · rename_i c hc
        split at e
        · rename_i oc hoc
          split at e
          · rename_i items n hi
            have e := Option.some.inj e
            simp only [Prod.mk.injEq] at e
            obtain ⟨e1, e2, e3, e4, e5⟩ := e
            exact ⟨⟨o, fs, c, oc, items, n, ho, e1, e2, hf, e3, e4, hc, hoc, hi, e5⟩⟩
          · cases e
        · cases e
      · cases e
    · cases e
  · cases e

theorem seeNest_int {h : Heap} {n : Nat} {v : Value} {i : Int} (e : seeNest h n v = .int i) : Rd [] h (.int i) v := by
  unfold seeNest at e
  split at e
  · cases e; exact ⟨_, rfl⟩
  · cases e
  · split at e
    · split at e <;> cases e
    · cases e
  · cases e
theorem seeNest_str {h : Heap} {n : Nat} {v : Value} {x : Str} (e : seeNest h n v = .str x) : Rd [] h (.str x) v := by
  unfold seeNest at e
  split at e
  · cases e
  · cases e; exact ⟨_, rfl⟩
  · split at e
    · split at e <;> cases e
    · cases e
  · cases e
theorem seeNest_tup {h : Heap} {n : Nat} {v : Value} {l : List Nest} {ds : List PyData} (e : seeNest h (n + 1) v = .tup tupObj l) (k : ∀ vs, vs.map (seeNest h n) = l → RdAll [] h ds vs) : Rd [] h (.tuple ds) v := by
  unfold seeNest at e
  split at e
  · cases e
  · cases e
  · rename_i a n' hn
    cases hn
    split at e
    · rename_i o ho
      split at e
      · rename_i vs m hd
        injection e with e1 e2
        obtain ⟨c, d, dt, sl⟩ := o
        injection e1 with f1 f2 f3 f4
        simp only at hd f1 f2 f4
        subst f1 f2 f4 hd
        simp only [Rd]
        exact ⟨_, vs.toList, m, rfl, List.not_mem_nil, ho, k _ e2⟩
      · cases e
    · cases e
  · cases e
theorem rdAll_map {h : Heap} {n : Nat} {α : Type} {f : α → Nest} {g : α → PyData} (k : ∀ x v, seeNest h n v = f x → Rd [] h (g x) v) : ∀ (l : List α) (vs : List Value), vs.map (seeNest h n) = l.map f → RdAll [] h (l.map g) vs
  | [], [], _ => by simp only [List.map_nil, RdAll]
  | [], _ :: _, e => by cases e
  | _ :: _, [], e => by cases e
  | x :: l, v :: vs, e => by
    simp only [List.map_cons, List.cons.injEq] at e
    simp only [List.map_cons, RdAll]
    exact ⟨v, vs, rfl, k x v e.1, rdAll_map k l vs e.2⟩
theorem nestTab_spec {h : Heap} {v : Value} (e : seeNest h 3 v = nestTab) : Rd [] h (.tuple fmD) v := by
  refine seeNest_tup e fun vs hv => rdAll_map (g := fun row => .tuple (fmRow row)) (fun row u hu => ?_) _ _ hv
  refine seeNest_tup hu fun us hu => (rdAll_map (g := fun p : Nat × Nat => .tuple [Mine.nat p.1, .str (chr p.2)]) (fun p u hu => ?_) _ _ hu : RdAll [] h (row.map _) us)
  refine seeNest_tup hu fun us hu => ?_
  obtain _ | ⟨a, _ | ⟨b, _ | ⟨c, us⟩⟩⟩ := us
  · cases hu
  · exact absurd (congrArg List.length hu) (by simp)
  · simp only [List.map_cons, List.map_nil, List.cons.injEq] at hu
    simp only [RdAll]
    exact ⟨a, [b], rfl, seeNest_int hu.1, b, [], rfl, seeNest_str hu.2.1, rfl⟩
  · exact absurd (congrArg List.length hu) (by simp)

end Mine
end
section
open PySem PySem.Spec PySem.SeqAt PySem.Calls PyProof.Rows
open AutoSeq1 (wpAny_loadPart')
set_option maxRecDepth 100000
namespace Mine
section
variable {A : Around} {h : Heap} {g : Array GenState} {d : Drawn} {t : Nat} {os : OsState}
variable {nm q : Str} {hd : Bool} {sn : List Str} {sub : List Value} {col : Option Bool} {dd : Option Addr} {k0 k1 k2 k3 k5 : Option Value}
theorem mis_eq_body {prog : Program} {w : World} {E : Value → Shared → Prop} {Q : Fin → Shared → Prop} {m b : Addr} {o : Obj} {i j : Int} {x : Str} {n n2 : Nat} {t1 t2 t3 u1 u2 u3 : Tok} (ho : h.get? m = some o) (hod : o.data = .seq #[.int i t1, .int j t2, .str x t3] n)
    (hb : IsT h b #[.int i u1, .int j u2, .str x u3] n2) (hq : Q (.done (.ret (.bool true))) ⟨h, g, d, t, os⟩) : wpAny (model prog w) A (Builtin.«tuple.__eq__» ⟨[.ref m, .ref b], []⟩) Q E ⟨h, g, d, t, os⟩ := by
  have f2 := AutoSeq1.sub_tuple_tuple
  obtain ⟨c, dct, dat, sl⟩ := o
  dsimp only at hod
  subst hod
  wp_walk using wpAny_loadPart' ho, wpAny_loadPart' hb
  have e1 : EqAt A ⟨h, g, d, t, os⟩ (.int i t1) (.int i u1) true := by have := EqAt.int_int (A := A) (s := ⟨h, g, d, t, os⟩) i t1 i u1; rwa [beq_self_eq_true] at this
  have e2 : EqAt A ⟨h, g, d, t, os⟩ (.int j t2) (.int j u2) true := by have := EqAt.int_int (A := A) (s := ⟨h, g, d, t, os⟩) j t2 j u2; rwa [beq_self_eq_true] at this
  have e3 : EqAt A ⟨h, g, d, t, os⟩ (.str x t3) (.str x u3) true := by have := EqAt.str_str (A := A) (s := ⟨h, g, d, t, os⟩) x t3 x u3; rwa [beq_self_eq_true] at this
  refine e1 prog w _ _ ?_
  wp_walk
  refine e2 prog w _ _ ?_
  wp_walk
  refine e3 prog w _ _ ?_
  wp_walk
  exact hq
theorem look_eq : typeLookup (.type "tuple") "__eq__" = pure (some (.builtin "tuple.__eq__")) := F.slot_tuple_eq.lookup
theorem mis_rc {m b : Addr} {i j : Int} {x : Str} {n2 : Nat} {u1 u2 u3 : Tok} (mc : MisCls h) (hm : IsMis h m i j x) (hb : IsT h b #[.int i u1, .int j u2, .str x u3] n2) (hu : A.units < cLine) : RcAt A ⟨h, g, d, t, os⟩ (.ref m) (.ref b) true := fun prog w E Q hq => by
  obtain ⟨⟨nm, q, hd, sn, sub, col, dd, k0, k1, k2, k3, k5, hC⟩, ⟨mN, hn, n1, n2', n3, n4⟩, _⟩ := mc
  obtain ⟨o, n, t1, t2, t3, ho, hoc, hod⟩ := hm
  have ht : ∀ {R : Value → Shared → Prop} {A : Around} {E : Value → Shared → Prop}, R (.ref 159) ⟨h, g, d, t, os⟩ → wpAny (model prog w) A (typeOf (.ref m)) R E ⟨h, g, d, t, os⟩ := fun r => by
    unfold typeOf
    repeat (first | (with_reducible refine wpAny_loadPart_at ho ?_; rw [hoc]) | wp_step)
    exact r
  have hT : (⟨h, g, d, t, os⟩ : Shared).TypeIs (.ref b) "tuple" := ⟨_, hb, rfl⟩
  have f1 : isSubtype (.type "tuple") (.ref 159) = pure false := by rw [isSubtype_type]; kernel_rfl
  have lk : W.Looks (model prog w) h (isInstance (.ref m) (.type "tuple")) true := fun A Q E s hk hq => by
    obtain ⟨hh, g, d, t, os⟩ := s
    unfold isInstance
    refine wpAny_bind ?_
    unfold typeOf
    repeat (first | (with_reducible refine wpAny_loadPart_at (hk _ _ ho) ?_; rw [hoc]) | wp_step)
    exact mis_isSubtype (hk _ _ hC) hq
  unfold richCompare
  refine wpAny_holding (wpAny_bind (wpAny_cRoomFor hu ?_))
  rw [show oneThing? .Eq (.ref m) (.ref b) = none from rfl]
  dsimp only [cmpInfo]
  refine wpAny_bind (ht (wpAny_bind (wpAny_typeOf hT ?_)))
  rw [if_pos (by rfl)]
  refine wpAny_bind (wpAny_of_eq f1 ?_)
  rw [if_neg (by decide)]
  have f3 : bindSpecial (.builtin "tuple.__eq__") (.ref m) = pure (.builtin "tuple.__eq__", [.ref m]) := by kernel_rfl
  have key : wpAny (model prog w) A (callSpecialIfBound? (.ref m) "__eq__" [.ref b]) (fun r s' => r = some (.bool true) ∧ s' = ⟨h, g, d, t, os⟩) E ⟨h, g, d, t, os⟩ := by
    simp only [callSpecialIfBound?, bindSpecialIfBound?, specialOf]
    refine wpAny_holding (wpAny_bind (wpAny_bind (wpAny_bind (ht (mis_lookup hC hn look_eq ?_)))))
    rw [n3]
    simp only [f3]
    refine wpAny_bind (wpAny_askSetting (wpAny_ite ?_))
    have fin : wpAny (model prog w) A (call (.builtin "tuple.__eq__") ([.ref m] ++ [.ref b]) >>= fun v => pure (some v)) (fun r s' => r = some (.bool true) ∧ s' = ⟨h, g, d, t, os⟩) E ⟨h, g, d, t, os⟩ := by
      refine wpAny_bind (wpAny_call (codeAny_call_builtin (by decide +kernel) F.entry_tuple_eq ?_))
      refine @W.check_slot (model prog w) _ _ ⟨h, g, d, t, os⟩ "tuple.__eq__" "tuple" "__eq__" (.ref m) [.ref b] [] _ (by decide +kernel) (by decide +kernel) lk (F.args_tuple_eq_2 _ _) ?_
      exact mis_eq_body ho hod hb (wpAny_pure ⟨rfl, rfl⟩)
    split
    · exact wpAny_bind (wpAny_pure (wpAny_pure fin))
    · exact wpAny_tryCatch (wpAny_bind (wpAny_pure (wpAny_pure fin)))
  unfold tryCompare
  refine wpAny_bind (wpAny_bind (wpAny_mono key (fun r s' z => ?_) fun _ _ z => z))
  obtain ⟨rfl, rfl⟩ := z
  exact wpAny_pure (wpAny_pure hq)
theorem mis_eq {m b : Addr} {i j : Int} {x : Str} {n2 : Nat} {u1 u2 u3 : Tok} {s : Shared} (mc : MisCls s.heap) (hm : IsMis s.heap m i j x) (hb : IsT s.heap b #[.int i u1, .int j u2, .str x u3] n2) (hu : A.units < cLine) : EqAt A s (.ref m) (.ref b) true := by
  refine .of_refs (fun q => ?_) (mis_rc mc hm hb hu)
  obtain ⟨o, n, t1, t2, t3, ho, hoc, hod⟩ := hm
  rw [q, hb] at ho
  cases ho; cases hoc
end
/-- the datum of a named triple, as a tuple -/
noncomputable def tri : PyData → PyData
  | .dict [(a, b), (c, _)] => .tuple [a, b, c]
  | d => d
end Mine
end
section
open PySem PySem.Spec PySem.SeqAt PySem.Calls PyProof.Rows
set_option maxRecDepth 100000
namespace Mine
noncomputable abbrev Tri := Nat × Nat × Str
noncomputable abbrev mis1 (t : Tri) : PyData := misD (t.1 : Int) (t.2.1 : Int) t.2.2
noncomputable abbrev tup1 (t : Tri) : PyData := .tuple [nat t.1, nat t.2.1, .str t.2.2]
theorem Cmp.misNe {C : Cx} (mc : MisCls C.G.top) {l : List Tri} : Cmp C .NotEq (.list (l.map mis1)) (.list (l.map tup1)) false := fun s u v ok hu hv Q E k => by
  obtain ⟨a, vs, n, rfl, ha, hl, ra⟩ := hu.list_inv
  obtain ⟨b, ws, n2, rfl, hb, hl2, rb⟩ := hv.list_inv
  have l1 := ra.length
  have l2 := rb.length
  have hr := ok.room
  refine RcNeAt.lists (A := C.A) (e := fun _ => true) (isList_of hl) (isList_of hl2) (by simp at l1 l2 ⊢; omega) (by omega) (fun j h1 h2 => ?_) C.prog C.w E Q ?_
  · have hj : j < l.length := by simp at l1 h1; omega
    obtain ⟨v1, e1, r1⟩ := ra.get (k := j) (d := mis1 l[j]) (by simp [hj])
    obtain ⟨v2, e2, r2⟩ := rb.get (k := j) (d := tup1 l[j]) (by simp [hj])
    have q1 : vs.toArray[j] = v1 := by
      have := (List.getElem?_eq_some_iff.mp e1).2; simpa using this
    have q2 : ws.toArray[j] = v2 := by
      have := (List.getElem?_eq_some_iff.mp e2).2; simpa using this
    rw [q1, q2]
    obtain ⟨ad, rfl, _, hm⟩ := r1.mis_inv
    obtain ⟨td, ts, m, rfl, _, hT, rT⟩ := r2.tuple_inv
    simp only [RdAll] at rT
    obtain ⟨w1, y1, rfl, p1, w2, y2, rfl, p2, w3, y3, rfl, p3, rfl⟩ := rT
    obtain ⟨t1, rfl⟩ := p1.int_inv
    obtain ⟨t2, rfl⟩ := p2.int_inv
    obtain ⟨t3, rfl⟩ := p3.str_inv
    exact mis_eq (mc.keeps ok.g) hm hT (by have : C.A.in1.units = C.A.units + 1 := Around.in1_units _; omega)
  · rw [show ((List.range vs.toArray.size).all fun _ => true) = true from List.all_eq_true.mpr fun _ _ => rfl]
    exact k s.toks
end Mine
end
section
open PySem PySem.Spec PySem.SeqAt PySem.Calls PyProof.Rows
set_option maxRecDepth 100000
namespace Mine
section
variable {S : Stat} {X : List Addr} {I : Its} {K : Facts} {s₀ s : Shared} {pos : Pos} {rest : List Stmt} {Q : Flow → Shared → Prop} {E : Value → Shared → Prop}
/-- for x, y in enumerate(le): body; le a list of the call's own, that may change underway -/
theorem s_forE {x y : Str} {p1 p2 p ep ep2 : Pos} {x1} {le : Expr} {body : List Stmt} {D : Addr} {V₀ : Vars} (V : Nat → Vars) (M : Nat → Muts) (ds : Nat → List PyData) (N : Nat) (hM : ∀ k, (D, ds k) ∈ M k) (hN : ∀ k, (ds k).length = N)
    (h : FS S X V₀ (M 0) I K s₀ s) (hn : NameV (cx S X V₀ (M 0) I K) "enumerate" (.type "enumerate")) (hl : Ev (cx S X V₀ (M 0) I K) le (raw D)) (hV : Has V₀ (V 0))
    (turn : ∀ (k : Nat) d, (ds k)[k]? = some d → ∀ F P s', (∀ b ∈ F, b ∉ X) → FS S (F ++ X) ((y, d) :: (x, nat k) :: V k) (M k) ((F, P) :: I) K s₀ s' →
      wpAny (model S.prog S.w) S.A (execs body S.env) (fun fl s'' => match fl with
        | .next | .cont => FS S (F ++ X) (V (k + 1)) (M (k + 1)) ((F, P) :: I) K s₀ s''
        | .brk => False
        | .ret v => Q (.ret v) s'') (fun _ _ => False) s')
    (done : ∀ s', FS S X (V N) (M N) I K s₀ s' → wpAny (model S.prog S.w) S.A (execs rest S.env) Q E s')
    (asg : ∀ (k : Nat) d, Asg S (.Tuple [.Name x p1, .Name y p2] x1 p) (.tuple [nat k, d]) [(y, d), (x, nat k)] := by exact fun _ _ => .pair)
    (hs : starEach [le] S.env = [(false, eval le S.env)] := by rfl)
    (hf : ∀ v, foldedSetIterable (.Call (.Name "enumerate" ep) [le] [] ep2) S.env v = pure v := by intro _; rfl) (hcalm : S.calm = true := by rfl) :
    wpAny (model S.prog S.w) S.A (execs (.For (.Tuple [.Name x p1, .Name y p2] x1 p) (.Call (.Name "enumerate" ep) [le] [] ep2) body [] pos :: rest) S.env) Q E s := by
  refine wpAny_execs_cons (wpAny_For (Call_Name1 (hn s ep _ _ h.ok (with_type1 (C := cx S X V₀ (M 0) I K) _ _ _ _ (hl.use h.ok fun u s₁ g₁ ok₁ r => ?_))) hs) hf)
  rw [r.raw_inv]
  obtain ⟨hDX, ys, n, hL, ra⟩ := ok₁.mu D (ds 0) (hM 0)
  refine call_enumerate_list (isList_of hL) fun h' he hit hsz hk => wpAny_pyIter_enum he ?_
  have g₂ : Grow S.G.top s₁ { s₁ with heap := h' } := .heap s₁ hk
  have n1 : s₁.heap.get? s₁.heap.objs.size = none := get_size _
  have n2 : s₁.heap.get? (s₁.heap.objs.size + 1) = none := Heap.get?_none_of_le (Nat.le_succ _)
  have h₁ := s_step h g₁
  generalize hI0 : s₁.heap.objs.size = It at he hit n1 n2
  generalize hJ0 : It + 1 = J at he n2
  have hJI : J ≠ It := by omega
  have hF : ∀ b ∈ [J, It], s₁.heap.get? b = none := fun b hb => by
    simp at hb
    rcases hb with rfl | rfl <;> assumption
  have hFX : ∀ b ∈ [J, It], b ∉ X := fun b hb => ok_notin h₁.ok (hF b hb)
  have fld : ∀ (k : Nat) h, ((∃ old, IsEnum h J It k old) ∧ h.IsListIter It D k) → ∀ b ∈ [J, It], ∃ o vs, h.get? b = some o ∧ o.data = .fields vs := fun k h ⟨⟨old, e⟩, o, e', r, d⟩ b hb => by
    simp at hb
    rcases hb with rfl | rfl
    · exact ⟨_, _, e, rfl⟩
    · exact ⟨o, _, e', d⟩
  have loc : ∀ (k : Nat) h h', ((∃ old, IsEnum h J It k old) ∧ h.IsListIter It D k) → (∀ b ∈ [J, It], ∀ o, h.get? b = some o → h'.get? b = some o) → ((∃ old, IsEnum h' J It k old) ∧ h'.IsListIter It D k) := fun k h h' ⟨⟨old, e⟩, o, e', r⟩ hk => ⟨⟨old, hk J (.head _) _ e⟩, o, hk It (.tail _ (.head _)) o e', r⟩
  have st0 := FSt.enter (C := cx S X V₀ (M 0) I K) (P := fun h => (∃ old, IsEnum h J It (0 : Nat) old) ∧ h.IsListIter It D 0) h₁ hF (by simp [hJI]) g₂ (fld 0 _ ⟨⟨_, he⟩, hit⟩) ⟨⟨_, he⟩, hit⟩ (loc 0)
  have st : FS S ([J, It] ++ X) (V 0) (M 0) (([J, It], fun h => (∃ old, IsEnum h J It (0 : Nat) old) ∧ h.IsListIter It D 0) :: I) K s₀ { s₁ with heap := h' } := st0.less fun x d hx => hV.get hx
  refine codeAny_forLoop_any (fun n s => ∃ k, k + n = N ∧ FS S ([J, It] ++ X) (V k) (M k) (([J, It], fun h => (∃ old, IsEnum h J It (k : Nat) old) ∧ h.IsListIter It D k) :: I) K s₀ s) ?_ N ⟨0, by simp, st⟩
  rintro n s₃ ⟨k, hk, st⟩
  obtain ⟨⟨old, he⟩, hit⟩ := (st.ok.it _ _ (.head _)).now
  obtain ⟨hDX, ys, n', hL, ra⟩ := st.ok.mu D (ds k) (hM k)
  have hDI : D ≠ It := fun q => by
    obtain ⟨o, e, c, _⟩ := hit
    rw [← q] at e; have := hL.symm.trans e; cases this; simp at c
  cases hd : (ds k)[k]? with
  | none =>
    have hkn : k = N := by have := List.getElem?_eq_none_iff.mp hd; rw [hN] at this; omega
    subst hkn
    have hlen := ra.length
    refine wpAny_pyNext_enum_end (h.ok.hand hcalm) he hit (isList_of hL) (by simp [hlen, hN]) fun h' hx => ?_
    have t : Turns [J, It] s₃ { s₃ with heap := h' } := turns_of (n := s₃.toks) fun b o hb e => hx b o (by simp at hb; exact hb.2) e
    have st' := FSt.leave (C := cx S ([J, It] ++ X) (V k) (M k) (([J, It], fun h => (∃ old, IsEnum h J It (k : Nat) old) ∧ h.IsListIter It D k) :: I) K) st rfl rfl hFX t
    exact wpAny_execs_nil (done _ st')
  | some d =>
    have hlt := (List.getElem?_eq_some_iff.mp hd).1
    rw [hN] at hlt
    obtain ⟨v, hx, rv⟩ := ra.get hd
    have hnX : s₃.heap.objs.size ∉ [J, It] ++ X := st.ok.new
    have hJlt : J < s₃.heap.objs.size := Heap.lt_size he
    have hTJ : s₃.heap.objs.size ≠ J := Nat.ne_of_gt hJlt
    refine wpAny_pyNext_enum_item he hit (isList_of hL) (x := v) (by simpa using hx) hJI fun h' ho hst hT hsz hkp => ?_
    refine wpAny_letOwnedTupleGo_enum ho fun h₂ he₂ hs₂ => ?_
    have keep : ∀ b o, b ∉ [J, It] → s₃.heap.get? b = some o → h₂.get? b = some o := fun b o hb e => by
      simp at hb
      exact (hs₂.2 b hb.1).trans (hkp b o hb.1 hb.2 e)
    have hP' : (∃ old, IsEnum h₂ J It ((k + 1 : Nat) : Int) old) ∧ h₂.IsListIter It D (k + 1) := by
      refine ⟨⟨v, by simpa using he₂⟩, ?_⟩
      obtain ⟨o, e, z⟩ := hst
      exact ⟨o, (hs₂.2 It (Ne.symm hJI)).trans e, z⟩
    have t : Turns [J, It] s₃ { s₃ with heap := h₂, toks := s₃.toks + 1 } := turns_of keep
    have st₄ := FSt.advance (C := cx S ([J, It] ++ X) (V k) (M k) (([J, It], fun h => (∃ old, IsEnum h J It (k : Nat) old) ∧ h.IsListIter It D k) :: I) K) (P' := fun h => (∃ old, IsEnum h J It ((k + 1 : Nat) : Int) old) ∧ h.IsListIter It D (k + 1)) st rfl t (fld (k + 1) _ hP') hP' (loc (k + 1))
    have rt : Rd ([J, It] ++ X) h₂ (.tuple [nat k, d]) (.ref s₃.heap.objs.size) := by
      refine .tuple_ (vs := [.int k s₃.toks, v]) (n := 0) hnX ((hs₂.2 _ hTJ).trans hT) (.cons .int_ (.one ?_))
      exact rv.mono fun b o hb e => ⟨hb, keep b o (fun q => hb (List.mem_append.mpr (.inl q))) e⟩
    refine wpAny_mono (asg k d _ _ _ _ _ _ _ _ rt st₄ (fun _ s₆ => FS S ([J, It] ++ X) ([(y, d), (x, nat k)] ++ V k) (M k) (([J, It], fun h => (∃ old, IsEnum h J It ((k + 1 : Nat) : Int) old) ∧ h.IsListIter It D (k + 1)) :: I) K s₀ s₆) fun s₆ st₆ => st₆) (fun _ s₆ st₆ => ?_) fun _ _ q => q.elim
    refine wpAny_mono (turn k d hd [J, It] _ s₆ hFX st₆) (fun fl s₇ h₇ => ?_) fun _ _ q => q.elim
    cases fl with
    | next => exact ⟨n - 1, by omega, k + 1, by omega, h₇⟩
    | cont => exact ⟨n - 1, by omega, k + 1, by omega, h₇⟩
    | brk => exact h₇.elim
    | ret v => exact h₇
end
end Mine
end
section
open PySem PySem.Spec PySem.SeqAt PySem.Calls PyProof.Rows
set_option maxRecDepth 100000
namespace Mine
theorem setItem_LI {prog : Program} {w : World} {A : Around} {E : Value → Shared → Prop} {s : Shared} {l : Addr} {items : Array Value} {n : Nat} {k : Int} {t : Tok} {v : Value} {Q : Unit → Shared → Prop} (hl : IsL s.heap l items n)
    (h0 : 0 ≤ k) (hfit : k < 2 ^ 63) (hn : k < items.size)
    (hQ : ∀ h' n', IsL h' l (items.setIfInBounds k.toNat v) n' → Heap.SameBut l s.heap h' → Q () { s with heap := h' }) :
    wpAny (model prog w) A (setItem (.ref l) (.int k t) v) Q E s := by
  have hl' : s.heap.IsList l items := ⟨_, hl, rfl, n, rfl⟩
  unfold setItem
  try with_reducible refine wpAny_holding ?_
  first | refine wpAny_bind (wpAny_pure ?_) | skip
  refine wpAny_bind (wpAny_sequenceKey hl'.typeIs (by decide) ?_)
  refine wpAny_bind (wpAny_callSpecial?_slot (name := Str.ofString "__setitem__") hl'.typeIs slot_list_setitem
    (wpAny_call_entry slot_list_setitem hl'.typeIs entry_list_setitem ?_ (args_list_setitem _ _ _)))
  show wpAny _ _ (Builtin.List.listSubscript? (.int k t) >>= _) _ _ s
  refine wpAny_bind (wpAny_listSubscript_int (fitsIndex_of h0 hfit) ?_)
  clear hfit
  obtain ⟨j, rfl⟩ := Int.eq_ofNat_of_zero_le h0
  have hj : j < items.size := by omega
  have hx' : items[j]? = some items[j] := Array.getElem?_eq_getElem hj
  show wpAny _ _ ((seqItemAt l j >>= fun r => pure (r.map (j, ·))) >>= _) _ _ s
  refine wpAny_bind (wpAny_bind (wpAny_seqItemAt hl rfl (wpAny_pure ?_)))
  rw [hx']
  show wpAny _ _ (setSeqItemAt l j v >>= _) _ _ s
  obtain ⟨n', hd'⟩ := Obj.data_mapSeq (o := { cls := .type "list", dict := none, data := .seq items n, slots := #[] }) rfl (·.setIfInBounds j v)
  have hfin := Heap.get?_update_self (Obj.mapSeq (·.setIfInBounds j v)) hl (Obj.isFreed_of_seq hd')
  have hfin' : ∃ n', IsL (s.heap.update l (Obj.mapSeq (·.setIfInBounds j v))) l (items.setIfInBounds j v) n' := ⟨_, hfin⟩
  obtain ⟨n'', hf⟩ := hfin'
  refine wpAny_bind (wpAny_setSeqItemAt hl rfl ?_)
  first
    | exact wpAny_bind (wpAny_pure (wpAny_pure ⟨.none, rfl, wpAny_pure (hQ _ _ hf (Heap.SameBut.update ..))⟩))
    | exact wpAny_pure ⟨.none, rfl, wpAny_pure (hQ _ _ hf (Heap.SameBut.update ..))⟩
theorem setItem_L {prog : Program} {w : World} {A : Around} {E : Value → Shared → Prop} {s : Shared} {l : Addr} {items : Array Value} {n k : Nat} {t : Tok} {v : Value} {Q : Unit → Shared → Prop} (hl : IsL s.heap l items n)
    (hfit : k < 2 ^ 62) (hn : k < items.size)
    (hQ : ∀ h' n', IsL h' l (items.setIfInBounds k v) n' → Heap.SameBut l s.heap h' → Q () { s with heap := h' }) :
    wpAny (model prog w) A (setItem (.ref l) (.int (k : Int) t) v) Q E s := setItem_LI hl (by omega) (by omega) (by omega) hQ
theorem RdAll.set {X : List Addr} {h : Heap} {d : PyData} {v : Value} (r : Rd X h d v) : ∀ {ds : List PyData} {vs : List Value} (k : Nat), RdAll X h ds vs → RdAll X h (ds.set k d) (vs.set k v)
  | [], _, k, e => by simp only [RdAll] at e; subst e; simp [RdAll]
  | a :: ds, _, k, e => by
    simp only [RdAll] at e
    obtain ⟨u, q, rfl, h1, h2⟩ := e
    cases k with
    | zero => exact .cons r h2
    | succ k => exact .cons h1 (RdAll.set r k h2)
section
variable {S : Stat} {X : List Addr} {V : Vars} {M : Muts} {I : Its} {K : Facts} {s₀ s : Shared} {pos : Pos} {rest : List Stmt} {Q : Flow → Shared → Prop} {E : Value → Shared → Prop}
/-- b[j] = e, b a list of the call's own -/
theorem s_store {be je e : Expr} {sp : Pos} {D : Addr} {ds : List PyData} {k : Nat} {d : PyData} (h : FS S X V ((D, ds) :: M) I K s₀ s) (he : Ev (cx S X V ((D, ds) :: M) I K) e d) (hb : Ev (cx S X V ((D, ds) :: M) I K) be (raw D)) (hj : Ev (cx S X V ((D, ds) :: M) I K) je (nat k)) (hk : k < ds.length) (hf : k < 2 ^ 62)
    (kk : ∀ s', FS S X V ((D, ds.set k d) :: M) I K s₀ s' → wpAny (model S.prog S.w) S.A (execs rest S.env) Q E s')
    (hs : swapsWith e (some (.Subscript be je sp)) pos.line S.env = pure false := by rfl) :
    wpAny (model S.prog S.w) S.A (execs (.Assign [.Subscript be je sp] e pos :: rest) S.env) Q E s := by
  refine wpAny_execs_cons ?_
  rw [exec_Assign_Subscript _ _ _ _ _ hs]
  refine wpAny_bind (wpAny_standAt (wpAny_bind (he.use h.ok fun v s₁ g₁ ok₁ rv => ?_)))
  rw [assign_Subscript]
  refine wpAny_bind (wpAny_bind (wpAny_holding (hb.use ok₁ fun ov s₂ g₂ ok₂ rb => wpAny_bind (wpAny_holding (hj.use ok₂ fun iv s₃ g₃ ok₃ rj => wpAny_bind (wpAny_standAt (wpAny_bind (wpAny_holding ?_))))))))
  rw [rb.raw_inv]
  obtain ⟨t, rfl⟩ := rj.int_inv
  obtain ⟨hDX, ys, n, hl, ra⟩ := ok₃.mu D ds (.head _)
  have hlen := ra.length
  refine setItem_L hl hf (by simp; omega) fun h' n' hl' hsb => wpAny_release (wpAny_pure (kk _ ?_))
  have keep : ∀ b o, b ≠ D → s₃.heap.get? b = some o → h'.get? b = some o := fun b o hb e => (hsb.2 b hb).trans e
  have gv := (g₂.trans g₃)
  have rv' : Rd X h' d v := (rv.ext gv.ext).touch hDX keep
  have st₃ := s_step h (g₁.trans gv)
  have tn : Turn D s₃ { s₃ with heap := h' } := ⟨keep, ⟨_, hl'⟩, rfl, rfl, rfl⟩
  rw [show ys.toArray.setIfInBounds k v = List.toArray (ys.set k v) by simp] at hl'
  exact FSt.mutate (C := cx S X V ((D, ds) :: M) I K) st₃ rfl tn hl' (RdAll.set rv' k (ra.touch hDX keep))
end
end Mine
end
section
open PySem PySem.Spec PySem.SeqAt PySem.Calls PyProof.Rows
set_option maxRecDepth 100000
namespace Mine
/-- the numbers from a, so many -/
noncomputable abbrev natsFrom (a n : Nat) : List PyData := (List.range n).map fun k => Mine.nat (a + k)
theorem natsFrom_get {a n k : Nat} {d : PyData} (h : (natsFrom a n)[k]? = some d) : k < n ∧ d = Mine.nat (a + k) := by
  simp only [natsFrom, List.getElem?_map] at h
  obtain ⟨j, hj, rfl⟩ := Option.map_eq_some_iff.mp h
  have hlt := (List.getElem?_eq_some_iff.mp hj).1
  have : j = k := by rw [List.getElem?_eq_some_iff] at hj; obtain ⟨h1, h2⟩ := hj; simpa using h2.symm
  subst this
  exact ⟨by simpa using hlt, rfl⟩
theorem Src.range2 {C : Cx} {p pos : Pos} {e₁ e₂ : Expr} {a b : Nat} (hn : NameV C "range" (.type "range")) (h1 : Ev C e₁ (Mine.nat a)) (h2 : Ev C e₂ (Mine.nat b)) (hab : a ≤ b) (hb : b < 2 ^ 61)
    (hs : starEach [e₁, e₂] C.env = [(false, eval e₁ C.env), (false, eval e₂ C.env)] := by rfl) (hs2 : starEach [e₂] C.env = [(false, eval e₂ C.env)] := by rfl) :
    Src C (.Call (.Name "range" p) [e₁, e₂] [] pos) (natsFrom a (b - a)) := fun s ok => by
  refine PyProof.Rows.Call_Name rfl (hn s p _ _ ok ?_)
  have h' : Evs C [e₁, e₂] [Mine.nat a, Mine.nat b] := Evs.cons h1 (Evs.cons h2 .nil hs2) (by rw [hs, hs2])
  have key := Evs.at (pos := pos) ok h'
  rw [hs] at key ⊢
  refine PySem.callWith_type rfl (Calls.evalArgs_plain (wpAny_mono key (fun vs s₁ z => ?_) fun _ _ z => z))
  obtain ⟨g₁, r₁⟩ := z
  simp only [RdAll] at r₁
  obtain ⟨v1, q1, rfl, rv1, v2, q2, rfl, rv2, rfl⟩ := r₁
  obtain ⟨t, rfl⟩ := rv1.int_inv
  obtain ⟨u, rfl⟩ := rv2.int_inv
  show wpAny C.M C.A (PySem.call (.type "range") [.int (a : Int) t, .int (b : Int) u]) _ _ s₁
  refine call_range_2 ?_
  have hsm : Builtin.Range.small a b 1 = true := small_one (by omega) (by omega) (by omega) (by omega)
  refine wpAny_pyIter_range (a := a) (b := b) (c := 1) (Heap.get?_push_size _ rfl) hsm ?_
  have g : Grow C.G.top s₁ { s₁ with heap := (s₁.heap.push { cls := .type "range", data := .fields #[.int a t, .int b u, .int 1 s₁.toks] }).push { cls := .type "range_iterator", data := .fields #[rawInt a, rawInt (Builtin.Range.rangeSize a b 1), rawInt 1] }, toks := s₁.toks + 1 } :=
    ⟨.of fun b o e => Heap.get?_push_of_some _ (Heap.get?_push_of_some _ e), rfl, rfl, rfl⟩
  refine ⟨_, rfl, ?_, g₁.trans g, .inr ⟨a, ?_, ?_⟩⟩
  · rw [Heap.size_push]
    refine g₁.ext.none ?_
    cases e : s₁.heap.get? (s₁.heap.objs.size + 1) with
    | none => rfl
    | some o => exact absurd (Heap.lt_size e) (by simp)
  · have : Builtin.Range.rangeSize a b 1 = ((natsFrom a (b - a)).length : Int) := by
      rw [rangeSize_one]; simp; omega
    rw [← this]
    exact Heap.get?_push_size _ rfl
  · simp [natsFrom]
end Mine
end
section
open PySem PySem.Spec PySem.SeqAt PySem.Calls PyProof.Rows
open AutoSeq1 (wpAny_loadPart')
set_option maxRecDepth 100000
namespace Mine
/-- a bare object lies there -/
noncomputable def IsBare (h : Heap) (a : Addr) : Prop := ∃ dd sl, h.get? a = some { cls := .type "object", dict := dd, data := .plain, slots := sl }
theorem str_eq_bare (b : Str) (u : Tok) (l : Addr) (dd : Option Addr) (sl : Array (Option Value)) :
    Meets (Builtin.«str.__eq__» ⟨[.str b u, .ref l], []⟩) (fun _ R s => s.heap.get? l = some { cls := .type "object", dict := dd, data := .plain, slots := sl } ∧ R (.ok (.ret .notImplemented)) s) :=
  .of_wp fun prog w A R s h => by obtain ⟨hp, g, d, tk, os⟩ := s; obtain ⟨hl, h⟩ := h; wp_walk using wpAny_loadPart' hl, wpAny_load hl; exact ⟨_, rfl, h⟩
theorem bare_eq_str (b : Str) (u : Tok) (l : Addr) (dd : Option Addr) (sl : Array (Option Value)) :
    Meets (Builtin.«object.__eq__» ⟨[.ref l, .str b u], []⟩) (fun _ R s => s.heap.get? l = some { cls := .type "object", dict := dd, data := .plain, slots := sl } ∧ R (.ok (.ret .notImplemented)) s) :=
  .of_wp fun prog w A R s h => by
    obtain ⟨hp, g, d, tk, os⟩ := s; obtain ⟨hl, h⟩ := h
    have hi : isSame (.ref l) (.str b u) = pure false := rfl
    wp_walk using wpAny_loadPart' hl, wpAny_load hl
    exact ⟨_, rfl, h⟩
theorem bare_rc {A : Around} {s : Shared} {a : Addr} {x : Str} {t : Tok} (ha : IsBare s.heap a) (hu : A.units < cLine) : RcAt A s (.ref a) (.str x t) false := fun prog w E Q h => by
  obtain ⟨dd, sl, ho⟩ := ha
  have hT : s.TypeIs (.ref a) "object" := ⟨_, ho, rfl⟩
  have hsub : isSubtype (.type "str") (.type "object") = pure true := by rw [isSubtype_type]; kernel_rfl
  rcases hi : cmpInfo CmpOp.Eq with ⟨sym, f, r⟩
  have h1 : Slot "object" f "object.__eq__" := by have := F.slot_object_eq; rw [hi] at this; exact this
  have h2 : Slot "str" r "str.__eq__" := by have := F.slot_str_eq; simp only [cmpInfo] at hi this; cases hi; exact this
  simp only [richCompare, hi, hT.oneThing_none]
  try with_reducible refine wpAny_holding ?_
  refine wpAny_bind (wpAny_cRoomFor_or (.inr hu) ?_)
  refine wpAny_bind (wpAny_typeOf hT (wpAny_bind (wpAny_typeOf (typeIs_str s x t) ?_)))
  rw [if_pos (by decide)]
  refine wpAny_bind (wpAny_of_eq hsub ?_)
  simp only [if_true, Bool.not_true, Bool.false_eq_true, if_false]
  refine wpAny_bind (m := tryCompare (.str x t) _ (.ref a)) (wpAny_tryCompare_declines (typeIs_str s x t) h2 (call_meets h2 (typeIs_str s x t) F.entry_str_eq (F.args_str_eq_2 _ _) (str_eq_bare x t a dd sl) ⟨ho, rfl, ?_⟩))
  refine wpAny_bind (m := tryCompare (.ref a) _ (.str x t)) (wpAny_tryCompare_declines hT h1 (call_meets h1 hT F.entry_object_eq (F.args_object_eq_2 _ _) (bare_eq_str x t a dd sl) ⟨ho, rfl, ?_⟩))
  exact wpAny_bind (wpAny_rule (wpAny_bind (wpAny_of_eq (rfl : isSame (.ref a) (.str x t) = pure false) (wpAny_pure h))))

/-- a name, or the sign for one that was seen -/
noncomputable def hid (NA : Addr) (seen : List Str) (x : Str) : PyData := if seen.contains x then raw NA else .str x
theorem Cmp.hidEq {C : Cx} {NA : Addr} {seen : List Str} {x y : Str} (hb : IsBare C.G.top NA) : Cmp C .Eq (hid NA seen y) (.str x) (!seen.contains y && y == x) := fun s u v ok hu hv Q E k => by
  unfold hid at hu
  split at hu
  · next q =>
    rw [hu.raw_inv]
    obtain ⟨t, rfl⟩ := hv.str_inv
    rw [q] at k
    have hr := ok.room
    exact bare_rc (A := C.A) (let ⟨a, b, e⟩ := hb; ⟨a, b, ok.g _ _ e⟩) (by omega) C.prog C.w E Q (k s.toks)
  · next q =>
    have q' : seen.contains y = false := by simpa using q
    rw [q'] at k
    exact Cmp.eqStr s u v ok hu hv Q E k
theorem Cmp.hidIs {C : Cx} {NA : Addr} {seen : List Str} {y : Str} (hb : IsBare C.G.top NA) : Cmp C .Is (hid NA seen y) (raw NA) (seen.contains y) := fun s u v ok hu hv Q E k => by
  rw [hv.raw_inv]
  unfold hid at hu
  split at hu
  · next q =>
    rw [hu.raw_inv]
    rw [q] at k
    obtain ⟨dd, sl, ho⟩ := hb
    have ho := ok.g _ _ ho
    refine wpAny_bind (m := isSame (.ref NA) (.ref NA)) ?_
    unfold isSame
    repeat (first | with_reducible refine wpAny_loadPart' ho ?_ | wp_step)
    exact k s.toks
  · next q =>
    have q' : seen.contains y = false := by simpa using q
    rw [q'] at k
    obtain ⟨t, rfl⟩ := hu.str_inv
    exact wpAny_bind (wpAny_of_eq (rfl : isSame (.str y t) (.ref NA) = pure false) (wpAny_pure (k s.toks)))
end Mine
end
section
open PySem PySem.Spec PySem.SeqAt PySem.Calls PyProof.Rows
set_option maxRecDepth 100000
namespace Mine
section
variable {S : Stat} {X : List Addr} {V : Vars} {M : Muts} {I : Its} {K : Facts} {s₀ s : Shared} {pos : Pos} {rest : List Stmt} {Q : Flow → Shared → Prop} {E : Value → Shared → Prop}
/-- the stores of x, y = e1, e2 -/
theorem tt_stores {x y : Str} {a b : PyData} {v : Value} {stores : List (Value → Sem Unit)} (h : FS S X V M I K s₀ s) (r : Rd X s.heap (.tuple [a, b]) v)
    (k : ∀ s', FS S X ((x, a) :: (y, b) :: V) M I K s₀ s' → Q .next s') (hc : S.calm = true) (hx : Bindable S.env x) (hy : Bindable S.env y) :
    wpAny (model S.prog S.w) S.A (assignStores S.env v (some [x, y]) stores) Q E s := by
  obtain ⟨t, vs, n, rfl, ht, hT, ra⟩ := r.tuple_inv
  simp only [RdAll] at ra
  obtain ⟨va, q1, rfl, rva, vb, q2, rfl, rvb, rfl⟩ := ra
  unfold assignStores
  dsimp only
  refine wpAny_bind (wpAny_rule (wpAny_bind (wpAny_unpackItems_tuple (items := #[va, vb]) (h.ok.hand hc) ⟨_, hT, rfl, n, rfl⟩ fun h' he => ?_)))
  have g : Grow S.G.top s { s with heap := h' } := grow_but he
  have h1 := FSt.step (C := cx S X V M I K) h g
  have h2 := h1.fact (rva.ext g.ext)
  refine wpAny_bind ?_
  show wpAny _ S.A (do holding [va] (bindName S.env y vb); do holding [] (bindName S.env x va); pure ()) _ _ _
  refine wpAny_bind (wpAny_holding (wpAny_bindName (FSt.put h2 hy (rvb.ext g.ext) fun s₂ st₂ _ _ => ?_)))
  refine wpAny_bind (wpAny_holding (wpAny_bindName (FSt.put st₂ hx (st₂.ok.fa _ _ (.head _)) fun s₃ st₃ _ _ => wpAny_pure (wpAny_pure ?_))))
  exact k s₃ (st₃.dropFacts fun p hp => .tail _ hp)
/-- x, y = e -/
theorem s_assignTT {x y : Str} {p1 p2 p : Pos} {x1} {e : Expr} {a b : PyData} (h : FS S X V M I K s₀ s) (he : Ev (cx S X V M I K) e (.tuple [a, b])) (k : ∀ s', FS S X ((x, a) :: (y, b) :: V) M I K s₀ s' → wpAny (model S.prog S.w) S.A (execs rest S.env) Q E s')
    (hc : S.calm = true := by rfl) (hx : Bindable S.env x := by first | exact .inl rfl | exact .inr ⟨rfl, rfl⟩) (hy : Bindable S.env y := by first | exact .inl rfl | exact .inr ⟨rfl, rfl⟩)
    (hs : swapsWithSole [.Tuple [.Name x p1, .Name y p2] x1 p] e pos.line S.env = pure false := by rfl) (hw : swappedStores [.Tuple [.Name x p1, .Name y p2] x1 p] e S.env = pure (some [x, y]) := by rfl) :
    wpAny (model S.prog S.w) S.A (execs (.Assign [.Tuple [.Name x p1, .Name y p2] x1 p] e pos :: rest) S.env) Q E s := by
  refine wpAny_execs_cons ?_
  rw [exec_Assign_arm]
  refine wpAny_bind (wpAny_standAt ?_)
  rw [hs]
  refine wpAny_bind (wpAny_pure ?_)
  rw [if_neg (by decide)]
  refine wpAny_bind (he.use h.ok fun v s₁ g₁ ok₁ r₁ => ?_)
  rw [hw]
  refine wpAny_bind (wpAny_pure (tt_stores (s_step h g₁) r₁ (fun s' st => k s' st) hc hx hy))
end
end Mine
end
section
open PySem PySem.Spec PySem.SeqAt PySem.Calls PyProof.Rows
set_option maxRecDepth 100000
namespace Mine
/-- list(e): a fresh list -/
theorem list_of {C : Cx} {p pos : Pos} {e : Expr} {ds : List PyData} {s : Shared} {Q : Value → Shared → Prop} {E : Value → Shared → Prop} (ok : C.ok s) (hn : NameV C "list" (.type "list")) (he : Ev C e (.list ds)) (hsz : ds.length ≤ 100)
    (k : ∀ D s' ys n, s.heap.get? D = none → Grow C.G.top s s' → IsL s'.heap D (List.toArray ys) n → RdAll C.X s'.heap ds ys → Q (.ref D) s') (hs : starEach [e] C.env = [(false, eval e C.env)] := by rfl) :
    wpAny C.M C.A (eval (.Call (.Name "list" p) [e] [] pos) C.env) Q E s := by
  refine Call_Name1 (hn s p _ _ ok (with_type1 _ _ _ _ (he.use ok fun u s₁ g₁ ok₁ r => ?_))) hs
  obtain ⟨a, vs, n, rfl, ha, hl, ra⟩ := r.list_inv
  have hlen := ra.length
  refine call_list_seq a (.inl rfl) hl rfl rfl (fun h' c' hk hD => ?_) (Nat.le_trans (by simp; omega : vs.toArray.size ≤ 100) (by decide))
  have g₂ : Grow C.G.top s₁ { s₁ with heap := h' } := .heap s₁ hk
  exact k _ _ vs c' (g₁.ext.none (get_size _)) (g₁.trans g₂) hD (ra.ext g₂.ext)
section
variable {S : Stat} {X : List Addr} {V : Vars} {M : Muts} {I : Its} {K : Facts} {s₀ s : Shared} {pos : Pos} {rest : List Stmt} {Q : Flow → Shared → Prop} {E : Value → Shared → Prop}
theorem RdAll.hide {X : List Addr} {T : Heap} {s s' : Shared} {D : Addr} {ds : List PyData} {ys : List Value} {n : Nat} {zs : Array Value} (ra : RdAll X s'.heap ds ys) (hd : ∀ d ∈ ds, ∃ x, d = .str x) : RdAll (D :: X) s'.heap ds ys := by
  obtain ⟨l, rfl⟩ : ∃ l : List Str, ds = dstr l := by
    clear ra
    induction ds with
    | nil => exact ⟨[], rfl⟩
    | cons d ds ih =>
      obtain ⟨x, rfl⟩ := hd d (.head _)
      obtain ⟨l, rfl⟩ := ih fun d h => hd d (.tail _ h)
      exact ⟨x :: l, rfl⟩
  exact ra.strsX
/-- x, y = list(e1), list(e2): two lists of the call's own -/
theorem s_twoLists {x y : Str} {p1 p2 p q1 q2 r1 r2 tp : Pos} {x1 k1} {e1 e2 : Expr} {l1 l2 : List Str} (h : FS S X V M I K s₀ s)
    (hn : NameV (cx S X V M I K) "list" (.type "list")) (h1 : Ev (cx S X V M I K) e1 (.list (dstr l1))) (hl1 : l1.length ≤ 100) (hl2 : l2.length ≤ 100)
    (hn2 : ∀ D, NameV (cx S (D :: X) V ((D, dstr l1) :: M) I K) "list" (.type "list")) (h2 : ∀ D, Ev (cx S (D :: X) V ((D, dstr l1) :: M) I K) e2 (.list (dstr l2)))
    (k : ∀ D1 D2 s', D1 ∉ X → D2 ∉ D1 :: X → s.heap.get? D1 = none → s.heap.get? D2 = none → FS S (D2 :: D1 :: X) ((x, raw D1) :: (y, raw D2) :: V) ((D2, dstr l2) :: (D1, dstr l1) :: M) I K s₀ s' → wpAny (model S.prog S.w) S.A (execs rest S.env) Q E s')
    (hc : S.calm = true := by rfl) (hx : Bindable S.env x := by first | exact .inl rfl | exact .inr ⟨rfl, rfl⟩) (hy : Bindable S.env y := by first | exact .inl rfl | exact .inr ⟨rfl, rfl⟩)
    (hs : swapsWithSole [.Tuple [.Name x p1, .Name y p2] x1 p] (.Tuple [.Call (.Name "list" q1) [e1] [] r1, .Call (.Name "list" q2) [e2] [] r2] k1 tp) pos.line S.env = pure false := by rfl) (hw : swappedStores [.Tuple [.Name x p1, .Name y p2] x1 p] (.Tuple [.Call (.Name "list" q1) [e1] [] r1, .Call (.Name "list" q2) [e2] [] r2] k1 tp) S.env = pure (some [x, y]) := by rfl)
    (ha1 : starEach [e1] S.env = [(false, eval e1 S.env)] := by rfl) (ha2 : starEach [e2] S.env = [(false, eval e2 S.env)] := by rfl) :
    wpAny (model S.prog S.w) S.A (execs (.Assign [.Tuple [.Name x p1, .Name y p2] x1 p] (.Tuple [.Call (.Name "list" q1) [e1] [] r1, .Call (.Name "list" q2) [e2] [] r2] k1 tp) pos :: rest) S.env) Q E s := by
  refine wpAny_execs_cons ?_
  rw [exec_Assign_arm]
  refine wpAny_bind (wpAny_standAt ?_)
  rw [hs]
  refine wpAny_bind (wpAny_pure ?_)
  rw [if_neg (by decide)]
  refine wpAny_bind (wpAny_Tuple (wpAny_items_cons (list_of (C := cx S X V M I K) h.ok hn h1 (by simpa using hl1) (fun D1 s₁ ys n f1 g1 i1 a1 => ?_) ha1)))
  have st₁ := FSt.own (C := cx S X V M I K) h f1 g1 i1 (a1.strsX (X' := D1 :: X) (h' := s₁.heap))
  refine wpAny_items_cons (list_of (C := cx S (D1 :: X) V ((D1, dstr l1) :: M) I K) st₁.ok (hn2 D1) (h2 D1) (by simpa using hl2) (fun D2 s₂ zs m f2 g2 i2 a2 => ?_) ha2)
  have st₂ := FSt.own (C := cx S (D1 :: X) V ((D1, dstr l1) :: M) I K) st₁ f2 g2 i2 (a2.strsX (X' := D2 :: D1 :: X) (h' := s₂.heap))
  refine wpAny_items_nil ⟨by simp; decide, ?_⟩
  have g3 : Grow S.G.top s₂ { s₂ with heap := s₂.heap.push { cls := .type "tuple", data := .seq ([.ref D1, .ref D2] : List Value).toArray } } := .push _ _
  have st₃ := FSt.step st₂ g3
  rw [hw]
  refine wpAny_bind (wpAny_pure (tt_stores (S := S) (a := raw D1) (b := raw D2) st₃ (.tuple_ st₂.ok.new (isT_new _ _) (.cons .raw_ (.one .raw_))) (fun s' st => k D1 D2 s' (ok_notin h.ok f1) (ok_notin st₁.ok f2) f1 (g1.ext.none f2) st) hc hx hy))
end
end Mine
end
section
open PySem PySem.Spec PySem.SeqAt PySem.Calls PyProof.Rows
set_option maxRecDepth 100000
namespace Mine
theorem mro_obj : mroOf (.type "object") = pure [.type "object"] := by rw [mroOf_type]; kernel_rfl
theorem obj_new : typeLookup (.type "object") "__new__" = pure (some (.builtin "object.__new__")) := by rw [typeLookup_type, builtinLookup_eq_fast]; kernel_rfl
theorem called_object : TypeCalled "object" "object.__new__" "object.__init__" :=
  ⟨by decide +kernel, by decide +kernel, ⟨_, _, mro_obj⟩, madeBy_type mro_obj obj_new (by decide +kernel), by decide +kernel, by rw [isSubtype_type]; kernel_rfl, F.slot_object_init⟩
theorem typeCall_object : checkTypeCall "object" ⟨[], []⟩ = pure () := by kernel_rfl
theorem newCall_object : checkBuiltinCall "object.__new__" ⟨[.type "object"], []⟩ = pure () := by kernel_rfl
theorem entry_object_new : entryFor table "object.__new__" = some Builtin.«object.__new__» := entryFor_of_tree (by kernel_rfl)
theorem object_new_meets : Meets (Builtin.«object.__new__» ⟨[.type "object"], []⟩) (fun _ R s => R (.ok (.ret (.ref s.heap.objs.size))) { s with heap := s.heap.push { cls := .type "object", data := .plain } }) :=
  .of_wp fun prog w A R s h => by
    have hm : Bind.madeHere "object.__new__" (.type "object") = pure () := by kernel_rfl
    obtain ⟨hp, g, d, tk, os⟩ := s
    wp_walk
    exact ⟨_, rfl, h⟩
theorem call_object {prog : Program} {w : World} {A : Around} {E : Value → Shared → Prop} {s : Shared} {Q : Value → Shared → Prop}
    (h : Q (.ref s.heap.objs.size) { s with heap := s.heap.push { cls := .type "object", data := .plain } }) : wpAny (model prog w) A (call (.type "object") []) Q E s :=
  callType_meets (Q₁ := fun obj s₁ => s₁.TypeIs obj "object" ∧ Q obj s₁) called_object typeCall_object newCall_object entry_object_new F.entry_object_init object_new_meets ⟨⟨_, Heap.get?_push_size _ rfl, rfl⟩, h⟩ fun obj s₁ z =>
    ⟨z.1, by unfold argsOk; kernel_rfl, _, .of_wp fun prog w A R s hs => (wpAny_pure ⟨_, rfl, hs⟩ : wpAny _ _ (Builtin.«object.__init__» ⟨[obj], []⟩) _ _ _), rfl, z.2⟩
end Mine
end
section
open PySem PySem.Spec PySem.SeqAt PySem.Calls PyProof.Rows
set_option maxRecDepth 100000
namespace Mine
section
variable {S : Stat} {X : List Addr} {V : Vars} {M : Muts} {I : Its} {K : Facts} {s₀ s : Shared} {x : Str} {p' pos : Pos} {rest : List Stmt} {Q : Flow → Shared → Prop} {E : Value → Shared → Prop}
/-- x = object() -/
theorem s_object {np cp : Pos} (h : FS S X V M I K s₀ s) (hn : NameV (cx S X V M I K) "object" (.type "object"))
    (k : ∀ NA G' hh s', Glob.More S.G G' [NA] hh → (∀ a ∈ [NA], S.G.top.get? a = none) → IsBare G'.top NA → FS { S with G := G' } X ((x, raw NA) :: V) M I K s₀ s' → wpAny (model S.prog S.w) S.A (execs rest S.env) Q E s')
    (hk : Bindable S.env x := by first | exact .inl rfl | exact .inr ⟨rfl, rfl⟩) (hs : swapsWith (.Call (.Name "object" np) [] [] cp) (some (.Name x p')) pos.line S.env = pure false := by rfl) :
    wpAny (model S.prog S.w) S.A (execs (.Assign [.Name x p'] (.Call (.Name "object" np) [] [] cp) pos :: rest) S.env) Q E s := by
  refine wpAny_execs_cons (wpAny_Assign_Name (Call_Name0 (hn s np _ _ h.ok (PyProof.Rows.callWith_type0 (env := S.env) (call_object ?_)))) hs)
  have n1 : s.heap.get? s.heap.objs.size = none := get_size _
  have g : Grow S.G.top s { s with heap := s.heap.push { cls := .type "object", data := .plain } } := .push _ _
  have st := s_step h g
  generalize hNA : s.heap.objs.size = NA at n1
  have hG : (s.heap.push { cls := .type "object", data := .plain }).get? NA = some { cls := .type "object", data := .plain } := by rw [← hNA]; exact Heap.get?_push_size _ rfl
  have nn := h.ok.amid.new n1
  have hF : ∀ a ∈ [NA], S.G.top.get? a = none := by intro a ha; simp at ha; subst ha; exact nn.2
  obtain ⟨G', mo⟩ := S.G.fix [NA] (s.heap.push { cls := .type "object", data := .plain }) st.ok.g hF
  have st' : FS { S with G := G' } X V M I K s₀ { s with heap := s.heap.push { cls := .type "object", data := .plain } } := by
    refine FSt.reglob (C := cx S X V M I K) st mo (fun a ha => ?_) (fun outer e env he L' hL' => ?_)
    · have q := ha
      simp at q
      subst q
      exact ⟨hF _ ha, h.grow.ext.none n1, nn.1, rfl⟩
    · obtain ⟨outer', e', fr⟩ := h.ok.fr
      have e2 : S.A.frames = some outer' := e'
      rw [show S.A.frames = some outer from e] at e2
      cases e2
      obtain ⟨_, L2, o, es, m, f1, _, f3, _⟩ := fr env he
      rw [f1] at hL'; cases hL'
      simp only [List.mem_cons, List.not_mem_nil, or_false]
      exact fun z => by rw [z, n1] at f3; cases f3
  refine FSt.put (C := cx { S with G := G' } X V M I K) st' hk .raw_ fun s₂ st₂ _ _ => ?_
  exact k NA G' _ s₂ mo hF ⟨none, #[], by rw [mo.top, if_pos (by simp)]; exact hG⟩ st₂
end
section
variable {C : Cx} {pos : Pos}
/-- len of a list of the call's own -/
theorem Ev.lenM {p : Pos} {e : Expr} {D : Addr} {ds : List PyData} {n : Nat} (hn : NameV C "len" (.builtin "len")) (he : Ev C e (raw D)) (hm : (D, ds) ∈ C.muts) (hd : ds.length = n) (hsz : n < 2 ^ 62) (hs : starEach [e] C.env = [(false, eval e C.env)] := by rfl) :
    Ev C (.Call (.Name "len" p) [e] [] pos) (Mine.nat n) :=
  .call1 hn he with_builtin1 (fun s u ok r => by
    rw [r.raw_inv]
    obtain ⟨_, ys, m, hl, ra⟩ := ok.mu D ds hm
    have hlen := ra.length
    refine call_len_list (isList_of hl) (by simp; omega) ⟨.tok _ _, ?_⟩
    rw [show ((List.toArray ys).size : Int) = (n : Int) by simp [hlen, hd]]
    exact .int_) hs
end
theorem Cmp.neN {C : Cx} {a b : Nat} : Cmp C .NotEq (nat a) (nat b) (!(a == b)) := fun s u v ok hu hv Q E h => by
  have := Cmp.ne (C := C) (a := nat a) (b := nat b) rfl rfl (Nat.le_of_ble_eq_true rfl) s u v ok hu hv Q E
  refine this fun n => ?_
  have e : PyData.eqv (nat a) (nat b) = (a == b) := by
    rw [show PyData.eqv (nat a) (nat b) = ((a : Int) == (b : Int)) from rfl, Bool.eq_iff_iff]; simp
    exact ⟨fun h => by exact_mod_cast h, fun h => by rw [h]⟩
  rw [e]; exact h n
end Mine
end
section
open PySem PySem.Spec PySem.SeqAt PySem.Calls PyProof.Rows
set_option maxRecDepth 100000
namespace Mine
/-- a list of names, partly hidden anew -/
noncomputable def half (NA : Addr) (seen seen' : List Str) (l : List Str) (j : Nat) : List PyData := (l.take j).map (hid NA seen') ++ (l.drop j).map (hid NA seen)
section
variable {NA : Addr} {seen seen' l : List Str} {j : Nat} {x y : Str}
theorem half_len : (half NA seen seen' l j).length = l.length := by simp [half]; omega
theorem half_end : half NA seen seen' l l.length = l.map (hid NA seen') := by simp [half]
theorem half_start (h : ∀ y ∈ l.take j, hid NA seen y = hid NA seen' y) : half NA seen seen' l j = l.map (hid NA seen) := by
  unfold half
  rw [← List.map_congr_left h, ← List.map_append, List.take_append_drop]
theorem half_get (h : l[j]? = some y) : (half NA seen seen' l j)[j]? = some (hid NA seen y) := by
  have hj := (List.getElem?_eq_some_iff.mp h).1
  unfold half
  rw [List.getElem?_append_right (by simp; omega)]
  simp [Nat.min_eq_left (Nat.le_of_lt hj), h]
theorem half_succ (h : l[j]? = some y) : half NA seen seen' l (j + 1) = (l.take j).map (hid NA seen') ++ hid NA seen' y :: (l.drop (j + 1)).map (hid NA seen) := by
  unfold half
  rw [List.take_add_one, h]; simp
theorem half_now (h : l[j]? = some y) : half NA seen seen' l j = (l.take j).map (hid NA seen') ++ hid NA seen y :: (l.drop (j + 1)).map (hid NA seen) := by
  unfold half
  rw [drop_of h]; simp
theorem half_hit (h : l[j]? = some y) (hy : seen'.contains y = true) : (half NA seen seen' l j).set j (raw NA) = half NA seen seen' l (j + 1) := by
  have hj := (List.getElem?_eq_some_iff.mp h).1
  rw [half_now h, half_succ h, List.set_append_right _ _ (by simp; omega)]
  have : j - ((l.take j).map (hid NA seen')).length = 0 := by simp; omega
  rw [this, List.set_cons_zero]
  rw [show hid NA seen' y = raw NA from if_pos hy]
theorem half_miss (h : l[j]? = some y) (hy : hid NA seen y = hid NA seen' y) : half NA seen seen' l j = half NA seen seen' l (j + 1) := by
  rw [half_now h, half_succ h, hy]
theorem contains_snoc : (seen ++ [x]).contains y = (seen.contains y || y == x) := by
  rw [Bool.eq_iff_iff]; simp
theorem hid_miss (h : (!seen.contains y && y == x) = false) : hid NA seen y = hid NA (seen ++ [x]) y := by
  unfold hid
  rw [contains_snoc]
  cases h1 : seen.contains y
  · rw [h1] at h; simp at h; simp [h]
  · simp
theorem hid_again (h : seen.contains x = true) : hid NA seen y = hid NA (seen ++ [x]) y := by
  unfold hid
  rw [contains_snoc]
  cases h1 : seen.contains y
  · have : (y == x) = false := by
      rw [beq_eq_false_iff_ne]; rintro rfl; rw [h1] at h; cases h
    simp [this]
  · simp
theorem hid_of (h : seen.contains y = true) : hid NA seen y = hid NA (seen ++ [x]) y := by
  unfold hid
  rw [contains_snoc, h]; simp
end
/-- how many of these from a place on -/
noncomputable def cntI (l : List Str) (i : Nat) (x : Str) (q : Nat) : Nat := ((l.drop i).take q).count x
theorem cntI_zero (l : List Str) (i : Nat) (x : Str) : cntI l i x 0 = 0 := by simp [cntI]
theorem cntI_succ {l : List Str} {i q : Nat} {x y : Str} (h : l[i + q]? = some y) : cntI l i x (q + 1) = cntI l i x q + if (y == x) = true then 1 else 0 := by
  unfold cntI
  have : (l.drop i)[q]? = some y := by rw [List.getElem?_drop]; exact h
  rw [List.take_add_one, this, List.count_append]
  simp [List.count_cons]
theorem cntI_all {l : List Str} {i : Nat} {x : Str} (h : x ∉ l.take i) : cntI l i x (l.length - i) = l.count x := by
  unfold cntI
  rw [List.take_of_length_le (by simp)]
  have := List.count_append (a := x) (l₁ := l.take i) (l₂ := l.drop i)
  rw [List.take_append_drop] at this
  rw [this, List.count_eq_zero_of_not_mem h]; omega

noncomputable def r1 (S T : List Str) : Nat → List Tri
  | 0 => []
  | k + 1 => r1 S T k ++ match S[k]? with
    | some x => if (S.take k).contains x then [] else if S.count x == T.count x then [] else [(S.count x, T.count x, x)]
    | none => []
noncomputable def r2 (S T : List Str) : Nat → List Tri
  | 0 => []
  | k + 1 => r2 S T k ++ match T[k]? with
    | some x => if (S ++ T.take k).contains x then [] else [(0, T.count x, x)]
    | none => []
noncomputable def cdiff (S T : List Str) : List Tri := r1 S T S.length ++ r2 S T T.length
theorem r1_len (S T : List Str) : ∀ k, (r1 S T k).length ≤ k
  | 0 => by simp [r1]
  | k + 1 => by
    have := r1_len S T k
    simp only [r1, List.length_append]
    split
    · split
      · simp; omega
      · split <;> simp <;> omega
    · simp; omega
theorem r2_len (S T : List Str) : ∀ k, (r2 S T k).length ≤ k
  | 0 => by simp [r2]
  | k + 1 => by
    have := r2_len S T k
    simp only [r2, List.length_append]
    split
    · split <;> simp <;> omega
    · simp; omega
section
variable {S T : List Str} {k : Nat} {x : Str}
theorem r1_seen (h : S[k]? = some x) (hs : (S.take k).contains x = true) : r1 S T (k + 1) = r1 S T k := by simp only [r1, h, hs, if_true, List.append_nil]
theorem r1_same (h : S[k]? = some x) (hc : S.count x = T.count x) : r1 S T (k + 1) = r1 S T k := by simp [r1, h, hc]
theorem r1_new (h : S[k]? = some x) (hs : (S.take k).contains x = false) (hc : S.count x ≠ T.count x) : r1 S T (k + 1) = r1 S T k ++ [(S.count x, T.count x, x)] := by
  simp only [r1, h, hs]; simp [hc]
theorem r2_seen (h : T[k]? = some x) (hs : (S ++ T.take k).contains x = true) : r2 S T (k + 1) = r2 S T k := by simp only [r2, h, hs, if_true, List.append_nil]
theorem r2_new (h : T[k]? = some x) (hs : (S ++ T.take k).contains x = false) : r2 S T (k + 1) = r2 S T k ++ [(0, T.count x, x)] := by
  simp only [r2, h, hs]; simp
end
theorem s_rot {S : Stat} {X : List Addr} {V : Vars} {a b c : Addr × List PyData} {I : Its} {K : Facts} {s₀ s : Shared} (h : FS S X V [a, b, c] I K s₀ s) : FS S X V [c, a, b] I K s₀ s := by
  have p : [c, a, b].Perm [a, b, c] := List.perm_append_comm (l₁ := [c]) (l₂ := [a, b])
  exact s_muts h (fun q hq => p.mem_iff.mp hq) ((p.map _).nodup_iff.mpr h.mn)
end Mine
end
section
open PySem PySem.Spec PySem.SeqAt PySem.Calls PyProof.Rows
set_option maxRecDepth 100000
namespace Mine
noncomputable abbrev cntFd (doc pm code : Value) : FuncData := topFd 7 "_count_diff_all_purpose" doc pm code
noncomputable abbrev cntS (w : World) (G : Glob) (doc pm code : Value) (A : Around) (L : Addr) : Stat := ⟨pw, w, A.deeper (callEnv (cntFd doc pm code) L 169), callEnv (cntFd doc pm code) L 169, G, true⟩
noncomputable abbrev cntV (DR NA D1 D2 : Addr) (m n : Nat) : Vars := [("result", raw DR), ("NULL", raw NA), ("m", nat m), ("n", nat n), ("s", raw D1), ("t", raw D2)]
noncomputable def forBody : Stmt → List Stmt
  | .For _ _ b _ _ => b
  | _ => []
noncomputable def cntLoop1 : List Stmt := forBody ((defOfStmt (topStmt 7)).2.1.getD 5 default)
noncomputable def cntLoop2 : List Stmt := forBody ((defOfStmt (topStmt 7)).2.1.getD 6 default)
theorem tri_app (l : List Tri) (t : Tri) : (l ++ [t]).map mis1 = l.map mis1 ++ [mis1 t] := by simp
section
variable {w : World} {G : Glob} {n : Nat} {doc pm code : Value} {A : Around} {L DR NA D1 D2 : Addr} {X : List Addr} {I : Its} {K : Facts} {s₀ s : Shared} {S T : List Str}
theorem cnt_turn1 (pf : PF3 G) (hb : IsBare G.top NA) (room : Room (cntS w G doc pm code A L).A (n + 2)) (hS : S.length ≤ 100) (hT : T.length ≤ 100) {k : Nat} {x : Str} (hx : S[k]? = some x) {N : Shared → Prop}
    (st : FS (cntS w G doc pm code A L) X (("elem", hid NA (S.take k) x) :: ("i", nat k) :: cntV DR NA D1 D2 S.length T.length) [(DR, (r1 S T k).map mis1), (D2, T.map (hid NA (S.take k))), (D1, S.map (hid NA (S.take k)))] I K s₀ s)
    (hN : ∀ s', FS (cntS w G doc pm code A L) X (cntV DR NA D1 D2 S.length T.length) [(DR, (r1 S T (k + 1)).map mis1), (D2, T.map (hid NA (S.take (k + 1)))), (D1, S.map (hid NA (S.take (k + 1))))] I K s₀ s' → N s') :
    wpAny (model pw w) (cntS w G doc pm code A L).A (execs cntLoop1 (cntS w G doc pm code A L).env) (fun fl s' => (fl = .next ∨ fl = .cont) ∧ N s') (fun _ _ => False) s := by
  have hk := (List.getElem?_eq_some_iff.mp hx).1
  have hsz : ∀ k : Nat, k ≤ 200 → k ≤ sizeLine := fun k h => Nat.le_trans h (by decide)
  have etk : S.take (k + 1) = S.take k ++ [x] := by rw [List.take_add_one, hx]; rfl
  refine s_if st (b := (S.take k).contains x) (.cmp .name .name (.hidIs hb)) (fun hc s₁ st₁ => ?_) (fun hc s₁ st₁ => ?_)
  · refine wpAny_execs_cons (wpAny_Continue ?_)
    refine ⟨.inr rfl, hN _ ?_⟩
    have e : ∀ l : List Str, l.map (hid NA (S.take k)) = l.map (hid NA (S.take (k + 1))) := fun l => List.map_congr_left fun y _ => by rw [etk]; exact hid_again hc
    rw [r1_seen hx hc, ← e, ← e]
    exact s_less st₁ ⟨rfl, rfl, rfl, rfl, rfl, rfl, trivial⟩
  have hne : x ∉ S.take k := fun q => by
    have := List.contains_iff_mem.mpr q
    rw [hc] at this; cases this
  have helem : hid NA (S.take k) x = .str x := if_neg (by rw [hc]; decide)
  rw [helem] at st₁
  refine wpAny_execs_nil ?_
  refine s_assign2 (d := nat 0) st₁ (.nat 0) fun s₂ st₂ => ?_
  have e0 : S.map (hid NA (S.take k)) = half NA (S.take k) (S.take (k + 1)) S (k + 0) := by
    refine (half_start fun y hy => ?_).symm
    rw [etk]; exact hid_of (List.contains_iff_mem.mpr hy)
  refine s_for (fun d => [("j", d)]) (fun q => ("cnt_s", nat (cntI S k x q)) :: ("cnt_t", nat 0) :: ("elem", .str x) :: ("i", nat k) :: cntV DR NA D1 D2 S.length T.length)
    (fun q => [(D1, half NA (S.take k) (S.take (k + 1)) S (k + q)), (DR, (r1 S T k).map mis1), (D2, T.map (hid NA (S.take k)))]) (fun _ _ => False) (by rw [← e0]; exact s_rot st₂)
    (Src.walk (Src.range2 (.blt (pf.blt _) (by boot_fast)) .name .name (Nat.le_of_lt hk) (by omega))) ⟨rfl, rfl, rfl, rfl, rfl, rfl, rfl, rfl, rfl, rfl, trivial⟩ (fun _ _ _ => .name) (fun q d hd F P fq s₃ hFX st₃ => ?_) (fun _ _ _ z => z.elim) fun s₃ st₃ => ?_
  · obtain ⟨hq, rfl⟩ := natsFrom_get hd
    have hlt : k + q < S.length := by omega
    obtain ⟨y, hy⟩ : ∃ y, S[k + q]? = some y := ⟨_, List.getElem?_eq_getElem hlt⟩
    refine s_if st₃ (b := (!(S.take k).contains y && y == x)) (.cmp (.itemM .name (.head _) .name (half_get hy) (by omega)) .name (.hidEq hb)) (fun hcc s₄ st₄ => ?_) (fun hcc s₄ st₄ => ?_)
    · have hyx : (y == x) = true := (Bool.and_eq_true_iff.mp hcc).2
      refine s_aug (a := (cntI S k x q : Int)) (b := 1) st₄ .int (fun s₅ st₅ _ => ?_)
      refine s_store st₅ (d := raw NA) .name .name .name (by rw [half_len]; exact hlt) (by omega) fun s₆ st₆ => ?_
      refine wpAny_execs_nil (wpAny_execs_nil ?_)
      rw [half_hit hy (by rw [etk, contains_snoc, hyx]; simp)] at st₆
      have e1 : cntI S k x (q + 1) = cntI S k x q + 1 := by rw [cntI_succ hy, if_pos hyx]
      show FS _ _ (("cnt_s", nat (cntI S k x (q + 1))) :: _) _ _ _ _ _
      rw [e1]
      exact s_less st₆ ⟨rfl, rfl, rfl, rfl, rfl, rfl, rfl, rfl, rfl, rfl, trivial⟩
    · refine wpAny_execs_nil (wpAny_execs_nil ?_)
      have hyx : (y == x) = false := by
        cases h1 : y == x
        · rfl
        · rw [h1] at hcc
          rw [beq_iff_eq.mp h1, hc] at hcc; cases hcc
      rw [half_miss (seen' := S.take (k + 1)) hy (by rw [etk]; exact hid_miss hcc)] at st₄
      have e1 : cntI S k x (q + 1) = cntI S k x q := by rw [cntI_succ hy, hyx]; simp
      show FS _ _ (("cnt_s", nat (cntI S k x (q + 1))) :: _) _ _ _ _ _
      rw [e1]
      exact s_less st₄ ⟨rfl, rfl, rfl, rfl, rfl, rfl, rfl, rfl, rfl, rfl, trivial⟩
  · rw [show (natsFrom k (S.length - k)).length = S.length - k by simp, show k + (S.length - k) = S.length by omega, half_end, cntI_all hne] at st₃
    refine wpAny_execs_nil ?_
    have e2 : T.map (hid NA (S.take k)) = half NA (S.take k) (S.take (k + 1)) T 0 := (half_start fun y hy => by simp at hy).symm
    rw [e2] at st₃
    refine s_forE (fun q => ("cnt_t", nat (cntI T 0 x q)) :: ("cnt_s", nat (S.count x)) :: ("elem", .str x) :: ("i", nat k) :: cntV DR NA D1 D2 S.length T.length)
      (fun q => [(D2, half NA (S.take k) (S.take (k + 1)) T q), (D1, S.map (hid NA (S.take (k + 1)))), (DR, (r1 S T k).map mis1)]) (fun q => half NA (S.take k) (S.take (k + 1)) T q) T.length (fun _ => .head _) (fun _ => half_len) (s_rot st₃) (.blt (pf.blt _) (by boot_fast)) .name
      ⟨rfl, rfl, rfl, rfl, rfl, rfl, rfl, rfl, rfl, rfl, trivial⟩ (fun q d hd F P s₄ hFX st₄ => ?_) fun s₄ st₄ => ?_
    · have hlt : q < T.length := by have := (List.getElem?_eq_some_iff.mp hd).1; rwa [half_len] at this
      obtain ⟨y, hy⟩ : ∃ y, T[q]? = some y := ⟨_, List.getElem?_eq_getElem hlt⟩
      rw [half_get hy] at hd; cases hd
      have hy' : T[0 + q]? = some y := by rw [Nat.zero_add]; exact hy
      refine s_if st₄ (b := (!(S.take k).contains y && y == x)) (.cmp .name .name (.hidEq hb)) (fun hcc s₅ st₅ => ?_) (fun hcc s₅ st₅ => ?_)
      · have hyx : (y == x) = true := (Bool.and_eq_true_iff.mp hcc).2
        refine s_aug (a := (cntI T 0 x q : Int)) (b := 1) st₅ .int (fun s₆ st₆ _ => ?_)
        refine s_store st₆ (d := raw NA) .name .name .name (by rw [half_len]; exact hlt) (by omega) fun s₇ st₇ => ?_
        refine wpAny_execs_nil (wpAny_execs_nil ?_)
        rw [half_hit hy (by rw [etk, contains_snoc, hyx]; simp)] at st₇
        have e1 : cntI T 0 x (q + 1) = cntI T 0 x q + 1 := by rw [cntI_succ hy', if_pos hyx]
        show FS _ _ (("cnt_t", nat (cntI T 0 x (q + 1))) :: _) _ _ _ _ _
        rw [e1]
        exact s_less st₇ ⟨rfl, rfl, rfl, rfl, rfl, rfl, rfl, rfl, rfl, rfl, trivial⟩
      · refine wpAny_execs_nil (wpAny_execs_nil ?_)
        have hyx : (y == x) = false := by
          cases h1 : y == x
          · rfl
          · rw [h1] at hcc
            rw [beq_iff_eq.mp h1, hc] at hcc; cases hcc
        rw [half_miss (seen' := S.take (k + 1)) hy (by rw [etk]; exact hid_miss hcc)] at st₅
        have e1 : cntI T 0 x (q + 1) = cntI T 0 x q := by rw [cntI_succ hy', hyx]; simp
        show FS _ _ (("cnt_t", nat (cntI T 0 x (q + 1))) :: _) _ _ _ _ _
        rw [e1]
        exact s_less st₅ ⟨rfl, rfl, rfl, rfl, rfl, rfl, rfl, rfl, rfl, rfl, trivial⟩
    · have e3 : cntI T 0 x T.length = T.count x := cntI_all (i := 0) (by simp)
      rw [half_end, e3] at st₄
      refine s_if (s_rot st₄) (b := !(S.count x == T.count x)) (.cmp .name .name .neN) (fun hcc s₅ st₅ => ?_) (fun hcc s₅ st₅ => ?_)
      · have hcne : S.count x ≠ T.count x := by simpa using hcc
        refine s_assign st₅ (d := mis1 (S.count x, T.count x, x)) (Ev.mis (n := n) pf rfl (.glob pf.gMis) .name .name .name room) fun s₆ st₆ => ?_
        have hl := r1_len S T k
        refine s_append st₆ .name (hsz _ (by simp; omega)) fun s₇ st₇ => ?_
        refine wpAny_execs_nil (wpAny_execs_nil ⟨.inl rfl, hN _ ?_⟩)
        rw [r1_new hx hc hcne, tri_app]
        exact s_less st₇ ⟨rfl, rfl, rfl, rfl, rfl, rfl, trivial⟩
      · have hceq : S.count x = T.count x := by simpa using hcc
        refine wpAny_execs_nil (wpAny_execs_nil ⟨.inl rfl, hN _ ?_⟩)
        rw [r1_same hx hceq]
        exact s_less st₅ ⟨rfl, rfl, rfl, rfl, rfl, rfl, trivial⟩
end
end Mine
end
section
open PySem PySem.Spec PySem.SeqAt PySem.Calls PyProof.Rows
set_option maxRecDepth 100000
namespace Mine
section
variable {w : World} {G : Glob} {n : Nat} {doc pm code : Value} {A : Around} {L DR NA D1 D2 : Addr} {X : List Addr} {I : Its} {K : Facts} {s₀ s : Shared} {S T : List Str}
theorem cnt_turn2 (pf : PF3 G) (hb : IsBare G.top NA) (room : Room (cntS w G doc pm code A L).A (n + 2)) (hS : S.length ≤ 100) (hT : T.length ≤ 100) {k : Nat} {x : Str} (hx : T[k]? = some x) {N : Shared → Prop}
    (st : FS (cntS w G doc pm code A L) X (("elem", hid NA (S ++ T.take k) x) :: ("i", nat k) :: cntV DR NA D1 D2 S.length T.length) [(DR, (r1 S T S.length ++ r2 S T k).map mis1), (D2, T.map (hid NA (S ++ T.take k)))] I K s₀ s)
    (hN : ∀ s', FS (cntS w G doc pm code A L) X (cntV DR NA D1 D2 S.length T.length) [(DR, (r1 S T S.length ++ r2 S T (k + 1)).map mis1), (D2, T.map (hid NA (S ++ T.take (k + 1))))] I K s₀ s' → N s') :
    wpAny (model pw w) (cntS w G doc pm code A L).A (execs cntLoop2 (cntS w G doc pm code A L).env) (fun fl s' => (fl = .next ∨ fl = .cont) ∧ N s') (fun _ _ => False) s := by
  have hk := (List.getElem?_eq_some_iff.mp hx).1
  have hsz : ∀ k : Nat, k ≤ 200 → k ≤ sizeLine := fun k h => Nat.le_trans h (by decide)
  have etk : S ++ T.take (k + 1) = (S ++ T.take k) ++ [x] := by rw [List.take_add_one, hx, List.append_assoc]; rfl
  refine s_if st (b := (S ++ T.take k).contains x) (.cmp .name .name (.hidIs hb)) (fun hc s₁ st₁ => ?_) (fun hc s₁ st₁ => ?_)
  · refine wpAny_execs_cons (wpAny_Continue ?_)
    refine ⟨.inr rfl, hN _ ?_⟩
    have e : ∀ l : List Str, l.map (hid NA (S ++ T.take k)) = l.map (hid NA (S ++ T.take (k + 1))) := fun l => List.map_congr_left fun y _ => by rw [etk]; exact hid_again hc
    rw [r2_seen hx hc, ← e]
    exact s_less st₁ ⟨rfl, rfl, rfl, rfl, rfl, rfl, trivial⟩
  have hne0 : x ∉ S ++ T.take k := fun q => by
    have := List.contains_iff_mem.mpr q
    rw [hc] at this; cases this
  have hne : x ∉ T.take k := fun q => hne0 (List.mem_append.mpr (.inr q))
  have helem : hid NA (S ++ T.take k) x = .str x := if_neg (by rw [hc]; decide)
  rw [helem] at st₁
  refine wpAny_execs_nil ?_
  refine s_assign (d := nat 0) st₁ (.nat 0) fun s₂ st₂ => ?_
  have e0 : T.map (hid NA (S ++ T.take k)) = half NA (S ++ T.take k) (S ++ T.take (k + 1)) T (k + 0) := by
    refine (half_start fun y hy => ?_).symm
    rw [etk]; exact hid_of (List.contains_iff_mem.mpr (List.mem_append.mpr (.inr hy)))
  refine s_for (fun d => [("j", d)]) (fun q => ("cnt_t", nat (cntI T k x q)) :: ("elem", .str x) :: ("i", nat k) :: cntV DR NA D1 D2 S.length T.length)
    (fun q => [(D2, half NA (S ++ T.take k) (S ++ T.take (k + 1)) T (k + q)), (DR, (r1 S T S.length ++ r2 S T k).map mis1)]) (fun _ _ => False) (by rw [← e0]; exact s_swap st₂)
    (Src.walk (Src.range2 (.blt (pf.blt _) (by boot_fast)) .name .name (Nat.le_of_lt hk) (by omega))) ⟨rfl, rfl, rfl, rfl, rfl, rfl, rfl, rfl, rfl, trivial⟩ (fun _ _ _ => .name) (fun q d hd F P fq s₃ hFX st₃ => ?_) (fun _ _ _ z => z.elim) fun s₃ st₃ => ?_
  · obtain ⟨hq, rfl⟩ := natsFrom_get hd
    have hlt : k + q < T.length := by omega
    obtain ⟨y, hy⟩ : ∃ y, T[k + q]? = some y := ⟨_, List.getElem?_eq_getElem hlt⟩
    refine s_if st₃ (b := (!(S ++ T.take k).contains y && y == x)) (.cmp (.itemM .name (.head _) .name (half_get hy) (by omega)) .name (.hidEq hb)) (fun hcc s₄ st₄ => ?_) (fun hcc s₄ st₄ => ?_)
    · have hyx : (y == x) = true := (Bool.and_eq_true_iff.mp hcc).2
      refine s_aug (a := (cntI T k x q : Int)) (b := 1) st₄ .int (fun s₅ st₅ _ => ?_)
      refine s_store st₅ (d := raw NA) .name .name .name (by rw [half_len]; exact hlt) (by omega) fun s₆ st₆ => ?_
      refine wpAny_execs_nil (wpAny_execs_nil ?_)
      rw [half_hit hy (by rw [etk, contains_snoc, hyx]; simp)] at st₆
      have e1 : cntI T k x (q + 1) = cntI T k x q + 1 := by rw [cntI_succ hy, if_pos hyx]
      show FS _ _ (("cnt_t", nat (cntI T k x (q + 1))) :: _) _ _ _ _ _
      rw [e1]
      exact s_less st₆ ⟨rfl, rfl, rfl, rfl, rfl, rfl, rfl, rfl, rfl, trivial⟩
    · refine wpAny_execs_nil (wpAny_execs_nil ?_)
      have hyx : (y == x) = false := by
        cases h1 : y == x
        · rfl
        · rw [h1] at hcc
          rw [beq_iff_eq.mp h1, hc] at hcc; cases hcc
      rw [half_miss (seen' := S ++ T.take (k + 1)) hy (by rw [etk]; exact hid_miss hcc)] at st₄
      have e1 : cntI T k x (q + 1) = cntI T k x q := by rw [cntI_succ hy, hyx]; simp
      show FS _ _ (("cnt_t", nat (cntI T k x (q + 1))) :: _) _ _ _ _ _
      rw [e1]
      exact s_less st₄ ⟨rfl, rfl, rfl, rfl, rfl, rfl, rfl, rfl, rfl, trivial⟩
  · rw [show (natsFrom k (T.length - k)).length = T.length - k by simp, show k + (T.length - k) = T.length by omega, half_end, cntI_all hne] at st₃
    refine wpAny_execs_nil ?_
    refine s_assign (s_swap st₃) (d := mis1 (0, T.count x, x)) (Ev.mis (n := n) pf rfl (.glob pf.gMis) (.nat 0) .name .name room) fun s₆ st₆ => ?_
    have hl := r2_len S T k
    have hl1 := r1_len S T S.length
    refine s_append st₆ .name (hsz _ (by simp; omega)) fun s₇ st₇ => ?_
    refine wpAny_execs_nil ⟨.inl rfl, hN _ ?_⟩
    rw [r2_new hx hc, ← List.append_assoc, tri_app]
    exact s_less st₇ ⟨rfl, rfl, rfl, rfl, rfl, rfl, trivial⟩
end
theorem hid_nil {NA : Addr} (l : List Str) : l.map (hid NA []) = dstr l := List.map_congr_left fun y _ => by unfold hid; simp
theorem count_ok {w : World} {G : Glob} {n : Nat} (pf : PF3 G) {S T : List Str} (hS : S.length ≤ 100) (hT : T.length ≤ 100) : CallOk pw w G (n + 3) 169 [.list (dstr S), .list (dstr T)] (.list ((cdiff S T).map mis1)) := by
  intro A X s vals room am r
  obtain ⟨v1, q1, rfl, rv1, v2, q2, rfl, rv2, rfl⟩ := r
  obtain ⟨doc, pm, code, f⟩ := pf.fCount
  have hsz : ∀ k : Nat, k ≤ 200 → k ≤ sizeLine := fun k h => Nat.le_trans h (by decide)
  refine s_call (binds := [("actual", v1), ("expected", v2)]) [("actual", .list (dstr S)), ("expected", .list (dstr T))] f rfl room am rfl (by show ∀ x ∈ (defOfStmt (topStmt 7)).2.2.names, x.2 ≠ .cell; decide) rfl ⟨rfl, rfl, trivial⟩ ⟨⟨v1, rfl, rv1, rfl⟩, ⟨v2, rfl, rv2, rfl⟩, trivial⟩ fun L s' st room' hLX => ?_
  refine s_doc st fun s₁ st₁ => ?_
  refine s_twoLists st₁ (l1 := S) (l2 := T) (.blt (pf.blt _) (by boot_fast)) .name hS hT (fun D => .blt (pf.blt _) (by boot_fast)) (fun D => .name) fun D1 D2 s₂ h1 h2 f1 f2 st₂ => ?_
  refine s_assignTT st₂ (a := nat S.length) (b := nat T.length) (.tuple (.cons (.lenM (.blt (pf.blt _) (by boot_fast)) .name (.tail _ (.head _)) (by simp) (by omega)) (.cons (.lenM (.blt (pf.blt _) (by boot_fast)) .name (.head _) (by simp) (by omega)) .nil)) (hsz _ (by simp))) fun s₃ st₃ => ?_
  refine s_object st₃ (.blt (pf.blt _) (by boot_fast)) fun NA G' hh s₄ mo hF hb st₄ => ?_
  have pf' := pf.more mo hF
  refine s_newlist (S := cntS w G' doc pm code A L) st₄ .nil (hsz _ (by simp)) fun DR s₅ hDR hDR0 st₅ => ?_
  rw [← hid_nil (NA := NA) T, ← hid_nil (NA := NA) S] at st₅
  refine s_forE (fun k => cntV DR NA D1 D2 S.length T.length) (fun k => [(DR, (r1 S T k).map mis1), (D2, T.map (hid NA (S.take k))), (D1, S.map (hid NA (S.take k)))]) (fun k => S.map (hid NA (S.take k))) S.length (fun _ => .tail _ (.tail _ (.head _))) (fun _ => by simp) st₅ (.blt (pf'.blt _) (by boot_fast)) .name
    ⟨rfl, rfl, rfl, rfl, rfl, rfl, trivial⟩ (fun k d hd F P s₆ hFX st₆ => ?_) fun s₆ st₆ => ?_
  · simp only [List.getElem?_map, Option.map_eq_some_iff] at hd
    obtain ⟨x, hx, rfl⟩ := hd
    refine wpAny_mono (cnt_turn1 (n := n) pf' hb room' hS hT hx st₆ fun s₇ st₇ => st₇) (fun fl s₇ z => ?_) fun _ _ z => z
    rcases z with ⟨rfl | rfl, z⟩
    · exact z
    · exact z
  · have e0 : T.map (hid NA (S.take S.length)) = T.map (hid NA (S ++ T.take 0)) := by simp
    have e1 : r1 S T S.length = r1 S T S.length ++ r2 S T 0 := by simp [r2]
    rw [e0, e1] at st₆
    have st₆ := s_muts (N := [(DR, (r1 S T S.length ++ r2 S T 0).map mis1), (D2, T.map (hid NA (S ++ T.take 0)))]) st₆ (fun p hp => by simp at hp ⊢; rcases hp with rfl | rfl <;> simp) (by have := st₆.mn; simp at this ⊢; exact this.1.1)
    refine s_forE (fun k => cntV DR NA D1 D2 S.length T.length) (fun k => [(DR, (r1 S T S.length ++ r2 S T k).map mis1), (D2, T.map (hid NA (S ++ T.take k)))]) (fun k => T.map (hid NA (S ++ T.take k))) T.length (fun _ => .tail _ (.head _)) (fun _ => by simp) st₆ (.blt (pf'.blt _) (by boot_fast)) .name
      ⟨rfl, rfl, rfl, rfl, rfl, rfl, trivial⟩ (fun k d hd F P s₇ hFX st₇ => ?_) fun s₇ st₇ => ?_
    · simp only [List.getElem?_map, Option.map_eq_some_iff] at hd
      obtain ⟨x, hx, rfl⟩ := hd
      refine wpAny_mono (cnt_turn2 (n := n) pf' hb room' hS hT hx st₇ fun s₈ st₈ => st₈) (fun fl s₈ z => ?_) fun _ _ z => z
      rcases z with ⟨rfl | rfl, z⟩
      · exact z
      · exact z
    · refine s_return (s_freeze (x := "result") st₇ rfl) .name fun v s' g r => ⟨g.less fun b e => mo.sup e hF, r.sub fun b hb' => ?_⟩
      have : b ≠ DR := fun q => hDR (q ▸ .tail _ (.tail _ (.tail _ hb')))
      simp [hb', this]
end Mine
end
section
open PySem PySem.Spec PySem.SeqAt PySem.Calls PyProof.Rows
set_option maxRecDepth 100000
namespace Mine
theorem RdAll.ints {X : List Addr} {h : Heap} : ∀ {l : List Nat} {vs : List Value}, RdAll X h (dnat l) vs → ∃ ps : List (Int × Tok), vs = ps.map (fun p => .int p.1 p.2) ∧ ps.map (·.1) = l.map fun n : Nat => (n : Int)
  | [], _, r => by simp only [dnat, List.map_nil, RdAll] at r; subst r; exact ⟨[], rfl, rfl⟩
  | a :: l, _, r => by
    simp only [dnat, List.map_cons, RdAll] at r
    obtain ⟨v, rest, rfl, h1, h2⟩ := r
    obtain ⟨t, rfl⟩ := h1.int_inv
    obtain ⟨ps, rfl, e⟩ := RdAll.ints h2
    exact ⟨((a : Int), t) :: ps, rfl, by simp [e]⟩
theorem sum_cast : ∀ l : List Nat, (l.map fun n : Nat => (n : Int)).sum = ((l.sum : Nat) : Int)
  | [] => rfl
  | a :: l => by simp [sum_cast l]
section
variable {C : Cx} {p pos : Pos} {e : Expr} {l : List Nat}
theorem Ev.sum (hn : NameV C "sum" (.builtin "sum")) (he : Ev C e (.list (dnat l))) (hcalm : C.calm = Bool.true := by rfl) (hs : starEach [e] C.env = [(Bool.false, eval e C.env)] := by rfl) : Ev C (.Call (.Name "sum" p) [e] [] pos) (Mine.nat l.sum) :=
  .call1 hn he with_builtin1 (fun s u ok r => by
    obtain ⟨a, vs, n, rfl, _, hl, ra⟩ := r.list_inv
    obtain ⟨ps, rfl, hp⟩ := ra.ints
    have hl' : s.heap.IsList a (intItems ps.toArray) := by
      have := isList_of hl
      rwa [show (ps.map fun p => Value.int p.1 p.2).toArray = intItems ps.toArray by simp [intItems]] at this
    refine sum_intListG (ok.hand hcalm) hl' fun h' tk t' hk => ⟨.of s hk, ?_⟩
    have e : preSum (numAt ps.toArray) ps.toArray.size = ((l.sum : Nat) : Int) := by
      rw [preSum_eq, List.take_of_length_le (by simp), ← sum_cast, ← hp]
    rw [e]; exact .int_) hs
theorem Ev.min (hn : NameV C "min" (.builtin "min")) (he : Ev C e (.list (dnat l))) {m : Nat} (hm : m ∈ l) (hle : ∀ a ∈ l, m ≤ a) (hcalm : C.calm = Bool.true := by rfl) (hs : starEach [e] C.env = [(Bool.false, eval e C.env)] := by rfl) : Ev C (.Call (.Name "min" p) [e] [] pos) (Mine.nat m) :=
  .call1 hn he with_builtin1 (fun s u ok r => by
    obtain ⟨a, vs, n, rfl, _, hl, ra⟩ := r.list_inv
    obtain ⟨ps, rfl, hp⟩ := ra.ints
    have hl' : s.heap.IsList a (intItems ps.toArray) := by
      have := isList_of hl
      rwa [show (ps.map fun p => Value.int p.1 p.2).toArray = intItems ps.toArray by simp [intItems]] at this
    have hpl : ps.length = l.length := by have := congrArg List.length hp; simpa using this
    have hl0 : 0 < l.length := List.length_pos_of_mem hm
    refine min_intList (ok.hand hcalm) hl' (by simp; omega) fun v h' tk hv hk => ?_
    obtain ⟨t, rfl⟩ := intItems_at hv
    obtain ⟨h1, h2⟩ := argBest_lt (numAt ps.toArray) (ps.toArray.size - 1)
    have get : ∀ j, numAt ps.toArray j = (l.map fun n : Nat => (n : Int)).getD j 0 := fun j => by rw [numAt_eq, ← hp]
    have h1 : argBest (fun i j => decide (numAt ps.toArray i < numAt ps.toArray j)) (ps.toArray.size - 1) < l.length := by simp at h1 ⊢; omega
    have key : numAt ps.toArray (argBest (fun i j => decide (numAt ps.toArray i < numAt ps.toArray j)) (ps.toArray.size - 1)) = (m : Int) := by
      refine Int.le_antisymm ?_ ?_
      · obtain ⟨j, hj, e⟩ := List.getElem_of_mem hm
        have := h2 j (by simp; omega)
        rw [get j, List.getD_eq_getElem?_getD, List.getElem?_map, List.getElem?_eq_getElem hj] at this
        simpa [e] using this
      · rw [get, List.getD_eq_getElem?_getD, List.getElem?_map, List.getElem?_eq_getElem h1]
        have := hle _ (List.getElem_mem h1)
        simpa using this
    refine ⟨.of s hk, ?_⟩
    rw [key]; exact .int_) hs
end
theorem Tr.or {C : Cx} {e1 e2 : Expr} {pos : Pos} {b1 b2 : Bool} (h1 : Tr C e1 b1) (h2 : Tr C e2 b2) : Tr C (.BoolOp .Or [e1, e2] pos) (b1 || b2) := fun s ok => by
  refine isTrue_or (h1.use ok fun s₁ g₁ ok₁ => ?_)
  cases b1 with
  | true => exact ⟨g₁, rfl⟩
  | false =>
    refine isTrue_or (h2.use ok₁ fun s₂ g₂ ok₂ => ?_)
    cases b2 with
    | true => exact ⟨g₁.trans g₂, rfl⟩
    | false => exact isTrue_or_nil ⟨g₁.trans g₂, rfl⟩
theorem Ev.addList {C : Cx} {l r : Expr} {pos : Pos} {a b : List PyData} (hl : Ev C l (.list a)) (hr : Ev C r (.list b)) (hsz : a.length + b.length ≤ sizeLine) : Ev C (.BinOp l .Add r pos) (.list (a ++ b)) :=
  .bin hl hr fun s u v ok hu hv => by
    obtain ⟨x, vs, n, rfl, _, hx, ra⟩ := hu.list_inv
    obtain ⟨y, ws, m, rfl, _, hy, rb⟩ := hv.list_inv
    have h1 := ra.length
    have h2 := rb.length
    refine P.add_list hx hy ⟨.push _ _, ?_⟩ (by simp; omega)
    rw [show vs.toArray ++ ws.toArray = List.toArray (vs ++ ws) by simp]
    exact .list_ ok.new (isL_new _ _) ((RdAll.append rb ra).ext (.push C.G.top _ _))
theorem Cmp.same {C : Cx} {d : PyData} (ha : d.canLay0 = true) (hd : d.depth ≤ 64) : Cmp C .Eq d d true := fun s u v ok hu hv Q E h => by
  have := Cmp.eq (C := C) ha ha (by rw [Nat.min_self]; exact hd) s u v ok hu hv Q E
  rw [eqv_refl d ha] at this
  exact this h
theorem Cmp.neSame {C : Cx} {d : PyData} (ha : d.canLay0 = true) (hd : d.depth ≤ 64) : Cmp C .NotEq d d false := fun s u v ok hu hv Q E h => by
  have := Cmp.ne (C := C) ha ha (by rw [Nat.min_self]; exact hd) s u v ok hu hv Q E
  rw [eqv_refl d ha] at this
  exact this h
/-- x.items() -/
theorem Ev.items {C : Cx} {n : Nat} {x : Str} {np apos pos : Pos} {H D : Addr} {items : List (Str × Str)} (pf : PF C.G) (hp : C.prog = pw) (hx : Ev C (.Name x np) (raw H)) (I : TabAt C.G H D) (hf : (Value.ref D, PyData.list (pairs items)) ∈ C.facts) (hlen : items.length ≤ 100) (room : Room C.A (n + 1))
    (hform : methodCallForm 0 (backTo pos (starEach [] C.env)) (backToKw pos (keywordEach [] C.env)) = true := by rfl) (hline : (apos.endLine == pos.line) = true := by rfl) (hbase : attributeBase (.Name x np) "items" C.env (eval (.Name x np) C.env) = eval (.Name x np) C.env := by rfl) :
    Ev C (.Call (.Attribute (.Name x np) "items" apos) [] [] pos) (.list (pairs items)) := fun s ok => wpAny_mono (tab_items ok pf hp hx I hf hlen room hform hline hbase) (fun u s' z => ⟨z.1, z.2.1⟩) fun _ _ z => z
section
variable {S : Stat} {X : List Addr} {V : Vars} {M : Muts} {I : Its} {K : Facts} {s₀ s : Shared} {pos : Pos} {rest : List Stmt} {Q : Flow → Shared → Prop} {E : Value → Shared → Prop} {D : Addr} {ds : List PyData}
/-- if t: ..; t is false, and reads the own list D -/
theorem s_ifD {t : Expr} {body : List Stmt} (h : FS S X V ((D, ds) :: M) I K s₀ s) (ht : Tr (cx S (X.filter (· ≠ D)) V M I ((.ref D, .list ds) :: K)) t false) (k : ∀ s', FS S X V ((D, ds) :: M) I K s₀ s' → wpAny (model S.prog S.w) S.A (execs rest S.env) Q E s') :
    wpAny (model S.prog S.w) S.A (execs (.If t body [] pos :: rest) S.env) Q E s := by
  refine wpAny_execs_cons (wpAny_If (ht.use (s_unhide h).ok fun s₁ g₁ ok₁ => ?_))
  exact wpAny_execs_nil (k s₁ (s_step h g₁))
end
/-- a call by its rule -/
theorem Ev.callW {C : Cx} {fn : Str} {p pos : Pos} {e : Expr} {es : List Expr} {ds : List PyData} {d : PyData} {fa : Addr} {fd : FuncData} (hn : NameV C fn (.ref fa)) (he : Evs C (e :: es) ds) (f : FnAt C.G fa fd)
    (hc : ∀ s vs, C.ok s → RdAll C.X s.heap ds vs → wpAny C.M C.A (PySem.call (.ref fa) vs) (fun v s' => Grow C.G.top s s' ∧ Rd C.X s'.heap d v) (fun _ _ => False) s)
    (hs : starEach (e :: es) C.env = (false, eval e C.env) :: starEach es C.env := by rfl) : Ev C (.Call (.Name fn p) (e :: es) [] pos) d := fun s ok => by
  obtain ⟨o, ho, hd, _⟩ := f.at_
  refine PyProof.Rows.Call_Name rfl (hn s p _ _ ok (callWith_meth hd ho (wpAny_mono (he s ok pos) (fun vs s₁ x => ⟨(ok.grow x.1).g, ?_⟩) fun _ _ x => x) hs))
  exact wpAny_mono (hc s₁ vs (ok.grow x.1) x.2) (fun v s₂ y => ⟨x.1.trans y.1, y.2⟩) fun _ _ y => y
/-- _law_answer(table, files, modes, pick) -/
theorem Ev.answer {C : Cx} {n : Nat} {p pos : Pos} {e1 e2 e3 e4 : Expr} (pf : PF2 C.G) (hp : C.prog = pw) {H D : Addr} (I : TabAt C.G H D) {ms pk : List Nat} (hms : ms.length ≤ 5) (hpk : Up pk) (hpl : ∀ i ∈ pk, i < ms.length) (hpn : pk ≠ []) (room : Room C.A (n + 3)) (mt : (D, pairs (tab ms)) ∈ C.muts)
    (hn : NameV C "_law_answer" (.ref 404)) (h : Evs C [e1, e2, e3, e4] [raw H, .list (fls (List.range ms.length)), .list (dnat ms), .list (dnat pk)])
    (hs : starEach [e1, e2, e3, e4] C.env = (false, eval e1 C.env) :: starEach [e2, e3, e4] C.env := by rfl) :
    Ev C (.Call (.Name "_law_answer" p) [e1, e2, e3, e4] [] pos) (.tuple [.list (dstr (nmsI (m0 ms pk) (cmn ms pk 10))), .list (fls (dueI ms (m0 ms pk) (cmn ms pk 10)))]) := by
  obtain ⟨doc, pm, code, f⟩ := id pf.fAnswer
  refine .callW hn h f (fun s vs ok r => ?_) hs
  simp only [RdAll] at r
  obtain ⟨v1, q1, rfl, r1, v2, q2, rfl, r2, v3, q3, rfl, r3, v4, q4, rfl, r4, rfl⟩ := r
  rw [r1.raw_inv, Cx.M, hp]
  exact answer_ok pf I hms hpk hpl hpn room ok.amid (ok.mu _ _ mt) r2 r3 r4
end Mine
end
section
open PySem PySem.Spec PySem.SeqAt PySem.Calls PyProof.Rows
set_option maxRecDepth 100000
namespace Mine
theorem bit_and (m k b : Nat) (h : m / 2 ^ k % 2 = b) : m &&& 2 ^ k = b * 2 ^ k := by
  have hb : b < 2 := by omega
  refine Nat.eq_of_testBit_eq fun i => ?_
  rw [Nat.testBit_and, Nat.testBit_two_pow]
  have ht : m.testBit k = decide (b = 1) := by rw [Nat.testBit_eq_decide_div_mod_eq, h]
  by_cases q : k = i
  · subst q
    by_cases q1 : b = 1
    · subst q1; simp [ht]
    · have : b = 0 := by omega
      subst this; simp [ht]
  · by_cases q1 : b = 1
    · subst q1; simp [q]
    · have : b = 0 := by omega
      subst this; simp [q]
theorem and_pow (m k : Nat) : (m &&& 2 ^ k == 2 ^ k) = decide (m / 2 ^ k % 2 = 1) := by
  have : 0 < 2 ^ k := Nat.two_pow_pos k
  by_cases h : m / 2 ^ k % 2 = 1
  · rw [bit_and m k 1 h]; simp [h]
  · rw [bit_and m k 0 (by omega)]; simp [h]; omega
theorem and_pow2 (m a b : Nat) (hab : 2 ^ a &&& 2 ^ b = 0) (hs : 2 ^ a + 2 ^ b = 2 ^ a ||| 2 ^ b) : (m &&& (2 ^ a + 2 ^ b) == 2 ^ a + 2 ^ b) = (decide (m / 2 ^ a % 2 = 1) && decide (m / 2 ^ b % 2 = 1)) := by
  have h1 : 0 < 2 ^ a := Nat.two_pow_pos a
  have h2 : 0 < 2 ^ b := Nat.two_pow_pos b
  have e : m &&& (2 ^ a + 2 ^ b) = m &&& 2 ^ a ||| m &&& 2 ^ b := by rw [hs, Nat.and_or_distrib_left]
  rw [e]
  by_cases ha : m / 2 ^ a % 2 = 1 <;> by_cases hb : m / 2 ^ b % 2 = 1
  · rw [bit_and m a 1 ha, bit_and m b 1 hb]; simp [ha, hb, hs]
  · rw [bit_and m a 1 ha, bit_and m b 0 (by omega)]; simp [ha, hb]
  · rw [bit_and m a 0 (by omega), bit_and m b 1 hb]; simp [ha, hb]
  · rw [bit_and m a 0 (by omega), bit_and m b 0 (by omega)]; simp [ha, hb]; omega
theorem and_top (m : Nat) : m &&& 61440 = m / 4096 % 16 * 4096 := by
  have e : (61440 : Nat) = 2 ^ 12 ||| 2 ^ 13 ||| 2 ^ 14 ||| 2 ^ 15 := by decide
  rw [e, Nat.and_or_distrib_left, Nat.and_or_distrib_left, Nat.and_or_distrib_left]
  obtain ⟨a, ha⟩ : ∃ a, m / 2 ^ 12 % 2 = a := ⟨_, rfl⟩
  obtain ⟨b, hb⟩ : ∃ b, m / 2 ^ 13 % 2 = b := ⟨_, rfl⟩
  obtain ⟨c, hc⟩ : ∃ c, m / 2 ^ 14 % 2 = c := ⟨_, rfl⟩
  obtain ⟨d, hd⟩ : ∃ d, m / 2 ^ 15 % 2 = d := ⟨_, rfl⟩
  rw [bit_and m 12 a ha, bit_and m 13 b hb, bit_and m 14 c hc, bit_and m 15 d hd]
  have e : m / 4096 % 16 = a + 2 * b + 4 * c + 8 * d := by omega
  rw [e]
  have h : a < 2 ∧ b < 2 ∧ c < 2 ∧ d < 2 := by omega
  obtain ⟨h1, h2, h3, h4⟩ := h
  have key : ∀ a < 2, ∀ b < 2, ∀ c < 2, ∀ d < 2, (a * 2 ^ 12 ||| b * 2 ^ 13 ||| c * 2 ^ 14 ||| d * 2 ^ 15) = (a + 2 * b + 4 * c + 8 * d) * 4096 := by decide
  exact key a h1 b h2 c h3 d h4
theorem sign0 (m : Nat) : fmSign m 0 [(40960, 108), (49152, 115), (32768, 45), (24576, 98), (16384, 100), (8192, 99), (4096, 112)] = chAt "?pc?d?b?-?l?s???" (m / 4096 % 16) := by
  have h : fmSign m 0 [(40960, 108), (49152, 115), (32768, 45), (24576, 98), (16384, 100), (8192, 99), (4096, 112)] = (match [(40960, 108), (49152, 115), (32768, 45), (24576, 98), (16384, 100), (8192, 99), (4096, 112)].find? (fun p : Nat × Nat => m / 4096 % 16 * 4096 == p.1) with | some p => p.2 | none => 63) := by
    unfold fmSign
    have : fmHit m 0 = fun p : Nat × Nat => m / 4096 % 16 * 4096 == p.1 := by funext p; simp [fmHit, and_top]
    rw [this]; rfl
  rw [h]
  have hlt : m / 4096 % 16 < 16 := Nat.mod_lt _ (by decide)
  generalize m / 4096 % 16 = x at hlt
  have key : ∀ x < 16, (match [(40960, 108), (49152, 115), (32768, 45), (24576, 98), (16384, 100), (8192, 99), (4096, 112)].find? (fun p : Nat × Nat => x * 4096 == p.1) with | some p => p.2 | none => 63) = chAt "?pc?d?b?-?l?s???" x := by decide +kernel
  exact key x hlt
theorem sign1 (m i k c : Nat) (hi : i ≠ 0) : fmSign m i [(2 ^ k, c)] = if m / 2 ^ k % 2 = 1 then c else 45 := by
  unfold fmSign
  simp only [List.find?_cons, fmHit, if_neg hi, and_pow, List.find?_nil]
  by_cases h : m / 2 ^ k % 2 = 1 <;> simp [h]
theorem sign3 (m i a b x y z : Nat) (hi : i ≠ 0) (hab : 2 ^ a &&& 2 ^ b = 0) (hs : 2 ^ a + 2 ^ b = 2 ^ a ||| 2 ^ b) : fmSign m i [(2 ^ a + 2 ^ b, x), (2 ^ a, y), (2 ^ b, z)] = if m / 2 ^ a % 2 = 1 then (if m / 2 ^ b % 2 = 1 then x else y) else if m / 2 ^ b % 2 = 1 then z else 45 := by
  unfold fmSign
  simp only [List.find?_cons, fmHit, if_neg hi, and_pow, and_pow2 m a b hab hs, List.find?_nil]
  by_cases h1 : m / 2 ^ a % 2 = 1 <;> by_cases h2 : m / 2 ^ b % 2 = 1 <;> simp [h1, h2]
theorem r_eq : ∀ x < 2, chAt "-r" x = if x = 1 then 114 else 45 := by decide +kernel
theorem w_eq : ∀ x < 2, chAt "-w" x = if x = 1 then 119 else 45 := by decide +kernel
theorem s_eq : ∀ x < 2, ∀ y < 2, chAt "-xSs" (2 * x + y) = if x = 1 then (if y = 1 then 115 else 83) else if y = 1 then 120 else 45 := by decide +kernel
theorem t_eq : ∀ x < 2, ∀ y < 2, chAt "-xTt" (2 * x + y) = if x = 1 then (if y = 1 then 116 else 84) else if y = 1 then 120 else 45 := by decide +kernel
theorem figs1 (m : Nat) : fig m 0 / 4 = m / 2 ^ 8 % 2 := by
  show m / 64 % 8 / 4 = m / 2 ^ 8 % 2
  omega
theorem figs2 (m : Nat) : fig m 0 / 2 % 2 = m / 2 ^ 7 % 2 := by
  show m / 64 % 8 / 2 % 2 = m / 2 ^ 7 % 2
  omega
theorem figs3 (m : Nat) : fig m 0 % 2 = m / 2 ^ 6 % 2 := by
  show m / 64 % 8 % 2 = m / 2 ^ 6 % 2
  omega
theorem figs4 (m : Nat) : fig m 1 / 4 = m / 2 ^ 5 % 2 := by
  show m / 8 % 8 / 4 = m / 2 ^ 5 % 2
  omega
theorem figs5 (m : Nat) : fig m 1 / 2 % 2 = m / 2 ^ 4 % 2 := by
  show m / 8 % 8 / 2 % 2 = m / 2 ^ 4 % 2
  omega
theorem figs6 (m : Nat) : fig m 1 % 2 = m / 2 ^ 3 % 2 := by
  show m / 8 % 8 % 2 = m / 2 ^ 3 % 2
  omega
theorem figs7 (m : Nat) : fig m 2 / 4 = m / 2 ^ 2 % 2 := by
  show m / 1 % 8 / 4 = m / 2 ^ 2 % 2
  omega
theorem figs8 (m : Nat) : fig m 2 / 2 % 2 = m / 2 ^ 1 % 2 := by
  show m / 1 % 8 / 2 % 2 = m / 2 ^ 1 % 2
  omega
theorem figs9 (m : Nat) : fig m 2 % 2 = m / 2 ^ 0 % 2 := by
  show m / 1 % 8 % 2 = m / 2 ^ 0 % 2
  omega
theorem ovrs0 (m : Nat) : ovr m 0 = m / 2 ^ 11 % 2 := by
  show m / 512 / 4 % 2 = m / 2 ^ 11 % 2
  omega
theorem ovrs1 (m : Nat) : ovr m 1 = m / 2 ^ 10 % 2 := by
  show m / 512 / 2 % 2 = m / 2 ^ 10 % 2
  omega
theorem ovrs2 (m : Nat) : ovr m 2 = m / 2 ^ 9 % 2 := by
  show m / 512 / 1 % 2 = m / 2 ^ 9 % 2
  omega
theorem fm_row (m : Nat) : fmC m = rowC m := by
  have L : fmC m = [fmSign m 0 [(40960, 108), (49152, 115), (32768, 45), (24576, 98), (16384, 100), (8192, 99), (4096, 112)], fmSign m 1 [(2 ^ 8, 114)], fmSign m 2 [(2 ^ 7, 119)], fmSign m 3 [(2 ^ 11 + 2 ^ 6, 115), (2 ^ 11, 83), (2 ^ 6, 120)], fmSign m 4 [(2 ^ 5, 114)], fmSign m 5 [(2 ^ 4, 119)], fmSign m 6 [(2 ^ 10 + 2 ^ 3, 115), (2 ^ 10, 83), (2 ^ 3, 120)], fmSign m 7 [(2 ^ 2, 114)], fmSign m 8 [(2 ^ 1, 119)], fmSign m 9 [(2 ^ 9 + 2 ^ 0, 116), (2 ^ 9, 84), (2 ^ 0, 120)]] := rfl
  have R : rowC m = [chAt "?pc?d?b?-?l?s???" (m / 4096 % 16), chAt "-r" (fig m 0 / 4), chAt "-w" (fig m 0 / 2 % 2), chAt "-xSs" (2 * ovr m 0 + fig m 0 % 2), chAt "-r" (fig m 1 / 4), chAt "-w" (fig m 1 / 2 % 2), chAt "-xSs" (2 * ovr m 1 + fig m 1 % 2), chAt "-r" (fig m 2 / 4), chAt "-w" (fig m 2 / 2 % 2), chAt "-xTt" (2 * ovr m 2 + fig m 2 % 2)] := rfl
  rw [L, R, sign0, sign1 _ _ _ _ (by decide), sign1 _ _ _ _ (by decide), sign1 _ _ _ _ (by decide), sign1 _ _ _ _ (by decide), sign1 _ _ _ _ (by decide), sign1 _ _ _ _ (by decide),
    sign3 _ _ _ _ _ _ _ (by decide) (by decide) (by decide), sign3 _ _ _ _ _ _ _ (by decide) (by decide) (by decide), sign3 _ _ _ _ _ _ _ (by decide) (by decide) (by decide)]
  rw [figs1, figs2, figs3, figs4, figs5, figs6, figs7, figs8, figs9, ovrs0, ovrs1, ovrs2]
  have lt : ∀ x, x % 2 < 2 := fun x => Nat.mod_lt _ (by decide)
  rw [r_eq _ (lt _), r_eq _ (lt _), r_eq _ (lt _), w_eq _ (lt _), w_eq _ (lt _), w_eq _ (lt _), s_eq _ (lt _) _ (lt _), s_eq _ (lt _) _ (lt _), t_eq _ (lt _) _ (lt _)]
theorem row_get (m : Nat) {p : Nat} (hp : p < 10) : (rowC m)[p]? = some (sg m p) := by
  rw [← fm_row]
  have hl : p < (fmC m).length := by rw [fmC_len]; exact hp
  unfold sg chAt
  rw [show (⟨(fmC m).toArray⟩ : Str).cps[p]? = (fmC m)[p]? by simp, List.getElem?_eq_getElem hl]; rfl
end Mine
end
section
open PySem PySem.Spec PySem.SeqAt PySem.Calls PyProof.Rows
set_option maxRecDepth 100000
namespace Mine
noncomputable def pickI (n bits : Nat) : List Nat := (List.range n).filter fun i => bits / 2 ^ i % 2 == 1
theorem pick_up {n : Nat} (bits : Nat) (h : n ≤ 5) : Up (pickI n bits) := (Up.range h).filter _
theorem pick_lt {n bits i : Nat} (h : i ∈ pickI n bits) : i < n := List.mem_range.mp (List.mem_filter.mp h).1
theorem pick_ne_all : ∀ n < 6, ∀ b < 32, 0 < b → b < 2 ^ n → pickI n b ≠ [] := by decide +kernel
theorem pick_ne {n b : Nat} (hn : n ≤ 5) (h0 : 0 < b) (h1 : b < 2 ^ n) : pickI n b ≠ [] :=
  pick_ne_all n (by omega) b (Nat.lt_of_lt_of_le h1 (Nat.pow_le_pow_right (by decide) hn)) h0 h1
theorem bits_lt (n t : Nat) (hn : 3 ≤ n) : 0 < t % (2 ^ n - 1) + 1 ∧ t % (2 ^ n - 1) + 1 < 2 ^ n := by
  have h : 2 ^ 3 ≤ 2 ^ n := Nat.pow_le_pow_right (by decide) hn
  have := Nat.mod_lt t (show 0 < 2 ^ n - 1 by omega)
  omega
theorem getD_mem0 {l : List Nat} (h : l ≠ []) : l.getD 0 0 ∈ l := by
  cases l with
  | nil => exact absurd rfl h
  | cons a r => exact .head _
theorem mem_cmn {ms pk : List Nat} {k p : Nat} : p ∈ cmn ms pk k ↔ p < k ∧ ∀ i ∈ pk, ls (ms.getD i 0) p = ls (m0 ms pk) p := by
  unfold cmn; simp
theorem mem_due {ms ps : List Nat} {m i : Nat} : i ∈ dueI ms m ps ↔ i < ms.length ∧ ∀ p ∈ ps, ls (ms.getD i 0) p = ls m p := by
  unfold dueI; simp
section
variable {ms pk : List Nat}
theorem pk_due (hp : ∀ i ∈ pk, i < ms.length) : ∀ i ∈ pk, i ∈ dueI ms (m0 ms pk) (cmn ms pk 10) := fun i hi => mem_due.mpr ⟨hp i hi, fun p h => (mem_cmn.mp h).2 i hi⟩
theorem m0_due (hp : ∀ i ∈ pk, i < ms.length) (hn : pk ≠ []) {p : Nat} (h : p ∈ cmn ms pk 10) : ls (m0 ms (dueI ms (m0 ms pk) (cmn ms pk 10))) p = ls (m0 ms pk) p := by
  have hd : dueI ms (m0 ms pk) (cmn ms pk 10) ≠ [] := fun q => by
    have := pk_due hp _ (getD_mem0 hn)
    rw [q] at this; cases this
  exact (mem_due.mp (getD_mem0 hd)).2 p h
theorem due_ne (hp : ∀ i ∈ pk, i < ms.length) (hn : pk ≠ []) : dueI ms (m0 ms pk) (cmn ms pk 10) ≠ [] := fun q => by
  have := pk_due hp _ (getD_mem0 hn)
  rw [q] at this; cases this
theorem cmn_congr {D : List Nat} (h1 : ∀ i ∈ pk, i ∈ D) (h2 : ∀ p ∈ cmn ms pk 10, ∀ i ∈ D, ls (ms.getD i 0) p = ls (m0 ms pk) p) (hn : pk ≠ []) (hD : D ≠ []) : cmn ms D 10 = cmn ms pk 10 := by
  refine List.filter_congr fun p hp10 => ?_
  rw [Bool.eq_iff_iff, List.all_eq_true, List.all_eq_true]
  constructor
  · intro h i hi
    have e1 := beq_iff_eq.mp (h i (h1 i hi))
    have e2 := beq_iff_eq.mp (h _ (h1 _ (getD_mem0 hn)))
    rw [e1]; exact beq_iff_eq.mpr e2.symm
  · intro h i hi
    have hc : p ∈ cmn ms pk 10 := mem_cmn.mpr ⟨List.mem_range.mp hp10, fun i hi => beq_iff_eq.mp (h i hi)⟩
    rw [beq_iff_eq, h2 p hc i hi]
    exact (h2 p hc _ (getD_mem0 hD)).symm
theorem cmn_due (hp : ∀ i ∈ pk, i < ms.length) (hn : pk ≠ []) : cmn ms (dueI ms (m0 ms pk) (cmn ms pk 10)) 10 = cmn ms pk 10 :=
  cmn_congr (pk_due hp) (fun p hc i hi => (mem_due.mp hi).2 p hc) hn (due_ne hp hn)
theorem due_congr {m m' : Nat} {ps : List Nat} (h : ∀ p ∈ ps, ls m p = ls m' p) : dueI ms m ps = dueI ms m' ps := by
  refine List.filter_congr fun i hi => ?_
  rw [Bool.eq_iff_iff, List.all_eq_true, List.all_eq_true]
  refine forall_congr' fun p => forall_congr' fun hpc => ?_
  rw [h p hpc]
theorem due_due (hp : ∀ i ∈ pk, i < ms.length) (hn : pk ≠ []) : dueI ms (m0 ms (dueI ms (m0 ms pk) (cmn ms pk 10))) (cmn ms pk 10) = dueI ms (m0 ms pk) (cmn ms pk 10) :=
  due_congr fun p h => m0_due hp hn h
theorem low_names (hp : ∀ i ∈ pk, i < ms.length) (hn : pk ≠ []) : (nmsI (m0 ms (dueI ms (m0 ms pk) (cmn ms pk 10))) (cmn ms pk 10)).map low = (nmsI (m0 ms pk) (cmn ms pk 10)).map low := by
  unfold nmsI
  rw [List.map_map, List.map_map]
  refine List.map_congr_left fun p h => ?_
  have h10 := (mem_cmn.mp h).1
  have := low_nm (p := p) (q := p) h10 h10 (sg_mem (m0 ms (dueI ms (m0 ms pk) (cmn ms pk 10))) h10) (sg_mem (m0 ms pk) h10)
  have e := m0_due hp hn h
  unfold ls at e
  rw [e] at this
  simp only [beq_self_eq_true, Bool.and_self] at this
  exact beq_iff_eq.mp this
theorem minus_due (hp : ∀ i ∈ pk, i < ms.length) : minus pk (dueI ms (m0 ms pk) (cmn ms pk 10)) = [] := by
  unfold minus
  rw [List.filter_eq_nil_iff]
  intro i hi
  simp [pk_due hp i hi]
end
/-- what stays of the table when the names at these places are struck -/
noncomputable def keepI (ms : List Nat) (m : Nat) (ps : List Nat) (i p : Nat) : Bool := !(ps.contains p && ls (ms.getD i 0) p == ls m p)
noncomputable def leftT (ms : List Nat) (m : Nat) (ps : List Nat) : List (Str × Str) := (List.range ms.length).flatMap fun i => ((List.range 10).filter (keepI ms m ps i)).map fun p => (nm p (sg (ms.getD i 0) p), fl i)
theorem struck_filter : ∀ (xs : List Str) (items : List (Str × Str)), struck items xs = items.filter fun q => xs.all fun x => !(low q.1 == low x)
  | [], items => (List.filter_eq_self.mpr fun _ _ => rfl).symm
  | x :: xs, items => by
    rw [struck, struck_filter xs, List.filter_filter]
    refine List.filter_congr fun q _ => ?_
    rw [List.all_cons, Bool.and_comm]
theorem struck_tab (ms : List Nat) (m : Nat) {ps : List Nat} (hps : ∀ p ∈ ps, p < 10) : struck (tab ms) (nmsI m ps) = leftT ms m ps := by
  rw [struck_filter]
  unfold tab tabI leftT
  rw [List.filter_flatMap]
  congr 1
  funext i
  unfold rowI
  rw [List.filter_map]
  congr 1
  refine List.filter_congr fun p hp => ?_
  have h10 := List.mem_range.mp hp
  show ((nmsI m ps).all fun x => !(low (nm p (sg (ms.getD i 0) p)) == low x)) = keepI ms m ps i p
  have key : ∀ q ∈ ps, (!(low (nm p (sg (ms.getD i 0) p)) == low (nm q (sg m q)))) = !(p == q && ls (ms.getD i 0) p == ls m q) := fun q hq => by
    rw [low_nm h10 (hps q hq) (sg_mem _ h10) (sg_mem _ (hps q hq))]; rfl
  unfold nmsI keepI
  rw [List.all_map, Bool.eq_iff_iff, List.all_eq_true]
  constructor
  · intro h
    cases hc : ps.contains p with
    | false => rfl
    | true =>
      have hm := List.contains_iff_mem.mp hc
      have := h p hm
      simp only [Function.comp] at this
      rw [key p hm] at this
      simpa using this
  · intro h q hq
    simp only [Function.comp]
    rw [key q hq]
    by_cases e : p = q
    · subst e
      rw [List.contains_iff_mem.mpr hq] at h
      simpa using h
    · simp [e]
end Mine
end
section
open PySem PySem.Spec PySem.SeqAt PySem.Calls PyProof.Rows
set_option maxRecDepth 100000
namespace Mine
noncomputable def leftN (ms : List Nat) (m : Nat) (ps : List Nat) (i : Nat) : Nat := ((List.range 10).filter (keepI ms m ps i)).length
/-- each file so many times -/
noncomputable def blk (a : Nat → Nat) (n : Nat) : List Str := (List.range n).flatMap fun i => List.replicate (a i) (fl i)
theorem blk_succ (a : Nat → Nat) (k : Nat) : blk a (k + 1) = blk a k ++ List.replicate (a k) (fl k) := by simp [blk, List.range_succ]
theorem map_const {α β : Type} (b : β) : ∀ l : List α, l.map (fun _ => b) = List.replicate l.length b
  | [] => rfl
  | _ :: l => by simp [List.replicate_succ, map_const b l]
theorem left_vals (ms : List Nat) (m : Nat) (ps : List Nat) : (leftT ms m ps).map (·.2) = blk (leftN ms m ps) ms.length := by
  unfold leftT blk
  rw [List.map_flatMap]
  congr 1
  funext i
  rw [List.map_map]
  exact map_const (fl i) _
theorem tab_vals (ms : List Nat) : (tab ms).map (·.2) = blk (fun _ => 10) ms.length := by
  unfold tab tabI blk rowI
  rw [List.map_flatMap]
  congr 1
theorem blk_count (a : Nat → Nat) {i : Nat} (hi : i < 5) : ∀ k, k ≤ 5 → (blk a k).count (fl i) = if i < k then a i else 0
  | 0, _ => by simp [blk]
  | k + 1, hk => by
    rw [blk_succ, List.count_append, blk_count a hi k (by omega), List.count_replicate]
    by_cases e : k = i
    · subst e
      rw [if_neg (by omega), if_pos (by simp), if_pos (by omega)]; omega
    · have hne : (fl k == fl i) = false := by
        rw [beq_eq_false_iff_ne]
        exact fun q => e (fl_inj (by omega) hi q)
      rw [hne]
      by_cases h : i < k
      · have h2 : i < k + 1 := by omega
        simp [h, h2]
      · have h2 : ¬ i < k + 1 := by omega
        simp [h, h2]
theorem blk_split (a : Nat → Nat) (k : Nat) : ∀ d, ∃ R, blk a (k + d) = blk a k ++ R
  | 0 => ⟨[], by simp⟩
  | d + 1 => by
    obtain ⟨R, h⟩ := blk_split a k d
    exact ⟨R ++ List.replicate (a (k + d)) (fl (k + d)), by rw [show k + (d + 1) = (k + d) + 1 by omega, blk_succ, h, List.append_assoc]⟩
theorem blk_at (a : Nat → Nat) {k n : Nat} (h : k < n) : ∃ R, blk a n = blk a k ++ (List.replicate (a k) (fl k) ++ R) := by
  obtain ⟨R, e⟩ := blk_split a (k + 1) (n - (k + 1))
  rw [show k + 1 + (n - (k + 1)) = n by omega, blk_succ, List.append_assoc] at e
  exact ⟨R, e⟩
theorem blk_notin (a : Nat → Nat) {k : Nat} (hk : k < 5) : fl k ∉ blk a k := fun q => by
  have := List.count_pos_iff.mpr q
  rw [blk_count a hk k (by omega), if_neg (by omega)] at this
  omega
section
variable {S T P R : List Str} {x : Str} {c : Nat}
theorem at_block {l : List Str} (hS : l = P ++ (List.replicate c x ++ R)) {q : Nat} (hq : q < c) : l[P.length + q]? = some x ∧ l.take (P.length + q) = P ++ List.replicate q x := by
  subst hS
  constructor
  · rw [List.getElem?_append_right (by omega), show P.length + q - P.length = q by omega, List.getElem?_append_left (by simpa using hq)]
    simp [hq]
  · rw [List.take_length_add_append, List.take_append_of_le_length (by simp; omega), List.take_replicate, Nat.min_eq_left (by omega)]
theorem r1_block (hS : S = P ++ (List.replicate c x ++ R)) (hx : x ∉ P) : ∀ q, q ≤ c → r1 S T (P.length + q) = r1 S T P.length ++ if q = 0 ∨ S.count x = T.count x then [] else [(S.count x, T.count x, x)]
  | 0, _ => by simp
  | q + 1, hq => by
    have ih := r1_block hS hx q (by omega)
    obtain ⟨e1, e2⟩ := at_block hS (q := q) (by omega)
    rw [show P.length + (q + 1) = (P.length + q) + 1 by omega]
    by_cases hc : S.count x = T.count x
    · rw [r1_same e1 hc, ih]; simp [hc]
    · by_cases h0 : q = 0
      · subst h0
        have hn : (S.take (P.length + 0)).contains x = false := by rw [e2]; simp [hx]
        rw [r1_new e1 hn hc, ih]; simp [hc]
      · have hn : (S.take (P.length + q)).contains x = true := by rw [e2]; simp [h0]
        rw [r1_seen e1 hn, ih]; simp [h0]
theorem r2_block (hT : T = P ++ (List.replicate c x ++ R)) (hx : x ∉ P) : ∀ q, q ≤ c → r2 S T (P.length + q) = r2 S T P.length ++ if q = 0 ∨ x ∈ S then [] else [(0, T.count x, x)]
  | 0, _ => by simp
  | q + 1, hq => by
    have ih := r2_block hT hx q (by omega)
    obtain ⟨e1, e2⟩ := at_block hT (q := q) (by omega)
    rw [show P.length + (q + 1) = (P.length + q) + 1 by omega]
    by_cases hc : x ∈ S
    · have hn : (S ++ T.take (P.length + q)).contains x = true := by simp [hc]
      rw [r2_seen e1 hn, ih]; simp [hc]
    · by_cases h0 : q = 0
      · subst h0
        have hn : (S ++ T.take (P.length + 0)).contains x = false := by rw [e2]; simp [hx, hc]
        rw [r2_new e1 hn, ih]; simp [hc]
      · have hn : (S ++ T.take (P.length + q)).contains x = true := by rw [e2]; simp [h0]
        rw [r2_seen e1 hn, ih]; simp [h0]
end
noncomputable def toldA (a : Nat → Nat) (n : Nat) : List Tri := ((List.range n).filter fun i => decide (0 < a i) && decide (a i < 10)).map fun i => (a i, 10, fl i)
noncomputable def toldB (a : Nat → Nat) (n : Nat) : List Tri := ((List.range n).filter fun i => a i == 0).map fun i => (0, 10, fl i)
theorem cdiff_blk (a : Nat → Nat) {n : Nat} (hn : n ≤ 5) (ha : ∀ i, a i ≤ 10) : cdiff (blk a n) (blk (fun _ => 10) n) = toldA a n ++ toldB a n := by
  have h1 : ∀ k, k ≤ n → r1 (blk a n) (blk (fun _ => 10) n) (blk a k).length = toldA a k := by
    intro k
    induction k with
    | zero => intro _; rfl
    | succ k ih =>
      intro hk
      obtain ⟨R, e⟩ := blk_at a (k := k) (n := n) (by omega)
      have := r1_block (T := blk (fun _ => 10) n) e (blk_notin a (by omega)) (a k) (Nat.le_refl _)
      have ca : (blk a n).count (fl k) = a k := by rw [blk_count a (by omega) n hn, if_pos (by omega)]
      have cb : (blk (fun _ => 10) n).count (fl k) = 10 := by rw [blk_count (fun _ => 10) (by omega) n hn, if_pos (by omega)]
      rw [blk_succ, List.length_append, List.length_replicate, this, ih (by omega), ca, cb]
      unfold toldA
      rw [List.range_succ, List.filter_append, List.map_append]
      congr 1
      have := ha k
      by_cases h0 : a k = 0
      · simp [h0]
      · by_cases h10 : a k = 10
        · simp [h10]
        · have q1 : 0 < a k := by omega
          have q2 : a k < 10 := by omega
          simp [h0, h10, q1, q2]
  have h2 : ∀ k, k ≤ n → r2 (blk a n) (blk (fun _ => 10) n) (blk (fun _ => 10) k).length = toldB a k := by
    intro k
    induction k with
    | zero => intro _; rfl
    | succ k ih =>
      intro hk
      obtain ⟨R, e⟩ := blk_at (fun _ => 10) (k := k) (n := n) (by omega)
      have := r2_block (S := blk a n) e (blk_notin (fun _ => 10) (by omega)) 10 (Nat.le_refl _)
      have cb : (blk (fun _ => 10) n).count (fl k) = 10 := by rw [blk_count (fun _ => 10) (by omega) n hn, if_pos (by omega)]
      rw [blk_succ, List.length_append, List.length_replicate, this, ih (by omega), cb]
      unfold toldB
      rw [List.range_succ, List.filter_append, List.map_append]
      congr 1
      have hm : fl k ∈ blk a n ↔ a k ≠ 0 := by
        rw [← List.count_pos_iff, blk_count a (by omega) n hn, if_pos (by omega)]; omega
      by_cases h0 : a k = 0
      · rw [if_neg (by rw [hm]; simp [h0])]; simp [h0]
      · rw [if_pos (.inr (hm.mpr h0))]; simp [h0]
  unfold cdiff
  rw [h1 n (Nat.le_refl _), h2 n (Nat.le_refl _)]
theorem leftN_le (ms : List Nat) (m : Nat) (ps : List Nat) (i : Nat) : leftN ms m ps i ≤ 10 := by
  have := List.length_filter_le (keepI ms m ps i) (List.range 10)
  simpa [leftN] using this
theorem filter_not_len {α : Type} (g : α → Bool) : ∀ l : List α, (l.filter fun x => !g x).length + (l.filter g).length = l.length
  | [] => rfl
  | x :: l => by
    have := filter_not_len g l
    cases h : g x <;> simp [List.filter_cons, h] <;> omega
section
variable {ms pk : List Nat}
theorem left_eq (m i : Nat) : leftN ms m (cmn ms pk 10) i + ((cmn ms pk 10).filter fun p => ls (ms.getD i 0) p == ls m p).length = 10 := by
  have e : (cmn ms pk 10).filter (fun p => ls (ms.getD i 0) p == ls m p) = (List.range 10).filter fun p => (cmn ms pk 10).contains p && ls (ms.getD i 0) p == ls m p := by
    conv => lhs; unfold cmn
    rw [List.filter_filter]
    refine List.filter_congr fun p hp => ?_
    rw [Bool.and_comm]
    congr 1
    rw [Bool.eq_iff_iff, List.contains_iff_mem, mem_cmn, List.all_eq_true]
    simp [List.mem_range.mp hp]
  rw [e]
  have := filter_not_len (fun p => (cmn ms pk 10).contains p && ls (ms.getD i 0) p == ls m p) (List.range 10)
  exact this
theorem left_due {m i : Nat} (h : i ∈ dueI ms m (cmn ms pk 10)) : leftN ms m (cmn ms pk 10) i = 10 - (cmn ms pk 10).length := by
  have := left_eq (ms := ms) (pk := pk) m i
  rw [List.filter_eq_self.mpr (fun p hp => beq_iff_eq.mpr ((mem_due.mp h).2 p hp))] at this
  omega
theorem left_ge (m i : Nat) : 10 - (cmn ms pk 10).length ≤ leftN ms m (cmn ms pk 10) i := by
  have := left_eq (ms := ms) (pk := pk) m i
  have := List.length_filter_le (fun p => ls (ms.getD i 0) p == ls m p) (cmn ms pk 10)
  omega
theorem left_least {m i : Nat} (hi : i < ms.length) (h : leftN ms m (cmn ms pk 10) i = 10 - (cmn ms pk 10).length) : i ∈ dueI ms m (cmn ms pk 10) := by
  have h1 := left_eq (ms := ms) (pk := pk) m i
  have h2 : (cmn ms pk 10).length ≤ 10 := by
    have := List.length_filter_le (fun p => pk.all fun i => ls (ms.getD i 0) p == ls (m0 ms pk) p) (List.range 10)
    simpa [cmn] using this
  have h3 : ((cmn ms pk 10).filter fun p => ls (ms.getD i 0) p == ls m p).length = (cmn ms pk 10).length := by omega
  have h4 := List.length_filter_eq_length_iff.mp h3
  exact mem_due.mpr ⟨hi, fun p hp => beq_iff_eq.mp (h4 p hp)⟩
theorem least_due (m : Nat) : ((List.range ms.length).filter fun i => leftN ms m (cmn ms pk 10) i == 10 - (cmn ms pk 10).length) = dueI ms m (cmn ms pk 10) := by
  refine List.filter_congr fun i hi => ?_
  have hl := List.mem_range.mp hi
  rw [Bool.eq_iff_iff, beq_iff_eq, List.all_eq_true]
  constructor
  · intro h p hp
    exact beq_iff_eq.mpr ((mem_due.mp (left_least hl h)).2 p hp)
  · intro h
    exact left_due (mem_due.mpr ⟨hl, fun p hp => beq_iff_eq.mp (h p hp)⟩)
end
end Mine
end
section
open PySem PySem.Spec PySem.SeqAt PySem.Calls PyProof.Rows
set_option maxRecDepth 100000
namespace Mine
/-- the captured names of a comprehension -/
noncomputable def clo (scope : Scope) (env : Env) : List (Str × Addr) := scope.names.foldl (fun cs x => if x.2 == .free then (x.1, (env.cells.lookup x.1).getD 0) :: cs else cs) []
theorem clo_fold (env : Env) : ∀ (l : List (Str × NameKind)) (cs : List (Str × Addr)), (l.all fun x => !(x.2 == .free) || (env.cells.lookup x.1).isSome) = true →
    ((forIn l cs fun x r => if (x.2 == NameKind.free) = true then do let c ← cellOf env x.1; pure (ForInStep.yield ((x.1, c) :: r)) else pure (ForInStep.yield r)) : Sem (List (Str × Addr))) = pure (l.foldl (fun cs x => if x.2 == .free then (x.1, (env.cells.lookup x.1).getD 0) :: cs else cs) cs)
  | [], cs, _ => rfl
  | (n, k) :: l, cs, h => by
    rw [List.all_cons, Bool.and_eq_true] at h
    rw [List.forIn_cons, List.foldl_cons]
    cases hk : k == NameKind.free with
    | false =>
      simp only [hk, Bool.false_eq_true, if_false, pure_bind]
      exact clo_fold env l cs h.2
    | true =>
      simp only [hk, if_true]
      have h1 := h.1
      simp only [hk, Bool.not_true, Bool.false_or] at h1
      obtain ⟨c, hc⟩ := Option.isSome_iff_exists.mp h1
      have e : cellOf env n = pure c := by unfold cellOf; rw [hc]
      rw [e]
      simp only [pure_bind]
      have := clo_fold env l ((n, c) :: cs) h.2
      rw [hc]
      exact this
theorem clo_ok {scope : Scope} {env : Env} (h : (scope.names.all fun x => !(x.2 == .free) || (env.cells.lookup x.1).isSome) = true) : closureFor scope env = pure (clo scope env) := by
  have := clo_fold env scope.names [] h
  unfold closureFor clo
  refine Eq.trans ?_ (congrArg (fun t : Sem (List (Str × Addr)) => t >>= pure) this)
  rfl
theorem SeesAll.cons {C : Cx} {scope : Scope} {cl : List (Str × Addr)} {y : Str} {d : PyData} {vs : Vars} (r : SeesAll C scope cl vs) (mem : C.vars.lookup y = some d := by rfl) (free : scope.names.lookup y = some .free := by rfl) (cell : cl.lookup y = C.env.cells.lookup y := by rfl)
    (own : ∀ n, (cellsFrom n scope.names []).lookup y = none := by intro _; rfl) (kind : C.env.kindOf y = some .cell ∨ C.env.kindOf y = some .free := by first | exact .inl rfl | exact .inr rfl) (cd : (y == ("__classdict__" : Str)) = false := by rfl) : SeesAll C scope cl ((y, d) :: vs) := ⟨⟨mem, free, cell, own, kind, cd⟩, r⟩
section
variable {C : Cx} {α : Type} {elt iter : Expr} {x : Str} {px pos : Pos} {ifs : List Expr} {scope : Scope}
theorem out_eq {l : List α} {D : α → PyData} {U : PyData → α} (hU : ∀ a, U (D a) = a) (P : α → Bool) (F : α → PyData) : ((l.map D).filter fun d => P (U d)).map (fun d => F (U d)) = (l.filter P).map F := by
  rw [List.filter_map, List.map_map]
  have e1 : ((fun d => P (U d)) ∘ D) = P := by funext a; simp [hU]
  have e2 : ((fun d => F (U d)) ∘ D) = F := by funext a; simp [hU]
  rw [e1, e2]
/-- a comprehension over data of a kind -/
theorem Ev.compG (l : List α) (D : α → PyData) (U : PyData → α) (hU : ∀ a, U (D a) = a) (vs : Vars) (P : α → Bool) (F : α → PyData)
    (src : Src C iter (l.map D)) (hvis : SeesAll C scope (clo scope C.env) vs)
    (body : ∀ L X a, a ∈ l → Trs ((C.inner scope (clo scope C.env) L X vs).bind x (D a)) ifs (P a) ∧ (P a = true → Ev ((C.inner scope (clo scope C.env) L X vs).bind x (D a)) elt (F a)))
    (hsz : l.length ≤ 100)
    (hclos : (scope.names.all fun x => !(x.2 == .free) || (C.env.cells.lookup x.1).isSome) = true := by rfl)
    (hfold : ∀ v, foldedSetIterable iter C.env v = pure v := by intro _; rfl) (hkind : scope.kind = .function := by rfl)
    (hnames : ∀ x ∈ scope.names, x.2 = .local → scope.names.lookup x.1 = some .local := by decide)
    (htgt : scope.names.lookup x = some .local ∨ (scope.names.lookup x = some .cell ∧ ∀ n, ((cellsFrom n scope.names []).lookup x).isSome = true) := by first | exact .inl rfl | exact .inr ⟨rfl, fun _ => rfl⟩) (hcalm : C.calm = true := by rfl) (hnx : vs.lookup x = Option.none := by rfl) :
    Ev C (.ListComp elt [⟨.Name x px, iter, ifs, 0⟩] scope pos) (.list ((l.filter P).map F)) := by
  have := Ev.comp1 (px := px) (pos := pos) vs (fun d => P (U d)) (fun d => F (U d)) src hvis (fun L X d hd => by
    obtain ⟨a, ha, rfl⟩ := List.mem_map.mp hd
    rw [hU]
    exact body L X a ha) (Nat.le_trans (by simpa using hsz) (by decide : 100 ≤ sizeLine)) (clo_ok hclos) hfold hkind hnames htgt hcalm hnx
  rwa [out_eq hU] at this
/-- one that takes all -/
theorem Ev.compGM (l : List α) (D : α → PyData) (U : PyData → α) (hU : ∀ a, U (D a) = a) (vs : Vars) (F : α → PyData)
    (src : Src C iter (l.map D)) (hvis : SeesAll C scope (clo scope C.env) vs)
    (body : ∀ L X a, a ∈ l → Ev ((C.inner scope (clo scope C.env) L X vs).bind x (D a)) elt (F a))
    (hsz : l.length ≤ 100)
    (hclos : (scope.names.all fun x => !(x.2 == .free) || (C.env.cells.lookup x.1).isSome) = true := by rfl)
    (hfold : ∀ v, foldedSetIterable iter C.env v = pure v := by intro _; rfl) (hkind : scope.kind = .function := by rfl)
    (hnames : ∀ x ∈ scope.names, x.2 = .local → scope.names.lookup x.1 = some .local := by decide)
    (htgt : scope.names.lookup x = some .local ∨ (scope.names.lookup x = some .cell ∧ ∀ n, ((cellsFrom n scope.names []).lookup x).isSome = true) := by first | exact .inl rfl | exact .inr ⟨rfl, fun _ => rfl⟩) (hcalm : C.calm = true := by rfl) (hnx : vs.lookup x = Option.none := by rfl) :
    Ev C (.ListComp elt [⟨.Name x px, iter, [], 0⟩] scope pos) (.list (l.map F)) := by
  have := Ev.compG (C := C) (elt := elt) (iter := iter) (x := x) (px := px) (pos := pos) (ifs := []) (scope := scope) l D U hU vs (fun _ => true) F src hvis (fun L X a ha => ⟨.nil, fun _ => body L X a ha⟩) hsz hclos hfold hkind hnames htgt hcalm hnx
  rwa [List.filter_eq_self.mpr (fun _ _ => rfl)] at this
end
section
variable {S : Stat} {X : List Addr} {V : Vars} {M : Muts} {I : Its} {K : Facts} {s₀ s : Shared} {p' pos : Pos} {rest : List Stmt} {Q : Flow → Shared → Prop} {E : Value → Shared → Prop} {α : Type} {elt iter : Expr} {x y : Str} {px cpos : Pos} {ifs : List Expr} {scope : Scope}
/-- x = a comprehension, x a name of the call's own alone -/
theorem s_compG (l : List α) (D : α → PyData) (U : PyData → α) (hU : ∀ a, U (D a) = a) (vs : Vars) (P : α → Bool) (F : α → PyData) (h : FS S X V M I K s₀ s)
    (src : Src (cx S X V M I K) iter (l.map D)) (hvis : SeesAll (cx S X V M I K) scope (clo scope S.env) vs)
    (body : ∀ L X' a, a ∈ l → Trs (((cx S X V M I K).inner scope (clo scope S.env) L X' vs).bind y (D a)) ifs (P a) ∧ (P a = true → Ev (((cx S X V M I K).inner scope (clo scope S.env) L X' vs).bind y (D a)) elt (F a)))
    (hsz : l.length ≤ 100)
    (k : ∀ s', FS S X ((x, .list ((l.filter P).map F)) :: V) M I K s₀ s' → wpAny (model S.prog S.w) S.A (execs rest S.env) Q E s')
    (hk : S.env.kindOf x = some .local := by rfl)
    (hsw : swapsWith (.ListComp elt [⟨.Name y px, iter, ifs, 0⟩] scope cpos) (some (.Name x p')) pos.line S.env = pure true := by rfl)
    (hclos : (scope.names.all fun x => !(x.2 == .free) || (S.env.cells.lookup x.1).isSome) = true := by rfl) (hfold : ∀ v, foldedSetIterable iter S.env v = pure v := by intro _; rfl) (hkind : scope.kind = .function := by rfl)
    (hnames : ∀ x ∈ scope.names, x.2 = .local → scope.names.lookup x.1 = some .local := by decide)
    (htgt : scope.names.lookup y = some .local ∨ (scope.names.lookup y = some .cell ∧ ∀ n, ((cellsFrom n scope.names []).lookup y).isSome = true) := by first | exact .inl rfl | exact .inr ⟨rfl, fun _ => rfl⟩) (hcalm : S.calm = true := by rfl) (hny : vs.lookup y = none := by rfl) :
    wpAny (model S.prog S.w) S.A (execs (.Assign [.Name x p'] (.ListComp elt [⟨.Name y px, iter, ifs, 0⟩] scope cpos) pos :: rest) S.env) Q E s :=
  s_assign_comp (cl := clo scope S.env) vs (fun d => P (U d)) (fun d => F (U d)) h src hvis (fun L X d hd => by
    obtain ⟨a, ha, rfl⟩ := List.mem_map.mp hd
    rw [hU]
    exact body L X a ha) (Nat.le_trans (by simpa using hsz) (by decide : 100 ≤ sizeLine)) (fun s' st => k s' (by rwa [out_eq hU] at st)) hk hsw (clo_ok hclos) hfold hkind hnames htgt hcalm hny
end
noncomputable def toN : PyData → Nat
  | .int i => i.toNat
  | _ => 0
theorem toN_nat (n : Nat) : toN (nat n) = n := rfl
noncomputable def toS : PyData → Str
  | .str x => x
  | _ => ⟨#[]⟩
theorem toS_str (x : Str) : toS (.str x) = x := rfl
noncomputable def toR : PyData → List Nat
  | .list l => l.map fun d => (toS d).cps.getD 0 0
  | _ => []
theorem toR_row (r : List Nat) : toR (.list (dchr r)) = r := by
  show (dchr r).map _ = r
  rw [List.map_map]
  exact (List.map_congr_left fun c _ => rfl).trans (List.map_id _)
noncomputable def toP : PyData → Str × Str
  | .tuple [a, b] => (toS a, toS b)
  | _ => (⟨#[]⟩, ⟨#[]⟩)
theorem toP_pair (q : Str × Str) : toP (.tuple [.str q.1, .str q.2]) = q := rfl
section
variable {C : Cx} {elt i1 i2 : Expr} {x y : Str} {px py pos : Pos} {ifs : List Expr} {scope : Scope}
/-- a comprehension of two clauses over numbers -/
theorem Ev.comp2N (n m : Nat) (vs : Vars) (P : Nat → Nat → Bool) (F : Nat → Nat → PyData)
    (src : Src C i1 (nats n))
    (hvis : SeesAll C scope (clo scope C.env) vs)
    (src2 : ∀ L X i, i < n → Src ((C.inner scope (clo scope C.env) L X vs).bind x (Mine.nat i)) i2 (nats m))
    (body : ∀ L X i p, i < n → p < m → Trs (((C.inner scope (clo scope C.env) L X vs).bind x (Mine.nat i)).bind y (Mine.nat p)) ifs (P i p) ∧ (P i p = true → Ev (((C.inner scope (clo scope C.env) L X vs).bind x (Mine.nat i)).bind y (Mine.nat p)) elt (F i p)))
    (hsz : n * m ≤ 100) (hxy : (y == x) = false := by decide)
    (hclos : (scope.names.all fun x => !(x.2 == .free) || (C.env.cells.lookup x.1).isSome) = true := by rfl)
    (hfold : ∀ v, foldedSetIterable i1 C.env v = pure v := by intro _; rfl) (hfold2 : ∀ (env : Env) v, foldedSetIterable i2 env v = pure v := by intro _ _; rfl) (hkind : scope.kind = .function := by rfl)
    (hnames : ∀ x ∈ scope.names, x.2 = .local → scope.names.lookup x.1 = some .local := by decide)
    (hx : scope.names.lookup x = some .local := by rfl) (hy : scope.names.lookup y = some .local := by rfl) (hcalm : C.calm = true := by rfl) (hnx : vs.lookup x = Option.none := by rfl) (hny : vs.lookup y = Option.none := by rfl) :
    Ev C (Mine.comp2 elt x y px py i1 i2 ifs scope pos) (.list ((List.range n).flatMap fun i => ((List.range m).filter (P i)).map (F i))) := by
  have key := Ev.comp2 (px := px) (py := py) (pos := pos) vs (fun _ => nats m) (fun d e => P (toN d) (toN e)) (fun d e => F (toN d) (toN e)) m src hvis (fun L X d hd => by
    obtain ⟨i, hi, rfl⟩ := List.mem_map.mp hd
    exact src2 L X i (List.mem_range.mp hi)) (fun L X d e hd he => by
    obtain ⟨i, hi, rfl⟩ := List.mem_map.mp hd
    obtain ⟨p, hp, rfl⟩ := List.mem_map.mp he
    exact body L X i p (List.mem_range.mp hi) (List.mem_range.mp hp)) (fun d _ => by simp) (Nat.le_trans (by simpa using hsz) (by decide : 100 ≤ sizeLine)) hxy (clo_ok hclos) hfold hfold2 hkind hnames hx hy hcalm hnx hny
  have e : ((nats n).flatMap fun d => ((nats m).filter fun e => P (toN d) (toN e)).map fun e => F (toN d) (toN e)) = (List.range n).flatMap fun i => ((List.range m).filter (P i)).map (F i) := by
    rw [List.flatMap_map]
    congr 1
    funext i
    exact out_eq (D := Mine.nat) (U := toN) toN_nat (P i) (F i)
  rwa [e] at key
end
end Mine
end
section
open PySem PySem.Spec PySem.SeqAt PySem.Calls PyProof.Rows
set_option maxRecDepth 100000
namespace Mine
/-- plain data, not too deep -/
structure Lay (d : PyData) (k : Nat) : Prop where
  can : d.canLay0 = true
  dep : d.depth ≤ k
theorem layAll_of : ∀ {l : List PyData} {k : Nat}, (∀ x ∈ l, Lay x k) → PyData.canLayAll0 l = true ∧ PyData.depthAll l ≤ k
  | [], k, _ => ⟨rfl, Nat.zero_le _⟩
  | x :: l, k, h => by
    obtain ⟨h1, h2⟩ := layAll_of fun y hy => h y (.tail _ hy)
    have h0 := h x (.head _)
    refine ⟨by rw [PyData.canLayAll0, h0.can, h1]; rfl, ?_⟩
    rw [PyData.depthAll]
    exact Nat.max_le.mpr ⟨h0.dep, h2⟩
theorem Lay.list {l : List PyData} {k : Nat} (h : ∀ x ∈ l, Lay x k) : Lay (.list l) (k + 1) := ⟨by rw [PyData.canLay0]; exact (layAll_of h).1, by rw [PyData.depth]; exact Nat.succ_le_succ (layAll_of h).2⟩
theorem Lay.tuple {l : List PyData} {k : Nat} (h : ∀ x ∈ l, Lay x k) : Lay (.tuple l) (k + 1) := ⟨by rw [PyData.canLay0]; exact (layAll_of h).1, by rw [PyData.depth]; exact Nat.succ_le_succ (layAll_of h).2⟩
theorem Lay.str {x : Str} {k : Nat} (h : PyData.strOk x = true) : Lay (.str x) k := ⟨by simpa [PyData.canLay0] using h, Nat.zero_le _⟩
theorem Lay.nat {n k : Nat} : Lay (Mine.nat n) k := ⟨rfl, Nat.zero_le _⟩
theorem Lay.up {d : PyData} {k m : Nat} (h : Lay d k) (hm : k ≤ m) : Lay d m := ⟨h.can, Nat.le_trans h.dep hm⟩
theorem lay_strs {l : List Str} (h : ∀ x ∈ l, PyData.strOk x = true) : Lay (.list (dstr l)) 1 := .list fun x hx => by
  obtain ⟨y, hy, rfl⟩ := List.mem_map.mp hx
  exact .str (h y hy)
theorem lay_fls {l : List Nat} (h : ∀ i ∈ l, i < 5) : Lay (.list (fls l)) 1 := lay_strs (ok_fls h)
theorem lay_nats {l : List Nat} : Lay (.list (dnat l)) 1 := .list fun x hx => by
  obtain ⟨y, hy, rfl⟩ := List.mem_map.mp hx
  exact .nat
theorem lay_pairs {l : List (Str × Str)} (h : ∀ q ∈ l, PyData.strOk q.1 = true ∧ PyData.strOk q.2 = true) : Lay (.list (pairs l)) 2 := .list fun x hx => by
  obtain ⟨q, hq, rfl⟩ := List.mem_map.mp hx
  refine .tuple fun y hy => ?_
  simp only [List.mem_cons, List.not_mem_nil, or_false] at hy
  rcases hy with rfl | rfl
  · exact .str (h q hq).1
  · exact .str (h q hq).2
theorem Cmp.neL {C : Cx} {d : PyData} {k : Nat} (h : Lay d k) (hk : k ≤ 64 := by decide) : Cmp C .NotEq d d false := .neSame h.can (Nat.le_trans h.dep hk)
theorem Cmp.eqL {C : Cx} {d : PyData} {k : Nat} (h : Lay d k) (hk : k ≤ 64 := by decide) : Cmp C .Eq d d true := .same h.can (Nat.le_trans h.dep hk)
theorem Ev.cast {C : Cx} {e : Expr} {a b : PyData} (h : Ev C e a) (q : a = b) : Ev C e b := q ▸ h
theorem Tr.cast {C : Cx} {e : Expr} {a b : Bool} (h : Tr C e a) (q : a = b) : Tr C e b := q ▸ h
theorem chr_beq (a b : Nat) : (chr a == chr b) = (a == b) := by
  rw [Bool.eq_iff_iff, beq_iff_eq, beq_iff_eq]
  constructor
  · intro h
    have := congrArg (fun x : Str => x.cps.toList) h
    simpa using this
  · rintro rfl; rfl
theorem Cmp.neChr {C : Cx} {a b : Nat} : Cmp C .NotEq (.str (chr a)) (.str (chr b)) (!(a == b)) := by
  have := Cmp.neStr (C := C) (a := chr a) (b := chr b)
  rwa [chr_beq] at this
theorem Cmp.emptyN {C : Cx} {l : List Nat} : Cmp C .Eq (.list (dnat l)) (.list []) l.isEmpty := fun s u v ok hu hv Q E h => by
  have key : Cmp C .Eq (.list (dnat l)) (.list []) (PyData.eqv (.list (dnat l)) (.list [])) := .eq lay_nats.can rfl (Nat.le_trans (Nat.min_le_right _ _) (by decide))
  have e : PyData.eqv (.list (dnat l)) (.list []) = l.isEmpty := by cases l <;> rfl
  rw [e] at key
  exact key s u v ok hu hv Q E h
theorem any_eqv (i : Nat) : ∀ l : List Nat, ((dnat l).any fun y => PyData.eqv y (nat i)) = l.contains i
  | [] => rfl
  | a :: l => by
    rw [show dnat (a :: l) = nat a :: dnat l from rfl, List.any_cons, any_eqv i l, List.contains_cons]
    congr 1
    rw [show PyData.eqv (nat a) (nat i) = ((a : Int) == (i : Int)) from rfl, Bool.eq_iff_iff]; simp
    exact ⟨fun h => by exact_mod_cast h.symm, fun h => by rw [h]⟩
theorem Cmp.inN {C : Cx} {i : Nat} {l : List Nat} : Cmp C .In (nat i) (.list (dnat l)) (l.contains i) := fun s u v ok hu hv Q E h => by
  have := Cmp.in (C := C) (d := nat i) (xs := dnat l) rfl (by simpa only [PyData.canLay0] using (lay_nats (l := l)).can) (Nat.zero_le _) s u v ok hu hv Q E
  rw [any_eqv] at this
  exact this h
theorem Cmp.notInN {C : Cx} {i : Nat} {l : List Nat} : Cmp C .NotIn (nat i) (.list (dnat l)) (!l.contains i) := fun s u v ok hu hv Q E h => by
  have := Cmp.notIn (C := C) (d := nat i) (xs := dnat l) rfl (by simpa only [PyData.canLay0] using (lay_nats (l := l)).can) (Nat.zero_le _) s u v ok hu hv Q E
  rw [any_eqv] at this
  exact this h
theorem filter_all {α : Type} (g : α → Bool) (l : List α) : (l.filter fun x => !g x).isEmpty = l.all g := by
  rw [Bool.eq_iff_iff, List.isEmpty_iff, List.filter_eq_nil_iff, List.all_eq_true]
  simp
theorem Cmp.ltN {C : Cx} {a b : Nat} : Cmp C .Lt (nat a) (nat b) (decide (a < b)) := by
  have := Cmp.lt (C := C) (a := (a : Int)) (b := (b : Int))
  rwa [show decide ((a : Int) < (b : Int)) = decide (a < b) by simp] at this
noncomputable def rowsD (ms : List Nat) : List PyData := (ms.map rowC).map fun r => .list (dchr r)
noncomputable def smallR (ms : List Nat) : List (List Nat) := ms.map fun m => (rowC m).map lo1
noncomputable def smallD (ms : List Nat) : List PyData := (smallR ms).map fun r => .list (dchr r)
section
variable {ms : List Nat} {i p m : Nat}
theorem rows_get (hi : i < ms.length) : (rowsD ms)[i]? = some (.list (dchr (rowC (ms.getD i 0)))) := by simp [rowsD, hi]
theorem small_get (hi : i < ms.length) : (smallD ms)[i]? = some (.list (dchr ((rowC (ms.getD i 0)).map lo1))) := by simp [smallD, smallR, hi]
theorem dchr_get (hp : p < 10) : (dchr (rowC m))[p]? = some (.str (chr (sg m p))) := by
  rw [List.getElem?_map, row_get m hp]; rfl
theorem dlow_get (hp : p < 10) : (dchr ((rowC m).map lo1))[p]? = some (.str (chr (ls m p))) := by
  rw [List.getElem?_map, List.getElem?_map, row_get m hp]; rfl
theorem files_get {n : Nat} (hi : i < n) : (fls (List.range n))[i]? = some (.str (fl i)) := by simp [hi]
end
theorem low_chr (c : Nat) : low (chr c) = chr (lo1 c) := by simp [low]
theorem asc_chr_all : (signs.all fun c => decide (c < 128)) = true := by decide
theorem asc_chr {c : Nat} (h : c ∈ signs) : Asc (chr c) := ⟨fun d hd => by
  simp only [chr, List.mem_singleton] at hd
  subst hd
  simpa using List.all_eq_true.mp asc_chr_all d h, by simp⟩
theorem row_mem {m c : Nat} (h : c ∈ rowC m) : c ∈ signs := by
  obtain ⟨p, hp, e⟩ := List.getElem_of_mem h
  have hl : p < 10 := by rw [rowC_len] at hp; exact hp
  have := row_get m hl
  rw [List.getElem?_eq_getElem hp, e] at this
  cases this
  exact sg_mem m hl
end Mine
end
section
open PySem PySem.Spec PySem.SeqAt PySem.Calls PyProof.Rows
set_option maxRecDepth 100000
namespace Mine
noncomputable abbrev lawFd (doc pm code : Value) : FuncData := topFd 44 "law" doc pm code
noncomputable abbrev lawS (w : World) (G : Glob) (doc pm code : Value) (A : Around) (L fa : Addr) : Stat := ⟨pw, w, A.deeper (callEnvC (lawFd doc pm code) L fa), callEnvC (lawFd doc pm code) L fa, G, true⟩
noncomputable abbrev lawV (ms l : List Nat) (H : Addr) : Vars := [("items", .list (pairs (tab ms))), ("table", raw H), ("small", .list (smallD ms)), ("rows", .list (rowsD ms)), ("files", .list (fls (List.range ms.length))), ("modes", .list (dnat ms)), ("numbers", .list (dnat l))]
noncomputable def lawLoop : List Stmt := forBody ((defOfStmt (topStmt 44)).2.1.getD 12 default)
noncomputable abbrev pkOf (ms : List Nat) (t : Nat) : List Nat := pickI ms.length (t % (2 ^ ms.length - 1) + 1)
noncomputable abbrev cmOf (ms pk : List Nat) : List Nat := cmn ms pk 10
noncomputable abbrev duOf (ms pk : List Nat) : List Nat := dueI ms (m0 ms pk) (cmOf ms pk)
noncomputable abbrev nmOf (ms pk : List Nat) : List Str := nmsI (m0 ms pk) (cmOf ms pk)
noncomputable abbrev turnV (ms pk : List Nat) (V : Vars) : Vars := ("answer", .list (fls (duOf ms pk))) :: ("names", .list (dstr (nmOf ms pk))) :: ("due", .list (dnat (duOf ms pk))) :: ("common", .list (dnat (cmOf ms pk))) :: ("pick", .list (dnat pk)) :: V
section
variable {w : World} {G : Glob} {n : Nat} {doc pm code : Value} {A : Around} {L fa H D : Addr} {X : List Addr} {I : Its} {K : Facts} {s₀ s : Shared} {ms l : List Nat}
theorem law_turn (pf : PF3 G) (tb : TabAt G H D) (room : Room (lawS w G doc pm code A L fa).A (n + 3)) (h3 : 3 ≤ ms.length) (h5 : ms.length ≤ 5) {t : Nat} {N : Shared → Prop}
    (st : FS (lawS w G doc pm code A L fa) X (("total", nat t) :: lawV ms l H) [(D, pairs (tab ms))] I K s₀ s)
    (hN : ∀ s', FS (lawS w G doc pm code A L fa) X (turnV ms (pkOf ms t) (lawV ms l H)) [(D, pairs (tab ms))] I K s₀ s' → N s') :
    wpAny (model pw w) (lawS w G doc pm code A L fa).A (execs lawLoop (lawS w G doc pm code A L fa).env) (fun fl s' => fl = .next ∧ N s') (fun _ _ => False) s := by
  have hsz : ∀ k : Nat, k ≤ 200 → k ≤ sizeLine := fun k h => Nat.le_trans h (by decide)
  obtain ⟨dS, pS, cS, fS⟩ := id pf.fSld
  have hb := bits_lt ms.length t h3
  generalize hbits : t % (2 ^ ms.length - 1) + 1 = bits at hb
  have hpk : Up (pkOf ms t) := pick_up _ h5
  have hpl : ∀ i ∈ pkOf ms t, i < ms.length := fun i hi => pick_lt hi
  have hpn : pkOf ms t ≠ [] := by show pickI ms.length (t % (2 ^ ms.length - 1) + 1) ≠ []; rw [hbits]; exact pick_ne h5 hb.1 hb.2
  have epk : pkOf ms t = pickI ms.length bits := by show pickI ms.length (t % (2 ^ ms.length - 1) + 1) = _; rw [hbits]
  have h8 : 2 ^ 3 ≤ 2 ^ ms.length := Nat.pow_le_pow_right (by decide) h3
  refine s_assign st (d := nat bits) (.cast (.addN (.modN .name (.subN (.powN (.nat 2) (.lenN (n := ms.length) (.blt (pf.blt _) (by boot_fast)) .name (by simp) (by omega)) (by omega) (by decide)) (.nat 1) (by omega)) (by omega)) (.nat 1)) (by rw [hbits])) fun s₁ st₁ => ?_
  refine s_assign st₁ (d := .list (dnat (pkOf ms t))) (.cast (.compG (List.range ms.length) nat toN toN_nat [("bits", nat bits)] (fun i => bits / 2 ^ i % 2 == 1) nat (Src.rangeN (k := ms.length) (.blt (pf.blt _) (by boot_fast)) (.lenN (.blt (pf.blt _) (by boot_fast)) .name (by simp) (by omega)) (by omega)) (.cons trivial) (fun L' X' i hi => ?_) (by simp; omega)) (by rw [epk]; rfl)) fun s₂ st₂ => ?_
  · have hi' := List.mem_range.mp hi
    have h2i : 2 ^ i ≤ 2 ^ 5 := Nat.pow_le_pow_right (by decide) (by omega)
    have h2p : 0 < 2 ^ i := Nat.two_pow_pos i
    exact ⟨.one (.cmp (.modN (.fdivN .name (.powN (.nat 2) .name (by omega) (by decide)) (by omega) (by omega)) (.nat 2) (by decide)) (.nat 1) .eqN), fun _ => .name⟩
  generalize pkOf ms t = pk at hpk hpl hpn hN st₂
  clear epk hb hbits
  obtain ⟨p0, pr, hpk0⟩ : ∃ p0 pr, pk = p0 :: pr := by cases pk with
    | nil => exact absurd rfl hpn
    | cons a b => exact ⟨a, b, rfl⟩
  have hp0 : p0 < ms.length := hpl p0 (by rw [hpk0]; exact .head _)
  have g1 : (dnat pk)[0]? = some (nat p0) := by rw [hpk0]; rfl
  have hm0 : m0 ms pk = ms.getD p0 0 := by rw [hpk0]; rfl
  have hpl5 := hpk.len
  refine s_assign st₂ (d := .list (dnat (cmOf ms pk))) (.compG (List.range 10) nat toN toN_nat [("pick", .list (dnat pk)), ("small", .list (smallD ms))] (fun p => pk.all fun i => ls (ms.getD i 0) p == ls (m0 ms pk) p) nat (Src.rangeN (k := 10) (.blt (pf.blt _) (by boot_fast)) (.nat 10) (by omega)) (.cons (.cons trivial)) (fun L' X' p hp => ⟨?_, fun _ => .name⟩) (by simp)) fun s₃ st₃ => ?_
  · have hp' := List.mem_range.mp hp
    rw [← filter_all]
    refine .one (.cmp (.compG pk nat toN toN_nat [("p", nat p), ("pick", .list (dnat pk)), ("small", .list (smallD ms))] (fun i => !(ls (ms.getD i 0) p == ls (m0 ms pk) p)) nat (.list .name) (.cons (.cons (.cons trivial))) (fun L'' X'' i hi => ⟨.one ?_, fun _ => .name⟩) (by omega)) (.list .nil (hsz _ (by simp))) .emptyN)
    have hi' := hpl i hi
    rw [hm0]
    exact .cmp (.itemN (.itemN .name .name (small_get hi') (by omega)) .name (dlow_get hp') (by omega)) (.itemN (.itemN .name (.itemN .name (.nat 0) g1 (by decide)) (small_get hp0) (by omega)) .name (dlow_get hp') (by omega)) .neChr
  have hcl : (cmOf ms pk).length ≤ 10 := by
    have : (cmOf ms pk).length ≤ (List.range 10).length := List.length_filter_le _ _
    simpa using this
  refine s_compG (List.range ms.length) nat toN toN_nat [("common", .list (dnat (cmOf ms pk))), ("pick", .list (dnat pk)), ("small", .list (smallD ms))] (fun i => (cmOf ms pk).all fun p => ls (ms.getD i 0) p == ls (m0 ms pk) p) nat st₃ (Src.rangeN (k := ms.length) (.blt (pf.blt _) (by boot_fast)) (.lenN (.blt (pf.blt _) (by boot_fast)) .name (by simp) (by omega)) (by omega)) (.cons (.cons (.cons trivial))) (fun L' X' i hi => ⟨?_, fun _ => .name⟩) (by simp; omega) fun s₄ st₄ => ?_
  · have hi' := List.mem_range.mp hi
    rw [← filter_all]
    refine .one (.cmp (.compG (cmOf ms pk) nat toN toN_nat [("i", nat i), ("pick", .list (dnat pk)), ("small", .list (smallD ms))] (fun p => !(ls (ms.getD i 0) p == ls (m0 ms pk) p)) nat (.list .name) (.cons (.cons (.cons trivial))) (fun L'' X'' p hp => ⟨.one ?_, fun _ => .name⟩) (by omega)) (.list .nil (hsz _ (by simp))) .emptyN)
    have hp' := (mem_cmn.mp hp).1
    rw [hm0]
    exact .cmp (.itemN (.itemN .name .name (small_get hi') (by omega)) .name (dlow_get hp') (by omega)) (.itemN (.itemN .name (.itemN .name (.nat 0) g1 (by decide)) (small_get hp0) (by omega)) .name (dlow_get hp') (by omega)) .neChr
  refine s_assignT st₄ (Ev.answer (n := n) pf.toPF2 rfl tb h5 hpk hpl hpn room (.head _) (.glob pf.gAnswer) (.cons .name (.cons .name (.cons .name (.cons .name .nil))))) fun s₅ st₅ => ?_
  have upd : Up (duOf ms pk) := due_up h5
  have hdl5 := upd.len
  have hdl : ∀ i ∈ duOf ms pk, i < ms.length := fun i hi => (mem_due.mp hi).1
  have hcm : ∀ p ∈ cmOf ms pk, p < 10 := fun p hp => (mem_cmn.mp hp).1
  refine s_if_false st₅ (.or (b1 := false) (b2 := false) (.cmp .name (.cast (.compGM (cmOf ms pk) nat toN toN_nat [("pick", .list (dnat pk)), ("rows", .list (rowsD ms))] (fun p => .str (nm p (sg (m0 ms pk) p))) (.list .name) (.cons (.cons trivial)) (fun L' X' p hp => ?_) (by omega)) (by rw [dstr, nmsI, List.map_map]; rfl)) (.neL (lay_strs fun x hx => ?_)))
    (.cmp .name (.cast (.compGM (duOf ms pk) nat toN toN_nat [("files", .list (fls (List.range ms.length)))] (fun i => .str (fl i)) (.list .name) (.cons trivial) (fun L' X' i hi => ?_) (by omega)) (by rw [fls, dstr, List.map_map]; rfl)) (.neL (lay_fls fun i hi => by have := hdl i hi; omega)))) fun s₆ st₆ => ?_
  · have hp' := hcm p hp
    have := tostr_len p hp'
    rw [hm0]
    exact .addStr (.strN (.blt (pf.blt _) (by boot_fast)) .name (by omega)) (.itemN (.itemN .name (.itemN .name (.nat 0) g1 (by decide)) (rows_get hp0) (by omega)) .name (dchr_get hp') (by omega)) (hsz _ (by show _ + 1 ≤ 200; omega))
  · obtain ⟨p, hp, rfl⟩ := List.mem_map.mp hx
    exact ok_nm (hcm p hp) (sg_mem _ (hcm p hp))
  · exact .itemN .name .name (files_get (hdl i hi)) (by have := hdl i hi; omega)
  have esl := sldI pk (duOf ms pk) hpk upd
  rw [minus_due hpl] at esl
  refine s_if_false st₆ (.cmp (a := .tuple [.list [], .list (fls (minus (duOf ms pk) pk))]) (.cast (.call (.glob pf.gSld) (.cons (.cast (b := .list (fls pk)) (.compGM pk nat toN toN_nat [("files", .list (fls (List.range ms.length)))] (fun i => .str (fl i)) (.list .name) (.cons trivial) (fun L' X' i hi => .itemN .name .name (files_get (hpl i hi)) (by have := hpl i hi; omega)) (by omega)) (by rw [fls, dstr, List.map_map]; rfl)) (.cons .name .nil)) fS (sld_ok fS (pf.blt _) hpk.map.noNb upd.map.noNb (by simp; omega) (by simp; omega)) room) (by rw [esl]; rfl))
    (.tuple (.cons (.list .nil (hsz _ (by simp))) (.cons (.cast (.compG (duOf ms pk) nat toN toN_nat [("files", .list (fls (List.range ms.length))), ("pick", .list (dnat pk))] (fun i => !pk.contains i) (fun i => .str (fl i)) (.list .name) (.cons (.cons trivial)) (fun L' X' i hi => ⟨.one (.cmp .name .name .notInN), fun _ => .itemN .name .name (files_get (hdl i hi)) (by have := hdl i hi; omega)⟩) (by omega)) (by rw [fls, dstr, List.map_map]; rfl)) .nil)) (hsz _ (by simp))) (.neL (k := 2) (.tuple fun x hx => ?_))) fun s₇ st₇ => ?_
  · simp only [List.mem_cons, List.not_mem_nil, or_false] at hx
    rcases hx with rfl | rfl
    · exact ⟨rfl, by decide⟩
    · exact lay_fls fun i hi => by have := hdl i (List.mem_filter.mp hi).1; omega
  refine wpAny_execs_nil ⟨rfl, hN _ ?_⟩
  exact s_less st₇ ⟨rfl, rfl, rfl, rfl, rfl, rfl, rfl, rfl, rfl, rfl, rfl, rfl, trivial⟩
end
end Mine
end
section
open PySem PySem.Spec PySem.SeqAt PySem.Calls PyProof.Rows
set_option maxRecDepth 100000
namespace Mine
theorem ok_low_all : ((List.range 10).all fun p => signs.all fun c => PyData.strOk (low (nm p c))) = true := by decide +kernel
theorem ok_low {p c : Nat} (hp : p < 10) (hc : c ∈ signs) : PyData.strOk (low (nm p c)) = true := List.all_eq_true.mp (List.all_eq_true.mp ok_low_all p (List.mem_range.mpr hp)) c hc
/-- what is held at a place -/
noncomputable def hlS (m : Nat) (ps : List Nat) (p : Nat) : Str := if ps.contains p then chr (ls m p) else ""
theorem chr_ne_empty (c : Nat) : (chr c == ("" : Str)) = false := by
  rw [beq_eq_false_iff_ne]
  intro h
  have : (1 : Nat) = 0 := congrArg (fun x : Str => x.cps.size) h
  exact absurd this (by decide)
theorem held_keep (ms : List Nat) (m : Nat) (ps : List Nat) (i p : Nat) : (!(chr (ls (ms.getD i 0) p) == hlS m ps p)) = keepI ms m ps i p := by
  unfold hlS keepI
  cases h : ps.contains p with
  | true => simp only [if_true, chr_beq, Bool.true_and]
  | false => simp only [Bool.false_eq_true, if_false, chr_ne_empty, Bool.false_and]
noncomputable def heldD (m : Nat) (ps : List Nat) : List PyData := (List.range 10).map fun p => .str (hlS m ps p)
theorem held_get {m p : Nat} {ps : List Nat} (hp : p < 10) : (heldD m ps)[p]? = some (.str (hlS m ps p)) := by simp [heldD, hp]
theorem tab_len (ms : List Nat) : (tab ms).length = 10 * ms.length := tabI_len _ _
theorem tab_ok {ms : List Nat} (h5 : ms.length ≤ 5) : ∀ q ∈ tab ms, PyData.strOk q.1 = true ∧ PyData.strOk q.2 = true := fun q hq => by
  obtain ⟨i, p, hi, hp, rfl⟩ := tabI_mem hq
  exact ⟨ok_nm hp (sg_mem _ hp), ok_fl (by omega)⟩
theorem tab_asc {ms : List Nat} : ∀ q ∈ tab ms, Asc q.1 := fun q hq => by
  obtain ⟨i, p, hi, hp, rfl⟩ := tabI_mem hq
  exact (good_nm hp (sg_mem _ hp)).asc
theorem tab_get (ms : List Nat) {i p : Nat} (hi : i < ms.length) (hp : p < 10) : (tab ms)[10 * i + p]? = some (nm p (sg (ms.getD i 0) p), fl i) := by
  have key : ∀ k, i < k → (tabI ms k)[10 * i + p]? = some (nm p (sg (ms.getD i 0) p), fl i) := by
    intro k
    induction k with
    | zero => intro h; omega
    | succ k ih =>
      intro h
      rw [tabI_succ]
      by_cases e : i = k
      · subst e
        rw [List.getElem?_append_right (by rw [tabI_len]; omega), tabI_len, show 10 * i + p - 10 * i = p by omega]
        simp [rowI, hp]
      · rw [List.getElem?_append_left (by rw [tabI_len]; omega)]
        exact ih (by omega)
  exact key _ hi
theorem pairs_tab (ms : List Nat) : ((List.range ms.length).flatMap fun i => ((List.range 10).filter fun _ => true).map fun p => PyData.tuple [.str (nm p (sg (ms.getD i 0) p)), .str (fl i)]) = pairs (tab ms) := by
  unfold pairs tab tabI rowI
  rw [List.map_flatMap]
  congr 1
theorem pairs_left (ms : List Nat) (m : Nat) (ps : List Nat) : ((List.range ms.length).flatMap fun i => ((List.range 10).filter (keepI ms m ps i)).map fun p => PyData.tuple [.str (nm p (sg (ms.getD i 0) p)), .str (fl i)]) = pairs (leftT ms m ps) := by
  unfold pairs leftT
  rw [List.map_flatMap]
  congr 1
  funext i
  rw [List.map_map]
  try rfl
theorem map_getD {α : Type} (f : Nat → α) (ms : List Nat) : ms.map f = (List.range ms.length).map fun i => f (ms.getD i 0) := by
  refine List.ext_getElem? fun i => ?_
  by_cases h : i < ms.length
  · simp [h]
  · rw [List.getElem?_eq_none (by simp; omega), List.getElem?_eq_none (by simp; omega)]
noncomputable def leftL (ms : List Nat) (m : Nat) (ps : List Nat) : List Nat := (List.range ms.length).map (leftN ms m ps)
theorem left_get {ms : List Nat} {m : Nat} {ps : List Nat} {i : Nat} (hi : i < ms.length) : (dnat (leftL ms m ps))[i]? = some (nat (leftN ms m ps i)) := by simp [leftL, hi]
theorem left_list (ms : List Nat) (m : Nat) (ps : List Nat) : ((smallR ms).map fun r => nat ((List.range 10).filter fun p => !(chr (r.getD p 0) == hlS m ps p)).length) = dnat (leftL ms m ps) := by
  unfold smallR leftL
  rw [List.map_map, map_getD, dnat, List.map_map]
  refine List.map_congr_left fun i hi => ?_
  show nat _ = nat (leftN ms m ps i)
  congr 2
  refine List.filter_congr fun p hp => ?_
  have h10 := List.mem_range.mp hp
  have e : ((rowC (ms.getD i 0)).map lo1).getD p 0 = ls (ms.getD i 0) p := by
    rw [List.getD_eq_getElem?_getD, List.getElem?_map, row_get _ h10]; rfl
  rw [e, held_keep]
noncomputable def toI : PyData → Int
  | .int i => i
  | _ => 0
noncomputable def numsOfS (z : List Int) : List Nat := (z.take 63).map fun y => (y.fmod 1000000).toNat
theorem fmod_nat (y : Int) : PyData.int (y.fmod 1000000) = nat (y.fmod 1000000).toNat := by
  have h : 0 ≤ y.fmod 1000000 := Int.fmod_nonneg_of_pos y (by decide)
  show PyData.int _ = PyData.int _
  rw [Int.toNat_of_nonneg h]
end Mine
end
section
open PySem PySem.Spec PySem.SeqAt PySem.Calls PyProof.Rows
set_option maxRecDepth 100000
namespace Mine
noncomputable def lawTail : List Stmt := (defOfStmt (topStmt 44)).2.1.drop 13
section
variable {w : World} {G : Glob} {n : Nat} {doc pm code : Value} {A : Around} {L fa H D : Addr} {X : List Addr} {s₀ s : Shared} {ms l : List Nat}
noncomputable abbrev tailV (ms pk l : List Nat) (H : Addr) : Vars := ("held", .list (heldD (m0 ms pk) (cmOf ms pk))) :: ("same", .list (fls (duOf ms pk))) :: ("again", .list (dstr (nmsI (m0 ms (duOf ms pk)) (cmOf ms pk)))) :: turnV ms pk (lawV ms l H)
noncomputable abbrev tailC (w : World) (G : Glob) (doc pm code : Value) (A : Around) (L fa : Addr) (X : List Addr) (ms pk l : List Nat) (H D : Addr) (u : Value) : Cx :=
  cx (lawS w G doc pm code A L fa) X (tailV ms pk l H) [(D, pairs (leftT ms (m0 ms pk) (cmOf ms pk)))] [] [(u, .list (pairs (leftT ms (m0 ms pk) (cmOf ms pk))))]
/-- behind the loop -/
theorem law_tail (pf : PF3 G) (tb : TabAt G H D) (room : Room (lawS w G doc pm code A L fa).A (n + 3)) (h3 : 3 ≤ ms.length) (h5 : ms.length ≤ 5) {pk : List Nat} (hpk : Up pk) (hpl : ∀ i ∈ pk, i < ms.length) (hpn : pk ≠ []) {Q : Flow → Shared → Prop} {E : Value → Shared → Prop}
    (st : FS (lawS w G doc pm code A L fa) X (turnV ms pk (lawV ms l H)) [(D, pairs (tab ms))] [] [] s₀ s)
    (hN : ∀ s', Grow G.top s₀ s' → Q (.ret (.bool true)) s') :
    wpAny (model pw w) (lawS w G doc pm code A L fa).A (execs lawTail (lawS w G doc pm code A L fa).env) Q E s := by
  have hsz : ∀ k : Nat, k ≤ 200 → k ≤ sizeLine := fun k h => Nat.le_trans h (by decide)
  have upd : Up (duOf ms pk) := due_up h5
  have hdl : ∀ i ∈ duOf ms pk, i < ms.length := fun i hi => (mem_due.mp hi).1
  have hcm : ∀ p ∈ cmOf ms pk, p < 10 := fun p hp => (mem_cmn.mp hp).1
  have hcl : (cmOf ms pk).length ≤ 10 := by
    have : (cmOf ms pk).length ≤ (List.range 10).length := List.length_filter_le _ _
    simpa using this
  have hdn : duOf ms pk ≠ [] := due_ne hpl hpn
  have hdl5 := upd.len
  obtain ⟨p0, pr, hpk0⟩ : ∃ p0 pr, pk = p0 :: pr := by cases pk with
    | nil => exact absurd rfl hpn
    | cons a b => exact ⟨a, b, rfl⟩
  have hp0 : p0 < ms.length := hpl p0 (by rw [hpk0]; exact .head _)
  have g1 : (dnat pk)[0]? = some (nat p0) := by rw [hpk0]; rfl
  have hm0 : m0 ms pk = ms.getD p0 0 := by rw [hpk0]; rfl
  refine s_assignT st (Ev.answer (n := n) pf.toPF2 rfl tb h5 upd hdl hdn room (.head _) (.glob pf.gAnswer) (.cons .name (.cons .name (.cons .name (.cons .name .nil))))) fun s₁ st₁ => ?_
  rw [cmn_due hpl hpn, due_due hpl hpn] at st₁
  have elow : ∀ m', (nmsI m' (cmOf ms pk)).map (fun x => PyData.str (low x)) = dstr ((nmsI m' (cmOf ms pk)).map low) := fun m' => by rw [dstr, List.map_map]; rfl
  refine s_if_false st₁ (.or (b1 := false) (b2 := false) (.cmp (a := .list (dstr ((nmOf ms pk).map low))) (.cast (.compGM (nmsI (m0 ms (duOf ms pk)) (cmOf ms pk)) .str toS toS_str [] (fun x => .str (low x)) (.list .name) trivial (fun L' X' x hx => ?_) (by simp [nmsI]; omega)) (by rw [elow, low_names hpl hpn])) (.cast (.compGM (nmOf ms pk) .str toS toS_str [] (fun x => .str (low x)) (.list .name) trivial (fun L' X' x hx => ?_) (by simp [nmsI]; omega)) (by rw [elow])) (.neL (lay_strs fun x hx => ?_)))
    (.cmp .name .name (.neL (lay_fls fun i hi => by have := hdl i hi; omega)))) fun s₂ st₂ => ?_
  · obtain ⟨p, hp, rfl⟩ := List.mem_map.mp hx
    exact .lower .name (good_nm (hcm p hp) (sg_mem _ (hcm p hp))).asc
  · obtain ⟨p, hp, rfl⟩ := List.mem_map.mp hx
    exact .lower .name (good_nm (hcm p hp) (sg_mem _ (hcm p hp))).asc
  · obtain ⟨y, hy, rfl⟩ := List.mem_map.mp hx
    obtain ⟨p, hp, rfl⟩ := List.mem_map.mp hy
    exact ok_low (hcm p hp) (sg_mem _ (hcm p hp))
  refine s_assign st₂ (d := .list (heldD (m0 ms pk) (cmOf ms pk))) (.compGM (List.range 10) nat toN toN_nat [("common", .list (dnat (cmOf ms pk))), ("pick", .list (dnat pk)), ("small", .list (smallD ms))] (fun p => .str (hlS (m0 ms pk) (cmOf ms pk) p)) (Src.rangeN (k := 10) (.blt (pf.blt _) (by boot_fast)) (.nat 10) (by omega)) (.cons (.cons (.cons trivial))) (fun L' X' p hp => .ite (c := (cmOf ms pk).contains p) (.cmp .name .name .inN) (fun hc => ?_) (fun hc => ?_)) (by simp)) fun s₃ st₃ => ?_
  · have hp' := List.mem_range.mp hp
    refine .cast (.itemN (.itemN .name (.itemN .name (.nat 0) g1 (by decide)) (small_get hp0) (by omega)) .name (dlow_get hp') (by omega)) ?_
    unfold hlS; rw [if_pos hc, hm0]
  · refine .cast .str ?_
    unfold hlS; rw [if_neg (by rw [hc]; decide)]
  have htl : (tab ms).length ≤ 100 := by rw [tab_len]; omega
  have est : struck (tab ms) (nmOf ms pk) = leftT ms (m0 ms pk) (cmOf ms pk) := struck_tab ms (m0 ms pk) hcm
  have hll : (leftT ms (m0 ms pk) (cmOf ms pk)).length ≤ 100 := by rw [← est]; exact Nat.le_trans (struck_sub _ _).length_le htl
  have hlok : ∀ q ∈ leftT ms (m0 ms pk) (cmOf ms pk), PyData.strOk q.1 = true ∧ PyData.strOk q.2 = true := fun q hq => tab_ok h5 q (by rw [← est] at hq; exact (struck_sub _ _).subset hq)
  obtain ⟨dT, pT, cT, fT⟩ := id pf.fStrike
  obtain ⟨oT, hoT, hdT, _⟩ := id fT.at_
  refine wpAny_execs_cons (wpAny_If (wpAny_isTrue_Compare1 (PyProof.Rows.Call_Name rfl ((NameV.glob (C := cx _ _ _ _ _ _) pf.gStrike) s₃ _ _ _ st₃.ok (callWith_meth hdT hoT (wpAny_mono (Evs.at st₃.ok (.cons .name (.cons .name .nil))) (fun vs s₄ z => ⟨(st₃.ok.grow z.1).g, ?_⟩) fun _ _ z => z.elim) rfl))) (by with_unfolding_all rfl)))
  obtain ⟨g₄, r₄⟩ := z
  obtain ⟨v1, q1, rfl, rv1, v2, q2, rfl, rv2, rfl⟩ := r₄
  rw [rv1.raw_inv]
  have st₄ := s_step st₃ g₄
  refine wpAny_mono (strike_ok pf.toPF2 tb tab_asc (xs := nmOf ms pk) (fun x hx => ?_) htl room st₄.ok.amid (st₄.ok.mu _ _ (.head _)) rv2) (fun u s₅ h₅ => ?_) fun _ _ z => z.elim
  · obtain ⟨p, hp, rfl⟩ := List.mem_map.mp hx
    have := good_nm (hcm p hp) (sg_mem (m0 ms pk) (hcm p hp))
    exact ⟨this.asc, this.clow⟩
  rw [est] at h₅
  have st₅ := s_fact (s_changed st₄ h₅.1) h₅.2
  refine Ev.use (C := tailC w G doc pm code A L fa X ms pk l H D u) (d := .list (pairs (leftT ms (m0 ms pk) (cmOf ms pk)))) (.cast (.comp2N ms.length 10 [("held", .list (heldD (m0 ms pk) (cmOf ms pk))), ("items", .list (pairs (tab ms))), ("small", .list (smallD ms))] (keepI ms (m0 ms pk) (cmOf ms pk)) (fun i p => .tuple [.str (nm p (sg (ms.getD i 0) p)), .str (fl i)]) (Src.rangeN (k := ms.length) (.blt (pf.blt _) (by boot_fast)) (.lenN (.blt (pf.blt _) (by boot_fast)) .name (by simp) (by omega)) (by omega)) (.cons (.cons (.cons trivial))) (fun L' X' i hi => Src.rangeN (k := 10) (.blt (pf.blt _) (by boot_fast)) (.nat 10) (by omega))
      (fun L' X' i p hi hp => ⟨.one (.cast (.cmp (.itemN (.itemN .name .name (small_get hi) (by omega)) .name (dlow_get hp) (by omega)) (.itemN .name .name (held_get hp) (by omega)) .neStr) (held_keep _ _ _ _ _)), fun _ => .itemN .name (.addN (.mulN (.nat 10) .name (by decide)) .name) (by rw [List.getElem?_map, tab_get ms hi hp]; rfl) (by omega)⟩) (by omega)) (congrArg PyData.list (pairs_left ms (m0 ms pk) (cmOf ms pk)))) st₅.ok fun v s₆ g₆ ok₆ r₆ => ?_
  refine Cmp.neL (C := tailC w G doc pm code A L fa X ms pk l H D u) (lay_pairs hlok) (by decide) s₆ u v ok₆ (ok₆.fa _ _ (.head _)) r₆ _ _ fun tk => wpAny_truthy_bool ?_
  rw [if_neg (by decide)]
  refine wpAny_execs_nil ?_
  have st₆ := s_dropFacts (K' := []) (s_step (s_step st₅ g₆) (.tok _ tk)) (fun p hp => nomatch hp)
  have tl5 : ∀ P : Nat → Bool, ((List.range ms.length).filter P).length ≤ 5 := fun P => Nat.le_trans (List.length_filter_le _ _) (by simpa using h5)
  refine s_assign st₆ (d := .list (dnat (leftL ms (m0 ms pk) (cmOf ms pk)))) (.cast (.compGM (smallR ms) (fun r => .list (dchr r)) toR toR_row [("held", .list (heldD (m0 ms pk) (cmOf ms pk)))] (fun r => nat ((List.range 10).filter fun p => !(chr (r.getD p 0) == hlS (m0 ms pk) (cmOf ms pk) p)).length) (.list .name) (.cons trivial) (fun L' X' r hr => .lenN (.blt (pf.blt _) (by boot_fast)) (.compG (List.range 10) nat toN toN_nat [("held", .list (heldD (m0 ms pk) (cmOf ms pk))), ("row", .list (dchr r))] (fun p => !(chr (r.getD p 0) == hlS (m0 ms pk) (cmOf ms pk) p)) nat (Src.rangeN (k := 10) (.blt (pf.blt _) (by boot_fast)) (.nat 10) (by omega)) (.cons (.cons trivial)) (fun L'' X'' p hp => ⟨.one (.cmp (.itemN .name .name ?_ ?_) (.itemN .name .name (held_get (List.mem_range.mp hp)) ?_) .neStr), fun _ => .name⟩) (by simp)) (by simp) ?_) (by simp [smallR]; omega)) (congrArg PyData.list (left_list ms (m0 ms pk) (cmOf ms pk)))) fun s₇ st₇ => ?_
  · obtain ⟨m, hm, rfl⟩ := List.mem_map.mp hr
    have hl : p < ((rowC m).map lo1).length := by rw [List.length_map, rowC_len]; exact List.mem_range.mp hp
    rw [List.getElem?_map, List.getD_eq_getElem?_getD, List.getElem?_eq_getElem hl]; rfl
  · have := List.mem_range.mp hp; omega
  · have := List.mem_range.mp hp; omega
  · have := List.length_filter_le (fun p => !(chr (r.getD p 0) == hlS (m0 ms pk) (cmOf ms pk) p)) (List.range 10)
    simp only [List.length_range] at this
    omega
  refine s_compG (List.range ms.length) nat toN toN_nat [("files", .list (fls (List.range ms.length))), ("left", .list (dnat (leftL ms (m0 ms pk) (cmOf ms pk))))] (fun i => decide (0 < leftN ms (m0 ms pk) (cmOf ms pk) i) && decide (leftN ms (m0 ms pk) (cmOf ms pk) i < 10)) (fun i => .tuple [nat (leftN ms (m0 ms pk) (cmOf ms pk) i), nat 10, .str (fl i)]) st₇ (Src.rangeN (k := ms.length) (.blt (pf.blt _) (by boot_fast)) (.lenN (.blt (pf.blt _) (by boot_fast)) .name (by simp) (by omega)) (by omega)) (.cons (.cons trivial)) (fun L' X' i hi => ⟨.one ?_, fun _ => ?_⟩) (by simp; omega) fun s₈ st₈ => ?_
  · have hi' := List.mem_range.mp hi
    exact .cmp2 (.nat 0) (.itemN .name .name (left_get hi') (by omega)) (.nat 10) .ltN .ltN
  · have hi' := List.mem_range.mp hi
    exact .tuple (.cons (.itemN .name .name (left_get hi') (by omega)) (.cons (.nat 10) (.cons (.itemN .name .name (files_get hi') (by omega)) .nil))) (hsz _ (by simp))
  have e8 : (((List.range ms.length).filter fun i => decide (0 < leftN ms (m0 ms pk) (cmOf ms pk) i) && decide (leftN ms (m0 ms pk) (cmOf ms pk) i < 10)).map fun i => PyData.tuple [nat (leftN ms (m0 ms pk) (cmOf ms pk) i), nat 10, .str (fl i)]) = (toldA (leftN ms (m0 ms pk) (cmOf ms pk)) ms.length).map tup1 := by
    unfold toldA; rw [List.map_map]; rfl
  rw [e8] at st₈
  have la : (toldA (leftN ms (m0 ms pk) (cmOf ms pk)) ms.length).length ≤ 5 := by unfold toldA; rw [List.length_map]; exact tl5 _
  have lb : (toldB (leftN ms (m0 ms pk) (cmOf ms pk)) ms.length).length ≤ 5 := by unfold toldB; rw [List.length_map]; exact tl5 _
  refine s_assign st₈ (d := .list ((toldA (leftN ms (m0 ms pk) (cmOf ms pk)) ms.length ++ toldB (leftN ms (m0 ms pk) (cmOf ms pk)) ms.length).map tup1)) (.cast (.addList .name (.compG (List.range ms.length) nat toN toN_nat [("files", .list (fls (List.range ms.length))), ("left", .list (dnat (leftL ms (m0 ms pk) (cmOf ms pk))))] (fun i => leftN ms (m0 ms pk) (cmOf ms pk) i == 0) (fun i => .tuple [nat 0, nat 10, .str (fl i)]) (Src.rangeN (k := ms.length) (.blt (pf.blt _) (by boot_fast)) (.lenN (.blt (pf.blt _) (by boot_fast)) .name (by simp) (by omega)) (by omega)) (.cons (.cons trivial)) (fun L' X' i hi => ⟨.one (.cmp (.itemN .name .name (left_get (List.mem_range.mp hi)) ?_) (.nat 0) .eqN), fun _ => .tuple (.cons (.nat 0) (.cons (.nat 10) (.cons (.itemN .name .name (files_get (List.mem_range.mp hi)) ?_) .nil))) (hsz _ (by simp))⟩) (by simp; omega)) ?_) ?_) fun s₉ st₉ => ?_
  · have := List.mem_range.mp hi; omega
  · have := List.mem_range.mp hi; omega
  · refine hsz _ ?_
    have := tl5 fun i => leftN ms (m0 ms pk) (cmOf ms pk) i == 0
    simp only [List.length_map]
    omega
  · rw [List.map_append]
    congr 2
    unfold toldB; rw [List.map_map]; rfl
  have stA := s_unhide st₉
  obtain ⟨dC, pC, cC, fC⟩ := id pf.fCount
  have ecd : cdiff ((leftT ms (m0 ms pk) (cmOf ms pk)).map (·.2)) ((tab ms).map (·.2)) = toldA (leftN ms (m0 ms pk) (cmOf ms pk)) ms.length ++ toldB (leftN ms (m0 ms pk) (cmOf ms pk)) ms.length := by
    rw [left_vals, tab_vals, cdiff_blk _ h5 (leftN_le _ _ _)]
  refine s_if_false stA (.cmp (.cast (.call (.glob pf.gCount) (.cons (.values pf.toPF rfl .name tb (.head _) hll room) (.cons (.cast (b := .list (dstr ((tab ms).map (·.2)))) (.compGM (tab ms) (fun q => .tuple [.str q.1, .str q.2]) toP toP_pair [] (fun q => .str q.2) (.list .name) trivial (fun L' X' q hq => .itemTN .name (.nat 1) rfl (by decide)) htl) (by rw [dstr, List.map_map]; rfl)) .nil)) fC (count_ok pf (by simpa using hll) (by simpa using htl)) room) (by rw [ecd])) .name (.misNe pf.cMis)) fun sB stB => ?_
  have hin : 10 - (cmOf ms pk).length ∈ leftL ms (m0 ms pk) (cmOf ms pk) := by
    have hd := getD_mem0 hdn
    refine List.mem_map.mpr ⟨_, List.mem_range.mpr (hdl _ hd), left_due hd⟩
  have hle : ∀ a ∈ leftL ms (m0 ms pk) (cmOf ms pk), 10 - (cmOf ms pk).length ≤ a := fun a ha => by
    obtain ⟨i, _, rfl⟩ := List.mem_map.mp ha
    exact left_ge _ i
  refine s_return stB (.cmp (a := .list (fls (duOf ms pk))) (.cast (.compG (List.range ms.length) nat toN toN_nat [("files", .list (fls (List.range ms.length))), ("left", .list (dnat (leftL ms (m0 ms pk) (cmOf ms pk))))] (fun i => leftN ms (m0 ms pk) (cmOf ms pk) i == 10 - (cmOf ms pk).length) (fun i => .str (fl i)) (Src.rangeN (k := ms.length) (.blt (pf.blt _) (by boot_fast)) (.lenN (.blt (pf.blt _) (by boot_fast)) .name (by simp) (by omega)) (by omega)) (.cons (.cons trivial)) (fun L' X' i hi => ⟨.one (.cmp (.itemN .name .name (left_get (List.mem_range.mp hi)) ?_) (.min (.blt (pf.blt _) (by boot_fast)) .name hin hle) .eqN), fun _ => .itemN .name .name (files_get (List.mem_range.mp hi)) ?_⟩) (by simp; omega)) ?_) .name (.eqL (lay_fls fun i hi => by have := hdl i hi; omega))) fun v s' g r => ?_
  · have := List.mem_range.mp hi; omega
  · have := List.mem_range.mp hi; omega
  · rw [least_due, fls, dstr, List.map_map]; rfl
  · rw [r.bool_inv]; exact hN s' g
end
end Mine
end
section
open PySem PySem.Spec PySem.SeqAt PySem.Calls PyProof.Rows
set_option maxRecDepth 100000
namespace Mine
theorem law_ok {w : World} {G : Glob} {n : Nat} {fa : Addr} (pf : PF3 G) (f : HasFn G fa lawFd) {z : List Int} (hz : z.length ≤ 63) {A : Around} {X : List Addr} {s : Shared} {v : Value} (room : Room A (n + 6)) (am : Amid G A X s) (rv : Rd X s.heap (.list (z.map .int)) v) :
    wpAny (model pw w) A (call (.ref fa) [v]) (fun u s' => u = .bool true ∧ Grow G.top s s') (fun _ _ => False) s := by
  obtain ⟨doc, pm, code, f⟩ := f
  have hsz : ∀ k : Nat, k ≤ 200 → k ≤ sizeLine := fun k h => Nat.le_trans h (by decide)
  refine s_callC (binds := [("script", v)]) [("script", .list (z.map .int))] f rfl room am rfl rfl ⟨.inl rfl, trivial⟩ ⟨⟨_, .inl ⟨rfl, rfl⟩, rv⟩, trivial⟩ fun L X' s' hX hX' st room' => ?_
  refine s_compG (z.take 63) .int toI (fun _ => rfl) [] (fun _ => true) (fun y => nat (y.fmod 1000000).toNat) st (by rw [List.map_take]; exact .list (.upto .name (.nat 63) (hsz _ (by simp; omega)))) trivial (fun L' X'' y hy => ⟨.nil, fun _ => .cast (.mod .name .int (by decide)) (fmod_nat y)⟩) (by simp; omega) fun s₁ st₁ => ?_
  have e1 : ((z.take 63).filter fun _ => true).map (fun y => nat (y.fmod 1000000).toNat) = dnat (numsOfS z) := by
    rw [List.filter_eq_self.mpr fun _ _ => rfl, numsOfS, dnat, List.map_map]; rfl
  rw [e1] at st₁
  have hl : (numsOfS z).length ≤ 63 := by simp [numsOfS]; omega
  generalize numsOfS z = l at st₁ hl
  obtain ⟨dM, pM, cM, fM⟩ := id pf.fModes
  obtain ⟨dR, pR, cR, fR⟩ := id pf.fRow
  obtain ⟨dT, pT, cT, fT⟩ := id pf.fTable
  refine s_assign st₁ (.call (.glob pf.gModes) (.cons .name .nil) fM (modes_ok pf.toPF2 (by omega)) room') fun s₂ st₂ => ?_
  have hml := modesOf_len l
  generalize modesOf l = ms at st₂ hml
  have h3 : 3 ≤ ms.length := by omega
  have h5 : ms.length ≤ 5 := by omega
  refine s_assign st₂ (d := .list (fls (List.range ms.length))) (.cast (.compGM (List.range ms.length) nat toN toN_nat [] (fun i => .str (fl i)) (Src.rangeN (k := ms.length) (.blt (pf.blt _) (by boot_fast)) (.lenN (.blt (pf.blt _) (by boot_fast)) .name (by simp) (by omega)) (by omega)) trivial (fun L' X'' i hi => .addStr .str (.strN (.blt (pf.blt _) (by boot_fast)) .name ?_) (hsz _ ?_)) (by simp; omega)) (by rw [fls, dstr, List.map_map]; rfl)) fun s₃ st₃ => ?_
  · have := List.mem_range.mp hi; omega
  · have := tostr_len i (by have := List.mem_range.mp hi; omega)
    show 1 + _ ≤ 200; omega
  refine s_assign st₃ (d := .list (rowsD ms)) (.cast (.compGM ms nat toN toN_nat [] (fun m => .list (dchr (rowC m))) (.list .name) trivial (fun L' X'' m hm => .call (.glob pf.gRow) (.cons .name .nil) fR (row_ok pf.toPF pf.fRow) room') (by omega)) (by rw [rowsD, List.map_map]; rfl)) fun s₄ st₄ => ?_
  refine s_assign st₄ (d := .list (smallD ms)) (.cast (.compGM (ms.map rowC) (fun r => .list (dchr r)) toR toR_row [] (fun r => .list (dchr (r.map lo1))) (.list .name) trivial (fun L' X'' r hr => .cast (.compGM r (fun c => .str (chr c)) (fun d => (toS d).cps.getD 0 0) (fun _ => rfl) [] (fun c => .str (chr (lo1 c))) (.list .name) trivial (fun L'' X''' c hc => .cast (.lower .name (asc_chr ?_)) (by rw [low_chr])) ?_) (by rw [dchr, List.map_map]; rfl)) (by simp; omega)) (by rw [smallD, smallR, List.map_map, List.map_map]; rfl)) fun s₅ st₅ => ?_
  · obtain ⟨m, hm, rfl⟩ := List.mem_map.mp hr
    exact row_mem hc
  · obtain ⟨m, hm, rfl⟩ := List.mem_map.mp hr
    rw [rowC_len]; decide
  obtain ⟨oT, hoT, hdT, _⟩ := id fT.at_
  refine wpAny_execs_cons (wpAny_Assign_Name (PyProof.Rows.Call_Name rfl ((NameV.glob (C := cx _ _ _ _ _ _) pf.gTable) s₅ _ _ _ st₅.ok (callWith_meth hdT hoT (wpAny_mono (Evs.at st₅.ok (.cons .name .nil)) (fun vs s₆ q => ⟨(st₅.ok.grow q.1).g, ?_⟩) fun _ _ q => q.elim) rfl))) rfl)
  obtain ⟨g₆, r₆⟩ := q
  obtain ⟨v1, q1, rfl, rv1, rfl⟩ := r₆
  have st₆ := s_step st₅ g₆
  refine wpAny_mono (table_ok (n := n + 1) pf.toPF2 (ms := ms) h5 room' st₆.ok.amid rv1) (fun u s₇ h₇ => ?_) fun _ _ q => q.elim
  obtain ⟨H, hd, D, m, oH, ys, rfl, g₇, f1, f2, f3, J, hoH, hdd, hl₇, ra₇⟩ := h₇
  obtain ⟨G', mo, hF, tb, st₇⟩ := s_table st₆ g₇ f1 f2 f3 J hoH hdd hl₇ ra₇
  have pf' := pf.more mo hF
  refine FSt.put st₇ (.inl rfl) .raw_ fun s₈ st₈ _ _ => ?_
  refine s_assign (S := lawS w G' doc pm code A L fa) st₈ (d := .list (pairs (tab ms))) (.cast (.comp2N ms.length 10 [("files", .list (fls (List.range ms.length))), ("rows", .list (rowsD ms))] (fun _ _ => true) (fun i p => .tuple [.str (nm p (sg (ms.getD i 0) p)), .str (fl i)]) (Src.rangeN (k := ms.length) (.blt (pf'.blt _) (by boot_fast)) (.lenN (.blt (pf'.blt _) (by boot_fast)) .name (by simp) (by omega)) (by omega)) (.cons (.cons trivial)) (fun L' X'' i hi => Src.rangeN (k := 10) (.blt (pf'.blt _) (by boot_fast)) (.nat 10) (by omega))
    (fun L' X'' i p hi hp => ⟨.nil, fun _ => .tuple (.cons (.addStr (.strN (.blt (pf'.blt _) (by boot_fast)) .name (by omega)) (.itemN (.itemN .name .name (rows_get hi) (by omega)) .name (dchr_get hp) (by omega)) (hsz _ ?_)) (.cons (.itemN .name .name (files_get hi) (by omega)) .nil)) (hsz _ (by simp))⟩) (by omega)) (congrArg PyData.list (pairs_tab ms))) fun s₉ st₉ => ?_
  · have := tostr_len p hp
    show _ + 1 ≤ 200; omega
  have htl : (tab ms).length ≤ 100 := by rw [tab_len]; omega
  refine s_ifD st₉ (.cmp (.items pf'.toPF rfl .name tb (.head _) htl room') .name (.neL (lay_pairs (tab_ok h5)))) fun sA stA => ?_
  refine s_assign stA (.list .nil (hsz _ (by simp))) fun sB stB => ?_
  refine s_assign stB (.list .nil (hsz _ (by simp))) fun sC stC => ?_
  refine s_assign stC (.list .nil (hsz _ (by simp))) fun sD stD => ?_
  refine s_assign stD (.list .nil (hsz _ (by simp))) fun sE stE => ?_
  have room3 : Room (lawS w G' doc pm code A L fa).A (n + 3) := room'.le (by omega)
  refine s_for (ds := [nat l.sum, nat (l.sum / 7 + 5)]) (fun d => [("total", d)]) (fun k => match k with | 0 => lawV ms l H | 1 => turnV ms (pkOf ms l.sum) (lawV ms l H) | _ => turnV ms (pkOf ms (l.sum / 7 + 5)) (lawV ms l H)) (fun _ => [(D, pairs (tab ms))]) (fun _ _ => False) stE
    (Src.walk (.list (.list (.cons (.sum (.blt (pf'.blt _) (by boot_fast)) .name) (.cons (.addN (.fdivN (.sum (.blt (pf'.blt _) (by boot_fast)) .name) (.nat 7) (by decide) (by decide)) (.nat 5)) .nil)) (hsz _ (by simp))))) ⟨rfl, rfl, rfl, rfl, rfl, rfl, rfl, trivial⟩ (fun _ _ _ => .name) (fun k d hd F P fq sF hFX stF => ?_) (fun _ _ _ q => q.elim) fun sF stF => ?_
  · match k, hd with
    | 0, hd =>
      cases hd
      refine wpAny_mono (law_turn pf' tb room3 h3 h5 (t := l.sum) (s_less stF ⟨rfl, rfl, rfl, rfl, rfl, rfl, rfl, rfl, trivial⟩) fun s' st' => st') (fun fl s' q => ?_) fun _ _ q => q
      obtain ⟨rfl, q⟩ := q
      exact q
    | 1, hd =>
      cases hd
      refine wpAny_mono (law_turn pf' tb room3 h3 h5 (t := l.sum / 7 + 5) (s_less stF ⟨rfl, rfl, rfl, rfl, rfl, rfl, rfl, rfl, trivial⟩) fun s' st' => st') (fun fl s' q => ?_) fun _ _ q => q
      obtain ⟨rfl, q⟩ := q
      exact q
    | k + 2, hd => simp at hd
  · refine wpAny_execs_nil ?_
    have hb := bits_lt ms.length (l.sum / 7 + 5) h3
    exact law_tail pf' tb room3 h3 h5 (pick_up _ h5) (fun i hi => pick_lt hi) (pick_ne h5 hb.1 hb.2) stF fun s' g => ⟨rfl, g.less fun b e => mo.sup e hF⟩
end Mine
end
section
open PySem PySem.Spec PySem.SeqAt PySem.Calls PyProof.Rows PySem.W
open PySem.Builtin.Re


set_option maxRecDepth 100000
namespace Mine
theorem map_seen {α β : Type} {f g : α → β} {l : List α} (e : l.map f = l.map g) {x : α} (m : x ∈ l) : f x = g x := List.map_inj_left.mp e x m
theorem fn_seen {h₀ : Heap} (e : sight h₀ = goodSight) {i : Nat} {a : Addr} {mk : Value → Value → Value → FuncData} (x : fnList[i]? = some (a, mk)) : seeFn h₀ a = goodFn mk :=
  map_seen (f := fun p : Addr × (Value → Value → Value → FuncData) => seeFn h₀ p.1) (g := fun p => goodFn p.2) (l := fnList) (congrArg Sight.fns e) (List.mem_of_getElem? x)
theorem hasFn_of {h₀ : Heap} {G : Glob} (k : ∀ b o, h₀.get? b = some o → G.top.get? b = some o) {a : Addr} {st : Stmt} {name qual : Str} {dfl kwd : Value} (e : seeFn h₀ a = goodFn (mkFd st name qual dfl kwd)) : HasFn G a (mkFd st name qual dfl kwd) := by
  obtain ⟨doc, pm, code, o, h1, h2, h3, h4⟩ := seeFn_spec e
  exact ⟨doc, pm, code, ⟨o, k _ _ h1, h2, h3⟩, h4.keeps k, rfl, rfl⟩
theorem obj_seen {h₀ : Heap} (e : sight h₀ = goodSight) {i : Nat} {a : Addr} {o : Obj} (x : objList[i]? = some (a, o)) : h₀.get? a = some o :=
  map_seen (f := fun p : Addr × Obj => h₀.get? p.1) (g := fun p => some p.2) (l := objList) (congrArg Sight.objs e) (List.mem_of_getElem? x)
theorem hdr_seen {h₀ : Heap} (e : sight h₀ = goodSight) {i : Nat} {x : Str} {v : Option Value} (m : hdrList[i]? = some (x, v)) : h₀.nsMap 359 x = v :=
  map_seen (f := fun p : Str × Option Value => h₀.nsMap 359 p.1) (g := fun p => p.2) (l := hdrList) (congrArg Sight.hdr e) (List.mem_of_getElem? m)
theorem mis_seen {h₀ : Heap} (e : sight h₀ = goodSight) {i : Nat} {x : Str} {v : Option Value} (m : misList[i]? = some (x, v)) : h₀.nsMap 158 x = v :=
  map_seen (f := fun p : Str × Option Value => h₀.nsMap 158 p.1) (g := fun p => p.2) (l := misList) (congrArg Sight.mis e) (List.mem_of_getElem? m)
theorem globs_seen {h₀ : Heap} (e : sight h₀ = goodSight) : ∀ p ∈ globList, h₀.nsMap mainGlobals p.1 = some (.ref p.2) := fun p hp => map_seen (f := fun p : Str × Addr => h₀.nsMap mainGlobals p.1) (g := fun p => some (Value.ref p.2)) (l := globList) (congrArg Sight.globs e) hp
theorem nots_seen {h₀ : Heap} (e : sight h₀ = goodSight) : ∀ x ∈ builtinNames, h₀.nsMap mainGlobals x = none := fun x hx => map_seen (f := h₀.nsMap mainGlobals) (g := fun _ => none) (l := builtinNames) (congrArg Sight.nots e) hx
noncomputable def globVals : List (Str × Value) := globList.map fun p => (p.1, .ref p.2)
theorem glob_mem {i : Nat} {x : Str} {a : Addr} (m : globVals[i]? = some (x, .ref a)) : (x, Value.ref a) ∈ globVals := List.mem_of_getElem? m
theorem pf_of {h₀ : Heap} (e : sight h₀ = goodSight) {G : Glob} (k : ∀ b o, h₀.get? b = some o → G.top.get? b = some o) (hg : G.globs = globVals) (hn : G.nots = builtinNames) : PF3 G := by
  have nss := congrArg Sight.nss e
  have nss' : [h₀.isNs mainGlobals, h₀.isNs 359, h₀.isNs 158, h₀.isNs cStatics] = [true, true, true, true] := nss
  simp only [List.cons.injEq, and_true] at nss'
  obtain ⟨n1, n2, n3, n4⟩ := nss'
  have pats : [seePat h₀ 226, seePat h₀ 231] = [goodPat nameCode, goodPat valueCode] := congrArg Sight.pats e
  simp only [List.cons.injEq, and_true] at pats
  have tab : seeNest h₀ 3 (.ref 209) = nestTab := congrArg Sight.tab e
  have any : h₀.nsMap cStatics "thirdparty.any" = none := congrArg Sight.any e
  have mem : ∀ {i : Nat} {x : Str} {a : Addr}, globVals[i]? = some (x, .ref a) → (x, Value.ref a) ∈ G.globs := fun m => hg ▸ glob_mem m
  refine {
    nots := fun x hx => hn ▸ hx, gName := mem (i := 0) rfl, gValue := mem (i := 1) rfl, pName := (seePat_spec pats.1).keeps k, pValue := (seePat_spec pats.2).keeps k, gHdr := mem (i := 2) rfl, cHdr := ?cHdr, fInit := ?fInit,
    fConv := hasFn_of k (fn_seen e (i := 1) rfl), fDel := hasFn_of k (fn_seen e (i := 2) rfl), fGetAll := hasFn_of k (fn_seen e (i := 3) rfl), fValues := hasFn_of k (fn_seen e (i := 4) rfl), fItems := hasFn_of k (fn_seen e (i := 5) rfl), fAdd := hasFn_of k (fn_seen e (i := 6) rfl),
    gSld := mem (i := 3) rfl, fSld := hasFn_of k (fn_seen e (i := 7) rfl),
    gTab := mem (i := 4) rfl, rTab := (nestTab_spec tab).mono fun b o hb ho => ⟨hb, k _ _ ho⟩, gIfmt := mem (i := 5) rfl, fIfmt := hasFn_of k (fn_seen e (i := 8) rfl), gFm := mem (i := 6) rfl, fFm := hasFn_of k (fn_seen e (i := 9) rfl),
    gModes := mem (i := 7) rfl, fModes := hasFn_of k (fn_seen e (i := 10) rfl), gRow := mem (i := 8) rfl, fRow := hasFn_of k (fn_seen e (i := 11) rfl), gTable := mem (i := 9) rfl, fTable := hasFn_of k (fn_seen e (i := 12) rfl),
    gMeet := mem (i := 10) rfl, fMeet := hasFn_of k (fn_seen e (i := 13) rfl), gStrike := mem (i := 11) rfl, fStrike := hasFn_of k (fn_seen e (i := 14) rfl), gAnswer := mem (i := 12) rfl, fAnswer := hasFn_of k (fn_seen e (i := 15) rfl),
    gCount := mem (i := 13) rfl, fCount := hasFn_of k (fn_seen e (i := 16) rfl), gMis := mem (i := 14) rfl, cMis := ?cMis, fMis := hasFn_of k (fn_seen e (i := 17) rfl) }
  case cHdr =>
    refine ⟨h₀.nsMap 359, ⟨⟨_, _, _, _, _, _, _, _, _, _, _, _, k _ _ (obj_seen e (i := 0) rfl)⟩, (Heap.Ns.of_isNs n2).keeps k⟩, ?_⟩
    exact ⟨hdr_seen e (i := 0) rfl, hdr_seen e (i := 1) rfl, hdr_seen e (i := 2) rfl, hdr_seen e (i := 3) rfl, hdr_seen e (i := 4) rfl, hdr_seen e (i := 5) rfl, hdr_seen e (i := 6) rfl, hdr_seen e (i := 7) rfl, hdr_seen e (i := 8) rfl, hdr_seen e (i := 9) rfl, hdr_seen e (i := 10) rfl⟩
  case fInit =>
    obtain ⟨doc, pm, code, f⟩ := hasFn_of (G := G) k (fn_seen e (i := 0) rfl)
    exact ⟨doc, pm, code, _, 0, f, k _ _ (obj_seen e (i := 3) rfl), rfl⟩
  case cMis =>
    exact ⟨⟨_, _, _, _, _, _, _, _, _, _, _, _, k _ _ (obj_seen e (i := 1) rfl)⟩, ⟨_, (Heap.Ns.of_isNs n3).keeps k, mis_seen e (i := 0) rfl, mis_seen e (i := 1) rfl, mis_seen e (i := 2) rfl, mis_seen e (i := 3) rfl⟩, ⟨_, (Heap.Ns.of_isNs n4).keeps k, any⟩, ⟨_, k _ _ (obj_seen e (i := 2) rfl), rfl, rfl⟩⟩

theorem Ns_same {h : Heap} {a : Addr} {m m' : Str → Option Value} (x : h.Ns a m) (y : h.Ns a m') (n : Str) : m n = m' n := by
  obtain ⟨o, es, ep, ho, hd, _, hf⟩ := x
  obtain ⟨o', es', ep', ho', hd', _, hf'⟩ := y
  rw [ho] at ho'; cases ho'
  rw [hd] at hd'; cases hd'
  rw [← hf, ← hf']

noncomputable def SawIt (w : World) (h : Heap) : Prop := ∃ h₀, sight h₀ = goodSight ∧ ∀ b o, h₀.get? b = some o → h.get? b = some o

theorem rd_ints {h : Heap} : ∀ {z : List Int} {vs : List Value} {P : Params}, WellAll P h vs (z.map .int) → RdAll [] h (z.map .int) vs
  | [], _, _, x => by cases x; simp only [List.map_nil, RdAll]
  | i :: z, _, _, x => by
    cases x with
    | cons a b =>
      cases a
      simp only [List.map_cons, RdAll]
      exact ⟨_, _, rfl, ⟨_, rfl⟩, rd_ints b⟩
theorem ints_of : ∀ {xs : List WData}, WShape.hasItems [] xs .int = true → ∃ z : List Int, xs = z.map .int
  | [], _ => ⟨[], rfl⟩
  | x :: xs, e => by
    simp only [WShape.hasItems, Bool.and_eq_true] at e
    obtain ⟨i, rfl⟩ := hasW_int e.1
    obtain ⟨z, rfl⟩ := ints_of e.2
    exact ⟨i :: z, rfl⟩
theorem grow_old {T : Heap} {s s' : Shared} (g : Grow T s s') (hT : T = s.heap) : ∀ b o, s.heap.get? b = some o → s'.heap.get? b = some o := fun b o e => by
  rcases g.ext b o e with x | ⟨n, _⟩
  · exact x
  · rw [hT, e] at n; cases n
theorem len_said {z : List Int} (x : PySem.Challenge.rw_ny0311_01.row.toRowW.pre.holds [] { args := [.list (z.map .int)] } = true) : z.length ≤ 63 := by
  have e : PySem.Challenge.rw_ny0311_01.row.toRowW.pre = .and (.not (.lt (.lit (.int 63)) (.len (.arg 0)))) (.lit (.bool true)) := rfl
  rw [e] at x
  by_cases h : z.length ≤ 63
  · exact h
  · exfalso
    have d : decide ((63 : Int) < ((z.map WData.int).length : Int)) = true := by simp; omega
    have v0 : WTm.value [] (.lt (.lit (.int 63)) (.len (.arg 0))) { args := [.list (z.map .int)] } = some (.bool (decide ((63 : Int) < ((z.map WData.int).length : Int)))) := rfl
    rw [d] at v0
    have v1 : WTm.value [] (.not (.lt (.lit (.int 63)) (.len (.arg 0)))) { args := [.list (z.map .int)] } = some (.bool false) := by rw [WTm.value, v0]; rfl
    unfold WTm.holds at x
    rw [WTm.value, v1] at x
    cases x
theorem law_walk : WalkO lawView lawLoose (fun _ _ => True) SawIt PySem.Challenge.rw_ny0311_01.row.toRowW lawRec [] fun f vs => PySem.call f vs := by
  intro w s₀ s₁ mg mb G Y fa o pm cd doc dV kV ho hd hcd hD hmg hgens args vals as hpre hlay hrd hwl hlo
  obtain ⟨h₀, e, k⟩ := Y
  obtain ⟨p1, p2⟩ := pre_splitW hpre
  obtain ⟨d, r, rfl, p3, p4⟩ := hasAllW_cons p1
  obtain rfl := hasAllW_nil p4
  obtain ⟨xs, rfl, p5⟩ := hasW_list p3
  obtain ⟨z, rfl⟩ := ints_of p5
  have n1 : h₀.isNs mainGlobals = true := (List.cons.inj (congrArg Sight.nss e)).1
  have N := (Heap.Ns.of_isNs n1).keeps k
  have hfa : fa = 409 := by
    have h1 := (Ns_same N G.T.g "law").trans hmg
    have h2 := globs_seen e ("law", 409) (List.mem_of_getElem? (i := 15) rfl)
    have h3 : some (Value.ref 409) = some (.ref fa) := h2.symm.trans h1
    injection h3 with h3; injection h3 with h3; exact h3.symm
  subst hfa
  let GG : Glob := ⟨s₁.heap, globVals, builtinNames, ⟨h₀.nsMap mainGlobals, mb, N, G.T.b, fun p hp => by
    obtain ⟨q, hq, rfl⟩ := List.mem_map.mp hp
    exact globs_seen e q hq, nots_seen e, G.T.builtins⟩, G.T.nolimit⟩
  have pf : PF3 GG := pf_of e k rfl rfl
  have f : HasFn GG 409 lawFd := hasFn_of k (fn_seen e (i := 18) rfl)
  have hz : z.length ≤ 63 := len_said p2
  cases hwl with
  | cons hv hn =>
    cases hn
    cases hv with
    | list hl hws =>
      refine wpAny_mono (law_ok (n := 0) pf f hz ⟨by decide, rfl, by decide⟩ ⟨⟨[], rfl, fun _ h => absurd h List.not_mem_nil⟩, fun _ _ h => h, fun _ h => absurd h List.not_mem_nil⟩ (Rd.list_ List.not_mem_nil hl (rd_ints hws))) (fun u s' q => ?_) fun _ _ q => q.elim
      obtain ⟨rfl, g⟩ := q
      have kk := grow_old g rfl
      refine GoodW.toG ⟨.inl ⟨_, .bool true, [], rfl, fun _ => rfl, .bool true, by kernel_rfl!, fun _ => ⟨.nil, fun _ h => absurd h List.not_mem_nil⟩⟩, kk, g.os, g.gens.trans hgens⟩
end Mine
theorem PySem.Challenge.cw_ny0311_01_holds : PySem.Challenge.rw_ny0311_01.Holds :=
  holds_law Mine.law_well fun said => PySem.W.holds_open (r := PySem.Challenge.rw_ny0311_01.row) (q := Mine.lawView) (loose := Mine.lawLoose) (Xt := fun _ => true) (XP := fun _ _ => True) (YP := Mine.SawIt) (N := 6394) Mine.law_left (fun w s e => ⟨s.heap, e, fun _ _ h => h⟩) (fun w h h' y k => let ⟨h₀, e, k₀⟩ := y; ⟨h₀, e, fun b o x => k b o (k₀ b o x)⟩) (fun _ _ => trivial) (fun _ _ _ _ _ => trivial) Mine.lawRec_def Mine.lawRec_the Mine.lawRec_kw (fun s _ => recFacts_nil rfl) (by rfl) said Mine.lrow_ok Mine.row_bare Mine.row_promised Mine.law_walk
end
