import PyProof.Rows.All
import Wide.All
import OpenK.AllK
import Wide.FinOn
import PySem.Challenge.RW_wf0094_01
set_option Elab.async false
set_option linter.all false
set_option maxRecDepth 100000
set_option linter.unusedVariables false
namespace Mine
open PySem PySem.W PySem.Calls PyProof.Rows

noncomputable def stm (i : Nat) : Stmt := match PySem.Challenge.pw_wf0094_01.main.body[i]? with | some s => s | none => .Pass ⟨0, 0, 0, 0⟩
noncomputable def inner (i j : Nat) : Stmt := match stm i with
  | .ClassDef _ _ _ b .. => (match b[j]? with | some s => s | none => .Pass ⟨0, 0, 0, 0⟩)
  | _ => .Pass ⟨0, 0, 0, 0⟩
noncomputable def bodyOf : Stmt → List Stmt
  | .FunctionDef _ _ b .. => b
  | _ => []
noncomputable def scopeOf : Stmt → Scope
  | .FunctionDef _ _ _ _ _ _ s .. => s
  | _ => default
noncomputable def paramsOf : Stmt → Arguments
  | .FunctionDef _ p .. => p
  | _ => default
noncomputable def nameOf : Stmt → Str
  | .FunctionDef n .. => n
  | _ => ""
noncomputable def fdOf (s : Stmt) (qual : Str) (dflt : Value) (mod : Value) (c : Addr) : FuncData :=
  { name := nameOf s, qualname := qual, params := paramsOf s, body := .stmts (bodyOf s), scope := scopeOf s, globals := mainGlobals, closure := [], defaults := dflt, kwdefaults := .none, doc := .none, pyModule := mod, annotations := none, code := .ref c, closureTuple := .none, builtins := builtinsNs }
noncomputable def mH : Value := .str "cpy313.wsgiref.headers" 282
noncomputable def mP : Value := .str "cpy313._pylong" 546
noncomputable def mN : Value := .str "cpy313.netrc" 570
noncomputable def mT : Value := .str "cpy313.token" 630
noncomputable def mL : Value := .str "law_wf0094_01" 850
noncomputable def fHinit : FuncData := fdOf (inner 6 0) "Headers.__init__" (.ref 62) mH 68
noncomputable def fConv : FuncData := fdOf (inner 6 1) "Headers._convert_string_type" .none mH 75
noncomputable def fGetAll : FuncData := fdOf (inner 6 7) "Headers.get_all" .none mH 113
noncomputable def fGet : FuncData := fdOf (inner 6 8) "Headers.get" (.ref 115) mH 121
noncomputable def fItems : FuncData := fdOf (inner 6 11) "Headers.items" .none mH 138
noncomputable def fSetd : FuncData := fdOf (inner 6 15) "Headers.setdefault" .none mH 164
noncomputable def fAddH : FuncData := fdOf (inner 6 16) "Headers.add_header" .none mH 171
noncomputable def fI2d : FuncData := fdOf (stm 8) "_int2digits" .none mP 185
noncomputable def fD2i : FuncData := fdOf (stm 9) "_digits2int" .none mP 192
noncomputable def fNinit : FuncData := fdOf (inner 11 0) "_netrclex.__init__" .none mN 206
noncomputable def fRead : FuncData := fdOf (inner 11 1) "_netrclex._read_char" .none mN 213
noncomputable def fTok : FuncData := fdOf (inner 11 2) "_netrclex.get_token" .none mN 220
noncomputable def fPush : FuncData := fdOf (inner 11 3) "_netrclex.push_token" .none mN 227
noncomputable def fTerm : FuncData := fdOf (stm 64) "ISTERMINAL" .none mT 244
noncomputable def fNont : FuncData := fdOf (stm 65) "ISNONTERMINAL" .none mT 251
noncomputable def fEof : FuncData := fdOf (stm 66) "ISEOF" .none mT 258
noncomputable def fLexer : FuncData := fdOf (stm 68) "_law_lexer" .none mL 265
noncomputable def fOps : FuncData := fdOf (stm 69) "_law_operators" .none mL 272
noncomputable def fCut : FuncData := fdOf (stm 70) "_law_cut" .none mL 277
noncomputable def fSpell : FuncData := fdOf (stm 71) "_law_spelled" .none mL 282
noncomputable def fNear : FuncData := fdOf (stm 72) "_law_near" .none mL 287
noncomputable def fDue : FuncData := fdOf (stm 73) "_law_due" .none mL 292
noncomputable def fImage : FuncData := fdOf (stm 74) "_law_image" .none mL 297
noncomputable def fSeen : FuncData := fdOf (stm 75) "_law_seen" .none mL 302
noncomputable def fOver : FuncData := fdOf (stm 76) "_law_over" .none mL 309
noncomputable def fDeeds : FuncData := fdOf (stm 77) "_law_deeds" .none mL 314
noncomputable def fLaw : FuncData := fdOf (stm 78) "law" .none mL 319

noncomputable abbrev fnTab : List (Addr × FuncData) := [(69, fHinit), (76, fConv), (114, fGetAll), (122, fGet), (139, fItems), (165, fSetd), (172, fAddH), (186, fI2d), (193, fD2i), (207, fNinit), (214, fRead), (221, fTok), (228, fPush), (245, fTerm), (252, fNont), (259, fEof),
  (266, fLexer), (273, fOps), (278, fCut), (283, fSpell), (288, fNear), (293, fDue), (298, fImage), (303, fSeen), (310, fOver), (315, fDeeds), (320, fLaw)]
noncomputable abbrev glTab : List (Str × Addr) := [("_name_disallowed_re", 41), ("_value_disallowed_re", 46), ("Headers", 175), ("_int2digits", 186), ("_digits2int", 193), ("_netrclex", 231), ("EXACT_TOKEN_TYPES", 236), ("ISTERMINAL", 245), ("ISNONTERMINAL", 252), ("ISEOF", 259), ("_law_lexer", 266),
  ("_law_operators", 273), ("_law_cut", 278), ("_law_spelled", 283), ("_law_near", 288), ("_law_due", 293), ("_law_image", 298), ("_law_seen", 303), ("_law_over", 310), ("_law_deeds", 315), ("law", 320)]
noncomputable abbrev blTab : List (Str × Value) := [("type", .type "type"), ("list", .type "list"), ("str", .type "str"), ("range", .type "range"), ("set", .type "set"), ("enumerate", .type "enumerate"), ("zip", .type "zip"), ("len", .builtin "len"), ("sum", .builtin "sum"), ("sorted", .builtin "sorted"), ("iter", .builtin "iter")]
noncomputable abbrev methTab : List (Addr × Str × Addr) := [(175, "__init__", 69), (175, "_convert_string_type", 76), (175, "get_all", 114), (175, "get", 122), (175, "items", 139), (175, "setdefault", 165), (175, "add_header", 172),
  (231, "__init__", 207), (231, "_read_char", 214), (231, "get_token", 221), (231, "push_token", 228)]
noncomputable abbrev attrTab : List (Addr × Str) := [(175, "_headers"), (231, "lineno"), (231, "instream"), (231, "whitespace"), (231, "pushback"), (231, "read")]

noncomputable def exD : List (Str × Int) := [(("!" : Str), (54 : Int)), (("!=" : Str), (28 : Int)), (("%" : Str), (24 : Int)), (("%=" : Str), (40 : Int)), (("&" : Str), (19 : Int)), (("&=" : Str), (41 : Int)), (("(" : Str), (7 : Int)), ((")" : Str), (8 : Int)), (("*" : Str), (16 : Int)), (("**" : Str), (35 : Int)), (("**=" : Str), (46 : Int)), (("*=" : Str), (38 : Int)), (("+" : Str), (14 : Int)), (("+=" : Str), (36 : Int)), (("," : Str), (12 : Int)), (("-" : Str), (15 : Int)), (("-=" : Str), (37 : Int)), (("->" : Str), (51 : Int)), (("." : Str), (23 : Int)), (("..." : Str), (52 : Int)), (("/" : Str), (17 : Int)), (("//" : Str), (47 : Int)), (("//=" : Str), (48 : Int)), (("/=" : Str), (39 : Int)), ((":" : Str), (11 : Int)), ((":=" : Str), (53 : Int)), ((";" : Str), (13 : Int)), (("<" : Str), (20 : Int)), (("<<" : Str), (33 : Int)), (("<<=" : Str), (44 : Int)), (("<=" : Str), (29 : Int)), (("=" : Str), (22 : Int)), (("==" : Str), (27 : Int)), ((">" : Str), (21 : Int)), ((">=" : Str), (30 : Int)), ((">>" : Str), (34 : Int)), ((">>=" : Str), (45 : Int)), (("@" : Str), (49 : Int)), (("@=" : Str), (50 : Int)), (("[" : Str), (9 : Int)), (("]" : Str), (10 : Int)), (("^" : Str), (32 : Int)), (("^=" : Str), (43 : Int)), (("{" : Str), (25 : Int)), (("|" : Str), (18 : Int)), (("|=" : Str), (42 : Int)), (("}" : Str), (26 : Int)), (("~" : Str), (31 : Int))]
noncomputable def opsL : List Str := [("(" : Str), (")" : Str), ("[" : Str), ("]" : Str), (":" : Str), ("," : Str), (";" : Str), ("+" : Str), ("-" : Str), ("*" : Str), ("/" : Str), ("|" : Str), ("&" : Str), ("<" : Str), (">" : Str), ("=" : Str), ("." : Str), ("%" : Str), ("{" : Str), ("}" : Str), ("==" : Str), ("!=" : Str), ("<=" : Str), (">=" : Str), ("~" : Str), ("^" : Str), ("<<" : Str), (">>" : Str), ("**" : Str), ("+=" : Str), ("-=" : Str), ("*=" : Str), ("/=" : Str), ("%=" : Str), ("&=" : Str), ("|=" : Str), ("^=" : Str), ("<<=" : Str), (">>=" : Str), ("**=" : Str), ("//" : Str), ("//=" : Str), ("@" : Str), ("@=" : Str), ("->" : Str), ("..." : Str), (":=" : Str), ("!" : Str)]
theorem none_no {α : Type} {a : α} {P : Prop} (e : none = some a) : P := absurd e.symm (Option.some_ne_none a)
noncomputable def dSeq (d : Data) : Option (Array Value) := Data.casesOn (motive := fun _ => Option (Array Value)) d none (fun _ => none) (fun x _ => some x) (fun _ _ => none) (fun _ _ _ => none) (fun _ _ => none) (fun _ => none) (fun _ => none) (fun _ => none) (fun _ => none) none
noncomputable def dDict (d : Data) : Option (Array DictEntry) := Data.casesOn (motive := fun _ => Option (Array DictEntry)) d none (fun _ => none) (fun _ _ => none) (fun x _ => some x) (fun _ _ _ => none) (fun _ _ => none) (fun _ => none) (fun _ => none) (fun _ => none) (fun _ => none) none
noncomputable def dFunc (d : Data) : Option FuncData := Data.casesOn (motive := fun _ => Option FuncData) d none (fun _ => none) (fun _ _ => none) (fun _ _ => none) (fun _ _ _ => none) (fun _ _ => none) (fun _ => none) (fun x => some x) (fun _ => none) (fun _ => none) none
noncomputable def dFields (d : Data) : Option (Array Value) := Data.casesOn (motive := fun _ => Option (Array Value)) d none (fun _ => none) (fun _ _ => none) (fun _ _ => none) (fun _ _ _ => none) (fun _ _ => none) (fun _ => none) (fun _ => none) (fun _ => none) (fun x => some x) none
noncomputable def vBool (v : Value) : Option Bool := Value.casesOn (motive := fun _ => Option Bool) v none none none (fun x => some x) (fun _ _ => none) (fun _ _ => none) (fun _ _ => none) (fun _ _ => none) (fun _ => none) (fun _ => none) (fun _ => none)
noncomputable def vInt (v : Value) : Option Int := Value.casesOn (motive := fun _ => Option Int) v none none none (fun _ => none) (fun x _ => some x) (fun _ _ => none) (fun _ _ => none) (fun _ _ => none) (fun _ => none) (fun _ => none) (fun _ => none)
noncomputable def vStr (v : Value) : Option Str := Value.casesOn (motive := fun _ => Option Str) v none none none (fun _ => none) (fun _ _ => none) (fun _ _ => none) (fun x _ => some x) (fun _ _ => none) (fun _ => none) (fun _ => none) (fun _ => none)
noncomputable def vRef (v : Value) : Option Addr := Value.casesOn (motive := fun _ => Option Addr) v none none none (fun _ => none) (fun _ _ => none) (fun _ _ => none) (fun _ _ => none) (fun _ _ => none) (fun _ => none) (fun _ => none) (fun x => some x)
theorem dSeq_of {x : Data} {y : Array Value} : dSeq x = some y → ∃ n, x = .seq y n := Data.casesOn (motive := fun x => dSeq x = some y → ∃ n, x = .seq y n) x none_no (fun _ => none_no) (fun _ n e => ⟨n, congrArg (Data.seq · n) (Option.some.inj e)⟩) (fun _ _ => none_no) (fun _ _ _ => none_no) (fun _ _ => none_no) (fun _ => none_no) (fun _ => none_no) (fun _ => none_no) (fun _ => none_no) none_no
theorem dDict_of {x : Data} {y : Array DictEntry} : dDict x = some y → ∃ n, x = .dict y n := Data.casesOn (motive := fun x => dDict x = some y → ∃ n, x = .dict y n) x none_no (fun _ => none_no) (fun _ _ => none_no) (fun _ n e => ⟨n, congrArg (Data.dict · n) (Option.some.inj e)⟩) (fun _ _ _ => none_no) (fun _ _ => none_no) (fun _ => none_no) (fun _ => none_no) (fun _ => none_no) (fun _ => none_no) none_no
theorem dFunc_of {x : Data} {y : FuncData} : dFunc x = some y → x = .func y := Data.casesOn (motive := fun x => dFunc x = some y → x = .func y) x none_no (fun _ => none_no) (fun _ _ => none_no) (fun _ _ => none_no) (fun _ _ _ => none_no) (fun _ _ => none_no) (fun _ => none_no) (fun _ e => congrArg Data.func (Option.some.inj e)) (fun _ => none_no) (fun _ => none_no) none_no
theorem dFields_of {x : Data} {y : Array Value} : dFields x = some y → x = .fields y := Data.casesOn (motive := fun x => dFields x = some y → x = .fields y) x none_no (fun _ => none_no) (fun _ _ => none_no) (fun _ _ => none_no) (fun _ _ _ => none_no) (fun _ _ => none_no) (fun _ => none_no) (fun _ => none_no) (fun _ => none_no) (fun _ e => congrArg Data.fields (Option.some.inj e)) none_no
theorem vBool_of {x : Value} {y : Bool} : vBool x = some y → x = .bool y := Value.casesOn (motive := fun x => vBool x = some y → x = .bool y) x none_no none_no none_no (fun _ e => congrArg Value.bool (Option.some.inj e)) (fun _ _ => none_no) (fun _ _ => none_no) (fun _ _ => none_no) (fun _ _ => none_no) (fun _ => none_no) (fun _ => none_no) (fun _ => none_no)
theorem vInt_of {x : Value} {y : Int} : vInt x = some y → ∃ t, x = .int y t := Value.casesOn (motive := fun x => vInt x = some y → ∃ t, x = .int y t) x none_no none_no none_no (fun _ => none_no) (fun _ t e => ⟨t, congrArg (Value.int · t) (Option.some.inj e)⟩) (fun _ _ => none_no) (fun _ _ => none_no) (fun _ _ => none_no) (fun _ => none_no) (fun _ => none_no) (fun _ => none_no)
theorem vStr_of {x : Value} {y : Str} : vStr x = some y → ∃ t, x = .str y t := Value.casesOn (motive := fun x => vStr x = some y → ∃ t, x = .str y t) x none_no none_no none_no (fun _ => none_no) (fun _ _ => none_no) (fun _ _ => none_no) (fun _ t e => ⟨t, congrArg (Value.str · t) (Option.some.inj e)⟩) (fun _ _ => none_no) (fun _ => none_no) (fun _ => none_no) (fun _ => none_no)
theorem vRef_of {x : Value} {y : Addr} : vRef x = some y → x = .ref y := Value.casesOn (motive := fun x => vRef x = some y → x = .ref y) x none_no none_no none_no (fun _ => none_no) (fun _ _ => none_no) (fun _ _ => none_no) (fun _ _ => none_no) (fun _ _ => none_no) (fun _ => none_no) (fun _ => none_no) (fun _ e => congrArg Value.ref (Option.some.inj e))
theorem ite_some {c : Prop} [Decidable c] {α : Type} {x : Option α} {a : α} (h : (if c then x else none) = some a) : c ∧ x = some a := by
  by_cases q : c
  · rw [if_pos q] at h; exact ⟨q, h⟩
  · rw [if_neg q] at h; exact none_no h
noncomputable def fdAt (t : X.KT) (f : Addr) : Option FuncData := (t.get f).bind fun o => if o.cls = .type "function" then dFunc o.data else none
noncomputable def fieldAt (t : X.KT) (c : Addr) : Option (Array Value) := (t.get c).bind fun o => if o.cls = .type "code" then dFields o.data else none
noncomputable def cqAt (t : X.KT) (c : Value) : Option Str := (vRef c).bind fun a => (fieldAt t a).bind fun vs => (vs[1]? : Option Value).bind vStr
noncomputable def nsAt (t : X.KT) (a : Addr) (x : Str) : Option (Option Value) := (t.get a).bind fun o => (dDict o.data).map fun es => nsFind es x
noncomputable def intAt (t : X.KT) (a : Addr) (x : Str) : Option Int := (nsAt t a x).bind fun r => r.bind vInt
noncomputable def chOk (vs : Array Value) : Bool := (vStr (vs.getD 18 .none)).isSome && ((vInt (vs.getD 7 .none)).isSome && ((vBool (vs.getD 9 .none)).isSome && (vInt (vs.getD 10 .none)).isSome))
noncomputable def chAt (t : X.KT) (c : Addr) : Option Addr := (fieldAt t c).bind fun vs => if chOk vs = true then (vs[11]? : Option Value).bind vRef else none
noncomputable def reAt (t : X.KT) (p : Addr) : Option (Option Addr × Value × Value × Value) := (t.get p).bind fun o => if o.cls = .type "re.Pattern" then (dFields o.data).map fun vs => (o.dict, vs.getD 6 .none, vs.getD 2 .none, vs.getD 5 .none) else none
noncomputable def rawAt (t : X.KT) (p : Addr) : Option (Array Nat) := (t.get p).bind fun o => (dSeq o.data).map fun items => (items.map Builtin.Re.reRawOf).map (·.toNat)
noncomputable def intRows : List DictEntry → Option (List (Str × Int))
  | [] => some []
  | e :: es => (vStr e.key).bind fun x => (vInt e.val).bind fun i => (intRows es).map fun D => (x, i) :: D
noncomputable def tabAt (t : X.KT) (a : Addr) : Option (List (Str × Int)) := (t.get a).bind fun o => if o.cls = .type "dict" ∧ o.dict = none ∧ o.slots.size = 0 then (dDict o.data).bind fun es => intRows es.toList else none
noncomputable def reC1 : Array Nat := #[14, 10, 4, 1, 1, 22, 0, 31, 16, 127, 0, 13, 7, 22, 0, 31, 16, 127, 0, 1]
noncomputable def reC2 : Array Nat := #[14, 14, 4, 1, 1, 9, 4294966783, 0, 0, 2147483648, 0, 0, 0, 0, 0, 13, 11, 9, 4294966783, 0, 0, 2147483648, 0, 0, 0, 0, 0, 1]
noncomputable def okSet (r : Except String (Bool × Sre.Seen)) : Option Bool := Except.casesOn (motive := fun _ => Option Bool) r (fun _ => none) fun p => some p.1
noncomputable def cutK (K : Frag) : Frag := K.filter fun q => !(([181, 188, 261] : List Addr).contains q.1)

noncomputable abbrev T16 := List (Option Obj) × List (Option FuncData) × List (Option Str) × List (Bool × Option (Option Value) × Option Bool) × List (Option (Option Value)) × List (Option (Option Value)) × List (Option (Option Value)) × List (Option (Option Value)) × List (Bool × Bool × Bool × Bool × Option (Option Value) × Bool) × Option Int × Option Int × List (Option (Option Addr × Value × Value × Value)) × List (Option (Array Nat)) × List (Option Addr) × Option (List (Str × Int)) × List (Option Obj)
noncomputable def obs16 (t : X.KT) (K : Frag) : T16 := (
  (([181, 188, 261] : List Addr).map t.get),
  (fnTab.map (fun p => fdAt t p.1)),
  (fnTab.map (fun p => cqAt t p.2.code)),
  (fnTab.map (fun p => (isFn K (.ref p.1), specialIn K (.ref p.1) "__get__", takesIn K (.ref p.1)))),
  (glTab.map (fun p => nsAt t 3 p.1)),
  (blTab.map (fun p => nsAt t 3 p.1)),
  (methTab.map (fun p => findIn K (.ref p.1) p.2.1)),
  (attrTab.map (fun p => findIn K (.ref p.1) p.2)),
  (([175, 231] : List Addr).map (fun C => (makesIn K C, plainGet K C "", hasDictIn K C, plainOver K C, findIn K (.ref C) "__setattr__", keepIn K (.ref C)))),
  (intAt t 3 "ENDMARKER"),
  (intAt t 3 "NT_OFFSET"),
  ([reAt t 41, reAt t 46]),
  ([rawAt t 40, rawAt t 45]),
  ([chAt t 185, chAt t 192, chAt t 265]),
  (tabAt t 236),
  (([62, 115] : List Addr).map t.get))
noncomputable def val16 : T16 := (
  (([181, 188, 261] : List Addr).map fun _ => some { cls := .none, data := .fields #[] }),
  (fnTab.map fun p => some p.2),
  (fnTab.map fun p => some p.2.qualname),
  (fnTab.map fun _ => (true, some (some (.builtin "function.__get__")), some false)),
  (glTab.map fun p => some (some (.ref p.2))),
  (blTab.map fun _ => some none),
  (methTab.map fun p => some (some (.ref p.2.2))),
  (attrTab.map fun _ => some none),
  (([175, 231] : List Addr).map fun _ => (true, true, true, true, some (some (.builtin "object.__setattr__")), true)),
  (some 0),
  (some 256),
  ([some (none, .int 0 0, .int 0 0, .ref 40), some (none, .int 0 0, .int 0 0, .ref 45)]),
  ([some reC1, some reC2]),
  ([some 181, some 188, some 261]),
  (some exD),
  (([62, 115] : List Addr).map fun _ => some { cls := .type "tuple", data := .seq #[.none] }))
noncomputable def fragOf (h : Heap) : Frag := (List.range 321).filterMap fun a => (h.get? a).map fun o => (a, o)
noncomputable def obs (s : Shared) := (obs16 (X.KT.of (fragOf s.heap)) (cutK (fragOf s.heap)), s.heap.objs.size, s.toks)
noncomputable abbrev PP : Program := PySem.Challenge.pw_wf0094_01
noncomputable def vw : Program := view PP [78]
noncomputable def loo : List Str := (PP.main.scope.names.map (·.1)).filter fun x => !(x == "law")
end Mine

set_option maxRecDepth 100000
set_option linter.unusedVariables false
namespace Mine
open PySem PySem.W PySem.Calls PyProof.Rows
noncomputable def XT (s : Shared) : Bool := xlAt vw [] s && recOk [] s
noncomputable def runG (ok : Thread → Bool) (st : SharedT → Thread → Option (SharedT × Thread)) : Nat → SharedT → Thread → Option SharedT
  | 0, _, _ => none
  | n + 1, s, t => cond (through t) (some s) (cond (ok t) ((st s t).bind fun r => runG ok st n r.1 r.2) none)
theorem cond_some {α : Type} {b : Bool} {x : Option α} {a : α} (h : cond b x none = some a) : b = true ∧ x = some a := by
  cases b with
  | true => exact ⟨rfl, h⟩
  | false => exact none_no h
theorem topRun_go {tb : String → Option Builtin} {p : Program} {w : World} {n₀ : Nat} {ann : Option Value} {n : Nat} {s s' : Shared} {t t' : Thread} (h1 : through t = false) (h2 : stepOk n₀ ann t = true) (h3 : step (denote tb) p w s t = .go s' t') : topRun tb p w n₀ ann (n + 1) s t = topRun tb p w n₀ ann n s' t' := by
  rw [topRun, h1, h2, h3]
theorem topRun_end {tb : String → Option Builtin} {p : Program} {w : World} {n₀ : Nat} {ann : Option Value} {n : Nat} {s : Shared} {t : Thread} (h1 : through t = true) : topRun tb p w n₀ ann (n + 1) s t = some s := by
  rw [topRun, h1]
theorem runG_of {w : World} {n₀ : Nat} {ann : Option Value} {s' : SharedT} (n : Nat) : ∀ (s : SharedT) (t : Thread), runG (stepOk n₀ ann) (stepT (denote treeTable) PP w) n s t = some s' → topRun treeTable PP w n₀ ann n s.abs t = some s'.abs := by
  induction n with
  | zero => exact fun s t h => none_no h
  | succ n ih =>
    intro s t h
    cases he : through t with
    | true =>
      have h : cond (through t) (some s) _ = some s' := h
      rw [he] at h
      exact (topRun_end he).trans (congrArg (fun u : SharedT => some u.abs) (Option.some.inj h))
    | false =>
      have h : cond (through t) (some s) _ = some s' := h
      rw [he] at h
      have h := cond_some h
      obtain ⟨r, e, h2⟩ := Option.bind_eq_some_iff.mp h.2
      exact (topRun_go he h.1 (stepT_spec e)).trans (ih r.1 r.2 h2)
noncomputable def build : List Obj → BT → Nat → Option BT
  | [], t, _ => some t
  | o :: os, t, n => cond ((t.ins n o).get n).isSome (build os (t.ins n o) (n + 1)) none
theorem build_of {life : Life} (os : List Obj) : ∀ {t t' : BT} {n : Nat}, build os t n = some t' → absHeap t' (n + os.length) life = os.foldl Heap.push (absHeap t n life) := by
  induction os with
  | nil => exact fun h => congrArg (fun t => absHeap t _ life) (Option.some.inj h).symm
  | cons o os ih =>
    intro t t' n h
    have h := cond_some h
    rw [List.length_cons, ← Nat.add_assoc, Nat.add_right_comm, ih h.2, absHeap_ins h.1]; rfl
theorem push_all (os : List Obj) : ∀ h : Heap, os.foldl Heap.push h = ⟨h.objs ++ os.toArray, h.life⟩ := by
  induction os with
  | nil => intro h; rw [Array.append_empty]; rfl
  | cons o os ih =>
    intro h
    rw [List.foldl_cons, ih]
    exact congrArg (fun o => Heap.mk o h.life) (Array.ext' (by show (h.objs.push o ++ os.toArray).toList = (h.objs ++ (o :: os).toArray).toList; simp))
noncomputable def toT (s : Shared) : Option SharedT := (build s.heap.objs.toList .nil 0).map fun t => ⟨t, s.heap.objs.size, s.heap.life, s.gens, s.drawn, s.toks, s.os⟩
theorem toT_of {s : Shared} {u : SharedT} (h : toT s = some u) : u.abs = s := by
  obtain ⟨t, e, rfl⟩ := Option.map_eq_some_iff.mp h
  have e2 := build_of (life := s.heap.life) _ e
  rw [Nat.zero_add, push_all] at e2
  exact congrArg (fun h => Shared.mk h s.gens s.drawn s.toks s.os) (e2.trans (congrArg (fun o => Heap.mk o s.heap.life) (Array.empty_append ..)))
noncomputable def ends (s₀ : Shared) (u : SharedT) : Bool := staticsOk (importedModules PP.main.body) s₀.heap u.abs.heap && namesBound PP u.abs.heap && gensDone u.abs && laidKept s₀.heap u.abs.heap
noncomputable def rT (w : World) : Option SharedT :=
  (PySem.W.Fast.tw10274390034422433532 PySem.W.Fast.tw14364793385576792824 (opening PP) w 3400 (start (opening PP)).1 (start (opening PP)).2).bind fun s => (PySem.W.Fast.tw14289696077712309145 PP s).bind fun s₀ =>
    cond (s₀.heap.isNs mainGlobals && s₀.gens.size == 0) ((toT s₀).bind fun u => (runG (PySem.W.Fast.tw6613529449190102663 s₀.heap.objs.size (s₀.heap.nsMap mainGlobals "__annotations__")) (PySem.W.Fast.tw10156331382660048174 (PySem.W.Fast.tw11892475500146522536 PySem.W.Fast.tw14364793385576792824) PP w) 3400 u (topStub PP)).bind fun s₁ => cond (ends s₀ s₁) (some s₁) none) none
theorem topFrom_of {s₀ : Shared} {w : World} {u : SharedT} (h1 : (s₀.heap.isNs mainGlobals && s₀.gens.size == 0) = true) (h2 : topRun treeTable PP w s₀.heap.objs.size (s₀.heap.nsMap mainGlobals "__annotations__") 3400 s₀ (topStub PP) = some u.abs) (h3 : ends s₀ u = true) : topFrom treeTable PP w 3400 s₀ = some u.abs := by
  unfold topFrom
  unfold ends at h3
  rw [h1, h2]
  dsimp only [Option.bind_some]
  rw [h3]
theorem rT_of {w : World} {u : SharedT} (h : rT w = some u) : openEnds treeTable PP w 3400 = some u.abs := by
  obtain ⟨s, e1, h⟩ := Option.bind_eq_some_iff.mp h
  obtain ⟨s₀, e2, h⟩ := Option.bind_eq_some_iff.mp h
  have h := cond_some h
  obtain ⟨u₀, e3, h2⟩ := Option.bind_eq_some_iff.mp h.2
  obtain ⟨s₁, e4, h3⟩ := Option.bind_eq_some_iff.mp h2
  have h3 := cond_some h3
  rw [← PySem.W.Fast.te6613529449190102663, ← PySem.W.Fast.te10156331382660048174, ← PySem.W.Fast.te11892475500146522536, ← PySem.W.Fast.te14364793385576792824] at e4
  rw [← PySem.W.Fast.te10274390034422433532, ← PySem.W.Fast.te14364793385576792824] at e1
  rw [← PySem.W.Fast.te14289696077712309145] at e2
  have e5 := runG_of _ _ _ e4
  rw [toT_of e3] at e5
  have e6 : fencedOpening treeTable PP w 3400 = some s₀ := by unfold fencedOpening; rw [e1]; exact e2
  unfold openEnds
  rw [e6]
  exact (topFrom_of h.1 e5 h3.1).trans (congrArg (fun u : SharedT => some u.abs) (Option.some.inj h3.2))
noncomputable def getT (u : SharedT) (a : Addr) : Option Obj := Option.casesOn (motive := fun _ => Option Obj) (u.tree.get a) (u.abs.heap.get? a) fun o => cond (Nat.blt a u.n) (alive o) (u.abs.heap.get? a)
theorem getT_eq (u : SharedT) (a : Addr) : getT u a = u.abs.heap.get? a := by
  unfold getT
  cases e : u.tree.get a with
  | none => rfl
  | some o =>
    cases q : Nat.blt a u.n with
    | false => rfl
    | true => exact (abs_get (Nat.blt_eq.mp q) e).symm
noncomputable def fragT (u : SharedT) : Frag := (List.range 321).filterMap fun a => (getT u a).map fun o => (a, o)
theorem fragT_eq (u : SharedT) : fragT u = fragOf u.abs.heap := by
  unfold fragT fragOf
  simp only [getT_eq]
noncomputable def obsT (u : SharedT) := (obs16 (X.KT.of (fragT u)) (cutK (fragT u)), u.n, u.toks)
theorem obsT_eq (u : SharedT) : obsT u = obs u.abs := by
  unfold obsT obs
  rw [fragT_eq, show u.abs.heap.objs.size = u.n from absHeap_size ..]; rfl
theorem rT_map {β : Type} {w : World} {F : Shared → β} {y z} {x : β} (h : (rT w).map (fun u => (F u.abs, obsT u)) = some (x, y, z)) : (openEnds treeTable PP w 3400).map (fun s => (F s, obs s)) = some (x, y, z) := by
  obtain ⟨u, e, e2⟩ := Option.map_eq_some_iff.mp h
  rw [rT_of e, ← e2, obsT_eq]; rfl
end Mine

set_option maxRecDepth 100000
namespace Mine
open PySem PySem.W PySem.Calls PyProof.Rows
set_option maxHeartbeats 0 in
theorem hlfalse (w : World) : (rT (w.withFollow "special-get-raises" false)).map (fun u => (PySem.W.Fast.tw4187177175401517315 vw loo (importedModules PP.main.body) XT true u.abs, obsT u)) = some (openGood vw loo, val16, 321, 924) := by kernel_rfl
end Mine

set_option maxRecDepth 100000
namespace Mine
open PySem PySem.W PySem.Calls PyProof.Rows
set_option maxHeartbeats 0 in
theorem hltrue (w : World) : (rT (w.withFollow "special-get-raises" true)).map (fun u => (PySem.W.Fast.tw4187177175401517315 vw loo (importedModules PP.main.body) XT true u.abs, obsT u)) = some (openGood vw loo, val16, 321, 924) := by kernel_rfl
end Mine

set_option maxRecDepth 100000
namespace Mine
open PySem PySem.W PySem.Calls PyProof.Rows
theorem hl : LeftO PP vw loo XT obs (fun _ => (val16, 321, 924)) 3400 := fun w => by
  have e := World.withFollow_self w "special-get-raises"
  rw [PySem.W.Fast.te4187177175401517315]
  cases hb : w.params.followText "special-get-raises" <;> rw [hb] at e <;> rw [← e]
  · exact rT_map (F := fun s => PySem.W.Fast.tw4187177175401517315 vw loo (importedModules PP.main.body) XT true s) (hlfalse w)
  · exact rT_map (F := fun s => PySem.W.Fast.tw4187177175401517315 vw loo (importedModules PP.main.body) XT true s) (hltrue w)
end Mine

set_option maxRecDepth 100000
namespace Mine
open PySem PySem.W PySem.Calls PyProof.Rows
set_option maxHeartbeats 0 in
theorem said : OpenLaw.wellSaid PySem.Challenge.rw_wf0094_01 = true := by
  rw [PySem.W.Fast.te9446332074065402090]
  kernel_rfl
end Mine

set_option maxRecDepth 100000
set_option linter.unusedVariables false
set_option genSizeOf false
set_option genSizeOfSpec false
namespace Mine
open PySem PySem.W PySem.Calls PyProof.Rows

inductive V where
  | none
  | bool (b : Bool)
  | int (i : Int)
  | str (s : Str)
  | tup (xs : List V)
  | lst (xs : List V)
  | raw (v : Value)
  | fn (fd : FuncData)
  | inst (C d : Addr)
  | mref (a : Addr)
  | meth (f self : V)
  | sl (a b c : Option Int)
  | rng (a b c : Int)
  | iset (k : Nat)
  | edict
  | eview

set_option genInjectivity false
noncomputable abbrev Z := Addr → Option Obj
noncomputable def CodeZ (z : Z) (cd : Value) (q : Str) : Prop := ∃ c o vs t, cd = .ref c ∧ z c = some o ∧ o.data = .fields vs ∧ vs[1]? = some (.str q t)

mutual
inductive Is (z : Z) : Value → V → Prop
  | none : Is z .none .none
  | bool (b : Bool) : Is z (.bool b) (.bool b)
  | int (i : Int) (t : Tok) : Is z (.int i t) (.int i)
  | str (s : Str) (t : Tok) : Is z (.str s t) (.str s)
  | raw (v : Value) : Is z v (.raw v)
  | mref (a : Addr) : Is z (.ref a) (.mref a)
  | tup {a : Addr} {items : Array Value} {n : Nat} {xs : List V} : z a = some { cls := .type "tuple", data := .seq items n } → IsAll z items.toList xs → Is z (.ref a) (.tup xs)
  | lst {a : Addr} {items : Array Value} {n : Nat} {xs : List V} : z a = some { cls := .type "list", data := .seq items n } → IsAll z items.toList xs → Is z (.ref a) (.lst xs)
  | fn {a : Addr} {o : Obj} {fd : FuncData} : z a = some o → o.cls = .type "function" → o.data = .func fd → CodeZ z fd.code fd.qualname → Is z (.ref a) (.fn fd)
  | inst {a : Addr} {o : Obj} {C d : Addr} : z a = some o → o.cls = .ref C → o.dict = some d → o.data = .plain → Is z (.ref a) (.inst C d)
  | meth {a : Addr} {f self : Value} {vf vs : V} : z a = some { cls := .type "method", data := .fields #[f, self] } → Is z f vf → Is z self vs → Is z (.ref a) (.meth vf vs)
  | sl {a : Addr} {x y w : Value} {l u k : Option Int} : z a = some { cls := .type "slice", data := .fields #[x, y, w] } → IsPart x l → IsPart y u → IsPart w k → Is z (.ref a) (.sl l u k)
  | rng {a : Addr} {l u k : Int} {t₁ t₂ t₃ : Tok} : z a = some { cls := .type "range", data := .fields #[.int l t₁, .int u t₂, .int k t₃] } → Is z (.ref a) (.rng l u k)
  | iset {a : Addr} {o : Obj} {es : Array (Int × Value)} {ep : Nat} {t : SetTable} {k : Nat} : z a = some o → o.ExactSet → o.data = .set es ep t → t.fits es.size = true → es.size = k → Is z (.ref a) (.iset k)
  | edict {a : Addr} : (a == sysModules) = false → z a = some { cls := .type "dict", data := .dict #[] } → Is z (.ref a) .edict
  | eview {a d : Addr} : z a = some { cls := .type "dict_items", data := .fields #[.ref d] } → z d = some { cls := .type "dict", data := .dict #[] } → Is z (.ref a) .eview
inductive IsAll (z : Z) : List Value → List V → Prop
  | nil : IsAll z [] []
  | cons {v : Value} {vs : List Value} {x : V} {xs : List V} : Is z v x → IsAll z vs xs → IsAll z (v :: vs) (x :: xs)
end

noncomputable def IsF (z : Z) (v : Value) : V → Prop
  | .none => v = .none
  | .bool b => v = .bool b
  | .int i => ∃ t, v = .int i t
  | .str s => ∃ t, v = .str s t
  | .raw w => v = w
  | .mref a => v = .ref a
  | .tup xs => ∃ (a : Addr) (items : Array Value) (n : Nat), v = .ref a ∧ z a = some { cls := .type "tuple", data := .seq items n } ∧ IsAll z items.toList xs
  | .lst xs => ∃ (a : Addr) (items : Array Value) (n : Nat), v = .ref a ∧ z a = some { cls := .type "list", data := .seq items n } ∧ IsAll z items.toList xs
  | .fn fd => ∃ (a : Addr) (o : Obj), v = .ref a ∧ z a = some o ∧ o.cls = .type "function" ∧ o.data = .func fd ∧ CodeZ z fd.code fd.qualname
  | .inst C d => ∃ (a : Addr) (o : Obj), v = .ref a ∧ z a = some o ∧ o.cls = .ref C ∧ o.dict = some d ∧ o.data = .plain
  | .meth vf vs => ∃ (a : Addr) (f self : Value), v = .ref a ∧ z a = some { cls := .type "method", data := .fields #[f, self] } ∧ Is z f vf ∧ Is z self vs
  | .sl l u k => ∃ (a : Addr) (x y w : Value), v = .ref a ∧ z a = some { cls := .type "slice", data := .fields #[x, y, w] } ∧ IsPart x l ∧ IsPart y u ∧ IsPart w k
  | .rng l u k => ∃ (a : Addr) (t₁ t₂ t₃ : Tok), v = .ref a ∧ z a = some { cls := .type "range", data := .fields #[.int l t₁, .int u t₂, .int k t₃] }
  | .iset k => ∃ (a : Addr) (o : Obj) (es : Array (Int × Value)) (ep : Nat) (t : SetTable), v = .ref a ∧ z a = some o ∧ o.ExactSet ∧ o.data = .set es ep t ∧ t.fits es.size = true ∧ es.size = k
  | .edict => ∃ a : Addr, v = .ref a ∧ (a == sysModules) = false ∧ z a = some { cls := .type "dict", data := .dict #[] }
  | .eview => ∃ a d : Addr, v = .ref a ∧ z a = some { cls := .type "dict_items", data := .fields #[.ref d] } ∧ z d = some { cls := .type "dict", data := .dict #[] }
theorem Is.inv {z : Z} {v : Value} {x : V} (h : Is z v x) : IsF z v x :=
  Is.casesOn (motive_1 := fun v x _ => IsF z v x) h rfl (fun _ => rfl) (fun _ t => ⟨t, rfl⟩) (fun _ t => ⟨t, rfl⟩) (fun _ => rfl) (fun _ => rfl) (fun h r => ⟨_, _, _, rfl, h, r⟩) (fun h r => ⟨_, _, _, rfl, h, r⟩) (fun a b c d => ⟨_, _, rfl, a, b, c, d⟩) (fun a b c d => ⟨_, _, rfl, a, b, c, d⟩) (fun a b c => ⟨_, _, _, rfl, a, b, c⟩)
    (fun a b c d => ⟨_, _, _, _, rfl, a, b, c, d⟩) (fun a => ⟨_, _, _, _, rfl, a⟩) (fun a b c d e => ⟨_, _, _, _, _, rfl, a, b, c, d, e⟩) (fun a b => ⟨_, rfl, a, b⟩) (fun a b => ⟨_, _, rfl, a, b⟩)
noncomputable def IsAllF (z : Z) (vs : List Value) : List V → Prop
  | [] => vs = []
  | x :: xs => ∃ v ws, vs = v :: ws ∧ Is z v x ∧ IsAll z ws xs
theorem IsAll.inv {z : Z} {vs : List Value} {xs : List V} (h : IsAll z vs xs) : IsAllF z vs xs :=
  IsAll.casesOn (motive_2 := fun vs xs _ => IsAllF z vs xs) h rfl (fun a b => ⟨_, _, rfl, a, b⟩)
theorem IsAll.un {z : Z} {v : Value} {vs : List Value} {x : V} {xs : List V} (h : IsAll z (v :: vs) (x :: xs)) : Is z v x ∧ IsAll z vs xs := by
  obtain ⟨_, _, e, a, b⟩ := h.inv
  cases e
  exact ⟨a, b⟩

@[elab_as_elim] theorem Is.eNone {z : Z} {v : Value} {P : Value → Prop} (r : Is z v .none) (h : P .none) : P v := (show v = .none from r.inv) ▸ h
@[elab_as_elim] theorem Is.eBool {z : Z} {v : Value} {b : Bool} {P : Value → Prop} (r : Is z v (.bool b)) (h : P (.bool b)) : P v := (show v = .bool b from r.inv) ▸ h
@[elab_as_elim] theorem Is.eInt {z : Z} {v : Value} {i : Int} {P : Value → Prop} (r : Is z v (.int i)) (h : ∀ t, P (.int i t)) : P v := by
  obtain ⟨t, rfl⟩ := r.inv
  exact h t
@[elab_as_elim] theorem Is.eStr {z : Z} {v : Value} {i : Str} {P : Value → Prop} (r : Is z v (.str i)) (h : ∀ t, P (.str i t)) : P v := by
  obtain ⟨t, rfl⟩ := r.inv
  exact h t
@[elab_as_elim] theorem Is.eRaw {z : Z} {v w : Value} {P : Value → Prop} (r : Is z v (.raw w)) (h : P w) : P v := (show v = w from r.inv) ▸ h
@[elab_as_elim] theorem Is.eMref {z : Z} {v : Value} {a : Addr} {P : Value → Prop} (r : Is z v (.mref a)) (h : P (.ref a)) : P v := (show v = .ref a from r.inv) ▸ h
@[elab_as_elim] theorem IsAll.eNil {z : Z} {vs : List Value} {P : List Value → Prop} (r : IsAll z vs []) (h : P []) : P vs := (show vs = [] from r.inv) ▸ h
@[elab_as_elim] theorem IsAll.eCons {z : Z} {vs : List Value} {x : V} {xs : List V} {P : List Value → Prop} (r : IsAll z vs (x :: xs)) (h : ∀ v ws, Is z v x → IsAll z ws xs → P (v :: ws)) : P vs := by
  obtain ⟨v, ws, rfl, a, b⟩ := r.inv
  exact h v ws a b

noncomputable def Le (z z' : Z) : Prop := ∀ a o, z a = some o → z' a = some o
theorem Le.refl (z : Z) : Le z z := fun _ _ e => e
theorem Le.trans {z₁ z₂ z₃ : Z} (h : Le z₁ z₂) (k : Le z₂ z₃) : Le z₁ z₃ := fun a o e => k a o (h a o e)
theorem CodeZ.mono {z z' : Z} (l : Le z z') {cd q} (h : CodeZ z cd q) : CodeZ z' cd q := by obtain ⟨c, o, vs, t, e, g, r⟩ := h; exact ⟨c, o, vs, t, e, l _ _ g, r⟩
theorem IsAll.ind {z : Z} {P : List Value → List V → Prop} (nil : P [] []) (cons : ∀ {v vs x xs}, Is z v x → IsAll z vs xs → P vs xs → P (v :: vs) (x :: xs)) {vs : List Value} {xs : List V} (h : IsAll z vs xs) : P vs xs :=
  IsAll.rec (motive_1 := fun _ _ _ => True) (motive_2 := fun vs xs _ => P vs xs) trivial (fun _ => trivial) (fun _ _ => trivial) (fun _ _ => trivial) (fun _ => trivial) (fun _ => trivial) (fun _ _ _ => trivial) (fun _ _ _ => trivial) (fun _ _ _ _ => trivial) (fun _ _ _ _ => trivial) (fun _ _ _ _ _ => trivial) (fun _ _ _ _ => trivial) (fun _ => trivial) (fun _ _ _ _ _ => trivial) (fun _ _ => trivial) (fun _ _ => trivial) nil (fun h r _ ih => cons h r ih) h
theorem Is.mono {z z' : Z} (l : Le z z') {v : Value} {x : V} (h : Is z v x) : Is z' v x :=
  Is.rec (motive_1 := fun v x _ => Is z' v x) (motive_2 := fun vs xs _ => IsAll z' vs xs) .none (fun b => .bool b) (fun i t => .int i t) (fun s t => .str s t) (fun v => .raw v) (fun a => .mref a) (fun h _ r => .tup (l _ _ h) r) (fun h _ r => .lst (l _ _ h) r) (fun h c d e => .fn (l _ _ h) c d (e.mono l)) (fun h c d e => .inst (l _ _ h) c d e)
    (fun h _ _ f s => .meth (l _ _ h) f s) (fun h x y w => .sl (l _ _ h) x y w) (fun h => .rng (l _ _ h)) (fun h a b c d => .iset (l _ _ h) a b c d) (fun n h => .edict n (l _ _ h)) (fun h e => .eview (l _ _ h) (l _ _ e)) .nil (fun _ _ h r => .cons h r) h
theorem IsAll.mono {z z' : Z} (l : Le z z') {vs : List Value} {xs : List V} (h : IsAll z vs xs) : IsAll z' vs xs := h.ind (P := IsAll z') .nil fun h _ r => .cons (h.mono l) r
theorem IsAll.length {z : Z} {vs : List Value} {xs : List V} (h : IsAll z vs xs) : vs.length = xs.length := h.ind (P := fun vs xs => vs.length = xs.length) rfl fun _ _ r => congrArg (· + 1) r
theorem IsAll.append {z : Z} {ws : List Value} {ys : List V} (k : IsAll z ws ys) {vs : List Value} {xs : List V} (h : IsAll z vs xs) : IsAll z (vs ++ ws) (xs ++ ys) := h.ind (P := fun vs xs => IsAll z (vs ++ ws) (xs ++ ys)) k fun h _ r => .cons h r
theorem IsAll.get {z : Z} {vs : List Value} {xs : List V} (h : IsAll z vs xs) : ∀ {i : Nat} {x : V}, xs[i]? = some x → ∃ v, vs[i]? = some v ∧ Is z v x :=
  h.ind (P := fun vs xs => ∀ {i : Nat} {x : V}, xs[i]? = some x → ∃ v, vs[i]? = some v ∧ Is z v x) (fun e => nomatch e) fun {v _ _ _} h _ r i x e => match i with
    | 0 => ⟨v, rfl, Option.some.inj e ▸ h⟩
    | i + 1 => r (i := i) e
theorem IsAll.get' {z : Z} {vs : List Value} {xs : List V} (h : IsAll z vs xs) : ∀ {i : Nat} {v : Value}, vs[i]? = some v → ∃ x, xs[i]? = some x ∧ Is z v x :=
  h.ind (P := fun vs xs => ∀ {i : Nat} {v : Value}, vs[i]? = some v → ∃ x, xs[i]? = some x ∧ Is z v x) (fun e => nomatch e) fun {_ _ y _} h _ r i v e => match i with
    | 0 => ⟨y, rfl, Option.some.inj e ▸ h⟩
    | i + 1 => r (i := i) e

inductive ItK where
  | lst (xs : List V) (i : Nat)
  | mlst (l : Addr) (i : Nat)
  | tup (xs : List V) (i : Nat)
  | rng (x left step : Int)
  | str (x : Str) (i : Nat)
  | enum (it : Addr) (i : Int)
  | zip (TI TO i1 i2 : Addr)
  | pair
  | call (f s : V) (ended : Bool)
  | eit
noncomputable def ItIs (z : Z) (h : Heap) (a : Addr) : ItK → Prop
  | .lst xs i => ∃ l, h.IsListIter a l i ∧ Is z (.ref l) (.lst xs)
  | .mlst l i => h.IsListIter a l i
  | .tup xs i => ∃ l, h.get? a = some { cls := .type "tuple_iterator", data := .fields #[.ref l, .int i 0] } ∧ Is z (.ref l) (.tup xs)
  | .rng x left step => IsRangeIter h a x left step
  | .str x i => ∃ t, h.get? a = some { cls := .type "str_ascii_iterator", data := .fields #[.str x t, .int i 0] }
  | .enum it i => ∃ old, IsEnum h a it i old
  | .zip TI TO i1 i2 => IsZip h a TI TO .none ∧ z TI = some { cls := .type "tuple", data := .seq #[.ref i1, .ref i2] }
  | .pair => ∃ x y, IsPair h a x y
  | .call f s b => ∃ vf vs, h.get? a = some { cls := .type "callable_iterator", data := .fields #[vf, vs, .bool b] } ∧ (b = false → Is z vf f ∧ Is z vs s)
  | .eit => ∃ d, h.get? a = some { cls := .type "dict_itemiterator", dict := none, data := .fields #[.none, .bool false, .ref d, .int 0 0, .int 0 0, .int 0 0, .none, .none], slots := #[] } ∧ z d = some { cls := .type "dict", data := .dict #[] }
theorem ItIs.mono {z z' : Z} (l : Le z z') {h : Heap} {a : Addr} {k : ItK} (H : ItIs z h a k) : ItIs z' h a k := by
  cases k with
  | lst => obtain ⟨b, e, r⟩ := H; exact ⟨b, e, r.mono l⟩
  | mlst => exact H
  | tup => obtain ⟨b, e, r⟩ := H; exact ⟨b, e, r.mono l⟩
  | rng => exact H
  | str => exact H
  | enum => exact H
  | zip => exact ⟨H.1, l _ _ H.2⟩
  | pair => exact H
  | call => obtain ⟨f, s, e, r⟩ := H; exact ⟨f, s, e, fun hb => ⟨(r hb).1.mono l, (r hb).2.mono l⟩⟩
  | eit => obtain ⟨d, e, r⟩ := H; exact ⟨d, e, l _ _ r⟩
theorem ItIs.keep {z : Z} {h h' : Heap} {a : Addr} (k : ∀ o, h.get? a = some o → h'.get? a = some o) {i : ItK} (H : ItIs z h a i) : ItIs z h' a i := by
  cases i with
  | lst => obtain ⟨b, e, r⟩ := H; exact ⟨b, e.at k, r⟩
  | mlst => exact Heap.IsListIter.at H k
  | tup => obtain ⟨b, e, r⟩ := H; exact ⟨b, k _ e, r⟩
  | rng => exact k _ H
  | str => obtain ⟨t, e⟩ := H; exact ⟨t, k _ e⟩
  | enum => obtain ⟨o, e⟩ := H; exact ⟨o, k _ e⟩
  | zip => exact ⟨k _ H.1, H.2⟩
  | pair => obtain ⟨x, y, e⟩ := H; exact ⟨x, y, k _ e⟩
  | call => obtain ⟨f, s, e, r⟩ := H; exact ⟨f, s, k _ e, r⟩
  | eit => obtain ⟨d, e, r⟩ := H; exact ⟨d, k _ e, r⟩
theorem ItIs.there {z : Z} {h : Heap} {a : Addr} {i : ItK} (H : ItIs z h a i) : ∃ o, h.get? a = some o := by
  cases i with
  | lst => obtain ⟨b, ⟨_, e, _⟩, r⟩ := H; exact ⟨_, e⟩
  | mlst => obtain ⟨_, e, _⟩ := H; exact ⟨_, e⟩
  | tup => obtain ⟨b, e, r⟩ := H; exact ⟨_, e⟩
  | rng => exact ⟨_, H⟩
  | str => obtain ⟨t, e⟩ := H; exact ⟨_, e⟩
  | enum => obtain ⟨o, e⟩ := H; exact ⟨_, e⟩
  | zip => exact ⟨_, H.1⟩
  | pair => obtain ⟨x, y, e⟩ := H; exact ⟨_, e⟩
  | call => obtain ⟨f, s, e, r⟩ := H; exact ⟨_, e⟩
  | eit => obtain ⟨d, e, r⟩ := H; exact ⟨_, e⟩

inductive AObj where
  | it (k : ItK)
  | list (xs : List V)
  | ns (fs : List (Str × Option V))
  | cell (v : Option V)
  | raw (o : Obj)
  | tab (q : Option (Int × Int × Str))
  | attrs (fs : List (Str × V))

noncomputable abbrev Hp := List (Addr × AObj)
noncomputable def keys (hp : Hp) : List Addr := hp.map (·.1)
theorem keys_cons (p : Addr × AObj) (hp : Hp) : keys (p :: hp) = p.1 :: keys hp := rfl
noncomputable def zof (hp : Hp) (h : Heap) : Z := fun a => if a ∈ keys hp then none else h.get? a

noncomputable def OptIs (z : Z) : Option Value → Option V → Prop
  | none, none => True
  | some v, some x => Is z v x
  | _, _ => False
theorem OptIs.mono {z z' : Z} (l : Le z z') : ∀ {v x}, OptIs z v x → OptIs z' v x
  | none, none, _ => trivial
  | some _, some _, h => Is.mono l h
  | none, some _, h => h.elim
  | some _, none, h => h.elim

noncomputable def ObjIs (z : Z) (h : Heap) (a : Addr) : AObj → Prop
  | .it k => ItIs z h a k
  | .list xs => ∃ items n, h.get? a = some { cls := .type "list", data := .seq items n } ∧ IsAll z items.toList xs
  | .ns fs => (fs.map (·.1)).Nodup ∧ ∃ m, h.Ns a m ∧ ∀ x, OptIs z (m x) (fs.lookup x).join
  | .cell v => ∃ w, h.IsCell a w ∧ OptIs z w v
  | .raw o => h.get? a = some o
  | .attrs fs => ∃ es n, h.get? a = some (dictOf es n) ∧ es.length ≤ fs.length ∧ ∀ x, ∃ r, getL x es = some r ∧ OptIs z r (fs.lookup x)
  | .tab none => h.get? a = some { cls := .none, data := .fields #[] }
  | .tab (some (l, c, q)) => ∃ cv, h.get? a = some { cls := .none, data := .fields #[rawInt l, rawInt c, cv] } ∧ CodeZ z cv q
theorem ObjIs.mono {z z' : Z} (l : Le z z') {h : Heap} {a : Addr} {o : AObj} (H : ObjIs z h a o) : ObjIs z' h a o := by
  cases o with
  | it => exact ItIs.mono l H
  | list => obtain ⟨i, n, e, r⟩ := H; exact ⟨i, n, e, r.mono l⟩
  | ns => obtain ⟨d, m, e, r⟩ := H; exact ⟨d, m, e, fun x => (r x).mono l⟩
  | cell => obtain ⟨w, e, r⟩ := H; exact ⟨w, e, r.mono l⟩
  | raw => exact H
  | attrs => obtain ⟨es, n, e, hl, r⟩ := H; exact ⟨es, n, e, hl, fun x => (r x).imp fun _ h => ⟨h.1, h.2.mono l⟩⟩
  | tab q => cases q with
    | none => exact H
    | some => obtain ⟨cv, e, r⟩ := H; exact ⟨cv, e, r.mono l⟩
theorem ObjIs.keep {z : Z} {h h' : Heap} {a : Addr} (k : ∀ o, h.get? a = some o → h'.get? a = some o) {o : AObj} (H : ObjIs z h a o) : ObjIs z h' a o := by
  cases o with
  | it => exact ItIs.keep k H
  | list => obtain ⟨i, n, e, r⟩ := H; exact ⟨i, n, k _ e, r⟩
  | ns => obtain ⟨d, m, ⟨o, es, ep, e, r'⟩, r⟩ := H; exact ⟨d, m, ⟨o, es, ep, k _ e, r'⟩, r⟩
  | cell => obtain ⟨w, ⟨o, e, r'⟩, r⟩ := H; exact ⟨w, ⟨o, k _ e, r'⟩, r⟩
  | raw => exact k _ H
  | attrs => obtain ⟨es, n, e, r⟩ := H; exact ⟨es, n, k _ e, r⟩
  | tab q => cases q with
    | none => exact k _ H
    | some => obtain ⟨cv, e, r⟩ := H; exact ⟨cv, k _ e, r⟩
theorem ObjIs.there {z : Z} {h : Heap} {a : Addr} {o : AObj} (H : ObjIs z h a o) : ∃ o', h.get? a = some o' := by
  cases o with
  | it => exact ItIs.there H
  | list => obtain ⟨_, _, e, _⟩ := H; exact ⟨_, e⟩
  | ns => obtain ⟨_, _, ⟨_, _, _, e, _⟩, _⟩ := H; exact ⟨_, e⟩
  | cell => obtain ⟨_, ⟨_, e, _⟩, _⟩ := H; exact ⟨_, e⟩
  | raw => exact ⟨_, H⟩
  | attrs => obtain ⟨_, _, e, _⟩ := H; exact ⟨_, e⟩
  | tab q => cases q with
    | none => exact ⟨_, H⟩
    | some => obtain ⟨_, e, _⟩ := H; exact ⟨_, e⟩

structure Base where
  prog : Program
  w : World
  h0 : Heap
  tabs : List Addr
  os : OsState
  drawn : Drawn

structure St (B : Base) (hp : Hp) (s : Shared) : Prop where
  nodup : (keys hp).Nodup
  objs : ∀ p ∈ hp, ObjIs (zof hp s.heap) s.heap p.1 p.2
  base : ∀ a o, B.h0.get? a = some o → a ∉ B.tabs → zof hp s.heap a = some o
  gens : s.gens = #[]
  os : s.os = B.os
  drawn : s.drawn = B.drawn

section
variable {B : Base} {hp hp' : Hp} {s : Shared} {h' : Heap} {a : Addr} {ao ao' : AObj} {tk : Nat}

theorem zof_of {h : Heap} {o : Obj} (e : zof hp h a = some o) : h.get? a = some o ∧ a ∉ keys hp := by
  unfold zof at e
  split at e
  · cases e
  · rename_i q; exact ⟨e, q⟩
theorem zof_mk {h : Heap} {o : Obj} (e : h.get? a = some o) (q : a ∉ keys hp) : zof hp h a = some o := by
  unfold zof; rw [if_neg q]; exact e
theorem St.key_there (S : St B hp s) (ha : a ∈ keys hp) : ∃ o, s.heap.get? a = some o := by
  obtain ⟨p, hp', rfl⟩ := List.mem_map.mp ha
  exact (S.objs p hp').there
theorem St.fresh_not (S : St B hp s) (h : s.heap.get? a = none) : a ∉ keys hp := fun q => by
  obtain ⟨o, e⟩ := S.key_there q
  rw [h] at e; cases e
theorem size_fresh (h : Heap) : h.get? h.objs.size = none := by
  cases q : h.get? h.objs.size with
  | none => rfl
  | some o => exact absurd (Heap.lt_size q) (Nat.lt_irrefl _)

theorem St.ext (S : St B hp s) (hk : ∀ b o, s.heap.get? b = some o → h'.get? b = some o) : St B hp { s with heap := h', toks := tk } ∧ Le (zof hp s.heap) (zof hp h') := by
  have L : Le (zof hp s.heap) (zof hp h') := fun b o e => zof_mk (hk _ _ (zof_of e).1) (zof_of e).2
  exact ⟨⟨S.nodup, fun p h => ((S.objs p h).keep (hk _)).mono L, fun b o e t => L _ _ (S.base b o e t), S.gens, S.os, S.drawn⟩, L⟩

theorem St.frozen (S : St B hp s) {o : Obj} (hn : s.heap.get? a = none) (e : h'.get? a = some o) : zof hp h' a = some o :=
  zof_mk e (S.fresh_not hn)

theorem St.add (S : St B hp s) (hk : ∀ b o, s.heap.get? b = some o → h'.get? b = some o) (hn : s.heap.get? a = none) (ho : ObjIs (zof hp s.heap) h' a ao) :
    St B ((a, ao) :: hp) { s with heap := h', toks := tk } ∧ Le (zof hp s.heap) (zof ((a, ao) :: hp) h') := by
  have hq := S.fresh_not hn
  have L : Le (zof hp s.heap) (zof ((a, ao) :: hp) h') := fun b o e => by
    obtain ⟨e1, e2⟩ := zof_of e
    refine zof_mk (hk _ _ e1) ?_
    rw [keys_cons, List.mem_cons]
    rintro (rfl | q)
    · rw [show s.heap.get? b = none from hn] at e1; cases e1
    · exact e2 q
  refine ⟨⟨List.nodup_cons.mpr ⟨hq, S.nodup⟩, fun p h => ?_, fun b o e t => L _ _ (S.base b o e t), S.gens, S.os, S.drawn⟩, L⟩
  rcases List.mem_cons.mp h with rfl | h
  · exact ho.mono L
  · exact ((S.objs p h).keep (hk _)).mono L

inductive Upd : Hp → Addr → AObj → AObj → Hp → Prop
  | head {a : Addr} {o o' : AObj} {r : Hp} : Upd ((a, o) :: r) a o o' ((a, o') :: r)
  | tail {p : Addr × AObj} {r r' : Hp} {a : Addr} {o o' : AObj} : Upd r a o o' r' → Upd (p :: r) a o o' (p :: r')
theorem Upd.keys (U : Upd hp a ao ao' hp') : keys hp' = keys hp := by
  induction U with
  | head => rfl
  | tail _ ih => rw [keys_cons, keys_cons, ih]
theorem Upd.mem (U : Upd hp a ao ao' hp') : (a, ao) ∈ hp := by
  induction U with
  | head => exact .head _
  | tail _ ih => exact .tail _ ih
theorem Upd.mem' (U : Upd hp a ao ao' hp') : ∀ p ∈ hp', p = (a, ao') ∨ (p ∈ hp ∧ (p.1 ≠ a ∨ ¬ (Mine.keys hp).Nodup)) := by
  induction U with
  | head =>
    rename_i a o o' r
    intro p h
    rcases List.mem_cons.mp h with rfl | h
    · exact .inl rfl
    · refine .inr ⟨.tail _ h, ?_⟩
      by_cases q : p.1 = a
      · right
        intro n
        exact (List.nodup_cons.mp n).1 (List.mem_map.mpr ⟨p, h, q⟩)
      · exact .inl q
  | tail U ih =>
    rename_i p0 r r' a o o'
    intro p h
    rcases List.mem_cons.mp h with rfl | h
    · refine .inr ⟨.head _, ?_⟩
      by_cases q : p.1 = a
      · right
        intro n
        exact (List.nodup_cons.mp n).1 (List.mem_map.mpr ⟨_, U.mem, q.symm⟩)
      · exact .inl q
    · rcases ih p h with e | ⟨h1, h2⟩
      · exact .inl e
      · refine .inr ⟨.tail _ h1, h2.imp_right fun h3 n => h3 (List.nodup_cons.mp n).2⟩
theorem St.set (S : St B hp s) (U : Upd hp a ao ao' hp') (hx : Heap.ExtBut a s.heap h') (ho : ObjIs (zof hp s.heap) h' a ao') :
    St B hp' { s with heap := h', toks := tk } ∧ Le (zof hp s.heap) (zof hp' h') := by
  have ha : a ∈ keys hp := List.mem_map_of_mem U.mem
  have L : Le (zof hp s.heap) (zof hp' h') := fun b o e => by
    obtain ⟨e1, e2⟩ := zof_of e
    refine zof_mk (hx b o (fun q => e2 (q ▸ ha)) e1) ?_
    rw [U.keys]; exact e2
  refine ⟨⟨by rw [U.keys]; exact S.nodup, fun p h => ?_, fun b o e t => L _ _ (S.base b o e t), S.gens, S.os, S.drawn⟩, L⟩
  rcases U.mem' p h with rfl | ⟨h1, h2 | h2⟩
  · exact ho.mono L
  · exact ((S.objs p h1).keep fun o e => hx _ o h2 e).mono L
  · exact absurd S.nodup h2

theorem St.sub (S : St B hp s) (hs : hp'.Sublist hp) : St B hp' s ∧ Le (zof hp s.heap) (zof hp' s.heap) := by
  have ks : (keys hp').Sublist (keys hp) := hs.map _
  have L : Le (zof hp s.heap) (zof hp' s.heap) := fun b o e => zof_mk (zof_of e).1 fun q => (zof_of e).2 (ks.subset q)
  exact ⟨⟨S.nodup.sublist ks, fun p h => (S.objs p (hs.subset h)).mono L, fun b o e t => L _ _ (S.base b o e t), S.gens, S.os, S.drawn⟩, L⟩

theorem St.freeze {xs : List V} (S : St B hp s) (U : (a, AObj.list xs) ∈ hp) (hs : hp'.Sublist hp) (hn : a ∉ keys hp') : Is (zof hp' s.heap) (.ref a) (.lst xs) := by
  obtain ⟨items, n, e, r⟩ := S.objs _ U
  exact .lst (zof_mk e hn) (r.mono (S.sub hs).2)
end

structure AOk (n : Nat) (A : Around) : Prop where
  handled : A.handled = none
  depth : A.depth + n ≤ 400
  units : A.units + 8 * n ≤ 2000
theorem AOk.le {n m : Nat} {A : Around} (h : AOk n A) (k : m ≤ n) : AOk m A := ⟨h.handled, by have := h.depth; lia, by have := h.units; lia⟩
theorem AOk.in1 {n : Nat} {A : Around} (h : AOk (n + 1) A) : AOk n A.in1 := ⟨h.handled, by have := h.depth; show A.depth + n ≤ 400; lia, by have := h.units; show A.units + 1 + 8 * n ≤ 2000; lia⟩
theorem AOk.deeper {n : Nat} {A : Around} (h : AOk (n + 1) A) (env : Env) : AOk n (A.deeper env) := ⟨h.handled, by have := h.depth; show A.depth + 1 + n ≤ 400; lia, by have := h.units; show A.units + 3 + 8 * n ≤ 2000; lia⟩
theorem AOk.room {n : Nat} {A : Around} (h : AOk n A) : A.depth < recursionLimit := by have := h.depth; show A.depth < 1000; lia
theorem AOk.space {n : Nat} {A : Around} (h : AOk n A) : A.units + 100 < cLine := by have := h.units; show A.units + 100 < 9900; lia

noncomputable abbrev Base.M (B : Base) : Model := model B.prog B.w

noncomputable def Wp (B : Base) {α β : Type} (rel : Z → α → β → Prop) (A : Around) (t : Sem α) (hp : Hp) (s : Shared) (Φ : β → Hp → Prop) : Prop :=
  wpAny B.M A t (fun a s' => ∃ b hp', St B hp' s' ∧ Le (zof hp s.heap) (zof hp' s'.heap) ∧ rel (zof hp' s'.heap) a b ∧ Φ b hp') (fun _ _ => False) s

section
variable {B : Base} {α β γ δ : Type} {rel : Z → α → β → Prop} {rel' : Z → γ → δ → Prop} {A : Around} {hp : Hp} {s : Shared} {Φ : β → Hp → Prop}
theorem Wp.pure {a : α} {b : β} (S : St B hp s) (r : rel (zof hp s.heap) a b) (h : Φ b hp) : Wp B rel A (pure a) hp s Φ := wpAny_pure ⟨b, hp, S, Le.refl _, r, h⟩
theorem Wp.bind {t : Sem α} {f : α → Sem γ} {Ψ : δ → Hp → Prop} (h : Wp B rel A t hp s Φ)
    (k : ∀ a b hp₁ s₁, St B hp₁ s₁ → Le (zof hp s.heap) (zof hp₁ s₁.heap) → rel (zof hp₁ s₁.heap) a b → Φ b hp₁ → Wp B rel' A (f a) hp₁ s₁ Ψ) : Wp B rel' A (t >>= f) hp s Ψ :=
  wpAny_bind (wpAny_mono h (fun a s₁ h => by obtain ⟨b, hp₁, S, L, r, p⟩ := h; exact wpAny_mono (k a b hp₁ s₁ S L r p) (fun _ _ h => by obtain ⟨d, hp₂, S₂, L₂, r₂, p₂⟩ := h; exact ⟨d, hp₂, S₂, L.trans L₂, r₂, p₂⟩) fun _ _ x => x) fun _ _ x => x.elim)
theorem Wp.mono {t : Sem α} {Ψ : β → Hp → Prop} (h : Wp B rel A t hp s Φ) (k : ∀ b hp, Φ b hp → Ψ b hp) : Wp B rel A t hp s Ψ :=
  wpAny_mono h (fun _ _ h => by obtain ⟨b, hp₁, S, L, r, p⟩ := h; exact ⟨b, hp₁, S, L, r, k _ _ p⟩) fun _ _ x => x
noncomputable abbrev KQ (B : Base) {α β : Type} (rel : Z → α → β → Prop) (hp : Hp) (s : Shared) (Φ : β → Hp → Prop) (Q : α → Shared → Prop) : Prop := ∀ a b hp₁ s₁, St B hp₁ s₁ → Le (zof hp s.heap) (zof hp₁ s₁.heap) → rel (zof hp₁ s₁.heap) a b → Φ b hp₁ → Q a s₁
theorem Wp.use {t : Sem α} {Q : α → Shared → Prop} {E : Value → Shared → Prop} (h : Wp B rel A t hp s Φ)
    (k : ∀ a b hp₁ s₁, St B hp₁ s₁ → Le (zof hp s.heap) (zof hp₁ s₁.heap) → rel (zof hp₁ s₁.heap) a b → Φ b hp₁ → Q a s₁) : wpAny B.M A t Q E s :=
  wpAny_mono h (fun _ _ h => by obtain ⟨_, _, S, L, r, p⟩ := h; exact k _ _ _ _ S L r p) fun _ _ x => x.elim
theorem Wp.of {t : Sem α} (h : ∀ Q : α → Shared → Prop, KQ B rel hp s Φ Q → wpAny B.M A t Q (fun _ _ => False) s) :
    Wp B rel A t hp s Φ := h _ fun _ _ _ _ S L r p => ⟨_, _, S, L, r, p⟩
theorem Wp.le {t : Sem α} {hp₀ : Hp} {s₀ : Shared} (h : Wp B rel A t hp s Φ) (L : Le (zof hp₀ s₀.heap) (zof hp s.heap)) {Q : α → Shared → Prop} {E : Value → Shared → Prop}
    (k : KQ B rel hp₀ s₀ Φ Q) : wpAny B.M A t Q E s :=
  h.use fun a b hp₁ s₁ S L' r p => k a b hp₁ s₁ S (L.trans L') r p
end

noncomputable def JE (B : Base) (n : Nat) (env : Env) (hp : Hp) (e : Expr) (Φ : V → Hp → Prop) : Prop :=
  ∀ A s, AOk n A → St B hp s → Wp B Is A (eval e env) hp s Φ

inductive AF where
  | next | brk | cont
  | ret (v : V)
inductive FlowIs (z : Z) : Flow → AF → Prop
  | next : FlowIs z .next .next
  | brk : FlowIs z .brk .brk
  | cont : FlowIs z .cont .cont
  | ret {v : Value} {x : V} : Is z v x → FlowIs z (.ret v) (.ret x)
noncomputable def JS (B : Base) (n : Nat) (env : Env) (hp : Hp) (ss : List Stmt) (Φ : AF → Hp → Prop) : Prop :=
  ∀ A s, AOk n A → St B hp s → Wp B FlowIs A (execs ss env) hp s Φ
noncomputable def J1 (B : Base) (n : Nat) (env : Env) (hp : Hp) (st : Stmt) (Φ : AF → Hp → Prop) : Prop :=
  ∀ A s, AOk n A → St B hp s → Wp B FlowIs A (exec st env) hp s Φ
noncomputable def EqR {α : Type} (_ : Z) (a b : α) : Prop := a = b
noncomputable def JT (B : Base) (n : Nat) (env : Env) (hp : Hp) (e : Expr) (Φ : Bool → Hp → Prop) : Prop :=
  ∀ A s, AOk n A → St B hp s → Wp B EqR A (isTrue e env (eval e env)) hp s Φ
noncomputable def JC (B : Base) (n : Nat) (hp : Hp) (f : V) (args : List V) (kw : List (Str × V)) (Φ : V → Hp → Prop) : Prop :=
  ∀ A s fv vs kvs, AOk n A → St B hp s → Is (zof hp s.heap) fv f → IsAll (zof hp s.heap) vs args → kvs.map (·.1) = kw.map (·.1) → IsAll (zof hp s.heap) (kvs.map (·.2)) (kw.map (·.2)) →
    Wp B Is A (call fv vs kvs) hp s Φ
noncomputable def JBin (B : Base) (n : Nat) (hp : Hp) (op : Operator) (a b : V) (Φ : V → Hp → Prop) : Prop :=
  ∀ A s x y, AOk n A → St B hp s → Is (zof hp s.heap) x a → Is (zof hp s.heap) y b → Wp B Is A (binaryOp op x y) hp s Φ
noncomputable def JInp (B : Base) (n : Nat) (hp : Hp) (op : Operator) (a b : V) (Φ : V → Hp → Prop) : Prop :=
  ∀ A s x y, AOk n A → St B hp s → Is (zof hp s.heap) x a → Is (zof hp s.heap) y b → Wp B Is A (inplaceOp op x y) hp s Φ
noncomputable def JCmp (B : Base) (n : Nat) (hp : Hp) (op : CmpOp) (a b : V) (Φ : V → Hp → Prop) : Prop :=
  ∀ A s x y, AOk n A → St B hp s → Is (zof hp s.heap) x a → Is (zof hp s.heap) y b → Wp B Is A (compareOp op x y) hp s Φ
noncomputable def JTru (B : Base) (n : Nat) (hp : Hp) (a : V) (Φ : Bool → Hp → Prop) : Prop :=
  ∀ A s x, AOk n A → St B hp s → Is (zof hp s.heap) x a → Wp B EqR A (truthy x) hp s Φ
end Mine

set_option maxRecDepth 100000
set_option linter.unusedVariables false
namespace Mine
open PySem PySem.W PySem.Calls PyProof.Rows

section
variable {B : Base} {n : Nat} {env : Env} {hp hp' : Hp} {pos : Pos} {Φ : V → Hp → Prop} {Ψ : AF → Hp → Prop} {Θ : Bool → Hp → Prop}

theorem St.toks {s : Shared} (S : St B hp s) (t : Nat) : St B hp { s with toks := t } := ⟨S.nodup, S.objs, S.base, S.gens, S.os, S.drawn⟩

theorem JE.cInt {i : Int} {k : Nat} (h : Φ (.int i) hp) : JE B n env hp (.Constant (.int i) k pos) Φ := fun A s ok S =>
  Wp.of fun Q k => wpAny_Constant_int (k _ _ _ _ (S.toks _) (Le.refl _) (.int _ _) h)
theorem JE.cStr {x : Str} {k : Nat} (h : Φ (.str x) hp) : JE B n env hp (.Constant (.str x) k pos) Φ := fun A s ok S =>
  Wp.of fun Q k => Constant_str (k _ _ _ _ (S.toks _) (Le.refl _) (.str _ _) h)
theorem JE.cBool {c : Bool} {k : Nat} (h : Φ (.bool c) hp) : JE B n env hp (.Constant (.bool c) k pos) Φ := fun A s ok S =>
  Wp.of fun Q k => Constant_bool (k _ _ _ _ S (Le.refl _) (.bool _) h)
theorem JE.cNone {k : Nat} (h : Φ .none hp) : JE B n env hp (.Constant .none k pos) Φ := fun A s ok S =>
  Wp.of fun Q k => Constant_none (k _ _ _ _ S (Le.refl _) .none h)

theorem ns_has {fs : List (Str × Option V)} {x : Str} {o : Option V} (hd : (fs.map (·.1)).Nodup) (hm : (x, o) ∈ fs) : fs.lookup x = some o := by
  induction fs with
  | nil => cases hm
  | cons p r ih =>
    obtain ⟨y, o'⟩ := p
    rw [List.lookup_cons]
    rcases List.mem_cons.mp hm with e | hm'
    · cases e; rw [beq_self_eq_true]
    · have hne : (x == y) = false := by
        rw [beq_eq_false_iff_ne]
        rintro rfl
        exact (List.nodup_cons.mp hd).1 (List.mem_map.mpr ⟨_, hm', rfl⟩)
      rw [hne]
      exact ih (List.nodup_cons.mp hd).2 hm'
theorem ns_get {z : Z} {h : Heap} {L : Addr} {fs : List (Str × Option V)} {x : Str} {v : V} (H : ObjIs z h L (.ns fs)) (hx : (x, some v) ∈ fs) : ∃ m val, h.Ns L m ∧ m x = some val ∧ Is z val v := by
  obtain ⟨hd, m, hm, r⟩ := H
  have := r x
  rw [ns_has hd hx] at this
  cases q : m x with
  | none => rw [q] at this; exact this.elim
  | some val => rw [q] at this; exact ⟨m, val, hm, q, this⟩
theorem cell_get {z : Z} {h : Heap} {c : Addr} {v : V} (H : ObjIs z h c (.cell (some v))) : ∃ val, h.IsCell c (some val) ∧ Is z val v := by
  obtain ⟨w, hw, r⟩ := H
  cases w with
  | none => exact r.elim
  | some val => exact ⟨val, hw, r⟩

structure Globs (B : Base) where
  g : Addr
  b : Addr
  mg : Str → Option Value
  mb : Str → Option Value
  gns : B.h0.Ns g mg
  bns : B.h0.Ns b mb
  gt : g ∉ B.tabs
  bt : b ∉ B.tabs
theorem St.ns0 {s : Shared} (S : St B hp s) {a : Addr} {m} (h : B.h0.Ns a m) (ht : a ∉ B.tabs) : s.heap.Ns a m :=
  by obtain ⟨o, es, ep, e, r⟩ := h; exact ⟨o, es, ep, (zof_of (S.base _ _ e ht)).1, r⟩

structure EnvIs (B : Base) (G : Globs B) (env : Env) (L : Addr) (kinds : List (Str × NameKind)) (own out : List (Str × Addr)) : Prop where
  fn : env.scope.kind = .function
  loc : env.locals = L
  kd : ∀ p ∈ kinds, env.kindOf p.1 = some p.2 ∨ (p.2 = .free ∧ env.kindOf p.1 = some .cell)
  ow : ∀ p ∈ own, (p.1, NameKind.cell) ∈ kinds ∧ env.cells.lookup p.1 = some p.2
  ou : ∀ p ∈ out, (p.1, NameKind.free) ∈ kinds → env.cells.lookup p.1 = some p.2
  g : env.globals = G.g
  b : env.builtins = G.b

theorem EnvIs.kind {G : Globs B} {L : Addr} {kinds : List (Str × NameKind)} {own out : List (Str × Addr)} (E : EnvIs B G env L kinds own out) {x : Str} {k : NameKind} (h : (x, k) ∈ kinds) (hk : k ≠ .free) : env.kindOf x = some k :=
  (E.kd _ h).resolve_right fun q => hk q.1
noncomputable def JL (B : Base) (n : Nat) (env : Env) (hp : Hp) (x : Str) (Φ : V → Hp → Prop) : Prop := ∀ A s, AOk n A → St B hp s → Wp B Is A (loadName env x) hp s Φ
variable {G : Globs B} {L : Addr} {kinds : List (Str × NameKind)} {own out : List (Str × Addr)}
theorem JL.local (E : EnvIs B G env L kinds own out) {fs : List (Str × Option V)} {x : Str} {v : V} (hl : (x, NameKind.local) ∈ kinds) (hm : (L, AObj.ns fs) ∈ hp) (hx : (x, some v) ∈ fs) (h : Φ v hp) : JL B n env hp x Φ :=
  fun A s ok S => Wp.of fun Q k => by
    obtain ⟨m, val, hn, hv, r⟩ := ns_get (S.objs _ hm) hx
    exact wpAny_loadName_local E.fn (E.kind hl (by decide)) (E.loc ▸ hn) hv (k _ _ _ _ S (Le.refl _) r h)
theorem JL.cell (E : EnvIs B G env L kinds own out) {c : Addr} {x : Str} {v : V} (hc : (x, c) ∈ own) (hm : (c, AObj.cell (some v)) ∈ hp) (h : Φ v hp) : JL B n env hp x Φ :=
  fun A s ok S => Wp.of fun Q k => by
    obtain ⟨val, hv, r⟩ := cell_get (S.objs _ hm)
    exact wpAny_loadName_cell E.fn (E.kind (E.ow _ hc).1 (by decide)) (E.ow _ hc).2 hv (k _ _ _ _ S (Le.refl _) r h)
theorem JL.free (E : EnvIs B G env L kinds own out) {c : Addr} {x : Str} {v : V} (hl : (x, NameKind.free) ∈ kinds) (hc : (x, c) ∈ out) (hm : (c, AObj.cell (some v)) ∈ hp) (h : Φ v hp) (hn : (x == ("__classdict__" : Str)) = false := by decide) : JL B n env hp x Φ :=
  fun A s ok S => Wp.of fun Q k => by
    obtain ⟨val, hv, r⟩ := cell_get (S.objs _ hm)
    rcases E.kd _ hl with q | q
    · exact wpAny_loadName_free E.fn q (E.ou _ hc hl) hv (k _ _ _ _ S (Le.refl _) r h) hn
    · exact wpAny_loadName_cell E.fn q.2 (E.ou _ hc hl) hv (k _ _ _ _ S (Le.refl _) r h)
theorem JE.name {x : Str} (h : JL B n env hp x Φ) (hd : (x == ("__debug__" : Str)) = false := by decide) : JE B n env hp (.Name x pos) Φ :=
  fun A s ok S => Wp.of fun Q k => wpAny_Name ((h A s ok S).use k) hd
theorem JE.global (E : EnvIs B G env L kinds own out) {x : Str} {v : Value} (hl : (x, NameKind.globalImplicit) ∈ kinds) (hv : G.mg x = some v) (h : Φ (.raw v) hp)
    (hd : (x == ("__debug__" : Str)) = false := by decide) : JE B n env hp (.Name x pos) Φ :=
  fun A s ok S => Wp.of fun Q k => Name_function_global E.fn (E.kind hl (by decide)) (loadGlobal_global (E.g ▸ S.ns0 G.gns G.gt) hv (k _ _ _ _ S (Le.refl _) (.raw _) h)) hd
theorem JE.globalIs (E : EnvIs B G env L kinds own out) {x : Str} {v : Value} {w : V} (hl : (x, NameKind.globalImplicit) ∈ kinds) (hv : G.mg x = some v) (hw : ∀ s, St B hp s → Is (zof hp s.heap) v w) (h : Φ w hp)
    (hd : (x == ("__debug__" : Str)) = false := by decide) : JE B n env hp (.Name x pos) Φ :=
  fun A s ok S => Wp.of fun Q k => Name_function_global E.fn (E.kind hl (by decide)) (loadGlobal_global (E.g ▸ S.ns0 G.gns G.gt) hv (k _ _ _ _ S (Le.refl _) (hw s S) h)) hd
theorem JE.builtin (E : EnvIs B G env L kinds own out) {x : Str} {v : Value} (hl : (x, NameKind.globalImplicit) ∈ kinds) (hm : G.mg x = none) (hv : G.mb x = some v) (h : Φ (.raw v) hp)
    (hd : (x == ("__debug__" : Str)) = false := by decide) : JE B n env hp (.Name x pos) Φ :=
  fun A s ok S => Wp.of fun Q k => Name_function_global E.fn (E.kind hl (by decide)) (loadGlobal_builtin (E.g ▸ S.ns0 G.gns G.gt) hm (E.b ▸ S.ns0 G.bns G.bt) hv (k _ _ _ _ S (Le.refl _) (.raw _) h)) hd

noncomputable abbrev binK2 (B : Base) (n : Nat) (Φ : V → Hp → Prop) (op : Operator) (a b : V) (hp : Hp) : Prop := JBin B n hp op a b Φ
noncomputable abbrev binK1 (B : Base) (n : Nat) (env : Env) (Φ : V → Hp → Prop) (op : Operator) (r : Expr) (a : V) (hp : Hp) : Prop := JE B n env hp r (binK2 B n Φ op a)
noncomputable abbrev cmpK2 (B : Base) (n : Nat) (Φ : V → Hp → Prop) (op : CmpOp) (a b : V) (hp : Hp) : Prop := JCmp B n hp op a b Φ
noncomputable abbrev cmpK1 (B : Base) (n : Nat) (env : Env) (Φ : V → Hp → Prop) (op : CmpOp) (r : Expr) (a : V) (hp : Hp) : Prop := JE B n env hp r (cmpK2 B n Φ op a)
noncomputable abbrev truK (B : Base) (n : Nat) (Θ : Bool → Hp → Prop) (v : V) (hp : Hp) : Prop := JTru B n hp v Θ
theorem JE.bin {l r : Expr} {op : Operator} (h : JE B n env hp l (binK1 B n env Φ op r)) : JE B n env hp (.BinOp l op r pos) Φ :=
  fun A s ok S => Wp.of fun Q k => wpAny_BinOp ((h A s ok S).use fun _ _ _ _ S₁ L₁ r₁ h₁ => (h₁ A _ ok S₁).use fun _ _ _ _ S₂ L₂ r₂ h₂ => (h₂ A _ _ _ ok S₂ (r₁.mono L₂) r₂).le (L₁.trans L₂) k)
theorem JE.cmp {l r : Expr} {op : CmpOp} (h : JE B n env hp l (cmpK1 B n env Φ op r)) (hm : behindInMarks op r = false := by with_unfolding_all rfl) :
    JE B n env hp (.Compare l [op] [r] pos) Φ :=
  fun A s ok S => Wp.of fun Q k => wpAny_Compare1 ((h A s ok S).use fun _ _ _ _ S₁ L₁ r₁ h₁ => (h₁ A _ ok S₁).use fun _ _ _ _ S₂ L₂ r₂ h₂ => (h₂ A _ _ _ ok S₂ (r₁.mono L₂) r₂).le (L₁.trans L₂) k) hm
theorem JT.cmp {l r : Expr} {op : CmpOp} (h : JE B n env hp l (cmpK1 B n env (truK B n Θ) op r)) (hm : behindInMarks op r = false := by with_unfolding_all rfl) :
    JT B n env hp (.Compare l [op] [r] pos) Θ :=
  fun A s ok S => Wp.of fun Q k => wpAny_isTrue_Compare1 ((h A s ok S).use fun _ _ _ _ S₁ L₁ r₁ h₁ => (h₁ A _ ok S₁).use fun _ _ _ _ S₂ L₂ r₂ h₂ => (h₂ A _ _ _ ok S₂ (r₁.mono L₂) r₂).use
    fun _ _ _ _ S₃ L₃ r₃ h₃ => (h₃ A _ _ ok S₃ r₃).le ((L₁.trans L₂).trans L₃) k) hm
theorem JT.plain {e : Expr} (h : JE B n env hp e (truK B n Θ)) (he : ∀ whole, isTrue e env whole = (do let v ← whole; standAt e.pos; holding [v] (truthy v)) := by intro _; rfl) : JT B n env hp e Θ :=
  fun A s ok S => Wp.of fun Q k => by
    rw [he]
    exact wpAny_bind ((h A s ok S).use fun _ _ _ _ S₁ L₁ r₁ h₁ => wpAny_bind (wpAny_standAt (wpAny_holding ((h₁ A _ _ ok S₁ r₁).le L₁ k))))
noncomputable def JAll (B : Base) (n : Nat) (env : Env) (hp : Hp) (op : BoolOp) (es : List Expr) (Θ : Bool → Hp → Prop) : Prop := ∀ A s, AOk n A → St B hp s → Wp B EqR A (allTrue op es env) hp s Θ
theorem JT.boolOp {op : BoolOp} {es : List Expr} (h : JAll B n env hp op es Θ) : JT B n env hp (.BoolOp op es pos) Θ :=
  fun A s ok S => Wp.of fun Q k => wpAny_isTrue_BoolOp ((h A s ok S).use k)
theorem JAll.andNil (h : Θ true hp) : JAll B n env hp .And [] Θ := fun A s ok S => Wp.of fun Q k => wpAny_allTrue_And_nil (k _ _ _ _ S (Le.refl _) rfl h)
theorem JAll.orNil (h : Θ false hp) : JAll B n env hp .Or [] Θ := fun A s ok S => Wp.of fun Q k => wpAny_allTrue_Or_nil (k _ _ _ _ S (Le.refl _) rfl h)
theorem JAll.and {x : Expr} {es : List Expr} (h : JT B n env hp x fun b hp₁ => if b then JAll B n env hp₁ .And es Θ else Θ false hp₁) : JAll B n env hp .And (x :: es) Θ :=
  fun A s ok S => by
    rw [arm_allTrue_cons]
    refine (h A s ok S).bind fun a b hp₁ s₁ S₁ L₁ r₁ h₁ => ?_
    (first | refine Is.eInt r₁ fun _ => ?_ | refine Is.eStr r₁ fun _ => ?_ | refine Is.eNone r₁ ?_ | refine Is.eBool r₁ ?_ | refine Is.eRaw r₁ ?_ | refine Is.eMref r₁ ?_ | refine IsAll.eNil r₁ ?_ | (obtain rfl := r₁.inv) | (obtain ⟨_, rfl⟩ := r₁.inv) | cases r₁)
    cases a with
    | true => exact h₁ A s₁ ok S₁
    | false => exact Wp.pure S₁ rfl h₁
theorem JAll.or {x : Expr} {es : List Expr} (h : JT B n env hp x fun b hp₁ => if b then Θ true hp₁ else JAll B n env hp₁ .Or es Θ) : JAll B n env hp .Or (x :: es) Θ :=
  fun A s ok S => by
    rw [arm_allTrue_cons]
    refine (h A s ok S).bind fun a b hp₁ s₁ S₁ L₁ r₁ h₁ => ?_
    (first | refine Is.eInt r₁ fun _ => ?_ | refine Is.eStr r₁ fun _ => ?_ | refine Is.eNone r₁ ?_ | refine Is.eBool r₁ ?_ | refine Is.eRaw r₁ ?_ | refine Is.eMref r₁ ?_ | refine IsAll.eNil r₁ ?_ | (obtain rfl := r₁.inv) | (obtain ⟨_, rfl⟩ := r₁.inv) | cases r₁)
    cases a with
    | true => exact Wp.pure S₁ rfl h₁
    | false => exact h₁ A s₁ ok S₁
theorem JE.ite {t b o : Expr} (h : JT B n env hp t fun c hp₁ => if c then JE B n env hp₁ b Φ else JE B n env hp₁ o Φ) : JE B n env hp (.IfExp t b o pos) Φ :=
  fun A s ok S => Wp.of fun Q k => wpAny_IfExp ((h A s ok S).use fun _ _ _ _ S₁ L₁ r₁ h₁ => by
    (first | refine Is.eInt r₁ fun _ => ?_ | refine Is.eStr r₁ fun _ => ?_ | refine Is.eNone r₁ ?_ | refine Is.eBool r₁ ?_ | refine Is.eRaw r₁ ?_ | refine Is.eMref r₁ ?_ | refine IsAll.eNil r₁ ?_ | (obtain rfl := r₁.inv) | (obtain ⟨_, rfl⟩ := r₁.inv) | cases r₁)
    split <;> rename_i hc
    · rw [if_pos hc] at h₁; exact (h₁ A _ ok S₁).le L₁ k
    · rw [if_neg hc] at h₁; exact (h₁ A _ ok S₁).le L₁ k)
theorem JE.and {e₁ e₂ : Expr} {rest : List Expr} (h : JE B n env hp e₁ fun v hp₁ => JTru B n hp₁ v fun c hp₂ => if c then JE B n env hp₂ (.BoolOp .And (e₂ :: rest) pos) Φ else Φ v hp₂) : JE B n env hp (.BoolOp .And (e₁ :: e₂ :: rest) pos) Φ :=
  fun A s ok S => Wp.of fun Q k => BoolOp_and ((h A s ok S).use fun _ _ _ _ S₁ L₁ r₁ h₁ => (h₁ A _ _ ok S₁ r₁).use fun c _ _ _ S₂ L₂ r₂ h₂ => by
    (first | refine Is.eInt r₂ fun _ => ?_ | refine Is.eStr r₂ fun _ => ?_ | refine Is.eNone r₂ ?_ | refine Is.eBool r₂ ?_ | refine Is.eRaw r₂ ?_ | refine Is.eMref r₂ ?_ | refine IsAll.eNil r₂ ?_ | (obtain rfl := r₂.inv) | (obtain ⟨_, rfl⟩ := r₂.inv) | cases r₂)
    cases c with
    | true => exact (h₂ A _ ok S₂).le (L₁.trans L₂) k
    | false => exact k _ _ _ _ S₂ (L₁.trans L₂) (r₁.mono L₂) h₂)
theorem JE.one {op : BoolOp} {e : Expr} (h : JE B n env hp e Φ) : JE B n env hp (.BoolOp op [e] pos) Φ := fun A s ok S => Wp.of fun Q k => BoolOp_one ((h A s ok S).use k)

noncomputable def JEs (B : Base) (n : Nat) (env : Env) (hp : Hp) (ts : List (Bool × Sem Value)) (Ω : List V → Hp → Prop) : Prop := ∀ A s, AOk n A → St B hp s → Wp B IsAll A (spliced ts) hp s Ω
theorem JEs.nil {Ω : List V → Hp → Prop} (h : Ω [] hp) : JEs B n env hp (backTo pos (starEach [] env)) Ω := fun A s ok S => Wp.of fun Q k => spliced_nil (k _ _ _ _ S (Le.refl _) .nil h)
noncomputable abbrev esK2 (Ω : List V → Hp → Prop) (v : V) (vs : List V) (hp : Hp) : Prop := Ω (v :: vs) hp
noncomputable abbrev esK1 (B : Base) (n : Nat) (env : Env) (Ω : List V → Hp → Prop) (pos : Pos) (es : List Expr) (v : V) (hp : Hp) : Prop := JEs B n env hp (backTo pos (starEach es env)) (esK2 Ω v)
noncomputable abbrev tupK (Φ : V → Hp → Prop) (vs : List V) (hp : Hp) : Prop := vs.length ≤ 16777216 ∧ Φ (.tup vs) hp
noncomputable abbrev lstK (Φ : V → Hp → Prop) (vs : List V) (hp : Hp) : Prop := vs.length ≤ 16777216 ∧ Φ (.lst vs) hp
noncomputable abbrev lstMK (Φ : V → Hp → Prop) (vs : List V) (hp : Hp) : Prop := vs.length ≤ 16777216 ∧ ∀ a, Φ (.mref a) ((a, .list vs) :: hp)
theorem JEs.cons {e : Expr} {es : List Expr} {Ω : List V → Hp → Prop} (h : JE B n env hp e (esK1 B n env Ω pos es))
    (hs : backTo pos (starEach (e :: es) env) = (false, eval e env) :: backTo pos (starEach es env) := by rfl) : JEs B n env hp (backTo pos (starEach (e :: es) env)) Ω :=
  fun A s ok S => Wp.of fun Q k => by
    rw [hs]
    exact spliced_cons ((h A s ok S).use fun _ _ _ _ S₁ L₁ r₁ h₁ => (h₁ A _ ok S₁).use fun _ _ _ _ S₂ L₂ r₂ h₂ => k _ _ _ _ S₂ (L₁.trans L₂) (.cons (r₁.mono L₂) r₂) h₂)
theorem JE.tuple {es : List Expr} {k : Nat} (h : JEs B n env hp (backTo pos (starEach es env)) (tupK Φ)) : JE B n env hp (.Tuple es k pos) Φ :=
  fun A s ok S => Wp.of fun Q k => Tuple_ ((h A s ok S).use fun vs xs hp₁ s₁ S₁ L₁ r₁ h₁ => by
    have E := S₁.ext (tk := s₁.toks) (h' := s₁.heap.push { cls := .type "tuple", data := .seq vs.toArray }) fun _ _ e => Heap.get?_push_of_some _ e
    refine wpAny_newObj_type (k _ (.tup xs) _ _ E.1 (L₁.trans E.2) (.tup (S₁.frozen (size_fresh _) (Heap.get?_push_size _ rfl)) ?_) h₁.2) ?_
    · exact (r₁.mono E.2)
    · show vs.toArray.size ≤ sizeLine
      rw [List.size_toArray, r₁.length]; exact h₁.1)
theorem ext_list {s : Shared} (S : St B hp s) (vs : List Value) : St B hp { s with heap := s.heap.push { cls := .type "list", data := .seq vs.toArray } } ∧ Le (zof hp s.heap) (zof hp (s.heap.push { cls := .type "list", data := .seq vs.toArray })) :=
  S.ext (tk := s.toks) fun _ _ e => Heap.get?_push_of_some _ e
theorem JE.list {es : List Expr} (h : JEs B n env hp (backTo pos (starEach es env)) (lstK Φ)) : JE B n env hp (.List es pos) Φ :=
  fun A s ok S => Wp.of fun Q k => List_ ((h A s ok S).use fun vs xs hp₁ s₁ S₁ L₁ r₁ h₁ => by
    have E := ext_list S₁ vs
    refine wpAny_newObj_type (k _ (.lst xs) _ _ E.1 (L₁.trans E.2) (.lst (S₁.frozen (size_fresh _) (Heap.get?_push_size _ rfl)) ?_) h₁.2) ?_
    · exact (r₁.mono E.2)
    · show vs.toArray.size ≤ sizeLine
      rw [List.size_toArray, r₁.length]; exact h₁.1)
theorem JE.listM {es : List Expr} (h : JEs B n env hp (backTo pos (starEach es env)) (lstMK Φ)) : JE B n env hp (.List es pos) Φ :=
  fun A s ok S => Wp.of fun Q k => List_ ((h A s ok S).use fun vs xs hp₁ s₁ S₁ L₁ r₁ h₁ => by
    have E := S₁.add (tk := s₁.toks) (a := s₁.heap.objs.size) (ao := .list xs) (h' := s₁.heap.push { cls := .type "list", data := .seq vs.toArray }) (fun _ _ e => Heap.get?_push_of_some _ e) (size_fresh _) ⟨_, _, Heap.get?_push_size _ rfl, r₁⟩
    refine wpAny_newObj_type (k _ (.mref _) _ _ E.1 (L₁.trans E.2) (.mref _) (h₁.2 _)) ?_
    show vs.toArray.size ≤ sizeLine
    rw [List.size_toArray, r₁.length]; exact h₁.1)

theorem JS.nil (h : Ψ .next hp) : JS B n env hp [] Ψ := fun A s ok S => Wp.of fun Q k => wpAny_execs_nil (k _ _ _ _ S (Le.refl _) .next h)
noncomputable abbrev seqK (B : Base) (n : Nat) (env : Env) (Ψ : AF → Hp → Prop) (rest : List Stmt) (f : AF) (hp : Hp) : Prop := match f with | .next => JS B n env hp rest Ψ | f => Ψ f hp
noncomputable abbrev retK (Ψ : AF → Hp → Prop) (v : V) (hp : Hp) : Prop := Ψ (.ret v) hp
theorem JS.cons {st : Stmt} {rest : List Stmt} (h : J1 B n env hp st (seqK B n env Ψ rest)) : JS B n env hp (st :: rest) Ψ :=
  fun A s ok S => Wp.of fun Q k => wpAny_execs_cons ((h A s ok S).use fun _ _ _ _ S₁ L₁ r₁ h₁ => by
    cases r₁ with
    | next => exact (h₁ A _ ok S₁).le L₁ k
    | brk => exact k _ _ _ _ S₁ L₁ .brk h₁
    | cont => exact k _ _ _ _ S₁ L₁ .cont h₁
    | ret r => exact k _ _ _ _ S₁ L₁ (.ret r) h₁)
theorem JS.mono {ss : List Stmt} {Ψ' : AF → Hp → Prop} (h : JS B n env hp ss Ψ) (k : ∀ f hp, Ψ f hp → Ψ' f hp) : JS B n env hp ss Ψ' := fun A s ok S => (h A s ok S).mono k
theorem JE.mono {e : Expr} {Φ' : V → Hp → Prop} (h : JE B n env hp e Φ) (k : ∀ f hp, Φ f hp → Φ' f hp) : JE B n env hp e Φ' := fun A s ok S => (h A s ok S).mono k
theorem J1.retSome {e : Expr} (h : JE B n env hp e (retK Ψ)) : J1 B n env hp (.Return (some e) pos) Ψ :=
  fun A s ok S => Wp.of fun Q k => wpAny_Return_some ((h A s ok S).use fun _ _ _ _ S₁ L₁ r₁ h₁ => k _ _ _ _ S₁ L₁ (.ret r₁) h₁)
theorem J1.retNone (h : Ψ (.ret .none) hp) : J1 B n env hp (.Return none pos) Ψ := fun A s ok S => Wp.of fun Q k => wpAny_Return_none (k _ _ _ _ S (Le.refl _) (.ret .none) h)
theorem J1.cont (h : Ψ .cont hp) : J1 B n env hp (.Continue pos) Ψ := fun A s ok S => Wp.of fun Q k => wpAny_Continue (k _ _ _ _ S (Le.refl _) .cont h)
theorem J1.iff {t : Expr} {b o : List Stmt} (h : JT B n env hp t fun c hp₁ => if c then JS B n env hp₁ b Ψ else JS B n env hp₁ o Ψ) : J1 B n env hp (.If t b o pos) Ψ :=
  fun A s ok S => Wp.of fun Q k => wpAny_If ((h A s ok S).use fun _ _ _ _ S₁ L₁ r₁ h₁ => by
    (first | refine Is.eInt r₁ fun _ => ?_ | refine Is.eStr r₁ fun _ => ?_ | refine Is.eNone r₁ ?_ | refine Is.eBool r₁ ?_ | refine Is.eRaw r₁ ?_ | refine Is.eMref r₁ ?_ | refine IsAll.eNil r₁ ?_ | (obtain rfl := r₁.inv) | (obtain ⟨_, rfl⟩ := r₁.inv) | cases r₁)
    split <;> rename_i hc
    · rw [if_pos hc] at h₁; exact (h₁ A _ ok S₁).le L₁ k
    · rw [if_neg hc] at h₁; exact (h₁ A _ ok S₁).le L₁ k)
end
end Mine

set_option maxRecDepth 100000
set_option linter.unusedVariables false
namespace Mine
open PySem PySem.W PySem.Calls PyProof.Rows

noncomputable def NoR {α : Type} (_ : Z) (_ : α) (_ : Unit) : Prop := True
noncomputable abbrev WpU (B : Base) {α : Type} (A : Around) (t : Sem α) (hp : Hp) (s : Shared) (Φ : Hp → Prop) : Prop := Wp B NoR A t hp s fun _ hp' => Φ hp'

inductive UpdN : List (Str × Option V) → Str → V → List (Str × Option V) → Prop
  | head {x : Str} {o : Option V} {v : V} {r : List (Str × Option V)} : UpdN ((x, o) :: r) x v ((x, some v) :: r)
  | tail {p : Str × Option V} {r r' : List (Str × Option V)} {x : Str} {v : V} : UpdN r x v r' → UpdN (p :: r) x v (p :: r')
theorem UpdN.keys {fs fs' : List (Str × Option V)} {x : Str} {v : V} (U : UpdN fs x v fs') : fs'.map (·.1) = fs.map (·.1) := by
  induction U with
  | head => rfl
  | tail _ ih => rw [List.map_cons, List.map_cons, ih]
theorem UpdN.mem {fs fs' : List (Str × Option V)} {x : Str} {v : V} (U : UpdN fs x v fs') : x ∈ fs.map (·.1) := by
  induction U with
  | head => exact .head _
  | tail _ ih => exact .tail _ ih
theorem UpdN.lookup {fs fs' : List (Str × Option V)} {x : Str} {v : V} (U : UpdN fs x v fs') (hd : (fs.map (·.1)).Nodup) (y : Str) : fs'.lookup y = if y = x then some (some v) else fs.lookup y := by
  induction U with
  | head =>
    rename_i x o v r
    by_cases q : y = x
    · subst q; simp
    · have : (y == x) = false := by simpa using q
      simp [List.lookup_cons, this, q]
  | tail U ih =>
    rename_i p r r' x v
    obtain ⟨z, o⟩ := p
    have hn := List.nodup_cons.mp hd
    rw [List.lookup_cons, List.lookup_cons, ih hn.2]
    by_cases e : y = z
    · have ne : y ≠ x := fun e' => hn.1 (by show z ∈ _; rw [← e, e']; exact U.mem)
      have q : (y == z) = true := by simpa using e
      simp [q, ne]
    · have q : (y == z) = false := by simpa using e
      simp [q]

section
variable {B : Base} {n : Nat} {env : Env} {hp hp' : Hp} {pos : Pos} {Φ : V → Hp → Prop} {Ψ : AF → Hp → Prop} {Θ : Bool → Hp → Prop} {Υ : Hp → Prop} {G : Globs B} {L : Addr} {kinds : List (Str × NameKind)} {own out : List (Str × Addr)} {v : V}

theorem ObjIs.nsPut {z : Z} {h' : Heap} {fs fs' : List (Str × Option V)} {x : Str} {val : Value} (hd : (fs.map (·.1)).Nodup) {m : Str → Option Value} (hm : ∀ x, OptIs z (m x) (fs.lookup x).join) (hn : h'.Ns L fun y => if y = x then some val else m y)
    (hv : Is z val v) (U : UpdN fs x v fs') : ObjIs z h' L (.ns fs') := by
  refine ⟨by rw [U.keys]; exact hd, _, hn, fun y => ?_⟩
  rw [U.lookup hd y]
  by_cases q : y = x
  · rw [if_pos q, if_pos q]; exact hv
  · rw [if_neg q, if_neg q]; exact hm y

noncomputable def JSt (B : Base) (n : Nat) (env : Env) (hp : Hp) (x : Str) (v : V) (Υ : Hp → Prop) : Prop := ∀ A s val, AOk n A → St B hp s → Is (zof hp s.heap) val v → WpU B A (storeName env x val) hp s Υ
theorem JSt.local (E : EnvIs B G env L kinds own out) {fs fs' : List (Str × Option V)} {x : Str} (hl : (x, NameKind.local) ∈ kinds) (U : Upd hp L (.ns fs) (.ns fs') hp') (u : UpdN fs x v fs') (h : Υ hp') : JSt B n env hp x v Υ :=
  fun A s val ok S r => Wp.of fun Q k => by
    obtain ⟨hd, m, hm, hr⟩ := S.objs _ U.mem
    refine wpAny_storeName_local (E.kind hl (by decide)) (E.loc ▸ hm) (fun h' hn hs => ?_) (by rw [E.fn]; rfl)
    rw [E.loc] at hn hs
    have := S.set (tk := s.toks + 1) U hs.extBut (ObjIs.nsPut hd hr hn r u)
    exact k _ () _ _ this.1 this.2 trivial h
theorem JSt.cell (E : EnvIs B G env L kinds own out) {c : Addr} {o : Option V} {x : Str} (hc : (x, c) ∈ own) (U : Upd hp c (.cell o) (.cell (some v)) hp') (h : Υ hp') : JSt B n env hp x v Υ :=
  fun A s val ok S r => Wp.of fun Q k => by
    obtain ⟨w, hw, _⟩ := S.objs _ U.mem
    refine wpAny_storeName_cell E.fn (E.kind (E.ow _ hc).1 (by decide)) (E.ow _ hc).2 hw fun h' hn hs => ?_
    have := S.set (tk := s.toks) U hs.extBut ⟨_, hn, r⟩
    exact k _ () _ _ this.1 this.2 trivial h

noncomputable def JA (B : Base) (n : Nat) (env : Env) (hp : Hp) (t : Expr) (v : V) (Υ : Hp → Prop) : Prop := ∀ A s val, AOk n A → St B hp s → Is (zof hp s.heap) val v → WpU B A (assign t env val) hp s Υ
theorem JA.name {x : Str} (h : JSt B n env hp x v Υ) : JA B n env hp (.Name x pos) v Υ := fun A s val ok S r => Wp.of fun Q k => wpAny_assign_Name ((h A s val ok S r).use k)
noncomputable def JAs (B : Base) (n : Nat) (hp : Hp) (ts : List (Value → Sem Unit)) (vs : List V) (Υ : Hp → Prop) : Prop := ∀ A s vals, AOk n A → St B hp s → IsAll (zof hp s.heap) vals vs → WpU B A (assignInOrder ts vals) hp s Υ
theorem JAs.nil (h : Υ hp) : JAs B n hp [] [] Υ := fun A s vals ok S r => Wp.of fun Q k => by
  (first | refine Is.eInt r fun _ => ?_ | refine Is.eStr r fun _ => ?_ | refine Is.eNone r ?_ | refine Is.eBool r ?_ | refine Is.eRaw r ?_ | refine Is.eMref r ?_ | refine IsAll.eNil r ?_ | (obtain rfl := r.inv) | (obtain ⟨_, rfl⟩ := r.inv) | cases r)
  exact wpAny_pure (k () () _ _ S (Le.refl _) trivial h)
noncomputable abbrev asK (B : Base) (n : Nat) (Υ : Hp → Prop) (ts : List (Value → Sem Unit)) (vs : List V) (hp : Hp) : Prop := JAs B n hp ts vs Υ
noncomputable abbrev asgK (B : Base) (n : Nat) (env : Env) (Ψ : AF → Hp → Prop) (t : Expr) (v : V) (hp : Hp) : Prop := JA B n env hp t v (Ψ .next)
noncomputable abbrev exprK (Ψ : AF → Hp → Prop) (_ : V) (hp : Hp) : Prop := Ψ .next hp
theorem JAs.cons {t : Expr} {ts : List (Value → Sem Unit)} {vs : List V} (h : JA B n env hp t v (asK B n Υ ts vs)) : JAs B n hp (assign t env :: ts) (v :: vs) Υ := fun A s vals ok S r => Wp.of fun Q k => by
  obtain ⟨_, _, rfl, r, rs⟩ := r.inv
  exact wpAny_bind (wpAny_holding ((h A s _ ok S r).use fun _ _ _ _ S₁ L₁ _ h₁ => (h₁ A _ _ ok S₁ (rs.mono L₁)).le L₁ k))
theorem isTuple_of {z : Z} {h : Heap} {val : Value} {xs : List V} (hz : ∀ a o, z a = some o → h.get? a = some o) (r : Is z val (.tup xs)) : ∃ a items, val = .ref a ∧ h.IsTuple a items ∧ IsAll z items.toList xs := by
  obtain ⟨_, _, _, rfl, e, r⟩ := r.inv
  next => exact ⟨_, _, rfl, ⟨_, hz _ _ e, rfl, _, rfl⟩, r⟩
theorem zof_le {hp : Hp} {h : Heap} : ∀ a o, zof hp h a = some o → h.get? a = some o := fun _ _ e => (zof_of e).1
theorem keep_of_new {h h' : Heap} (x : Heap.ExtBut h.objs.size h h') : ∀ b o, h.get? b = some o → h'.get? b = some o := fun b o e => x b o (Nat.ne_of_lt (Heap.lt_size e)) e
theorem JA.tuple {es : List Expr} {xs : List V} {k₀ : Nat} (h : JAs B n hp ((assignEach es env).map (·.2)) xs Υ) (hn : (assignEach es env).length = xs.length := by rfl) (hs : (assignEach es env).findIdx? (·.1) = none := by rfl) :
    JA B n env hp (.Tuple es k₀ pos) (.tup xs) Υ := fun A s val ok S r => Wp.of fun Q k => by
  obtain ⟨a, items, rfl, ht, rs⟩ := isTuple_of zof_le r
  refine wpAny_assign_Tuple ok.handled ht (by rw [hn, ← rs.length, Array.length_toList]) hs fun h' hx => ?_
  have E := S.ext (tk := s.toks) (keep_of_new hx)
  exact (h A _ _ ok E.1 (rs.mono E.2)).le E.2 k

theorem J1.assign {t e : Expr} (h : JE B n env hp e (asgK B n env Ψ t))
    (hs : swapsWithSole [t] e pos.line env = pure false := by rfl) (hw : swappedStores [t] e env = pure none := by rfl) (ha : (assignEach [t] env).map (·.2) = [assign t env] := by rfl) : J1 B n env hp (.Assign [t] e pos) Ψ :=
  fun A s ok S => Wp.of fun Q k => wpAny_Assign_stores ((h A s ok S).use fun _ _ _ _ S₁ L₁ r₁ h₁ => by
    rw [ha]
    exact (h₁ A _ _ ok S₁ r₁).use fun _ _ _ _ S₂ L₂ _ h₂ => k _ _ _ _ S₂ (L₁.trans L₂) .next h₂) hs hw

theorem J1.assignSwap {t e : Expr} {names : List Str} (h : JE B n env hp e fun v hp₁ => ∃ xs, v = .tup xs ∧ xs.length = names.length ∧ JAs B n hp₁ (names.reverse.map fun x => bindName env x) xs.reverse fun hp₂ => Ψ .next hp₂)
    (hs : swapsWithSole [t] e pos.line env = pure false := by rfl) (hw : swappedStores [t] e env = pure (some names) := by rfl) : J1 B n env hp (.Assign [t] e pos) Ψ :=
  fun A s ok S => Wp.of fun Q k => by
    rw [exec_Assign_arm]
    refine wpAny_bind (wpAny_standAt ?_)
    rw [hs]
    refine wpAny_bind (wpAny_pure ?_)
    rw [if_neg (by decide)]
    refine wpAny_bind ((h A s ok S).use fun _ _ _ s₁ S₁ L₁ r₁ h₁ => ?_)
    rw [hw]
    refine wpAny_bind (wpAny_pure ?_)
    obtain ⟨xs, rfl, hl, h₁⟩ := h₁
    obtain ⟨a, items, rfl, ht, rs⟩ := isTuple_of zof_le r₁
    show wpAny _ A (do rule "assign.swapped-stores"; let items ← unpackItems (.ref a) names.length none; assignInOrder (names.reverse.map fun n => bindName env n) items.reverse; pure .next) Q _ s₁
    refine wpAny_bind (wpAny_rule (wpAny_bind ?_))
    have hl' : names.length = items.size := by rw [← hl, ← rs.length, Array.length_toList]
    rw [hl']
    refine wpAny_unpackItems_tuple ok.handled ht fun h' hx => ?_
    have E := S₁.ext (tk := s₁.toks) (keep_of_new hx)
    have rev : ∀ {z : Z} {vs : List Value} {ys : List V}, IsAll z vs ys → IsAll z vs.reverse ys.reverse := by
      intro z vs ys r
      induction r using IsAll.rec (motive_1 := fun _ _ _ => True) with
      | nil => exact .nil
      | cons h r _ ih => rw [List.reverse_cons, List.reverse_cons]; exact IsAll.append (.cons h .nil) ih
      | _ => trivial
    exact wpAny_bind ((h₁ A _ _ ok E.1 (rev (rs.mono E.2))).use fun _ _ _ _ S₂ L₂ _ h₂ => wpAny_pure (k _ _ _ _ S₂ ((L₁.trans E.2).trans L₂) .next h₂))
theorem JAs.bind {x : Str} {ts : List (Value → Sem Unit)} {vs : List V} (h : JSt B n env hp x v (asK B n Υ ts vs)) : JAs B n hp (bindName env x :: ts) (v :: vs) Υ := fun A s vals ok S r => Wp.of fun Q k => by
  obtain ⟨_, _, rfl, r, rs⟩ := r.inv
  exact wpAny_bind (wpAny_holding (wpAny_bindName ((h A s _ ok S r).use fun _ _ _ _ S₁ L₁ _ h₁ => (h₁ A _ _ ok S₁ (rs.mono L₁)).le L₁ k)))

noncomputable abbrev augK3 (B : Base) (n : Nat) (env : Env) (Ψ : AF → Hp → Prop) (x : Str) (c : V) (hp : Hp) : Prop := JSt B n env hp x c (Ψ .next)
noncomputable abbrev augK2 (B : Base) (n : Nat) (env : Env) (Ψ : AF → Hp → Prop) (x : Str) (op : Operator) (a b : V) (hp : Hp) : Prop := JInp B n hp op a b (augK3 B n env Ψ x)
noncomputable abbrev augK1 (B : Base) (n : Nat) (env : Env) (Ψ : AF → Hp → Prop) (x : Str) (op : Operator) (e : Expr) (a : V) (hp : Hp) : Prop := JE B n env hp e (augK2 B n env Ψ x op a)
theorem J1.augName {x : Str} {px : Pos} {op : Operator} {e : Expr} (h : JL B n env hp x (augK1 B n env Ψ x op e)) : J1 B n env hp (.AugAssign (.Name x px) op e pos) Ψ :=
  fun A s ok S => Wp.of fun Q k => wpAny_AugAssign_Name ((h A s ok S).use fun _ _ _ _ S₁ L₁ r₁ h₁ => (h₁ A _ ok S₁).use fun _ _ _ _ S₂ L₂ r₂ h₂ => (h₂ A _ _ _ ok S₂ (r₁.mono L₂) r₂).use
    fun _ _ _ _ S₃ L₃ r₃ h₃ => (h₃ A _ _ ok S₃ r₃).use fun _ _ _ _ S₄ L₄ _ h₄ => k _ _ _ _ S₄ (((L₁.trans L₂).trans L₃).trans L₄) .next h₄)

noncomputable def JGa (B : Base) (n : Nat) (hp : Hp) (o : V) (a : Str) (Φ : V → Hp → Prop) : Prop := ∀ A s val, AOk n A → St B hp s → Is (zof hp s.heap) val o → Wp B Is A (getAttr val a true) hp s Φ
noncomputable def JSa (B : Base) (n : Nat) (hp : Hp) (o : V) (a : Str) (v : V) (Υ : Hp → Prop) : Prop := ∀ A s val x, AOk n A → St B hp s → Is (zof hp s.heap) val o → Is (zof hp s.heap) x v → WpU B A (setAttr val a x) hp s Υ
noncomputable def JGi (B : Base) (n : Nat) (hp : Hp) (o i : V) (Φ : V → Hp → Prop) : Prop := ∀ A s val x, AOk n A → St B hp s → Is (zof hp s.heap) val o → Is (zof hp s.heap) x i → Wp B Is A (getItem val x) hp s Φ
noncomputable def JSi (B : Base) (n : Nat) (hp : Hp) (o i v : V) (Υ : Hp → Prop) : Prop := ∀ A s val x y, AOk n A → St B hp s → Is (zof hp s.heap) val o → Is (zof hp s.heap) x i → Is (zof hp s.heap) y v → WpU B A (setItem val x y) hp s Υ
noncomputable abbrev aatK4 (B : Base) (n : Nat) (Ψ : AF → Hp → Prop) (a : Str) (ov c : V) (hp : Hp) : Prop := JSa B n hp ov a c (Ψ .next)
noncomputable abbrev aatK3 (B : Base) (n : Nat) (Ψ : AF → Hp → Prop) (op : Operator) (a : Str) (ov old b : V) (hp : Hp) : Prop := JInp B n hp op old b (aatK4 B n Ψ a ov)
noncomputable abbrev aatK2 (B : Base) (n : Nat) (env : Env) (Ψ : AF → Hp → Prop) (op : Operator) (e : Expr) (a : Str) (ov old : V) (hp : Hp) : Prop := JE B n env hp e (aatK3 B n Ψ op a ov old)
noncomputable abbrev aatK1 (B : Base) (n : Nat) (env : Env) (Ψ : AF → Hp → Prop) (op : Operator) (e : Expr) (a : Str) (ov : V) (hp : Hp) : Prop := JGa B n hp ov a (aatK2 B n env Ψ op e a ov)
noncomputable abbrev asuK5 (B : Base) (n : Nat) (Ψ : AF → Hp → Prop) (ov iv c : V) (hp : Hp) : Prop := JSi B n hp ov iv c (Ψ .next)
noncomputable abbrev asuK4 (B : Base) (n : Nat) (Ψ : AF → Hp → Prop) (op : Operator) (ov iv old b : V) (hp : Hp) : Prop := JInp B n hp op old b (asuK5 B n Ψ ov iv)
noncomputable abbrev asuK3 (B : Base) (n : Nat) (env : Env) (Ψ : AF → Hp → Prop) (op : Operator) (e : Expr) (ov iv old : V) (hp : Hp) : Prop := JE B n env hp e (asuK4 B n Ψ op ov iv old)
noncomputable abbrev asuK2 (B : Base) (n : Nat) (env : Env) (Ψ : AF → Hp → Prop) (op : Operator) (e : Expr) (ov iv : V) (hp : Hp) : Prop := JGi B n hp ov iv (asuK3 B n env Ψ op e ov iv)
noncomputable abbrev asuK1 (B : Base) (n : Nat) (env : Env) (Ψ : AF → Hp → Prop) (op : Operator) (e i : Expr) (ov : V) (hp : Hp) : Prop := JE B n env hp i (asuK2 B n env Ψ op e ov)
theorem J1.augAttr {o e : Expr} {a : Str} {pa : Pos} {op : Operator} (h : JE B n env hp o (aatK1 B n env Ψ op e a)) :
    J1 B n env hp (.AugAssign (.Attribute o a pa) op e pos) Ψ :=
  fun A s ok S => Wp.of fun Q k => wpAny_AugAssign_AttributeAny ((h A s ok S).use fun _ _ _ _ S₁ L₁ r₁ h₁ => (h₁ A _ _ ok S₁ r₁).use fun _ _ _ _ S₂ L₂ r₂ h₂ => (h₂ A _ ok S₂).use fun _ _ _ _ S₃ L₃ r₃ h₃ =>
    (h₃ A _ _ _ ok S₃ (r₂.mono L₃) r₃).use fun _ _ _ _ S₄ L₄ r₄ h₄ => (h₄ A _ _ _ ok S₄ (((r₁.mono L₂).mono L₃).mono L₄) r₄).use fun _ _ _ _ S₅ L₅ _ h₅ => k _ _ _ _ S₅ ((((L₁.trans L₂).trans L₃).trans L₄).trans L₅) .next h₅)
theorem J1.augSub {o i e : Expr} {pa : Pos} {op : Operator} (h : JE B n env hp o (asuK1 B n env Ψ op e i))
    (hi : ∀ ov iv new, augStore i ov iv new = (do holding [new, ov, iv] (setItem ov iv new); release [new, ov, iv] []; pure .next) := by intros; rfl) : J1 B n env hp (.AugAssign (.Subscript o i pa) op e pos) Ψ :=
  fun A s ok S => Wp.of fun Q k => wpAny_AugAssign_SubscriptAny ((h A s ok S).use fun _ _ _ _ S₁ L₁ r₁ h₁ => (h₁ A _ ok S₁).use fun _ _ _ _ S₂ L₂ r₂ h₂ => (h₂ A _ _ _ ok S₂ (r₁.mono L₂) r₂).use fun _ _ _ _ S₃ L₃ r₃ h₃ =>
    (h₃ A _ ok S₃).use fun _ _ _ _ S₄ L₄ r₄ h₄ => (h₄ A _ _ _ ok S₄ (r₃.mono L₄) r₄).use fun _ _ _ _ S₅ L₅ r₅ h₅ => (h₅ A _ _ _ _ ok S₅ ((((r₁.mono L₂).mono L₃).mono L₄).mono L₅) (((r₂.mono L₃).mono L₄).mono L₅) r₅).use
    fun _ _ _ _ S₆ L₆ _ h₆ => k _ _ _ _ S₆ (((((L₁.trans L₂).trans L₃).trans L₄).trans L₅).trans L₆) .next h₆) hi

noncomputable abbrev jaK (B : Base) (n : Nat) (Υ : Hp → Prop) (a : Str) (v ov : V) (hp : Hp) : Prop := JSa B n hp ov a v Υ
noncomputable abbrev jasK2 (B : Base) (n : Nat) (Υ : Hp → Prop) (v ov iv : V) (hp : Hp) : Prop := JSi B n hp ov iv v Υ
noncomputable abbrev jasK1 (B : Base) (n : Nat) (env : Env) (Υ : Hp → Prop) (v : V) (i : Expr) (ov : V) (hp : Hp) : Prop := JE B n env hp i (jasK2 B n Υ v ov)
theorem JA.attr {o : Expr} {a : Str} (h : JE B n env hp o (jaK B n Υ a v)) : JA B n env hp (.Attribute o a pos) v Υ := fun A s val ok S r => Wp.of fun Q k => by
  rw [arm_assign_Attribute]
  refine wpAny_bind (wpAny_holding ((h A s ok S).use fun _ _ _ _ S₁ L₁ r₁ h₁ => wpAny_bind (wpAny_standAt (wpAny_bind (wpAny_holding ((h₁ A _ _ _ ok S₁ r₁ (r.mono L₁)).use fun _ _ _ _ S₂ L₂ r₂ h₂ => ?_))))))
  exact wpAny_release (k _ () _ _ S₂ (L₁.trans L₂) trivial h₂)
theorem JA.sub {o i : Expr} (h : JE B n env hp o (jasK1 B n env Υ v i)) : JA B n env hp (.Subscript o i pos) v Υ := fun A s val ok S r => Wp.of fun Q k => by
  rw [arm_assign_Subscript]
  refine wpAny_bind (wpAny_holding ((h A s ok S).use fun _ _ _ _ S₁ L₁ r₁ h₁ => wpAny_bind (wpAny_holding ((h₁ A _ ok S₁).use fun _ _ _ _ S₂ L₂ r₂ h₂ =>
    wpAny_bind (wpAny_standAt (wpAny_bind (wpAny_holding ((h₂ A _ _ _ _ ok S₂ (r₁.mono L₂) r₂ ((r.mono L₁).mono L₂)).use fun _ _ _ _ S₃ L₃ r₃ h₃ => ?_))))))))
  exact wpAny_release (k _ () _ _ S₃ ((L₁.trans L₂).trans L₃) trivial h₃)

theorem J1.expr {e : Expr} (h : JE B n env hp e (exprK Ψ)) (hi : interactive env = false := by rfl) (hs : swapsWith e none pos.line env = pure false := by rfl) : J1 B n env hp (.Expr e pos) Ψ :=
  fun A s ok S => Wp.of fun Q k => by
    rw [exec_Expr env e pos hi hs]
    refine wpAny_bind (wpAny_standAt (wpAny_bind ((h A s ok S).use fun v _ _ s₁ S₁ L₁ r₁ h₁ => ?_)))
    exact wpAny_dropValue (k .next .next _ s₁ S₁ L₁ .next h₁)

noncomputable abbrev attrK (B : Base) (n : Nat) (Φ : V → Hp → Prop) (a : Str) (ov : V) (hp : Hp) : Prop := JGa B n hp ov a Φ
theorem JE.attr {o : Expr} {a : Str} (h : JE B n env hp o (attrK B n Φ a)) (hb : attributeBase o a env (eval o env) = eval o env := by rfl) : JE B n env hp (.Attribute o a pos) Φ :=
  fun A s ok S => Wp.of fun Q k => by
    rw [arm_eval_Attribute, hb]
    refine wpAny_bind ((h A s ok S).use fun _ _ _ _ S₁ L₁ r₁ h₁ => wpAny_bind (wpAny_standAt (wpAny_bind (wpAny_holding ((h₁ A _ _ ok S₁ r₁).use fun _ _ _ _ S₂ L₂ r₂ h₂ => ?_)))))
    exact wpAny_bind (wpAny_letTemporaryGo (wpAny_pure (k _ _ _ _ S₂ (L₁.trans L₂) r₂ h₂)))
noncomputable def NoPyItem (B : Base) (hp : Hp) (o : V) : Prop := ∀ A s val, St B hp s → Is (zof hp s.heap) val o → ∀ Q : Bool → Shared → Prop, Q false s → wpAny B.M A (getitemInPython val) Q (fun _ _ => False) s
noncomputable abbrev subK2 (B : Base) (n : Nat) (Φ : V → Hp → Prop) (ov iv : V) (hp : Hp) : Prop := NoPyItem B hp ov ∧ JGi B n hp ov iv Φ
noncomputable abbrev subK1 (B : Base) (n : Nat) (env : Env) (Φ : V → Hp → Prop) (i : Expr) (ov : V) (hp : Hp) : Prop := JE B n env hp i (subK2 B n Φ ov)
theorem JE.sub {o i : Expr} (h : JE B n env hp o (subK1 B n env Φ i)) (hi : ∀ o' i', subscripted i false o' i' = operate [o', i'] (getItem o' i') ∨ subscripted i false o' i' = operate [i', o'] (getItem o' i') := by intros; first | exact .inl rfl | exact .inr rfl) :
    JE B n env hp (.Subscript o i pos) Φ :=
  fun A s ok S => Wp.of fun Q k => by
    rw [arm_eval_Subscript]
    refine wpAny_bind ((h A s ok S).use fun ov _ _ _ S₁ L₁ r₁ h₁ => wpAny_bind (wpAny_holding ((h₁ A _ ok S₁).use fun iv _ _ s₂ S₂ L₂ r₂ h₂ => wpAny_bind (wpAny_standAt (wpAny_bind ?_)))))
    refine wpAny_mono (h₂.1 A _ _ S₂ (r₁.mono L₂) (fun b s' => b = false ∧ s' = s₂) ⟨rfl, rfl⟩) (fun b s' hb => ?_) fun _ _ x => x.elim
    obtain ⟨rfl, rfl⟩ := hb
    have step := (h₂.2 A _ _ _ ok S₂ (r₁.mono L₂) r₂).use (E := fun _ _ => False) (Q := fun r s' => wpAny B.M A (letTemporaryGo o ov r >>= fun _ => pure r) Q (fun _ _ => False) s') fun _ _ _ _ S₃ L₃ r₃ h₃ =>
      wpAny_bind (wpAny_letTemporaryGo (wpAny_pure (k _ _ _ _ S₃ ((L₁.trans L₂).trans L₃) r₃ h₃)))
    rcases hi ov iv with e | e
    · rw [e]; exact wpAny_bind (wpAny_operate' step)
    · rw [e]; exact wpAny_bind (wpAny_operate' step)
theorem JE.unary {e : Expr} {op : UnaryOp} (h : JE B n env hp e fun v hp₁ => ∀ A s val, AOk n A → St B hp₁ s → Is (zof hp₁ s.heap) val v → Wp B Is A (unaryOp op val) hp₁ s Φ) : JE B n env hp (.UnaryOp op e pos) Φ :=
  fun A s ok S => Wp.of fun Q k => UnaryOp_ ((h A s ok S).use fun _ _ _ _ S₁ L₁ r₁ h₁ => (h₁ A _ _ ok S₁ r₁).le L₁ k)
end
end Mine

set_option maxRecDepth 100000
set_option linter.unusedVariables false
namespace Mine
open PySem PySem.W PySem.Calls PyProof.Rows

inductive BindIs (z : Z) : List (Str × Value) → List (Str × V) → Prop
  | nil : BindIs z [] []
  | cons {x : Str} {v : Value} {w : V} {bs : List (Str × Value)} {ws : List (Str × V)} : Is z v w → BindIs z bs ws → BindIs z ((x, v) :: bs) ((x, w) :: ws)
theorem BindIs.mono {z z' : Z} (l : Le z z') {bs ws} (h : BindIs z bs ws) : BindIs z' bs ws := by
  induction h with
  | nil => exact .nil
  | cons h _ r => exact .cons (h.mono l) r
theorem BindIs.names {z : Z} {bs ws} (h : BindIs z bs ws) : bs.map (·.1) = ws.map (·.1) := by
  induction h with
  | nil => rfl
  | cons _ _ r => exact congrArg (_ :: ·) r
theorem BindIs.zip {z : Z} {vs : List Value} {ws : List V} (h : IsAll z vs ws) : ∀ (names : List Str), BindIs z (names.zip vs) (names.zip ws) :=
  h.ind (P := fun vs ws => ∀ (names : List Str), BindIs z (names.zip vs) (names.zip ws)) (fun names => by cases names <;> exact .nil) fun h _ r names => by
    cases names with
    | nil => exact .nil
    | cons x names => exact .cons h (r names)

noncomputable def bindLV (kindOf : Str → Option NameKind) : List (Str × V) → (Str → Option V) → Str → Option V
  | [], m => m
  | (n, v) :: r, m => bindLV kindOf r (if kindOf n = some .local then fun y => if y = n then some v else m y else m)
noncomputable def bindCV (kindOf : Str → Option NameKind) : List (Str × V) → (Str → Option V) → Str → Option V
  | [], m => m
  | (n, v) :: r, m => bindCV kindOf r (if kindOf n = some .local then m else fun y => if y = n then some v else m y)
theorem put_is {z : Z} {n : Str} {v : Value} {w : V} (hv : Is z v w) {m : Str → Option Value} {mv : Str → Option V} (h : ∀ x, OptIs z (m x) (mv x)) (y : Str) : OptIs z (if y = n then some v else m y) (if y = n then some w else mv y) := by
  by_cases e : y = n
  · rw [if_pos e, if_pos e]; exact hv
  · rw [if_neg e, if_neg e]; exact h y
theorem bindL_is {z : Z} {kindOf : Str → Option NameKind} {bs ws} (H : BindIs z bs ws) : ∀ {m : Str → Option Value} {mv : Str → Option V}, (∀ x, OptIs z (m x) (mv x)) → ∀ x, OptIs z (bindL kindOf bs m x) (bindLV kindOf ws mv x) := by
  induction H with
  | nil => exact fun h x => h x
  | cons hv _ ih =>
    intro m mv h
    refine ih fun y => ?_
    split
    · exact put_is hv h y
    · exact h y
theorem bindC_is {z : Z} {kindOf : Str → Option NameKind} {bs ws} (H : BindIs z bs ws) : ∀ {m : Str → Option Value} {mv : Str → Option V}, (∀ x, OptIs z (m x) (mv x)) → ∀ x, OptIs z (bindC kindOf bs m x) (bindCV kindOf ws mv x) := by
  induction H with
  | nil => exact fun h x => h x
  | cons hv _ ih =>
    intro m mv h
    refine ih fun y => ?_
    split
    · exact h y
    · exact put_is hv h y
theorem bindLV_other {kindOf : Str → Option NameKind} {x : Str} (hx : kindOf x ≠ some .local) : ∀ (ws : List (Str × V)) (m : Str → Option V), bindLV kindOf ws m x = m x
  | [], _ => rfl
  | (n, v) :: r, m => by
    unfold bindLV
    rw [bindLV_other hx r]
    by_cases q : kindOf n = some .local
    · rw [if_pos q]
      have : x ≠ n := fun e => hx (e ▸ q)
      simp only [this, if_false]
    · rw [if_neg q]

noncomputable def localsAt (scope : Scope) (ws : List (Str × V)) : List (Str × Option V) :=
  (scope.names.filter fun p => p.2 == .local).map fun p => (p.1, bindLV (fun y => scope.names.lookup y) ws (fun _ => none) p.1)
noncomputable def cellsAt (scope : Scope) (ws : List (Str × V)) (cs : List (Str × Addr)) : Hp := cs.map fun p => (p.2, .cell (bindCV (fun y => scope.names.lookup y) ws (fun _ => none) p.1))

theorem lookup_map_self {α : Type} (f : Str → α) : ∀ (l : List Str) (x : Str), (l.map fun y => (y, f y)).lookup x = if x ∈ l then some (f x) else none
  | [], x => by simp
  | y :: l, x => by
    rw [List.map_cons, List.lookup_cons, lookup_map_self f l x]
    by_cases e : x = y
    · subst e; simp
    · have : (x == y) = false := by simpa using e
      simp [this, e]
theorem mem_of_lookup' {α β : Type} [BEq α] [LawfulBEq α] : ∀ {l : List (α × β)} {x : α} {b : β}, l.lookup x = some b → (x, b) ∈ l
  | (k, v) :: r, n, c, h => by
    rw [List.lookup_cons] at h
    cases hb : n == k with
    | true => rw [hb] at h; (first | refine Is.eInt h fun _ => ?_ | refine Is.eStr h fun _ => ?_ | refine Is.eNone h ?_ | refine Is.eBool h ?_ | refine Is.eRaw h ?_ | refine Is.eMref h ?_ | refine IsAll.eNil h ?_ | (obtain rfl := h.inv) | (obtain ⟨_, rfl⟩ := h.inv) | cases h); rw [beq_iff_eq.mp hb]; exact List.mem_cons_self
    | false => rw [hb] at h; exact List.mem_cons_of_mem _ (mem_of_lookup' h)
theorem localsAt_is {z : Z} {scope : Scope} {bs : List (Str × Value)} {ws : List (Str × V)} (h : BindIs z bs ws) (x : Str) :
    OptIs z (bindL (fun y => scope.names.lookup y) bs (fun _ => none) x) ((localsAt scope ws).lookup x).join := by
  have e : (localsAt scope ws).lookup x = if x ∈ (scope.names.filter fun p => p.2 == .local).map (·.1) then some (bindLV (fun y => scope.names.lookup y) ws (fun _ => none) x) else none := by
    have := lookup_map_self (fun y => bindLV (fun y => scope.names.lookup y) ws (fun _ => none) y) ((scope.names.filter fun p => p.2 == .local).map (·.1)) x
    rw [List.map_map] at this
    exact this
  have k := bindL_is (kindOf := fun y => scope.names.lookup y) h (m := fun _ => none) (mv := fun _ => none) (fun _ => trivial) x
  rw [e]
  by_cases q : x ∈ (scope.names.filter fun p => p.2 == .local).map (·.1)
  · rw [if_pos q]; exact k
  · rw [if_neg q]
    have hx : scope.names.lookup x ≠ some .local := fun c => q (List.mem_map.mpr ⟨(x, .local), List.mem_filter.mpr ⟨mem_of_lookup' c, rfl⟩, rfl⟩)
    rw [bindLV_other (kindOf := fun y => scope.names.lookup y) hx ws] at k
    exact k

section
variable {B : Base} {n : Nat} {env : Env} {hp hp' : Hp} {pos : Pos} {Φ : V → Hp → Prop} {Ψ : AF → Hp → Prop} {Υ : Hp → Prop} {G : Globs B}

noncomputable def JBind (B : Base) (n : Nat) (hp : Hp) (fd : FuncData) (args : List V) (kw : List (Str × V)) (Ξ : List (Str × V) → Hp → Prop) : Prop :=
  ∀ A s vs kvs, AOk n A → St B hp s → IsAll (zof hp s.heap) vs args → BindIs (zof hp s.heap) kvs kw → Wp B BindIs A (bindArgs fd ⟨vs, kvs⟩) hp s Ξ
theorem JBind.plain {fd : FuncData} {args : List V} {Ξ : List (Str × V) → Hp → Prop} (names : List Str) (hb : ∀ vs : List Value, vs.length = names.length → bindArgs fd ⟨vs, []⟩ = pure (names.zip vs)) (hl : args.length = names.length)
    (h : Ξ (names.zip args) hp) : JBind B n hp fd args [] Ξ := fun A s vs kvs ok S r rk => by
  cases rk
  rw [hb vs (r.length.trans hl)]
  exact Wp.pure S (BindIs.zip r names) h

inductive Back (Φ : V → Hp → Prop) : AF → Hp → Prop
  | ret {v : V} {hp' hp'' : Hp} : hp''.Sublist hp' → Φ v hp'' → Back Φ (.ret v) hp'
  | freeze {a : Addr} {xs : List V} {hp' hp'' : Hp} : ((a, AObj.list xs) :: hp'').Sublist hp' → Φ (.lst xs) hp'' → Back Φ (.ret (.mref a)) hp'
  | next {hp' hp'' : Hp} : hp''.Sublist hp' → Φ .none hp'' → Back Φ .next hp'

noncomputable def FlowF (z : Z) (f : Flow) : AF → Prop
  | .next => f = .next
  | .brk => f = .brk
  | .cont => f = .cont
  | .ret x => ∃ v, f = .ret v ∧ Is z v x
theorem FlowIs.inv {z : Z} {f : Flow} {a : AF} (h : FlowIs z f a) : FlowF z f a := FlowIs.casesOn (motive := fun f a _ => FlowF z f a) h rfl rfl rfl fun h => ⟨_, rfl, h⟩
theorem Back.done {z : Z} {fl : Flow} {af : AF} {s : Shared} (S : St B hp s) (r : FlowIs (zof hp s.heap) fl af) (b : Back Φ af hp) :
    ∃ v hp', St B hp' s ∧ Le (zof hp s.heap) (zof hp' s.heap) ∧ Is (zof hp' s.heap) (match (fl : Flow) with | .ret v => v | _ => .none) v ∧ Φ v hp' := by
  cases b with
  | ret hs h =>
    obtain ⟨_, rfl, r2⟩ := r.inv
    exact ⟨_, _, (S.sub hs).1, (S.sub hs).2, r2.mono (S.sub hs).2, h⟩
  | freeze hs h =>
    rename_i a xs hp''
    obtain ⟨_, rfl, r2⟩ := r.inv
    have hs' := (List.sublist_cons_self _ _).trans hs
    have hn : a ∉ keys hp'' := (List.nodup_cons.mp (S.nodup.sublist (show (keys ((a, AObj.list xs) :: hp'')).Sublist (keys hp) from hs.map _))).1
    have := S.freeze (hs.subset (.head _)) hs' hn
    rw [show _ = Value.ref a from r2.inv]
    exact ⟨_, _, (S.sub hs').1, (S.sub hs').2, this, h⟩
  | next hs h =>
    have e : fl = .next := r.inv
    subst e
    exact ⟨_, _, (S.sub hs).1, (S.sub hs).2, .none, h⟩

structure FnOk (fd : FuncData) (body : List Stmt) : Prop where
  body : fd.body = .stmts body
  co : fd.scope.isCoroutine = false
  gen : fd.scope.isGenerator = false
  kind : fd.scope.kind = .function

theorem noLimit_of {s : Shared} (S : St B hp s) (hl : B.h0.NoLimit) (ht : cStatics ∉ B.tabs) : s.heap.NoLimit := by obtain ⟨mc, a, b⟩ := hl; exact ⟨mc, S.ns0 a ht, b⟩
theorem codeRec_of' {z : Z} {h : Heap} (hz : ∀ a o, z a = some o → h.get? a = some o) {cd : Value} {q : Str} (c : CodeZ z cd q) : h.CodeRec cd q := by obtain ⟨a, o, vs, t, e, g, r⟩ := c; exact ⟨a, o, vs, t, e, hz _ _ g, r⟩

theorem localsAt_nodup {scope : Scope} {ws : List (Str × V)} (h : (scope.names.map (·.1)).Nodup) : ((localsAt scope ws).map (·.1)).Nodup := by
  unfold localsAt
  rw [List.map_map]
  exact h.sublist ((List.filter_sublist).map _)

noncomputable def JCc (B : Base) (n : Nat) (hp : Hp) (f : V) (args : List V) (kw : List (Str × V)) (Φ : V → Hp → Prop) : Prop :=
  ∀ A s fv vs kvs R, AOk n A → St B hp s → Is (zof hp s.heap) fv f → IsAll (zof hp s.heap) vs args → kvs.map (·.1) = kw.map (·.1) → IsAll (zof hp s.heap) (kvs.map (·.2)) (kw.map (·.2)) →
    (∀ v x hp₁ s₁, St B hp₁ s₁ → Le (zof hp s.heap) (zof hp₁ s₁.heap) → Is (zof hp₁ s₁.heap) v x → Φ x hp₁ → R (.ok (.ret v)) s₁) → codeAny B.M A (.call fv ⟨vs, kvs⟩) R s
theorem JCc.call {f : V} {args : List V} {kw : List (Str × V)} (h : JCc B n hp f args kw Φ) : JC B n hp f args kw Φ := fun A s fv vs kvs ok S rf rv ek rk => Wp.of fun Q k =>
  wpAny_call (h A s fv vs kvs _ ok S rf rv ek rk fun v x hp₁ s₁ S₁ L₁ r₁ h₁ => k _ _ _ _ S₁ L₁ r₁ h₁)
theorem bind_args {z : Z} {kvs : List (Str × Value)} : ∀ {kw : List (Str × V)}, kvs.map (·.1) = kw.map (·.1) → IsAll z (kvs.map (·.2)) (kw.map (·.2)) → BindIs z kvs kw := by
  induction kvs with
  | nil => intro kw e _; cases kw with
    | nil => exact .nil
    | cons _ _ => cases e
  | cons p r ih =>
    intro kw ek rk
    cases kw with
    | nil => cases ek
    | cons q r' =>
      rw [List.map_cons, List.map_cons] at ek rk
      injection ek with e1 e2
      obtain ⟨x, v⟩ := p
      obtain ⟨y, w⟩ := q
      cases e1
      exact .cons rk.un.1 (ih e2 rk.un.2)
theorem JCc.fn {fd : FuncData} {body : List Stmt} {args : List V} {kw : List (Str × V)} (hf : FnOk fd body) (hclo : fd.closure = []) (hlim : B.h0.NoLimit) (ht : cStatics ∉ B.tabs) (hnd : (fd.scope.names.map (·.1)).Nodup)
    (hb : JBind B n hp fd args kw fun ws hp₁ =>
      (∀ x ∈ ws, fd.scope.names.lookup x.1 = some .local ∨ fd.scope.names.lookup x.1 = some .cell) ∧ (∀ k, ∀ x ∈ ws, fd.scope.names.lookup x.1 = some .cell → ((cellsFrom k fd.scope.names []).lookup x.1).isSome = true) ∧
      ∀ L a, JS B n (newEnv fd.scope L fd.globals (cellsFrom (L + 1) fd.scope.names []) (fd.qualname ++ ".<locals>.") (some a) fd.code none fd.builtins)
        ((L, .ns (localsAt fd.scope ws)) :: (cellsAt fd.scope ws (cellsFrom (L + 1) fd.scope.names []) ++ hp₁)) body (Back Φ)) :
    JCc B (n + 1) hp (.fn fd) args kw Φ := fun A s fv vs kvs R ok S rf rv ek rk k => by
  obtain ⟨a, o, rfl, e, hc, hd, hcz⟩ := rf.inv
  next =>
    have hkv : BindIs (zof hp s.heap) kvs kw := bind_args ek rk
    refine codeAny_call_function ok.room (zof_of e).1 hd hf.co hf.gen hf.body (codeRec_of' zof_le hcz) ?_
    refine ((hb A.in1 s vs kvs (by have := ok.in1; exact this) S rv hkv).use fun bs ws hp₁ s₁ S₁ L₁ r₁ h₁ => ?_)
    obtain ⟨k1, k2, h₁⟩ := h₁
    rw [hclo]
    have names : ∀ x ∈ bs, ∃ y ∈ ws, x.1 = y.1 := fun x hx => by
      have : x.1 ∈ ws.map (·.1) := r₁.names ▸ List.mem_map_of_mem hx
      obtain ⟨y, hy, e⟩ := List.mem_map.mp this
      exact ⟨y, hy, e.symm⟩
    refine wpAny_newFunctionEnv_cells hf.kind (fun x hx => ?_) fun env he s₂ x => ?_
    · obtain ⟨y, hy, e⟩ := names x hx
      rcases k1 y hy with q | q
      · exact .inl (e ▸ q)
      · exact .inr ⟨e ▸ q, by rw [e]; exact k2 _ y hy q⟩
    · have hlim₂ : s₂.heap.NoLimit := (noLimit_of S₁ hlim ht).keeps x.toInCall.keep
      refine ⟨hlim₂, codeAny_func ?_⟩
      obtain ⟨h₂, tk, e₂, hk₂⟩ := x.done
      subst e₂
      subst he
      generalize hcs : cellsFrom (s₁.heap.objs.size + 1) fd.scope.names [] = cs at x ⊢
      have hLn : s₁.heap.get? s₁.heap.objs.size = none := size_fresh _
      have X := x.toInCall.ns
      have cellsOk : ∀ (l : List (Str × Addr)), (l.Pairwise fun p q => p.2 ≠ q.2) → (∀ p ∈ l, p ∈ cs) → (∀ p ∈ l, cs.lookup p.1 = some p.2) →
          St B (cellsAt fd.scope ws l ++ hp₁) { s₁ with heap := h₂, toks := tk } ∧ Le (zof hp₁ s₁.heap) (zof (cellsAt fd.scope ws l ++ hp₁) h₂) := by
        intro l
        induction l with
        | nil => intro _ _ _; exact S₁.ext hk₂
        | cons p l ih =>
          intro hp1 hp2 hp3
          obtain ⟨q1, q2⟩ := List.pairwise_cons.mp hp1
          obtain ⟨S', L'⟩ := ih q2 (fun q hq => hp2 q (.tail _ hq)) fun q hq => hp3 q (.tail _ hq)
          have hnone : s₁.heap.get? p.2 = none := by
            cases w : s₁.heap.get? p.2 with
            | none => rfl
            | some o => exact absurd (Nat.lt_trans (x.above p.1 p.2 (hp2 p (.head _))) (Heap.lt_size w)) (Nat.lt_irrefl _)
          have hcell : h₂.IsCell p.2 _ := x.cell p.1 p.2 (hp3 p (.head _))
          have hfresh : p.2 ∉ keys (cellsAt fd.scope ws l ++ hp₁) := by
            intro hm
            unfold keys at hm
            rw [List.map_append] at hm
            rcases List.mem_append.mp hm with hm | hm
            · unfold cellsAt at hm
              rw [List.map_map] at hm
              obtain ⟨q, hq, e⟩ := List.mem_map.mp hm
              exact q1 q hq e.symm
            · exact S₁.fresh_not hnone hm
          have Lc : Le (zof hp₁ s₁.heap) (zof ((p.2, AObj.cell (bindCV (fun y => fd.scope.names.lookup y) ws (fun _ => none) p.1)) :: (cellsAt fd.scope ws l ++ hp₁)) h₂) := fun b o e => by
            have z := zof_of (L' b o e)
            refine zof_mk z.1 ?_
            rw [keys_cons, List.mem_cons]
            rintro (rfl | q)
            · have := (zof_of e).1; rw [hnone] at this; cases this
            · exact z.2 q
          have Lc' : Le (zof (cellsAt fd.scope ws l ++ hp₁) h₂) (zof (cellsAt fd.scope ws l ++ hp₁) h₂) := Le.refl _
          refine ⟨⟨List.nodup_cons.mpr ⟨hfresh, S'.nodup⟩, fun q hq => ?_, fun b o e t => Lc _ _ (S₁.base b o e t), S'.gens, S'.os, S'.drawn⟩, Lc⟩
          rcases List.mem_cons.mp hq with rfl | hq
          · refine ⟨_, hcell, ?_⟩
            exact (bindC_is (kindOf := fun y => fd.scope.names.lookup y) r₁ (m := fun _ => none) (mv := fun _ => none) (fun _ => trivial) _).mono Lc
          · have oi := S'.objs q hq
            rcases List.mem_append.mp hq with hq' | hq'
            · obtain ⟨q', hq'', rfl⟩ := List.mem_map.mp hq'
              refine ⟨_, x.cell q'.1 q'.2 (hp3 q' (.tail _ hq'')), ?_⟩
              exact (bindC_is (kindOf := fun y => fd.scope.names.lookup y) r₁ (m := fun _ => none) (mv := fun _ => none) (fun _ => trivial) _).mono Lc
            · exact ((S₁.objs q hq').keep (hk₂ _)).mono Lc
      have hlk : ∀ p ∈ cs, cs.lookup p.1 = some p.2 := fun p hp => by
        have hndc : (cs.map (·.1)).Nodup := by
          rw [← hcs]
          have : ∀ (names : List (Str × NameKind)) (m : Nat) (acc : List (Str × Addr)), (names.map (·.1)).Nodup → (acc.map (·.1)).Nodup → (∀ p ∈ acc, p.1 ∉ names.map (·.1)) → ((cellsFrom m names acc).map (·.1)).Nodup := by
            intro names
            induction names with
            | nil => intro m acc _ h _; exact h
            | cons p r ih =>
              intro m acc h1 h2 h3
              obtain ⟨nm, kd⟩ := p
              have h1' := List.nodup_cons.mp h1
              unfold cellsFrom
              split
              · refine ih _ _ h1'.2 (List.nodup_cons.mpr ⟨fun q => ?_, h2⟩) fun q hq => ?_
                · obtain ⟨q', hq', e⟩ := List.mem_map.mp q
                  exact h3 q' hq' (e ▸ .head _)
                · rcases List.mem_cons.mp hq with rfl | hq
                  · exact h1'.1
                  · exact fun q' => h3 q hq (.tail _ q')
              · exact ih _ _ h1'.2 h2 fun q hq q' => h3 q hq (.tail _ q')
          exact this _ _ _ hnd .nil fun _ hp => nomatch hp
        exact lookup_of_mem_nodup hndc hp
      obtain ⟨SC, LC⟩ := cellsOk cs x.apart (fun _ h => h) hlk
      have hLfresh : s₁.heap.objs.size ∉ keys (cellsAt fd.scope ws cs ++ hp₁) := by
        intro hm
        unfold keys at hm
        rw [List.map_append] at hm
        rcases List.mem_append.mp hm with hm | hm
        · unfold cellsAt at hm
          rw [List.map_map] at hm
          obtain ⟨q, hq, e⟩ := List.mem_map.mp hm
          exact Nat.ne_of_gt (x.above q.1 q.2 hq) e
        · exact S₁.fresh_not hLn hm
      have LL : Le (zof hp₁ s₁.heap) (zof ((s₁.heap.objs.size, AObj.ns (localsAt fd.scope ws)) :: (cellsAt fd.scope ws cs ++ hp₁)) h₂) := fun b o e => by
        have z := zof_of (LC b o e)
        refine zof_mk z.1 ?_
        rw [keys_cons, List.mem_cons]
        rintro (rfl | q)
        · have := (zof_of e).1; rw [hLn] at this; cases this
        · exact z.2 q
      have SF : St B ((s₁.heap.objs.size, AObj.ns (localsAt fd.scope ws)) :: (cellsAt fd.scope ws cs ++ hp₁)) { s₁ with heap := h₂, toks := tk } := by
        refine ⟨List.nodup_cons.mpr ⟨hLfresh, SC.nodup⟩, fun q hq => ?_, fun b o e t => LL _ _ (S₁.base b o e t), S₁.gens, S₁.os, S₁.drawn⟩
        rcases List.mem_cons.mp hq with rfl | hq
        · exact ⟨localsAt_nodup hnd, _, X, fun y => (localsAt_is r₁ y).mono LL⟩
        · rcases List.mem_append.mp hq with hq' | hq'
          · obtain ⟨q', hq'', rfl⟩ := List.mem_map.mp hq'
            exact ⟨_, x.cell q'.1 q'.2 (hlk q' hq''), (bindC_is (kindOf := fun y => fd.scope.names.lookup y) r₁ (m := fun _ => none) (mv := fun _ => none) (fun _ => trivial) _).mono LL⟩
          · exact ((S₁.objs q hq').keep (hk₂ _)).mono LL
      have W := h₁ s₁.heap.objs.size a
      rw [hcs] at W
      have W := W (A.deeper (newEnv fd.scope s₁.heap.objs.size fd.globals cs (fd.qualname ++ ".<locals>.") (some a) fd.code none fd.builtins)) { s₁ with heap := h₂, toks := tk } (ok.deeper _) SF
      refine W.use fun fl af hp₂ s₃ S₃ L₃ r₃ h₃ => ?_
      obtain ⟨v, hp₄, S₄, L₄, r₄, h₄⟩ := h₃.done (z := zof hp₂ s₃.heap) S₃ r₃
      exact k _ _ _ _ S₄ (((L₁.trans LL).trans L₃).trans L₄) r₄ h₄
end
end Mine

set_option maxRecDepth 100000
set_option linter.unusedVariables false
namespace Mine
open PySem PySem.W PySem.Calls PyProof.Rows

section
variable {B : Base} {n : Nat} {env : Env} {hp hp' : Hp} {pos : Pos} {Φ : V → Hp → Prop} {Ψ : AF → Hp → Prop} {Υ : Hp → Prop} {G : Globs B}

noncomputable def JK (B : Base) (hp : Hp) (f : V) : Prop := ∀ A s x, St B hp s → Is (zof hp s.heap) x f → ∀ Q : Keeper → Shared → Prop, (∀ k, Q k s) → wpAny B.M A (keeperOf x) Q (fun _ _ => False) s
theorem JK.fn {fd : FuncData} : JK B hp (.fn fd) := fun A s x S r Q k => by
  obtain ⟨_, _, rfl, e, hc, hd, _⟩ := r.inv
  next =>
    unfold keeperOf
    refine wpAny_bind (wpAny_load (zof_of e).1 ?_)
    rw [hd]; exact wpAny_pure (k _)
theorem JK.builtin {id : String} : JK B hp (.raw (.builtin id)) := fun A s x S r Q k => by
  (first | refine Is.eInt r fun _ => ?_ | refine Is.eStr r fun _ => ?_ | refine Is.eNone r ?_ | refine Is.eBool r ?_ | refine Is.eRaw r ?_ | refine Is.eMref r ?_ | refine IsAll.eNil r ?_ | (obtain rfl := r.inv) | (obtain ⟨_, rfl⟩ := r.inv) | cases r); exact wpAny_pure (k _)
theorem JK.type {id : String} : JK B hp (.raw (.type id)) := fun A s x S r Q k => by
  (first | refine Is.eInt r fun _ => ?_ | refine Is.eStr r fun _ => ?_ | refine Is.eNone r ?_ | refine Is.eBool r ?_ | refine Is.eRaw r ?_ | refine Is.eMref r ?_ | refine IsAll.eNil r ?_ | (obtain rfl := r.inv) | (obtain ⟨_, rfl⟩ := r.inv) | cases r); exact wpAny_pure (k _)
noncomputable def JKws (B : Base) (n : Nat) (hp : Hp) (ts : List (Sem Value)) (Ω : List V → Hp → Prop) : Prop := ∀ A s, AOk n A → St B hp s → Wp B IsAll A (evalAll ts) hp s Ω
theorem JKws.nil {Ω : List V → Hp → Prop} (h : Ω [] hp) : JKws B n hp [] Ω := fun A s ok S => Wp.of fun Q k => wpAny_pure (k _ _ _ _ S (Le.refl _) .nil h)
noncomputable abbrev kwK (Ω : List V → Hp → Prop) (v : V) (hp : Hp) : Prop := Ω [v] hp
theorem JKws.one {Ω : List V → Hp → Prop} {e : Expr} (h : JE B n env hp e (kwK Ω)) : JKws B n hp [(do let v ← eval e env; standAt pos; pure v)] Ω := fun A s ok S => Wp.of fun Q k => by
  show wpAny _ A (do let a ← (do let v ← eval e env; standAt pos; pure v); let r ← holding [a] (evalAll []); pure (a :: r)) Q _ s
  refine wpAny_bind (wpAny_bind ((h A s ok S).use fun _ _ _ _ S₁ L₁ r₁ h₁ => wpAny_bind (wpAny_standAt (wpAny_pure (wpAny_bind (wpAny_holding (wpAny_pure (wpAny_pure ?_))))))))
  exact k _ _ _ _ S₁ L₁ (.cons r₁ .nil) h₁

theorem IsAll.appendTo {z : Z} {vs ws : List Value} {xs ys : List V} (a : IsAll z vs xs) (b : IsAll z ws ys) : IsAll z (vs ++ ws) (xs ++ ys) := IsAll.append b a
theorem zip_names : ∀ (l : List Str) (a : List Value) (b : List V), a.length = b.length → (l.zip a).map (·.1) = (l.zip b).map (·.1)
  | [], _, _, _ => rfl
  | x :: l, [], [], _ => rfl
  | x :: l, _ :: a, _ :: b, h => by simp only [List.zip_cons_cons, List.map_cons]; rw [zip_names l a b (Nat.succ.inj h)]
theorem zip_is {z : Z} {a : List Value} {b : List V} (h : IsAll z a b) : ∀ l : List Str, IsAll z ((l.zip a).map (·.2)) ((l.zip b).map (·.2)) :=
  h.ind (P := fun a b => ∀ l : List Str, IsAll z ((l.zip a).map (·.2)) ((l.zip b).map (·.2))) (fun l => by cases l <;> exact .nil) fun h _ r l => by
    cases l with
    | nil => exact .nil
    | cons x l => exact .cons h (r l)

theorem evalArgs_tail {M : Model} {A : Around} {E : Value → Shared → Prop} {s : Shared} {f : Value} {ts : List (Bool × Sem Value)} {kws : List (Option Str × Sem Value)} {Q : Args → Shared → Prop}
    (hk : kws.all (·.1.isSome) = true)
    (h : wpAny M A (spliced ts) (fun vs s₁ => wpAny M A (evalAll (kws.map (·.2))) (fun ws s₂ => Q ⟨vs, (kws.filterMap (·.1)).zip ws⟩ s₂) E s₁) E s)
    (e : evalArgs f true ts kws = (do
      let pos ← spliced ts
      holding (pos ++ []) do
        if kws.all (·.1.isSome) then
          let ws ← evalAll (kws.map (·.2))
          let kw := (kws.filterMap (·.1)).zip ws
          let p ← (pure pos : Sem (List Value))
          return ⟨p, kw⟩
        let d ← mergedKeywords f kws
        let p ← (pure pos : Sem (List Value))
        return ⟨p, ← holding (.ref d :: p) (keywordsIn f d)⟩)) : wpAny M A (evalArgs f true ts kws) Q E s := by
  rw [e]
  refine wpAny_bind (wpAny_mono h (fun vs s₁ h₁ => wpAny_holding ?_) fun _ _ x => x)
  rw [if_pos hk]
  exact wpAny_bind (wpAny_mono h₁ (fun ws s₂ h₂ => wpAny_bind (wpAny_pure (wpAny_pure h₂))) fun _ _ x => x)
theorem evalArgs_gen {M : Model} {A : Around} {E : Value → Shared → Prop} {s : Shared} {f : Value} {args : List (Bool × Sem Value)} {kws : List (Option Str × Sem Value)} {Q : Args → Shared → Prop}
    (hplain : args.any (·.1) = false) (hk : kws.all (·.1.isSome) = true)
    (h : wpAny M A (spliced args) (fun vs s₁ => wpAny M A (evalAll (kws.map (·.2))) (fun ws s₂ => Q ⟨vs, (kws.filterMap (·.1)).zip ws⟩ s₂) E s₁) E s) : wpAny M A (evalArgs f true args kws) Q E s := by
  cases args with
  | nil => exact evalArgs_tail hk h rfl
  | cons p rest =>
    obtain ⟨b, x⟩ := p
    cases b with
    | true => simp at hplain
    | false => exact evalArgs_tail hk h rfl

theorem callW_ {A : Around} {s : Shared} {f : Value} {first : List Value} {args : List (Bool × Sem Value)} {kws : List (Option Str × Sem Value)} {names : List Str} {F : V} {fs : List V} (ok : AOk n A) (S : St B hp s) (rf : Is (zof hp s.heap) f F) (rfs : IsAll (zof hp s.heap) first fs)
    (hplain : args.any (·.1) = false) (hk : kws.all (·.1.isSome) = true) (hn : kws.filterMap (·.1) = names)
    (h : JEs B n env hp args fun vs hp₁ => JKws B n hp₁ (kws.map (·.2)) fun ws hp₂ => JK B hp₂ F ∧ JC B n hp₂ F (fs ++ vs) (names.zip ws) Φ) : Wp B Is A (callWith pos f first args kws) hp s Φ := by
  refine Wp.of fun Q k => ?_
  unfold callWith
  refine wpAny_bind (wpAny_holding (evalArgs_gen hplain hk ?_))
  refine (h A s ok S).use fun vs vvs hp₁ s₁ S₁ L₁ r₁ h₁ => (h₁ A s₁ ok S₁).use fun ws wws hp₂ s₂ S₂ L₂ r₂ h₂ => ?_
  rw [hn]
  refine wpAny_bind (wpAny_standAt ?_)
  obtain ⟨jk, jc⟩ := h₂
  have hnk : (kws.any (·.1.isNone)) = false := by
    rw [List.any_eq_false]
    intro x hx
    have := List.all_eq_true.mp hk x hx
    cases q : x.1 <;> simp_all
  have R := (jc A s₂ f (first ++ vs) (names.zip ws) ok S₂ (rf.mono (L₁.trans L₂)) ((rfs.mono (L₁.trans L₂)).appendTo (r₁.mono L₂)) (zip_names _ _ _ r₂.length) (zip_is r₂ names)).use (E := fun _ _ => False)
    (Q := fun r s' => wpAny B.M A (holding [r] point >>= fun _ => pure r) Q (fun _ _ => False) s') fun _ _ _ _ S₃ L₃ r₃ h₃ =>
      wpAny_bind (wpAny_holding (wpAny_point (wpAny_pure (k _ _ _ _ S₃ ((L₁.trans L₂).trans L₃) r₃ h₃))))
  simp only [hplain, hnk, Bool.or_false]
  refine wpAny_bind (wpAny_mono (jk A s₂ f S₂ (rf.mono (L₁.trans L₂)) (fun kp s' => s' = s₂) fun kp => rfl) (fun kp s' e => ?_) fun _ _ x => x.elim)
  subst e
  have R' : ∀ (t : Sem Value), (t = call f (first ++ vs) (names.zip ws) ∨ t = callMarked plainCall f (first ++ vs) (names.zip ws) ∨ t = callMarked callOfAMethodObject f (first ++ vs) (names.zip ws) ∨ ∃ l, t = operate l (call f (first ++ vs) (names.zip ws))) →
      wpAny B.M A (t >>= fun r => holding [r] point >>= fun _ => pure r) Q (fun _ _ => False) s' := by
    intro t ht
    rcases ht with rfl | rfl | rfl | ⟨l, rfl⟩
    · exact wpAny_bind R
    · exact wpAny_bind (by unfold callMarked; exact wpAny_keep R)
    · exact wpAny_bind (by unfold callMarked; exact wpAny_keep R)
    · exact wpAny_bind (wpAny_operate' R)
  cases kp
  · by_cases q : args.length + 2 * kws.length > 30
    · simp only [q, if_true]; exact R' _ (.inl rfl)
    · simp only [q, if_false]; exact R' _ (.inr (.inl rfl))
  · by_cases q : args.length + 2 * kws.length > 30
    · simp only [q, if_true]; exact R' _ (.inl rfl)
    · simp only [q, if_false]; exact R' _ (.inr (.inr (.inl rfl)))
  · exact R' _ (.inl rfl)
  · exact R' _ (.inr (.inr (.inr ⟨_, rfl⟩)))

noncomputable abbrev callK2 (B : Base) (n : Nat) (Φ : V → Hp → Prop) (F : V) (vs : List V) (hp : Hp) : Prop := JK B hp F ∧ JC B n hp F vs [] Φ
noncomputable abbrev callK1 (B : Base) (n : Nat) (env : Env) (Φ : V → Hp → Prop) (pos : Pos) (args : List Expr) (F : V) (hp : Hp) : Prop := JEs B n env hp (backTo pos (starEach args env)) (callK2 B n Φ F)
theorem JE.call {f : Expr} {args : List Expr} (h : JE B n env hp f (callK1 B n env Φ pos args))
    (he : eval (.Call f args [] pos) env = (do callWith pos (← eval f env) [] (backTo pos (starEach args env)) (backToKw pos (keywordEach [] env))) := by rfl)
    (hplain : (backTo pos (starEach args env)).any (·.1) = false := by rfl) : JE B n env hp (.Call f args [] pos) Φ := fun A s ok S => by
  rw [he]
  refine (h A s ok S).bind fun fv F hp₁ s₁ S₁ L₁ r₁ h₁ => ?_
  refine callW_ (env := env) (names := []) ok S₁ r₁ .nil hplain rfl rfl ?_
  intro A' s' ok' S'
  exact (h₁ A' s' ok' S').mono fun vs hp₂ h₂ => JKws.nil h₂

structure MethIs (z : Z) (p : Value × List Value) (q : V × List V) : Prop where
  f : Is z p.1 q.1
  first : IsAll z p.2 q.2
noncomputable def JM (B : Base) (n : Nat) (hp : Hp) (o : V) (name : Str) (Ξ : V → List V → Hp → Prop) : Prop := ∀ A s x pl, AOk n A → St B hp s → Is (zof hp s.heap) x o → Wp B MethIs A (getMethod x name pl) hp s fun q hp' => Ξ q.1 q.2 hp'
theorem JE.meth {o : Expr} {name : Str} {apos : Pos} {args : List Expr} {kws : List Keyword} {names : List Str}
    (h : JE B n env hp o fun ov hp₁ => JM B n hp₁ ov name fun F first hp₂ => JEs B n env hp₂ (backTo pos (starEach args env)) fun vs hp₃ => JKws B n hp₃ ((backToKw pos (keywordEach kws env)).map (·.2)) fun ws hp₄ => JK B hp₄ F ∧ JC B n hp₄ F (first ++ vs) (names.zip ws) Φ)
    (hb : attributeBase o name env (eval o env) = eval o env := by rfl)
    (hform : methodCallForm (args.length + kws.length) (backTo pos (starEach args env)) (backToKw pos (keywordEach kws env)) = true := by rfl)
    (hline : (apos.endLine == pos.line) = true := by rfl)
    (hplain : (backTo pos (starEach args env)).any (·.1) = false := by rfl) (hk : (backToKw pos (keywordEach kws env)).all (·.1.isSome) = true := by rfl) (hn : (backToKw pos (keywordEach kws env)).filterMap (·.1) = names := by rfl) :
    JE B n env hp (.Call (.Attribute o name apos) args kws pos) Φ := fun A s ok S => by
  rw [arm_eval_Call, hb]
  refine (h A s ok S).bind fun ov O hp₁ s₁ S₁ L₁ r₁ h₁ => ?_
  have hpos : methodCallPos true o env apos pos = pure pos := by unfold methodCallPos; simp [hline]
  refine Wp.of fun Q k => wpAny_bind (wpAny_standAt ?_)
  unfold methodCall
  rw [hform]
  refine wpAny_bind (wpAny_holding ((h₁ A s₁ ov _ ok S₁ r₁).use fun p q hp₂ s₂ S₂ L₂ r₂ h₂ => wpAny_bind (wpAny_of_eq hpos ?_)))
  exact (callW_ (env := env) ok S₂ r₂.f r₂.first hplain hk hn h₂).le L₂ k
end
end Mine

set_option maxRecDepth 100000
set_option linter.unusedVariables false
namespace Mine
open PySem PySem.W PySem.Calls PyProof.Rows

section
variable {B : Base} {n : Nat} {env : Env} {hp hp' : Hp} {pos : Pos} {Φ : V → Hp → Prop} {Ψ : AF → Hp → Prop} {Υ : Hp → Prop} {G : Globs B}

noncomputable def JI (B : Base) (n : Nat) (hp : Hp) (v : V) (Ω : Addr → Hp → Prop) : Prop := ∀ A s x, AOk n A → St B hp s → Is (zof hp s.heap) x v → Wp B (fun _ y a => y = Value.ref a) A (pyIter x) hp s Ω
noncomputable abbrev jnS (B : Base) (hp : Hp) (s : Shared) (Ω : Option V → Hp → Prop) (v : Value) (_ : Unit) (s₂ : Shared) : Prop := ∃ x hp₂, St B hp₂ s₂ ∧ Le (zof hp s.heap) (zof hp₂ s₂.heap) ∧ Is (zof hp₂ s₂.heap) v x ∧ Ω (some x) hp₂
noncomputable abbrev jnQ (B : Base) (hp : Hp) (target : Expr) (it : Addr) (Ω : Option V → Hp → Prop) (A : Around) (s : Shared) (r : Option Value) (s₁ : Shared) : Prop := match r with
    | none => ∃ hp₁, St B hp₁ s₁ ∧ Le (zof hp s.heap) (zof hp₁ s₁.heap) ∧ Ω none hp₁
    | some v => wpAny B.M A (letOwnedTupleGo target (.ref it) v) (jnS B hp s Ω v) (fun _ _ => False) s₁
noncomputable def JN (B : Base) (n : Nat) (hp : Hp) (target : Expr) (it : Addr) (Ω : Option V → Hp → Prop) : Prop := ∀ A s, AOk n A → St B hp s → wpAny B.M A (pyNext (.ref it)) (jnQ B hp target it Ω A s) (fun _ _ => False) s

theorem letOwned_plain {M : Model} {A : Around} {E : Value → Shared → Prop} {s : Shared} {target : Expr} {r : Addr} {v : Value} {o : Obj} {T : String} {Q : Unit → Shared → Prop} (ho : s.heap.get? r = some o) (hc : o.cls = .type T)
    (hT : ["enumerate", "zip", "dict_itemiterator", "dict_reverseitemiterator", "odict_iterator", "itertools.zip_longest", "itertools.pairwise"].contains T = false) (h : Q () s) : wpAny M A (letOwnedTupleGo target (.ref r) v) Q E s := by
  have key : wpAny M A (letOwnedTupleGo (.Tuple [] 0 ⟨0, 0, 0, 0⟩) (.ref r) v) Q E s := by
    cases v with
    | ref a =>
      refine wpAny_bind (wpAny_load ho ?_)
      obtain ⟨cls, d, data, sl⟩ := o
      cases hc
      cases data with
      | fields vs =>
        show wpAny M A (if (["enumerate", "zip", "dict_itemiterator", "dict_reverseitemiterator", "odict_iterator", "itertools.zip_longest", "itertools.pairwise"].contains T && vs[0]? == some (rawInt a)) = true then _ else _) Q E s
        rw [hT]
        exact wpAny_pure h
      | _ => exact wpAny_pure h
    | _ => exact wpAny_pure h
  cases target <;> first | exact wpAny_pure h | exact key
theorem letOwned_list {M : Model} {A : Around} {E : Value → Shared → Prop} {s : Shared} {target : Expr} {r l : Addr} {i : Nat} {v : Value} {Q : Unit → Shared → Prop} (e : s.heap.IsListIter r l i) (h : Q () s) : wpAny M A (letOwnedTupleGo target (.ref r) v) Q E s :=
  by obtain ⟨_, ho, hc, _⟩ := e; exact letOwned_plain ho hc (by decide) h
theorem isList_of {z : Z} {h : Heap} {l : Addr} {xs : List V} (hz : ∀ a o, z a = some o → h.get? a = some o) (r : Is z (.ref l) (.lst xs)) : ∃ items, h.IsList l items ∧ IsAll z items.toList xs := by
  obtain ⟨_, _, _, q0, e, r⟩ := r.inv; cases q0
  next => exact ⟨_, ⟨_, hz _ _ e, rfl, _, rfl⟩, r⟩
inductive Del : Hp → Addr → AObj → Hp → Prop
  | head {a : Addr} {o : AObj} {r : Hp} : Del ((a, o) :: r) a o r
  | tail {p : Addr × AObj} {r r' : Hp} {a : Addr} {o : AObj} : Del r a o r' → Del (p :: r) a o (p :: r')
theorem Del.mem {a : Addr} {o : AObj} (D : Del hp a o hp') : (a, o) ∈ hp := by
  induction D with
  | head => exact .head _
  | tail _ ih => exact .tail _ ih
theorem Del.sub {a : Addr} {o : AObj} (D : Del hp a o hp') : hp'.Sublist hp := by
  induction D with
  | head => exact List.sublist_cons_self _ _
  | tail _ ih => exact ih.cons_cons _
theorem Del.not {a : Addr} {o : AObj} (D : Del hp a o hp') (hn : (keys hp).Nodup) : a ∉ keys hp' := by
  induction D with
  | head => exact (List.nodup_cons.mp hn).1
  | tail D ih =>
    rename_i p r r' a o
    rw [keys_cons, List.mem_cons]
    rintro (e | q)
    · exact (List.nodup_cons.mp hn).1 (show p.1 ∈ keys r by rw [← e]; exact List.mem_map_of_mem (f := (·.1)) D.mem)
    · exact ih (List.nodup_cons.mp hn).2 q
theorem St.multi {s : Shared} {h' : Heap} {tk : Nat} (S : St B hp s) (W : List Addr) (hW : ∀ a ∈ W, a ∈ keys hp) (hk : (keys hp').Sublist (keys hp)) (keep : ∀ b o, b ∉ W → s.heap.get? b = some o → h'.get? b = some o)
    (ho : ∀ p ∈ hp', (p ∈ hp ∧ p.1 ∉ W) ∨ ObjIs (zof hp s.heap) h' p.1 p.2) : St B hp' { s with heap := h', toks := tk } ∧ Le (zof hp s.heap) (zof hp' h') := by
  have L : Le (zof hp s.heap) (zof hp' h') := fun b o e => by
    obtain ⟨e1, e2⟩ := zof_of e
    exact zof_mk (keep b o (fun q => e2 (hW b q)) e1) fun q => e2 (hk.subset q)
  refine ⟨⟨S.nodup.sublist hk, fun p h => ?_, fun b o e t => L _ _ (S.base b o e t), S.gens, S.os, S.drawn⟩, L⟩
  rcases ho p h with ⟨h1, h2⟩ | h2
  · exact ((S.objs p h1).keep fun o e => keep _ o h2 e).mono L
  · exact h2.mono L
theorem St.drop {s : Shared} {h' : Heap} {tk : Nat} {a : Addr} {o : AObj} (S : St B hp s) (D : Del hp a o hp') (hx : Heap.ExtBut a s.heap h') : St B hp' { s with heap := h', toks := tk } ∧ Le (zof hp s.heap) (zof hp' h') :=
  S.multi [a] (fun b hb => by rw [List.mem_singleton.mp hb]; exact List.mem_map_of_mem D.mem) (D.sub.map _) (fun b o hb e => hx b o (fun q => hb (List.mem_singleton.mpr q)) e)
    fun p hp => .inl ⟨D.sub.subset hp, fun q => D.not S.nodup (List.mem_singleton.mp q ▸ List.mem_map_of_mem hp)⟩

theorem JN.lst {t : Expr} {it : Addr} {xs : List V} {i : Nat} {x : V} {Ω : Option V → Hp → Prop} (hx : xs[i]? = some x) (U : Upd hp it (.it (.lst xs i)) (.it (.lst xs (i + 1))) hp') (h : Ω (some x) hp') : JN B n hp t it Ω := fun A s ok S => by
  obtain ⟨l, e, r⟩ := S.objs _ U.mem
  obtain ⟨items, hl, rs⟩ := isList_of zof_le r
  obtain ⟨v, hv, rv⟩ := rs.get hx
  refine wpAny_pyNext_list_item e hl (by simpa using hv) fun h' e' hs => ?_
  have K := S.set (tk := s.toks) U hs.extBut (ao' := .it (.lst xs (i + 1))) ⟨l, e', r⟩
  exact letOwned_list e' ⟨x, hp', K.1, K.2, rv.mono K.2, h⟩
theorem none_of {z : Z} {items : Array Value} {xs : List V} {i : Nat} (r : IsAll z items.toList xs) (hx : xs[i]? = none) : items[i]? = none := by
  rw [List.getElem?_eq_none_iff] at hx
  rw [Array.getElem?_eq_none_iff]
  have := r.length
  rw [Array.length_toList] at this
  omega
theorem JN.lstEnd {t : Expr} {it : Addr} {xs : List V} {i : Nat} {Ω : Option V → Hp → Prop} (hx : xs[i]? = none) (D : Del hp it (.it (.lst xs i)) hp') (h : Ω none hp') : JN B n hp t it Ω := fun A s ok S => by
  obtain ⟨l, e, r⟩ := S.objs _ D.mem
  obtain ⟨items, hl, rs⟩ := isList_of zof_le r
  refine wpAny_pyNext_list_end ok.handled e hl (none_of rs hx) fun h' he => ?_
  have K := S.drop (tk := s.toks) D he
  exact ⟨hp', K.1, K.2, h⟩
theorem isListM_of {z : Z} {h : Heap} {l : Addr} {xs : List V} (r : ObjIs z h l (.list xs)) : ∃ items, h.IsList l items ∧ IsAll z items.toList xs :=
  by obtain ⟨items, n, e, r⟩ := r; exact ⟨items, ⟨_, e, rfl, _, rfl⟩, r⟩
theorem JN.mlst {t : Expr} {it l : Addr} {xs : List V} {i : Nat} {x : V} {Ω : Option V → Hp → Prop} (hx : xs[i]? = some x) (hm : (l, .list xs) ∈ hp) (U : Upd hp it (.it (.mlst l i)) (.it (.mlst l (i + 1))) hp') (h : Ω (some x) hp') : JN B n hp t it Ω := fun A s ok S => by
  have e := S.objs _ U.mem
  obtain ⟨items, hl, rs⟩ := isListM_of (S.objs _ hm)
  obtain ⟨v, hv, rv⟩ := rs.get hx
  have e : s.heap.IsListIter it l i := e
  refine wpAny_pyNext_list_item e hl (by simpa using hv) fun h' e' hs => ?_
  have K := S.set (tk := s.toks) U hs.extBut (ao' := .it (.mlst l (i + 1))) e'
  exact letOwned_list e' ⟨x, hp', K.1, K.2, rv.mono K.2, h⟩
theorem JN.mlstEnd {t : Expr} {it l : Addr} {xs : List V} {i : Nat} {Ω : Option V → Hp → Prop} (hx : xs[i]? = none) (hm : (l, .list xs) ∈ hp) (D : Del hp it (.it (.mlst l i)) hp') (h : Ω none hp') : JN B n hp t it Ω := fun A s ok S => by
  have e := S.objs _ D.mem
  obtain ⟨items, hl, rs⟩ := isListM_of (S.objs _ hm)
  refine wpAny_pyNext_list_end ok.handled e hl (none_of rs hx) fun h' he => ?_
  have K := S.drop (tk := s.toks) D he
  exact ⟨hp', K.1, K.2, h⟩
theorem JN.rng {t : Expr} {it : Addr} {x left step : Int} {Ω : Option V → Hp → Prop} (hx : 0 < left) (U : Upd hp it (.it (.rng x left step)) (.it (.rng (x + step) (left - 1) step)) hp') (h : Ω (some (.int x)) hp') : JN B n hp t it Ω := fun A s ok S => by
  have e : IsRangeIter s.heap it x left step := S.objs _ U.mem
  refine wpAny_pyNext_range_item e hx fun h' e' hs => ?_
  have K := S.set (tk := s.toks + 1) U hs.extBut (ao' := .it (.rng (x + step) (left - 1) step)) e'
  exact letOwned_plain e' rfl (by decide) ⟨.int x, hp', K.1, K.2, .int _ _, h⟩
theorem JN.rngEnd {t : Expr} {it : Addr} {x left step : Int} {Ω : Option V → Hp → Prop} (hx : left ≤ 0) (D : Del hp it (.it (.rng x left step)) hp') (h : Ω none hp') : JN B n hp t it Ω := fun A s ok S => by
  have e : IsRangeIter s.heap it x left step := S.objs _ D.mem
  refine wpAny_pyNext_range_end ok.handled e hx fun h' he => ?_
  have K := S.drop (tk := s.toks) D he
  exact ⟨hp', K.1, K.2, h⟩
theorem strIter_obj {prog : Program} {w : World} {A : Around} {E : Value → Shared → Prop} {s : Shared} {it : Addr} {x : Str} {t : Tok} {i c : Nat} {Q : Option Value → Shared → Prop}
    (hit : s.heap.get? it = some { cls := .type "str_ascii_iterator", data := .fields #[.str x t, .int i 0] }) (hx : x.cps[i]? = some c)
    (hQ : ∀ h', h'.get? it = some { cls := .type "str_ascii_iterator", data := .fields #[.str x t, .int (i + 1 : Nat) 0] } → Heap.SameBut it s.heap h' → Q (some (.str ⟨#[c]⟩ s.toks)) { s with heap := h', toks := s.toks + 1 }) :
    wpAny (model prog w) A (pyNext (.ref it)) Q E s := by
  have hT : s.TypeIs (.ref it) "str_ascii_iterator" := ⟨_, hit, rfl⟩
  unfold pyNext
  refine wpAny_bind (wpAny_attempt (wpAny_callSpecial?_slot (name := Str.ofString "__next__") hT F.slot_str_ascii_iterator_next
    (wpAny_call_entry F.slot_str_ascii_iterator_next hT F.entry_str_ascii_iterator_next ?_ (F.args_str_ascii_iterator_next_1 _))))
  show wpAny _ _ (field (.ref it) 0 >>= _) _ _ s
  refine wpAny_bind (wpAny_field hit rfl (x := .str x t) rfl ?_)
  show wpAny _ _ (field (.ref it) 1 >>= _) _ _ s
  refine wpAny_bind (wpAny_field hit rfl (x := .int i 0) rfl ?_)
  simp only [Int.toNat_natCast, hx]
  refine wpAny_bind (wpAny_setField hit rfl (by simp) (wpAny_bind (wpAny_mkStr (wpAny_pure ⟨_, rfl, wpAny_pure (hQ _ ?_ (Heap.SameBut.update ..))⟩) (by show 1 ≤ sizeLine; decide))))
  rw [Heap.get?_update_self _ hit rfl]
  simp [Obj.mapFields, rawInt]
theorem JN.str {t : Expr} {it : Addr} {x : Str} {i c : Nat} {Ω : Option V → Hp → Prop} (hx : x.cps[i]? = some c) (U : Upd hp it (.it (.str x i)) (.it (.str x (i + 1))) hp') (h : Ω (some (.str ⟨#[c]⟩)) hp') : JN B n hp t it Ω := fun A s ok S => by
  obtain ⟨tk, e⟩ := S.objs _ U.mem
  refine strIter_obj e hx fun h' e' hs => ?_
  have K := S.set (tk := s.toks + 1) U hs.extBut (ao' := .it (.str x (i + 1))) ⟨tk, e'⟩
  exact letOwned_plain e' rfl (by decide) ⟨.str ⟨#[c]⟩, hp', K.1, K.2, .str _ _, h⟩
theorem JN.strEnd {t : Expr} {it : Addr} {x : Str} {i : Nat} {Ω : Option V → Hp → Prop} (hx : x.cps[i]? = none) (D : Del hp it (.it (.str x i)) hp') (h : Ω none hp') : JN B n hp t it Ω := fun A s ok S => by
  obtain ⟨tk, e⟩ := S.objs _ D.mem
  refine wpAny_pyNext_ascii_end ok.handled ⟨_, e, rfl, rfl⟩ hx fun h' he => ?_
  have K := S.drop (tk := s.toks) D he
  exact ⟨hp', K.1, K.2, h⟩

theorem JI.lst {xs : List V} {Ω : Addr → Hp → Prop} (h : ∀ it, Ω it ((it, .it (.lst xs 0)) :: hp)) : JI B n hp (.lst xs) Ω := fun A s x ok S r => Wp.of fun Q k => by
  obtain ⟨a, items, m, rfl, e, r⟩ := r.inv
  next =>
    refine wpAny_pyIter_list ⟨_, zof_le _ _ e, rfl, _, rfl⟩ ?_
    have K := S.add (tk := s.toks) (a := s.heap.objs.size) (ao := .it (.lst xs 0)) (h' := s.heap.push { cls := .type "list_iterator", data := .fields #[.ref a, .int 0 0] }) (fun _ _ e => Heap.get?_push_of_some _ e) (size_fresh _)
      ⟨a, ⟨_, Heap.get?_push_size _ rfl, rfl, rfl⟩, .lst e r⟩
    exact k _ _ _ _ K.1 K.2 rfl (h _)
theorem JI.mlst {l : Addr} {xs : List V} {Ω : Addr → Hp → Prop} (hm : (l, .list xs) ∈ hp) (h : ∀ it, Ω it ((it, .it (.mlst l 0)) :: hp)) : JI B n hp (.mref l) Ω := fun A s x ok S r => Wp.of fun Q k => by
  (first | refine Is.eInt r fun _ => ?_ | refine Is.eStr r fun _ => ?_ | refine Is.eNone r ?_ | refine Is.eBool r ?_ | refine Is.eRaw r ?_ | refine Is.eMref r ?_ | refine IsAll.eNil r ?_ | (obtain rfl := r.inv) | (obtain ⟨_, rfl⟩ := r.inv) | cases r)
  obtain ⟨items, hl, rs⟩ := isListM_of (S.objs _ hm)
  refine wpAny_pyIter_list hl ?_
  have K := S.add (tk := s.toks) (a := s.heap.objs.size) (ao := .it (.mlst l 0)) (h' := s.heap.push { cls := .type "list_iterator", data := .fields #[.ref l, .int 0 0] }) (fun _ _ e => Heap.get?_push_of_some _ e) (size_fresh _) ⟨_, Heap.get?_push_size _ rfl, rfl, rfl⟩
  exact k _ _ _ _ K.1 K.2 rfl (h _)
theorem JI.str {x : Str} {Ω : Addr → Hp → Prop} (ha : x.cps.all (· < 128) = true) (h : ∀ it, Ω it ((it, .it (.str x 0)) :: hp)) : JI B n hp (.str x) Ω := fun A s v ok S r => Wp.of fun Q k => by
  obtain ⟨t, rfl⟩ := r.inv
  next =>
    refine wpAny_pyIter_ascii ha ?_
    have K := S.add (tk := s.toks) (a := s.heap.objs.size) (ao := .it (.str x 0)) (h' := s.heap.push { cls := .type "str_ascii_iterator", data := .fields #[.str x t, .int 0 0] }) (fun _ _ e => Heap.get?_push_of_some _ e) (size_fresh _)
      ⟨t, Heap.get?_push_size _ rfl⟩
    exact k _ _ _ _ K.1 K.2 rfl (h _)
noncomputable def ItSelf (B : Base) (hp : Hp) (it : Addr) : Prop := ∀ A s, St B hp s → ∀ Q : Value → Shared → Prop, Q (.ref it) s → ∀ E, wpAny B.M A (pyIter (.ref it)) Q E s
theorem ItSelf.of {it : Addr} {k : ItK} (hm : (it, .it k) ∈ hp) (hk : match k with | .pair => False | .call .. => False | .eit => False | _ => True) : ItSelf B hp it := fun A s S Q h E => by
  have o := S.objs _ hm
  cases k with
  | lst xs i => obtain ⟨l, e, r⟩ := o; exact wpAny_pyIter_listiter e h
  | mlst l i => exact wpAny_pyIter_listiter o h
  | tup xs i => obtain ⟨l, e, r⟩ := o; exact wpAny_pyIter_tupleiter ⟨_, e, rfl, rfl⟩ h
  | rng x l st => exact wpAny_pyIter_rangeiter o h
  | str x i => obtain ⟨t, e⟩ := o; exact wpAny_pyIter_striter_ascii ⟨_, e, rfl, rfl⟩ h
  | enum it' i => obtain ⟨old, e⟩ := o; exact wpAny_pyIter_enum e h
  | zip TI TO i1 i2 => exact wpAny_pyIter_zip o.1 h
  | pair => exact hk.elim
  | call f s' b => exact hk.elim
  | eit => exact hk.elim
end
end Mine

set_option maxRecDepth 100000
set_option linter.unusedVariables false
namespace Mine
open PySem PySem.W PySem.Calls PyProof.Rows

section
variable {B : Base} {n : Nat} {env : Env} {hp hp' : Hp} {pos : Pos} {Φ : V → Hp → Prop} {Ψ : AF → Hp → Prop} {Υ : Hp → Prop} {G : Globs B}

noncomputable def JF (B : Base) (n : Nat) (env : Env) (hp : Hp) (target : Expr) (it : Addr) (body : List Stmt) (Ψ : AF → Hp → Prop) : Prop :=
  ∀ A s R, AOk n A → St B hp s → (∀ fl af hp₁ s₁, St B hp₁ s₁ → Le (zof hp s.heap) (zof hp₁ s₁.heap) → FlowIs (zof hp₁ s₁.heap) fl af → Ψ af hp₁ → R (.ok fl) s₁) → codeAny B.M A (.forLoop target (.ref it) body [] env) R s

noncomputable abbrev flowK (B : Base) (n : Nat) (env : Env) (Ψ : AF → Hp → Prop) (target : Expr) (it : Addr) (body : List Stmt) (f : AF) (hp : Hp) : Prop := match f with
  | .next => JF B n env hp target it body Ψ
  | .cont => JF B n env hp target it body Ψ
  | .brk => Ψ .next hp
  | .ret v => Ψ (.ret v) hp
noncomputable abbrev bodyK (B : Base) (n : Nat) (env : Env) (Ψ : AF → Hp → Prop) (target : Expr) (it : Addr) (body : List Stmt) (hp : Hp) : Prop := JS B n env hp body (flowK B n env Ψ target it body)
noncomputable abbrev turnK (B : Base) (n : Nat) (env : Env) (Ψ : AF → Hp → Prop) (target : Expr) (it : Addr) (body : List Stmt) (o : Option V) (hp : Hp) : Prop := match o with
  | none => Ψ .next hp
  | some x => JA B n env hp target x (bodyK B n env Ψ target it body)
noncomputable abbrev forK2 (B : Base) (n : Nat) (env : Env) (Ψ : AF → Hp → Prop) (target : Expr) (body : List Stmt) (it : Addr) (hp : Hp) : Prop := JF B n env hp target it body Ψ
noncomputable abbrev forK1 (B : Base) (n : Nat) (env : Env) (Ψ : AF → Hp → Prop) (target : Expr) (body : List Stmt) (v : V) (hp : Hp) : Prop := JI B n hp v (forK2 B n env Ψ target body)
theorem JF.turn {target : Expr} {it : Addr} {body : List Stmt}
    (h : JN B n hp target it (turnK B n env Ψ target it body)) : JF B n env hp target it body Ψ := fun A s R ok S k => by
  refine codeAny_of_tree ?_
  show wpAny _ A ((forTurn target (.ref it) body [] env).onRaise (fun x => do noteFrame x env; theTreesLotGoes x)) _ _ s
  refine wpAny_noted ?_
  simp only [forTurn]
  refine wpAny_bind (wpAny_standAt (wpAny_bind (wpAny_onRaise (wpAny_mono (h A s ok S) (fun r s₁ h₁ => ?_) fun _ _ h' => h'.elim))))
  cases r with
  | none =>
    obtain ⟨hp₁, S₁, L₁, h₁⟩ := h₁
    exact wpAny_pure ⟨rfl, codeAny_block (wpAny_execs_nil (k _ _ _ _ S₁ L₁ .next h₁))⟩
  | some v =>
    refine wpAny_bind (wpAny_mono h₁ (fun _ s₂ h₂ => ?_) fun _ _ h' => h'.elim)
    obtain ⟨x, hp₂, S₂, L₂, r₂, h₂⟩ := h₂
    refine wpAny_bind ((h₂ A _ _ ok S₂ r₂).use fun _ _ hp₃ s₃ S₃ L₃ _ h₃ => wpAny_bind ((h₃ A _ ok S₃).use fun f af hp₄ s₄ S₄ L₄ r₄ h₄ => ?_))
    have L := (L₂.trans L₃).trans L₄
    cases r₄ with
    | next => exact wpAny_pure ⟨rfl, h₄ A _ R ok S₄ fun fl af hp₅ s₅ S₅ L₅ => k fl af hp₅ s₅ S₅ (L.trans L₅)⟩
    | cont => exact wpAny_pure ⟨rfl, h₄ A _ R ok S₄ fun fl af hp₅ s₅ S₅ L₅ => k fl af hp₅ s₅ S₅ (L.trans L₅)⟩
    | brk => exact wpAny_pure (k _ _ _ _ S₄ L .next h₄)
    | ret r => exact wpAny_pure (k _ _ _ _ S₄ L (.ret r) h₄)
theorem J1.for {target iter : Expr} {body : List Stmt} (h : JE B n env hp iter (forK1 B n env Ψ target body))
    (hs : ∀ x, foldedSetIterable iter env x = pure x := by intro _; rfl) : J1 B n env hp (.For target iter body [] pos) Ψ := fun A s ok S => Wp.of fun Q k => by
  refine wpAny_For ((h A s ok S).use fun v _ hp₁ s₁ S₁ L₁ r₁ h₁ => (h₁ A s₁ v ok S₁ r₁).use fun y it hp₂ s₂ S₂ L₂ e h₂ => ?_) hs
  subst e
  exact h₂ A s₂ _ ok S₂ fun fl af hp₃ s₃ S₃ L₃ r₃ h₃ => k _ _ _ _ S₃ ((L₁.trans L₂).trans L₃) r₃ h₃

noncomputable def JW (B : Base) (n : Nat) (env : Env) (hp : Hp) (test : Expr) (body : List Stmt) (Ψ : AF → Hp → Prop) : Prop :=
  ∀ A s R, AOk n A → St B hp s → (∀ fl af hp₁ s₁, St B hp₁ s₁ → Le (zof hp s.heap) (zof hp₁ s₁.heap) → FlowIs (zof hp₁ s₁.heap) fl af → Ψ af hp₁ → R (.ok fl) s₁) → codeAny B.M A (.whileLoop test body [] env) R s
noncomputable abbrev flowW (B : Base) (n : Nat) (env : Env) (Ψ : AF → Hp → Prop) (test : Expr) (body : List Stmt) (f : AF) (hp : Hp) : Prop := match f with
  | .next => JW B n env hp test body Ψ
  | .cont => JW B n env hp test body Ψ
  | .brk => Ψ .next hp
  | .ret v => Ψ (.ret v) hp
theorem JW.turn {test : Expr} {body : List Stmt}
    (h : JT B n env hp test fun c hp₁ => if c then JS B n env hp₁ body (flowW B n env Ψ test body) else Ψ .next hp₁) : JW B n env hp test body Ψ := fun A s R ok S k => by
  refine codeAny_of_tree ?_
  show wpAny _ A ((whileTurn test body [] env).onRaise (fun x => do noteFrame x env; theTreesLotGoes x)) _ _ s
  refine wpAny_noted ?_
  simp only [whileTurn]
  refine wpAny_bind ((h A s ok S).use fun c _ hp₁ s₁ S₁ L₁ r₁ h₁ => ?_)
  (first | refine Is.eInt r₁ fun _ => ?_ | refine Is.eStr r₁ fun _ => ?_ | refine Is.eNone r₁ ?_ | refine Is.eBool r₁ ?_ | refine Is.eRaw r₁ ?_ | refine Is.eMref r₁ ?_ | refine IsAll.eNil r₁ ?_ | (obtain rfl := r₁.inv) | (obtain ⟨_, rfl⟩ := r₁.inv) | cases r₁)
  cases c with
  | false =>
    simp only [Bool.false_eq_true, if_false] at h₁ ⊢
    exact wpAny_bind (wpAny_execs_nil (wpAny_pure (k _ _ _ _ S₁ L₁ .next h₁)))
  | true =>
    simp only [if_true] at h₁ ⊢
    refine wpAny_bind ((h₁ A _ ok S₁).use fun f af hp₄ s₄ S₄ L₄ r₄ h₄ => ?_)
    have L := L₁.trans L₄
    cases r₄ with
    | next => exact wpAny_pure ⟨rfl, h₄ A _ R ok S₄ fun fl af hp₅ s₅ S₅ L₅ => k fl af hp₅ s₅ S₅ (L.trans L₅)⟩
    | cont => exact wpAny_pure ⟨rfl, h₄ A _ R ok S₄ fun fl af hp₅ s₅ S₅ L₅ => k fl af hp₅ s₅ S₅ (L.trans L₅)⟩
    | brk => exact wpAny_pure (k _ _ _ _ S₄ L .next h₄)
    | ret r => exact wpAny_pure (k _ _ _ _ S₄ L (.ret r) h₄)
theorem J1.while {test : Expr} {body : List Stmt} (h : JW B n env hp test body Ψ) : J1 B n env hp (.While test body [] pos) Ψ := fun A s ok S => Wp.of fun Q k =>
  wpAny_While (h A s _ ok S fun fl af hp₃ s₃ S₃ L₃ r₃ h₃ => k _ _ _ _ S₃ L₃ r₃ h₃)

noncomputable def JCL (B : Base) (n : Nat) (env : Env) (hp : Hp) (e : Expr) (depth : Nat) (it acc : Addr) (Υ : Hp → Prop) : Prop :=
  ∀ A s R, AOk n A → St B hp s → (∀ hp₁ s₁, St B hp₁ s₁ → Le (zof hp s.heap) (zof hp₁ s₁.heap) → Υ hp₁ → R (.ok .next) s₁) → codeAny B.M A (.compLoop e depth (.ref it) (.ref acc) env) R s
noncomputable def JIfs (B : Base) (n : Nat) (env : Env) (hp : Hp) (ifs : List Expr) (Θ : Bool → Hp → Prop) : Prop :=
  ∀ A s, AOk n A → St B hp s → Wp B EqR A (forIn ifs true fun c r => if r = true then do let ok ← isTrue c env (eval c env); pure (ForInStep.yield ok) else pure (ForInStep.yield r)) hp s Θ
theorem JIfs.nil {Θ : Bool → Hp → Prop} (h : Θ true hp) : JIfs B n env hp [] Θ := fun A s ok S => Wp.pure S rfl h
theorem JIfs.one {c : Expr} {Θ : Bool → Hp → Prop} (h : JT B n env hp c Θ) : JIfs B n env hp [c] Θ := fun A s ok S => Wp.of fun Q k => wpAny_tests_one ((h A s ok S).use k)
noncomputable def CTurn (B : Base) (n : Nat) (env : Env) (target : Expr) (ifs : List Expr) (elt : Expr) (x : V) (hp : Hp) (Ω : Option V → Hp → Prop) : Prop :=
  JA B n env hp target x fun hp₂ => JIfs B n env hp₂ ifs fun c hp₃ => if c = true then JE B n env hp₃ elt fun v hp₄ => Ω (some v) hp₄ else Ω none hp₃
theorem CTurn.mono {target elt : Expr} {ifs : List Expr} {x : V} {Ω Ω' : Option V → Hp → Prop} (h : CTurn B n env target ifs elt x hp Ω) (k : ∀ o hp, Ω o hp → Ω' o hp) : CTurn B n env target ifs elt x hp Ω' := fun A s val ok S r => (h A s val ok S r).mono fun _ hp₂ h₂ A s ok S => (h₂ A s ok S).mono fun c hp₃ h₃ => by
  cases c with
  | true => exact JE.mono h₃ fun v hp => k (some v) hp
  | false => exact k none _ h₃
noncomputable def clO (B : Base) (n : Nat) (env : Env) (Υ : Hp → Prop) (e : Expr) (it acc : Addr) (o : Option V) (hp₄ : Hp) : Prop := match o with
  | some v => ∃ xs hp₅, Upd hp₄ acc (.list xs) (.list (xs ++ [v])) hp₅ ∧ xs.length < 16777216 ∧ JCL B n env hp₅ e 0 it acc Υ
  | none => JCL B n env hp₄ e 0 it acc Υ
noncomputable def clK (B : Base) (n : Nat) (env : Env) (Υ : Hp → Prop) (elt target iter : Expr) (ifs : List Expr) (scope : Scope) (pos : Pos) (it acc : Addr) (o : Option V) (hp₁ : Hp) : Prop := match o with
  | none => Υ hp₁
  | some x => CTurn B n env target ifs elt x hp₁ (clO B n env Υ (.ListComp elt [⟨target, iter, ifs, 0⟩] scope pos) it acc)
theorem JCL.turn {elt target iter : Expr} {ifs : List Expr} {scope : Scope} {it acc : Addr}
    (h : JN B n hp target it (clK B n env Υ elt target iter ifs scope pos it acc)) :
    JCL B n env hp (.ListComp elt [⟨target, iter, ifs, 0⟩] scope pos) 0 it acc Υ := fun A s R ok S k => by
  refine codeAny_of_tree ?_
  show wpAny _ A ((compTurn (.ListComp elt [⟨target, iter, ifs, 0⟩] scope pos) 0 (.ref it) (.ref acc) env).onRaise (fun x => do noteFrame x env; theTreesLotGoes x)) _ _ s
  refine wpAny_noted ?_
  rw [compTurn_list]
  refine wpAny_bind (wpAny_standAt (wpAny_bind (wpAny_mono (h A s ok S) (fun r s₁ h₁ => ?_) fun _ _ h' => h'.elim)))
  cases r with
  | none =>
    obtain ⟨hp₁, S₁, L₁, h₁⟩ := h₁
    exact wpAny_pure (k _ _ S₁ L₁ h₁)
  | some v =>
    refine wpAny_bind (wpAny_mono h₁ (fun _ s₂ h₂ => ?_) fun _ _ h' => h'.elim)
    obtain ⟨x, hp₂, S₂, L₂, r₂, h₂⟩ := h₂
    refine wpAny_bind ((h₂ A _ _ ok S₂ r₂).use fun _ _ hp₃ s₃ S₃ L₃ _ h₃ => wpAny_bind ((h₃ A _ ok S₃).use fun c c' hp₄ s₄ S₄ L₄ r₄ h₄ => ?_))
    (first | refine Is.eInt r₄ fun _ => ?_ | refine Is.eStr r₄ fun _ => ?_ | refine Is.eNone r₄ ?_ | refine Is.eBool r₄ ?_ | refine Is.eRaw r₄ ?_ | refine Is.eMref r₄ ?_ | refine IsAll.eNil r₄ ?_ | (obtain rfl := r₄.inv) | (obtain ⟨_, rfl⟩ := r₄.inv) | cases r₄)
    have L := (L₂.trans L₃).trans L₄
    cases c with
    | false =>
      simp only [Bool.false_eq_true, if_false] at h₄ ⊢
      exact wpAny_pure ⟨rfl, h₄ A _ R ok S₄ fun hp₅ s₅ S₅ L₅ => k hp₅ s₅ S₅ (L.trans L₅)⟩
    | true =>
      simp only [if_true] at h₄ ⊢
      refine wpAny_bind (wpAny_bind ((h₄ A _ ok S₄).use fun v w hp₅ s₅ S₅ L₅ r₅ h₅ => wpAny_bind ?_))
      obtain ⟨xs, hp₆, U, hlt, h₆⟩ := h₅
      obtain ⟨items, m, e, rs⟩ := S₅.objs _ U.mem
      have hsz : items.size = xs.length := by rw [← rs.length, Array.length_toList]
      refine wpAny_call_entry slot_list_append (T := "list") ⟨_, e, rfl⟩ entry_list_append ?_ (args_list_append _ _)
      show wpAny _ _ (updateSeq acc (·.push v) >>= fun _ => ret .none) _ _ s₅
      refine wpAny_bind ?_
      refine wpAny_updateSeq e rfl (wpAny_pure ⟨.none, rfl, wpAny_pure (wpAny_pure ⟨rfl, ?_⟩)⟩)
      have K := S₅.set (tk := s₅.toks) (h' := s₅.heap.update acc fun o => o.mapSeq (·.push v)) U (Heap.SameBut.update ..).extBut ⟨items.push v, _, Heap.get?_update_self _ e rfl, by
        rw [Array.toList_push]; exact IsAll.append (.cons r₅ .nil) rs⟩
      exact h₆ A _ R ok K.1 fun hp₇ s₇ S₇ L₇ => k hp₇ s₇ S₇ (((L.trans L₅).trans K.2).trans L₇)
end
end Mine

set_option maxRecDepth 100000
set_option linter.unusedVariables false
namespace Mine
open PySem PySem.W PySem.Calls PyProof.Rows

section
variable {B : Base} {n : Nat} {env : Env} {hp hp' : Hp} {pos : Pos} {Φ : V → Hp → Prop} {Ψ : AF → Hp → Prop} {Υ : Hp → Prop} {G : Globs B} {L : Addr} {kinds : List (Str × NameKind)} {own out : List (Str × Addr)}

noncomputable def closOf (env : Env) : List (Str × NameKind) → List (Str × Addr) → List (Str × Addr)
  | [], acc => acc
  | (x, k) :: r, acc => closOf env r (if k = .free then (x, (env.cells.lookup x).getD 0) :: acc else acc)
theorem closOf_for {f : Str × NameKind → List (Str × Addr) → Sem (ForInStep (List (Str × Addr)))} {env : Env} (hf : ∀ x k c, f (x, k) c = if k == .free then (do let a ← cellOf env x; pure (.yield ((x, a) :: c))) else pure (.yield c)) :
    ∀ (names : List (Str × NameKind)) (acc : List (Str × Addr)), (∀ p ∈ names, p.2 = .free → ∃ c, env.cells.lookup p.1 = some c) → forIn names acc f = pure (closOf env names acc)
  | [], acc, _ => rfl
  | (x, k) :: r, acc, h => by
    rw [List.forIn_cons, hf]
    unfold closOf
    by_cases q : k = .free
    · obtain ⟨c, hc⟩ := h (x, k) (.head _) q
      have e : cellOf env x = pure c := by unfold cellOf; rw [hc]
      rw [if_pos (by rw [q]; rfl), if_pos q, e, hc]
      simp only [pure_bind, Option.getD_some]
      exact closOf_for hf r _ fun p hp => h p (.tail _ hp)
    · rw [if_neg (by simpa using q), if_neg q, pure_bind]
      exact closOf_for hf r _ fun p hp => h p (.tail _ hp)
theorem closureFor_eq {scope : Scope} {env : Env} (h : ∀ p ∈ scope.names, p.2 = .free → ∃ c, env.cells.lookup p.1 = some c) : closureFor scope env = pure (closOf env scope.names []) := by
  unfold closureFor
  have := closOf_for (env := env) (f := fun x c => match x with | (name, kind) => if kind == .free then (do let a ← cellOf env name; pure (.yield ((name, a) :: c))) else pure (.yield c)) (fun _ _ _ => rfl) scope.names [] h
  refine Eq.trans ?_ (Eq.trans (congrArg (fun t => t >>= fun r => pure r) this) (pure_bind _ _))
  rfl
theorem closOf_lookup {env : Env} {x : Str} : ∀ (names : List (Str × NameKind)) (acc : List (Str × Addr)), (closOf env names acc).lookup x = if (x, NameKind.free) ∈ names then some ((env.cells.lookup x).getD 0) else acc.lookup x
  | [], acc => by simp [closOf]
  | (y, k) :: r, acc => by
    unfold closOf
    rw [closOf_lookup r]
    by_cases q : (x, NameKind.free) ∈ r
    · rw [if_pos q, if_pos (.tail _ q)]
    · rw [if_neg q]
      by_cases e : (x, NameKind.free) = (y, k)
      · injection e with e1 e2
        subst e1; subst e2
        rw [if_pos rfl, if_pos (.head _)]
        simp
      · have : ¬ (x, NameKind.free) ∈ (y, k) :: r := fun h => by
          rcases List.mem_cons.mp h with h | h
          · exact e h
          · exact q h
        rw [if_neg this]
        by_cases k' : k = .free
        · subst k'
          have hne : (x == y) = false := by
            rw [beq_eq_false_iff_ne]; rintro rfl; exact e rfl
          rw [if_pos rfl, List.lookup_cons, hne]
        · rw [if_neg k']
noncomputable def compOk (names kinds : List (Str × NameKind)) (own out : List (Str × Addr)) : Bool :=
  names.all fun p => p.2 != .free || ((own.any (·.1 == p.1) || out.any (·.1 == p.1)) && (!out.any (·.1 == p.1) || kinds.contains (p.1, .free)))
theorem EnvIs.look (E : EnvIs B G env L kinds own out) {names : List (Str × NameKind)} (h : compOk names kinds own out = true) {p : Str × Addr} (hp : p ∈ own ++ out) (hf : (p.1, NameKind.free) ∈ names) : env.cells.lookup p.1 = some p.2 := by
  rcases List.mem_append.mp hp with hp | hp
  · exact (E.ow p hp).2
  · have := List.all_eq_true.mp h _ hf
    simp only [bne_self_eq_false, Bool.false_or, Bool.and_eq_true] at this
    have h2 := this.2
    have : out.any (·.1 == p.1) = true := List.any_eq_true.mpr ⟨p, hp, by simp⟩
    rw [this] at h2
    exact E.ou p hp (by simpa using h2)
theorem EnvIs.has (E : EnvIs B G env L kinds own out) {names : List (Str × NameKind)} (h : compOk names kinds own out = true) : ∀ p ∈ names, p.2 = .free → ∃ c, env.cells.lookup p.1 = some c := by
  intro p hp hf
  have h1 := List.all_eq_true.mp h _ hp
  rw [hf] at h1
  simp only [bne_self_eq_false, Bool.false_or, Bool.and_eq_true, Bool.or_eq_true, List.any_eq_true, beq_iff_eq] at h1
  have hp' : (p.1, NameKind.free) ∈ names := by rw [← hf]; exact hp
  rcases h1.1 with ⟨q, hq, e⟩ | ⟨q, hq, e⟩
  · exact ⟨q.2, e ▸ E.look h (List.mem_append_left _ hq) (e ▸ hp')⟩
  · exact ⟨q.2, e ▸ E.look h (List.mem_append_right _ hq) (e ▸ hp')⟩

theorem cellsFrom_append : ∀ (names : List (Str × NameKind)) (k : Nat) (acc : List (Str × Addr)), cellsFrom k names acc = cellsFrom k names [] ++ acc
  | [], _, _ => rfl
  | (x, kd) :: r, k, acc => by
    unfold cellsFrom
    split
    · rw [cellsFrom_append r _ (_ :: acc), cellsFrom_append r _ [_], List.append_assoc]; rfl
    · exact cellsFrom_append r k acc
theorem cellsFrom_names : ∀ (names : List (Str × NameKind)) (k : Nat) (p : Str × Addr), p ∈ cellsFrom k names [] → (p.1, NameKind.cell) ∈ names
  | [], _, _, h => nomatch h
  | (x, kd) :: r, k, p, h => by
    unfold cellsFrom at h
    split at h
    · rename_i hk
      rw [cellsFrom_append] at h
      rcases List.mem_append.mp h with h | h
      · exact .tail _ (cellsFrom_names r _ p h)
      · rw [List.mem_singleton.mp h]
        rw [beq_iff_eq.mp hk]; exact .head _
    · exact .tail _ (cellsFrom_names r _ p h)
theorem cellsFrom_nodup : ∀ (names : List (Str × NameKind)) (k : Nat), (names.map (·.1)).Nodup → ((cellsFrom k names []).map (·.1)).Nodup
  | [], _, _ => .nil
  | (x, kd) :: r, k, h => by
    have h' := List.nodup_cons.mp h
    unfold cellsFrom
    split
    · rw [cellsFrom_append, List.map_append]
      refine List.nodup_append.mpr ⟨cellsFrom_nodup r _ h'.2, by simp, fun a ha b hb e => ?_⟩
      obtain ⟨p, hp, rfl⟩ := List.mem_map.mp ha
      simp at hb
      subst hb
      exact h'.1 (List.mem_map.mpr ⟨_, cellsFrom_names r _ p hp, e⟩)
    · exact cellsFrom_nodup r _ h'.2
theorem lookup_append {α : Type} {x : Str} : ∀ (l r : List (Str × α)), (l ++ r).lookup x = (l.lookup x).or (r.lookup x)
  | [], r => by simp
  | (y, v) :: l, r => by
    rw [List.cons_append, List.lookup_cons, List.lookup_cons, lookup_append l r]
    split <;> simp
theorem lookup_none {α : Type} {x : Str} : ∀ (l : List (Str × α)), x ∉ l.map (·.1) → l.lookup x = none
  | [], _ => rfl
  | (y, v) :: l, h => by
    have hne : (x == y) = false := by
      rw [beq_eq_false_iff_ne]; rintro rfl; exact h (.head _)
    rw [List.lookup_cons, hne]
    exact lookup_none l fun q => h (.tail _ q)
theorem names_one {names : List (Str × NameKind)} (h : (names.map (·.1)).Nodup) {x : Str} {k k' : NameKind} (a : (x, k) ∈ names) (b : (x, k') ∈ names) : k = k' := by
  induction names with
  | nil => cases a
  | cons p r ih =>
    have h' := List.nodup_cons.mp h
    rcases List.mem_cons.mp a with a | a <;> rcases List.mem_cons.mp b with b | b
    · rw [← a] at b; injection b with _ e; exact e.symm
    · exact absurd (List.mem_map.mpr ⟨_, b, by rw [← a]⟩) h'.1
    · exact absurd (List.mem_map.mpr ⟨_, a, by rw [← b]⟩) h'.1
    · exact ih h'.2 a b

noncomputable def compEnvOf (scope : Scope) (env : Env) (C : Addr) : Env :=
  { scope := relabel scope env, locals := C, globals := env.globals, cells := cellsFrom (C + 1) scope.names (closOf env scope.names []), qual := env.qual, func := none, code := env.code, frame := env.frame, builtins := env.builtins }
theorem relabel_lookup {names : List (Str × NameKind)} {env : Env} : ∀ {p : Str × NameKind}, (names.map (·.1)).Nodup → p ∈ names →
    (names.map fun (n, k) => if (k == NameKind.free && env.scope.kind == .function && env.kindOf n == some .cell) then (n, NameKind.cell) else (n, k)).lookup p.1 = some p.2 ∨
    (p.2 = .free ∧ (names.map fun (n, k) => if (k == NameKind.free && env.scope.kind == .function && env.kindOf n == some .cell) then (n, NameKind.cell) else (n, k)).lookup p.1 = some .cell) := by
  induction names with
  | nil => intro p _ h; (first | refine Is.eInt h fun _ => ?_ | refine Is.eStr h fun _ => ?_ | refine Is.eNone h ?_ | refine Is.eBool h ?_ | refine Is.eRaw h ?_ | refine Is.eMref h ?_ | refine IsAll.eNil h ?_ | (obtain rfl := h.inv) | (obtain ⟨_, rfl⟩ := h.inv) | cases h)
  | cons q r ih =>
    intro p hn h
    obtain ⟨y, k⟩ := q
    have hn' := List.nodup_cons.mp hn
    rw [List.map_cons]
    rcases List.mem_cons.mp h with rfl | h1
    · dsimp only
      by_cases c : (k == NameKind.free && env.scope.kind == .function && env.kindOf y == some .cell) = true
      · rw [if_pos c]
        refine .inr ⟨?_, by simp [List.lookup_cons]⟩
        simp only [Bool.and_eq_true, beq_iff_eq] at c
        exact c.1.1
      · rw [if_neg c]; exact .inl (by simp [List.lookup_cons])
    · have hne : (p.1 == y) = false := by
        rw [beq_eq_false_iff_ne]; rintro rfl; exact hn'.1 (List.mem_map.mpr ⟨p, h1, rfl⟩)
      have := ih hn'.2 h1
      dsimp only
      by_cases c : (k == NameKind.free && env.scope.kind == .function && env.kindOf y == some .cell) = true
      · rw [if_pos c, List.lookup_cons, hne]; exact this
      · rw [if_neg c, List.lookup_cons, hne]; exact this
theorem EnvIs.comp (E : EnvIs B G env L kinds own out) {scope : Scope} {C : Addr} (hk : scope.kind = .function) (hn : (scope.names.map (·.1)).Nodup) (h : compOk scope.names kinds own out = true) :
    EnvIs B G (compEnvOf scope env C) C scope.names (cellsFrom (C + 1) scope.names []) (own ++ out) where
  fn := hk
  loc := rfl
  kd := fun p hp => relabel_lookup hn hp
  ow := fun p hp => ⟨cellsFrom_names _ _ _ hp, by
    show (cellsFrom (C + 1) scope.names (closOf env scope.names [])).lookup p.1 = some p.2
    rw [cellsFrom_append, lookup_append, lookup_of_mem_nodup (cellsFrom_nodup _ _ hn) hp]; rfl⟩
  ou := fun p hp hf => by
    show (cellsFrom (C + 1) scope.names (closOf env scope.names [])).lookup p.1 = some p.2
    have : p.1 ∉ (cellsFrom (C + 1) scope.names []).map (·.1) := fun q => by
      obtain ⟨q', hq, e⟩ := List.mem_map.mp q
      have := names_one hn (e ▸ cellsFrom_names _ _ _ hq) hf
      cases this
    rw [cellsFrom_append, lookup_append, lookup_none _ this, closOf_lookup, if_pos hf, E.look h hp hf]; rfl
  g := E.g
  b := E.b
end
end Mine

set_option maxRecDepth 100000
set_option linter.unusedVariables false
namespace Mine
open PySem PySem.W PySem.Calls PyProof.Rows

theorem wpAny_compEnv {M : Model} {A : Around} {E : Value → Shared → Prop} {s : Shared} {env : Env} {scope : Scope} {cl : List (Str × Addr)} {Q : Env → Shared → Prop}
    (h : Q { scope := scope, locals := s.heap.objs.size, globals := env.globals, cells := cellsFrom (s.heap.objs.size + 1) scope.names cl, qual := env.qual, func := none, code := env.code, frame := env.frame, builtins := env.builtins }
      { s with heap := pushCells (s.heap.push { cls := .type "dict", data := .dict #[] }) scope.names }) :
    wpAny M A (newFunctionEnv scope env.globals cl [] env.qual none .none (some env)) Q E s := by
  simp only [newFunctionEnv, Option.isSome_some, if_true]
  refine wpAny_bind (wpAny_alloc ?_)
  refine wpAny_bind (wpAny_layCells _ (fun name kind cells => by cases hkc : kind == NameKind.cell <;> simp [hkc]) _ _ _ _ ?_)
  rw [show ({ s with heap := s.heap.push { cls := .type "dict", data := .dict #[] } } : Shared).heap.objs.size = s.heap.objs.size + 1 from Heap.size_push ..]
  rw [List.forIn_nil]
  exact wpAny_bind (wpAny_pure (wpAny_pure h))

theorem none_locals {z : Z} {fs : List (Str × Option V)} (h : ∀ p ∈ fs, p.2 = none) (x : Str) : OptIs z none ((fs.lookup x).join) := by
  have : (fs.lookup x).join = none := by
    cases q : fs.lookup x with
    | none => rfl
    | some o => have := h _ (mem_of_lookup' q); simp at this; rw [this]; rfl
  rw [this]; trivial

section
variable {B : Base} {n : Nat} {env : Env} {hp hp' : Hp} {pos : Pos} {Φ : V → Hp → Prop} {Ψ : AF → Hp → Prop} {Υ : Hp → Prop} {G : Globs B} {L : Addr} {kinds : List (Str × NameKind)} {own out : List (Str × Addr)}

theorem St.cells {s : Shared} {h' : Heap} {tk : Nat} (S : St B hp s) (hk : ∀ b o, s.heap.get? b = some o → h'.get? b = some o) :
    ∀ (cs : List (Str × Addr)), (cs.Pairwise fun p q => p.2 ≠ q.2) → (∀ p ∈ cs, h'.IsCell p.2 none ∧ s.heap.get? p.2 = none) →
      St B ((cs.map fun p => (p.2, AObj.cell none)) ++ hp) { s with heap := h', toks := tk } ∧ Le (zof hp s.heap) (zof ((cs.map fun p => (p.2, AObj.cell none)) ++ hp) h')
  | [], _, _ => S.ext hk
  | p :: l, hp1, hp2 => by
    obtain ⟨q1, q2⟩ := List.pairwise_cons.mp hp1
    obtain ⟨S', L'⟩ := St.cells S hk l q2 fun q hq => hp2 q (.tail _ hq)
    obtain ⟨hc, hnone⟩ := hp2 p (.head _)
    have hfresh : p.2 ∉ keys ((l.map fun p => (p.2, AObj.cell none)) ++ hp) := by
      intro hm
      unfold keys at hm
      rw [List.map_append, List.map_map] at hm
      rcases List.mem_append.mp hm with hm | hm
      · obtain ⟨q, hq, e⟩ := List.mem_map.mp hm
        exact q1 q hq e.symm
      · exact S.fresh_not hnone hm
    have Lc : Le (zof hp s.heap) (zof ((p.2, AObj.cell none) :: ((l.map fun p => (p.2, AObj.cell none)) ++ hp)) h') := fun b o e => by
      have z := zof_of (L' b o e)
      refine zof_mk z.1 ?_
      rw [keys_cons, List.mem_cons]
      rintro (rfl | q)
      · have := (zof_of e).1; rw [hnone] at this; cases this
      · exact z.2 q
    refine ⟨⟨List.nodup_cons.mpr ⟨hfresh, S'.nodup⟩, fun q hq => ?_, fun b o e t => Lc _ _ (S.base b o e t), S'.gens, S'.os, S'.drawn⟩, Lc⟩
    rcases List.mem_cons.mp hq with rfl | hq
    · exact ⟨none, hc, trivial⟩
    · rcases List.mem_append.mp hq with hq' | hq'
      · obtain ⟨q', hq'', rfl⟩ := List.mem_map.mp hq'
        exact ⟨none, (hp2 q' (.tail _ hq'')).1, trivial⟩
      · exact ((S.objs q hq').keep (hk _)).mono Lc

noncomputable def compHp (scope : Scope) (C : Addr) (hp : Hp) : Hp := (C, .ns ((scope.names.filter fun p => p.2 == .local).map fun p => (p.1, none))) :: (((cellsFrom (C + 1) scope.names []).map fun p => (p.2, AObj.cell none)) ++ hp)
theorem St.comp {s : Shared} {scope : Scope} (S : St B hp s) (hn : (scope.names.map (·.1)).Nodup) :
    St B (compHp scope s.heap.objs.size hp) { s with heap := pushCells (s.heap.push { cls := .type "dict", data := .dict #[] }) scope.names } ∧
      Le (zof hp s.heap) (zof (compHp scope s.heap.objs.size hp) (pushCells (s.heap.push { cls := .type "dict", data := .dict #[] }) scope.names)) := by
  have ok := cellsFrom_ok scope.names (s.heap.push { cls := .type "dict", data := .dict #[] }) (s.heap.objs.size + 1) [] ⟨fun _ _ hm => (nomatch hm), List.Pairwise.nil⟩ (by rw [Heap.size_push]; exact Nat.le_refl _)
  rw [Heap.size_push] at ok
  have K := S.cells (tk := s.toks) (h' := pushCells (s.heap.push { cls := .type "dict", data := .dict #[] }) scope.names) (fun b o e => pushCells_keeps _ _ b o (Heap.get?_push_of_some _ e)) (cellsFrom (s.heap.objs.size + 1) scope.names []) ok.apart
    fun p hp => ⟨(ok.empty p.1 p.2 hp).1, by
      cases w : s.heap.get? p.2 with
      | none => rfl
      | some o => exact absurd (Nat.lt_of_lt_of_le (Heap.lt_size w) (Nat.le_of_succ_le (ok.empty p.1 p.2 hp).2)) (Nat.lt_irrefl _)⟩
  have hLn : s.heap.get? s.heap.objs.size = none := size_fresh _
  have hLfresh : s.heap.objs.size ∉ keys (((cellsFrom (s.heap.objs.size + 1) scope.names []).map fun p => (p.2, AObj.cell none)) ++ hp) := by
    intro hm
    unfold keys at hm
    rw [List.map_append, List.map_map] at hm
    rcases List.mem_append.mp hm with hm | hm
    · obtain ⟨q, hq, e⟩ := List.mem_map.mp hm
      have := (ok.empty q.1 q.2 hq).2
      have e : q.2 = s.heap.objs.size := e
      rw [e] at this
      exact absurd this (Nat.not_succ_le_self _)
    · exact S.fresh_not hLn hm
  have LL : Le (zof hp s.heap) (zof (compHp scope s.heap.objs.size hp) (pushCells (s.heap.push { cls := .type "dict", data := .dict #[] }) scope.names)) := fun b o e => by
    have z := zof_of (K.2 b o e)
    refine zof_mk z.1 ?_
    unfold compHp
    rw [keys_cons, List.mem_cons]
    rintro (rfl | q)
    · have := (zof_of e).1; rw [hLn] at this; cases this
    · exact z.2 q
  refine ⟨⟨List.nodup_cons.mpr ⟨hLfresh, K.1.nodup⟩, fun q hq => ?_, fun b o e t => LL _ _ (S.base b o e t), S.gens, S.os, S.drawn⟩, LL⟩
  rcases List.mem_cons.mp hq with rfl | hq
  · refine ⟨?_, _, (Heap.Ns.new s.heap (.type "dict")).keeps (pushCells_keeps _ _), fun x => none_locals (fun p hp => ?_) x⟩
    · rw [List.map_map]; exact hn.sublist ((List.filter_sublist).map _)
    · obtain ⟨q, _, rfl⟩ := List.mem_map.mp hp; rfl
  · rcases List.mem_append.mp hq with hq' | hq'
    · obtain ⟨q', hq'', rfl⟩ := List.mem_map.mp hq'
      exact ⟨none, (ok.empty q'.1 q'.2 hq'').1, trivial⟩
    · exact ((S.objs q hq').keep fun o e => pushCells_keeps _ _ _ o (Heap.get?_push_of_some _ e)).mono LL

inductive CompEnd (Φ : V → Hp → Prop) (C acc : Addr) : Hp → Prop
  | frz {hp₁ hp₂ hp₃ hp₄ : Hp} {fs : List (Str × Option V)} {ys : List V} : Del hp₁ C (.ns fs) hp₂ → Del hp₂ acc (.list ys) hp₃ → hp₄.Sublist hp₃ → Φ (.lst ys) hp₄ → CompEnd Φ C acc hp₁
  | mu {hp₁ hp₂ hp₄ : Hp} {fs : List (Str × Option V)} : Del hp₁ C (.ns fs) hp₂ → hp₄.Sublist hp₂ → Φ (.mref acc) hp₄ → CompEnd Φ C acc hp₁
noncomputable def ItK.plain : ItK → Prop
  | .pair => False
  | .call .. => False
  | .eit => False
  | _ => True
structure CompOk (scope : Scope) (kinds : List (Str × NameKind)) (own out : List (Str × Addr)) : Prop where
  kind : scope.kind = .function
  nodup : (scope.names.map (·.1)).Nodup
  free : compOk scope.names kinds own out = true
theorem lookup_mem' {α : Type} : ∀ {l : List (Str × α)}, (l.map (·.1)).Nodup → ∀ {p : Str × α}, p ∈ l → l.lookup p.1 = some p.2
  | q :: r, hn, p, h => by
    have hn' := List.nodup_cons.mp hn
    rcases List.mem_cons.mp h with h | h
    · subst h; rw [List.lookup_cons, beq_self_eq_true]
    · have hne : (p.1 == q.1) = false := by
        rw [beq_eq_false_iff_ne]; intro e; exact hn'.1 (List.mem_map.mpr ⟨p, h, e⟩)
      rw [List.lookup_cons, hne]; exact lookup_mem' hn'.2 h
theorem names_local {names : List (Str × NameKind)} (h : (names.map (·.1)).Nodup) : ∀ x ∈ names, x.2 = .local → names.lookup x.1 = some .local := fun x hx hl => by
  rw [← hl]; exact lookup_mem' h hx
theorem compBlock {A : Around} {s : Shared} {e elt target iter : Expr} {ifs : List Expr} {rest : List Comprehension} {scope : Scope} {it : Addr} {k : ItK} {RR : Addr → Addr → Result → Shared → Prop} (E : EnvIs B G env L kinds own out) (hc : CompOk scope kinds own out)
    (he : e = .ListComp elt (⟨target, iter, ifs, 0⟩ :: rest) scope pos) (ok : AOk n A) (S : St B hp s) (hm : (it, AObj.it k) ∈ hp) (hk : k.plain)
    (h : ∀ C acc, EnvIs B G (compEnvOf scope env C) C scope.names (cellsFrom (C + 1) scope.names []) (own ++ out) → JCL B n (compEnvOf scope env C) (compHp scope C ((acc, .list []) :: hp)) e 0 it acc fun hp₁ => ∀ s₁, St B hp₁ s₁ → Le (zof hp s.heap) (zof hp₁ s₁.heap) → RR acc C (.ok .next) s₁) :
    wpAny B.M A (newList []) (fun acc s₃ => wpAny B.M A (newFunctionEnv scope env.globals (closOf env scope.names []) [] env.qual none .none (some env)) (fun cenv s₄ =>
      codeAny B.M A (.compStart e 0 (.ref it) acc { cenv with scope := relabel scope env }) (fun r s' => ∃ a, acc = .ref a ∧ RR a cenv.locals r s') s₄) (fun _ _ => False) s₃) (fun _ _ => False) s := by
  have K := S.add (tk := s.toks) (a := s.heap.objs.size) (ao := .list []) (h' := s.heap.push { cls := .type "list", data := .seq ([] : List Value).toArray }) (fun _ _ e => Heap.get?_push_of_some _ e) (size_fresh _) ⟨_, _, Heap.get?_push_size _ rfl, .nil⟩
  refine wpAny_newObj_type (wpAny_compEnv ?_) (by show 0 ≤ sizeLine; exact Nat.zero_le _)
  have K' := K.1.comp (scope := scope) hc.nodup
  generalize hC : (Shared.heap { s with heap := s.heap.push { cls := .type "list", data := .seq ([] : List Value).toArray } }).objs.size = C at K' ⊢
  have hE : EnvIs B G (compEnvOf scope env C) C scope.names (cellsFrom (C + 1) scope.names []) (own ++ out) := E.comp hc.kind hc.nodup hc.free
  have run := h C s.heap.objs.size hE
  subst he
  have step : ∀ s', s' = ({ s with heap := pushCells ((s.heap.push { cls := .type "list", data := .seq ([] : List Value).toArray }).push { cls := .type "dict", data := .dict #[] }) scope.names } : Shared) →
      codeAny B.M A (.compLoop (.ListComp elt (⟨target, iter, ifs, 0⟩ :: rest) scope pos) 0 (.ref it) (.ref s.heap.objs.size) (compEnvOf scope env C)) (fun r s' => ∃ a, Value.ref s.heap.objs.size = .ref a ∧ RR a C r s') s' := by
    rintro s' rfl
    refine run A _ _ ok K'.1 fun hp₁ s₁ S₁ L₁ h₁ => ⟨_, rfl, h₁ s₁ S₁ ((K.2.trans K'.2).trans L₁)⟩
  refine codeAny_compStart_list (step _ rfl) ?_
  have hm' : (it, AObj.it k) ∈ compHp scope C ((s.heap.objs.size, .list []) :: hp) := .tail _ (List.mem_append_right _ (.tail _ hm))
  exact ItSelf.of hm' (by cases k <;> first | trivial | exact hk) A _ K'.1 _ (step _ rfl) _

theorem JE.listComp {elt target iter : Expr} {ifs : List Expr} {rest : List Comprehension} {scope : Scope} (E : EnvIs B G env L kinds own out) (hc : CompOk scope kinds own out)
    (h : JE B n env hp iter fun v hp₁ => JI B n hp₁ v fun it hp₂ => (∃ k, (it, AObj.it k) ∈ hp₂ ∧ k.plain) ∧ ∀ C acc, EnvIs B G (compEnvOf scope env C) C scope.names (cellsFrom (C + 1) scope.names []) (own ++ out) →
      JCL B n (compEnvOf scope env C) (compHp scope C ((acc, .list []) :: hp₂)) (.ListComp elt (⟨target, iter, ifs, 0⟩ :: rest) scope pos) 0 it acc (CompEnd Φ C acc))
    (hs : ∀ x, foldedSetIterable iter env x = pure x := by intro _; rfl) : JE B n env hp (.ListComp elt (⟨target, iter, ifs, 0⟩ :: rest) scope pos) Φ := fun A s ok S => Wp.of fun Q k => by
  rw [eval_ListComp]
  refine wpAny_comprehension_free (use := none) rfl hs (closureFor_eq (E.has hc.free)) hc.kind (names_local hc.nodup) ?_
  show wpAny _ A (eval iter env) _ _ s
  refine (h A s ok S).use fun v _ hp₁ s₁ S₁ L₁ r₁ h₁ => (h₁ A s₁ v ok S₁ r₁).use fun y it hp₂ s₂ S₂ L₂ e h₂ => ?_
  subst e
  obtain ⟨⟨k', hm, hk⟩, h₂⟩ := h₂
  refine wpAny_mono (compBlock (RR := fun a C r s' => compPost B.M A (fun _ _ => False) none Q (.ref a) C r s') E hc rfl ok S₂ hm hk fun C acc EE => ?_) (fun acc s₃ h₃ => wpAny_mono h₃ (fun cenv s₄ h₄ => codeAny_mono h₄ fun r s' ⟨a, ea, hr⟩ => ea ▸ hr) fun _ _ x => x) fun _ _ x => x
  intro A' s' R' ok' S' hk'
  refine h₂ C acc EE A' s' R' ok' S' fun hp₃ s₃ S₃ L₃ h₃ => hk' hp₃ s₃ S₃ L₃ fun s₄ S₄ L₄ => ?_
  have LL := (L₁.trans L₂).trans L₄
  cases h₃ with
  | frz D D' hs' hΦ =>
    rename_i hp₄ hp₅ hp₆ fs ys
    obtain ⟨_, m, hm, _⟩ := S₄.objs _ D.mem
    refine ⟨m, hm, fun h' hs => ?_⟩
    have K := S₄.drop (tk := s₄.toks) D hs.extBut
    have F := K.1.freeze D'.mem (hs'.trans D'.sub) fun q => D'.not K.1.nodup ((hs'.map _).subset q)
    exact k _ _ _ _ (K.1.sub (hs'.trans D'.sub)).1 ((LL.trans K.2).trans (K.1.sub (hs'.trans D'.sub)).2) F hΦ
  | mu D hs' hΦ =>
    rename_i hp₄ hp₅ fs
    obtain ⟨_, m, hm, _⟩ := S₄.objs _ D.mem
    refine ⟨m, hm, fun h' hs => ?_⟩
    have K := S₄.drop (tk := s₄.toks) D hs.extBut
    exact k _ _ _ _ (K.1.sub hs').1 ((LL.trans K.2).trans (K.1.sub hs').2) (.mref _) hΦ

noncomputable def CompUse (B : Base) (n : Nat) (env : Env) (x : Str) (Υ : Hp → Prop) (C acc : Addr) (hp₁ : Hp) : Prop :=
  ∃ ys hp₂ hp₂', Del hp₁ acc (.list ys) hp₂ ∧ hp₂'.Sublist hp₂ ∧ JSt B n env hp₂' x (.lst ys) fun hp₃ => ∃ fs hp₄ hp₅, Del hp₃ C (.ns fs) hp₄ ∧ hp₅.Sublist hp₄ ∧ Υ hp₅
theorem J1.assignComp {x : Str} {px : Pos} {elt target iter : Expr} {ifs : List Expr} {rest : List Comprehension} {scope : Scope} {cpos : Pos} (E : EnvIs B G env L kinds own out) (hc : CompOk scope kinds own out)
    (hsw : swapsWith (.ListComp elt (⟨target, iter, ifs, 0⟩ :: rest) scope cpos) (some (.Name x px)) pos.line env = pure true)
    (h : JE B n env hp iter fun v hp₁ => JI B n hp₁ v fun it hp₂ => (∃ k, (it, AObj.it k) ∈ hp₂ ∧ k.plain) ∧ ∀ C acc, EnvIs B G (compEnvOf scope env C) C scope.names (cellsFrom (C + 1) scope.names []) (own ++ out) →
      JCL B n (compEnvOf scope env C) (compHp scope C ((acc, .list []) :: hp₂)) (.ListComp elt (⟨target, iter, ifs, 0⟩ :: rest) scope cpos) 0 it acc (CompUse B n env x (Ψ .next) C acc))
    (hs : ∀ x, foldedSetIterable iter env x = pure x := by intro _; rfl) : J1 B n env hp (.Assign [.Name x px] (.ListComp elt (⟨target, iter, ifs, 0⟩ :: rest) scope cpos) pos) Ψ := fun A s ok S => Wp.of fun Q k => by
  rw [exec_Assign_Name_used _ _ _ _ hsw]
  refine wpAny_bind (wpAny_standAt (wpAny_bind ?_))
  show wpAny _ A (do let _ ← comprehension (.ListComp elt (⟨target, iter, ifs, 0⟩ :: rest) scope cpos) scope env _ (newList []) false (eval iter env) (some (PySem.assign (.Name x px) env))) _ _ s
  refine wpAny_bind (wpAny_mono (wpAny_comprehension_free (use := some (PySem.assign (.Name x px) env)) (Q := fun _ s' => Q .next s') rfl hs (closureFor_eq (E.has hc.free)) hc.kind (names_local hc.nodup) ?_) (fun _ s' hq => wpAny_pure (wpAny_pure hq)) fun _ _ e => e)
  refine (h A s ok S).use fun v _ hp₁ s₁ S₁ L₁ r₁ h₁ => (h₁ A s₁ v ok S₁ r₁).use fun y it hp₂ s₂ S₂ L₂ e h₂ => ?_
  subst e
  obtain ⟨⟨k', hm, hk⟩, h₂⟩ := h₂
  refine wpAny_mono (compBlock (RR := fun a C r s' => compPost B.M A (fun _ _ => False) (some (PySem.assign (.Name x px) env)) (fun _ s' => Q .next s') (.ref a) C r s') E hc rfl ok S₂ hm hk fun C acc EE => ?_) (fun acc s₃ h₃ => wpAny_mono h₃ (fun cenv s₄ h₄ => codeAny_mono h₄ fun r s' ⟨a, ea, hr⟩ => ea ▸ hr) fun _ _ x => x) fun _ _ x => x
  intro A' s' R' ok' S' hk'
  refine h₂ C acc EE A' s' R' ok' S' fun hp₃ s₃ S₃ L₃ h₃ => hk' hp₃ s₃ S₃ L₃ fun s₄ S₄ L₄ => ?_
  have LL := (L₁.trans L₂).trans L₄
  obtain ⟨ys, hp₄, hp₄', D, hsb, hst⟩ := h₃
  have F := S₄.freeze D.mem (hsb.trans D.sub) fun q => D.not S₄.nodup ((hsb.map _).subset q)
  have K := S₄.sub (hsb.trans D.sub)
  refine wpAny_assign_Name ((hst A _ _ ok K.1 F).use fun _ _ hp₅ s₅ S₅ L₅ _ h₅ => ?_)
  obtain ⟨fs, hp₆, hp₇, D', hsb', h₆⟩ := h₅
  obtain ⟨_, m, hm, _⟩ := S₅.objs _ D'.mem
  refine ⟨m, hm, fun h' hs => ?_⟩
  have K' := S₅.drop (tk := s₅.toks) D' hs.extBut
  exact k _ _ _ _ (K'.1.sub hsb').1 ((((LL.trans K.2).trans L₅).trans K'.2).trans (K'.1.sub hsb').2) .next h₆
end
end Mine

set_option maxRecDepth 100000
set_option linter.unusedVariables false
namespace Mine
open PySem PySem.W PySem.Calls PyProof.Rows

structure TopB (B : Base) (K : Frag) (mg mb : Str → Option Value) : Prop where
  g : B.h0.Ns mainGlobals mg
  b : B.h0.Ns builtinsNs mb
  lim : B.h0.NoLimit
  digits : ∃ mc, B.h0.Ns cStatics mc ∧ mc "sys.int_max_str_digits" = none
  bmain : ∃ bm ob, mg "__builtins__" = some (.ref bm) ∧ bm ≠ builtinsNs ∧ B.h0.get? bm = some ob ∧ ob.cls = .type "module" ∧ ob.dict = some builtinsNs ∧ ob.data = .plain
  X : K.In B.h0
  kt : ∀ a o, K.lookup a = some o → a ∉ B.tabs
  tabs : ∀ a ∈ B.tabs, B.h0.get? a = some (tabObj #[])

section
variable {B : Base} {n : Nat} {env : Env} {hp hp' : Hp} {pos : Pos} {Φ : V → Hp → Prop} {Ψ : AF → Hp → Prop} {Υ : Hp → Prop} {G : Globs B} {L : Addr} {kinds : List (Str × NameKind)} {own out : List (Str × Addr)} {K : Frag} {mg mb : Str → Option Value}

theorem TopB.gt (T : TopB B K mg mb) : mainGlobals ∉ B.tabs := fun q => by
  obtain ⟨o, es, ep, e, hd, _⟩ := T.g
  rw [T.tabs _ q] at e; cases e; cases hd
theorem TopB.bt (T : TopB B K mg mb) : builtinsNs ∉ B.tabs := fun q => by
  obtain ⟨o, es, ep, e, hd, _⟩ := T.b
  rw [T.tabs _ q] at e; cases e; cases hd
theorem TopB.ct (T : TopB B K mg mb) : cStatics ∉ B.tabs := fun q => by
  obtain ⟨mc, ⟨o, es, ep, e, hd, _⟩, _⟩ := T.digits
  rw [T.tabs _ q] at e; cases e; cases hd
noncomputable def TopB.GG (T : TopB B K mg mb) : Globs B := ⟨mainGlobals, builtinsNs, mg, mb, T.g, T.b, T.gt, T.bt⟩
theorem TopB.kin {s : Shared} (T : TopB B K mg mb) (S : St B hp s) : K.In s.heap := fun a o e => (zof_of (S.base a o (T.X a o e) (T.kt a o e))).1
theorem TopB.bat {s : Shared} (T : TopB B K mg mb) (S : St B hp s) {P : Addr} (hP : P ∈ B.tabs) : s.heap.BuiltinsAt mg P := by
  obtain ⟨bm, ob, h1, h2, h3, h4, h5, h6⟩ := T.bmain
  have hn : bm ∉ B.tabs := fun q => by rw [T.tabs _ q] at h3; cases h3; cases h4
  refine ⟨bm, ob, h1, h2, ?_, fun e => hn (e ▸ hP), (zof_of (S.base _ _ h3 hn)).1, h4, h5, h6⟩
  rintro rfl
  obtain ⟨o, es, ep, e, hd, _⟩ := T.g
  rw [h3] at e; cases e; rw [h6] at hd; cases hd
theorem CodeHd.now {s : Shared} {c P : Addr} (S : St B hp s) (T : TopB B K mg mb) (C : CodeHd B.h0 c P) : CodeHd s.heap c P := by
  obtain ⟨o, vs, file, tf, flags, tg, inF, text, tt, e, e2, r⟩ := C
  have hn : c ∉ B.tabs := fun q => by rw [T.tabs _ q] at e; cases e; cases e2
  exact ⟨o, vs, file, tf, flags, tg, inF, text, tt, (zof_of (S.base _ _ e hn)).1, e2, r⟩

theorem St.set' {s : Shared} {h' : Heap} {tk : Nat} {a : Addr} {ao ao' : AObj} (S : St B hp s) (U : Upd hp a ao ao' hp') (hx : Heap.ExtBut a s.heap h') (ho : ObjIs (zof hp' h') h' a ao') :
    St B hp' { s with heap := h', toks := tk } ∧ Le (zof hp s.heap) (zof hp' h') := by
  have ha : a ∈ keys hp := List.mem_map_of_mem U.mem
  have L : Le (zof hp s.heap) (zof hp' h') := fun b o e => by
    obtain ⟨e1, e2⟩ := zof_of e
    refine zof_mk (hx b o (fun q => e2 (q ▸ ha)) e1) ?_
    rw [U.keys]; exact e2
  refine ⟨⟨by rw [U.keys]; exact S.nodup, fun p h => ?_, fun b o e t => L _ _ (S.base b o e t), S.gens, S.os, S.drawn⟩, L⟩
  rcases U.mem' p h with rfl | ⟨h1, h2 | h2⟩
  · exact ho
  · exact ((S.objs p h1).keep fun o e => hx _ o h2 e).mono L
  · exact absurd S.nodup h2

noncomputable def CloIs (cl : List (Str × Addr)) (names : List (Str × NameKind)) (out : List (Str × Addr)) : Prop := ∀ p ∈ out, (p.1, NameKind.free) ∈ names → cl.lookup p.1 = some p.2
theorem EnvIs.clo (E : EnvIs B G env L kinds own out) {names : List (Str × NameKind)} (h : compOk names kinds own out = true) : CloIs (closOf env names []) names (own ++ out) := fun p hp hf => by
  rw [closOf_lookup, if_pos hf, E.look h hp hf]; rfl
theorem tab_none {pos : Pos} {c : Value} : codeAmong pos (#[rawInt pos.line, rawInt pos.col, c] : Array Value).toList = some c := by
  show (if ((pos.line : Int) == pos.line && (pos.col : Int) == pos.col) = true then some c else _) = _
  rw [beq_self_eq_true, beq_self_eq_true]; rfl

theorem mkDef {A : Around} {s : Shared} {name qual : Str} {params : Arguments} {body : List Stmt} {scope : Scope} {c P : Addr} {firstLine : Nat} (T : TopB B K mg mb) (hG : G.g = mainGlobals) (E : EnvIs B G env L kinds own out) (hc : compOk scope.names kinds own out = true)
    (hcode : env.code = .ref c) (C : CodeHd B.h0 c P) (hP : P ∈ B.tabs) (S : St B hp s)
    (h : (Upd hp P (.tab none) (.tab (some (pos.line, pos.col, qual))) hp' ∨ (hp' = hp ∧ (P, AObj.tab (some (pos.line, pos.col, qual))) ∈ hp)) ∧
      ∀ cl doc pm c' ct, CloIs cl scope.names (own ++ out) → Φ (.fn (fnX name qual params body scope cl .none .none doc pm none c' ct)) hp') :
    Wp B Is A (makeFunction name qual params (.stmts body) scope env [] [] [] pos firstLine) hp s Φ := Wp.of fun Q k => by
  obtain ⟨hU, h⟩ := h
  have C' := CodeHd.now S T C
  have hg : s.heap.Ns mainGlobals mg := S.ns0 T.g T.gt
  have hgP : mainGlobals ≠ P := fun e => T.gt (e ▸ hP)
  have clo := E.clo hc
  rcases hU with U | ⟨rfl, hm⟩
  · have o : s.heap.get? P = some (tabObj #[]) := S.objs _ U.mem
    refine makeFunction_K (closureFor_eq (E.has hc)) (E.g.trans hG) hg hcode C' o trivial rfl hgP (T.bat S hP) fun c' ctv doc h' tk hx hge hlt hrec htb => ?_
    have hx' : Heap.ExtBut P s.heap (h'.push (fnMade name qual params body scope (closOf env scope.names []) doc ((mg "__name__").getD .none) c' ctv)) := fun b o hb e => Heap.get?_push_of_some _ (hx b o hb e)
    have fresh : ∀ b, s.heap.objs.size ≤ b → b ∉ keys hp' := fun b hb q => by
      rw [U.keys] at q
      exact S.fresh_not (Heap.get?_none_of_le hb) q
    obtain ⟨c₂, oc, vs, t, e2, hoc, hd, hv⟩ := hrec
    cases e2
    have hcz : CodeZ (zof hp' (h'.push (fnMade name qual params body scope (closOf env scope.names []) doc ((mg "__name__").getD .none) c' ctv))) (.ref c') qual :=
      ⟨c', oc, vs, t, rfl, zof_mk (Heap.get?_push_of_some _ hoc) (fresh _ hge), hd, hv⟩
    have K' := S.set' (tk := tk) U hx' (ao' := .tab (some (pos.line, pos.col, qual))) ⟨.ref c', Heap.get?_push_of_some _ htb, hcz⟩
    exact k _ _ _ _ K'.1 K'.2 (.fn (zof_mk (Heap.get?_push_size _ rfl) (fresh _ (Nat.le_of_lt (Nat.lt_of_le_of_lt hge hlt)))) rfl rfl hcz) (h _ _ _ _ _ clo)
  · obtain ⟨cv, o, hcz⟩ : ∃ cv, s.heap.get? P = some (tabObj #[rawInt pos.line, rawInt pos.col, cv]) ∧ CodeZ (zof hp' s.heap) cv qual := S.objs _ hm
    refine makeFunction_hit (closureFor_eq (E.has hc)) (E.g.trans hG) hg hcode C' o trivial tab_none (T.bat S hP) fun ctv doc h' tk hk hsz => ?_
    have K' := S.ext (tk := tk) (h' := h'.push { cls := .type "function", data := .func (fnX name qual params body scope (closOf env scope.names []) .none .none doc ((mg "__name__").getD .none) none cv ctv) }) fun b o e => Heap.get?_push_of_some _ (hk b o e)
    exact k _ _ _ _ K'.1 K'.2 (.fn (zof_mk (Heap.get?_push_size _ rfl) (S.fresh_not (Heap.get?_none_of_le hsz))) rfl rfl (hcz.mono K'.2)) (h _ _ _ _ _ clo)
theorem mkLam {A : Around} {s : Shared} {name qual : Str} {params : Arguments} {body : Expr} {scope : Scope} {c P : Addr} {firstLine : Nat} (T : TopB B K mg mb) (hG : G.g = mainGlobals) (E : EnvIs B G env L kinds own out) (hc : compOk scope.names kinds own out = true)
    (hcode : env.code = .ref c) (C : CodeHd B.h0 c P) (hP : P ∈ B.tabs) (S : St B hp s)
    (h : (Upd hp P (.tab none) (.tab (some (pos.line, pos.col, qual))) hp' ∨ (hp' = hp ∧ (P, AObj.tab (some (pos.line, pos.col, qual))) ∈ hp)) ∧
      ∀ cl pm c' ct, CloIs cl scope.names (own ++ out) → Φ (.fn (kla_fn name qual params body scope cl pm c' ct)) hp') :
    Wp B Is A (makeFunction name qual params (.expr body) scope env [] [] [] pos firstLine) hp s Φ := Wp.of fun Q k => by
  obtain ⟨hU, h⟩ := h
  have C' := CodeHd.now S T C
  have hg : s.heap.Ns mainGlobals mg := S.ns0 T.g T.gt
  have hgP : mainGlobals ≠ P := fun e => T.gt (e ▸ hP)
  have clo := E.clo hc
  rcases hU with U | ⟨rfl, hm⟩
  · have o : s.heap.get? P = some (tabObj #[]) := S.objs _ U.mem
    refine kla_makeFunction (closureFor_eq (E.has hc)) (E.g.trans hG) hg hcode C' o trivial rfl hgP (T.bat S hP) fun c' ctv h' tk hx hge hlt hrec htb => ?_
    have hx' : Heap.ExtBut P s.heap (h'.push (kla_obj name qual params body scope (closOf env scope.names []) ((mg "__name__").getD .none) c' ctv)) := fun b o hb e => Heap.get?_push_of_some _ (hx b o hb e)
    have fresh : ∀ b, s.heap.objs.size ≤ b → b ∉ keys hp' := fun b hb q => by
      rw [U.keys] at q
      exact S.fresh_not (Heap.get?_none_of_le hb) q
    obtain ⟨c₂, oc, vs, t, e2, hoc, hd, hv⟩ := hrec
    cases e2
    have hcz : CodeZ (zof hp' (h'.push (kla_obj name qual params body scope (closOf env scope.names []) ((mg "__name__").getD .none) c' ctv))) (.ref c') qual :=
      ⟨c', oc, vs, t, rfl, zof_mk (Heap.get?_push_of_some _ hoc) (fresh _ hge), hd, hv⟩
    have K' := S.set' (tk := tk) U hx' (ao' := .tab (some (pos.line, pos.col, qual))) ⟨.ref c', Heap.get?_push_of_some _ htb, hcz⟩
    exact k _ _ _ _ K'.1 K'.2 (.fn (zof_mk (Heap.get?_push_size _ rfl) (fresh _ (Nat.le_of_lt (Nat.lt_of_le_of_lt hge hlt)))) rfl rfl hcz) (h _ _ _ _ clo)
  · obtain ⟨cv, o, hcz⟩ : ∃ cv, s.heap.get? P = some (tabObj #[rawInt pos.line, rawInt pos.col, cv]) ∧ CodeZ (zof hp' s.heap) cv qual := S.objs _ hm
    refine kla_makeFunctionHit (closureFor_eq (E.has hc)) (E.g.trans hG) hg hcode C' o trivial tab_none (T.bat S hP) fun ctv h' tk hk hsz => ?_
    have K' := S.ext (tk := tk) (h' := h'.push { cls := .type "function", data := .func (kla_fn name qual params body scope (closOf env scope.names []) ((mg "__name__").getD .none) cv ctv) }) fun b o e => Heap.get?_push_of_some _ (hk b o e)
    exact k _ _ _ _ K'.1 K'.2 (.fn (zof_mk (Heap.get?_push_size _ rfl) (S.fresh_not (Heap.get?_none_of_le hsz))) rfl rfl (hcz.mono K'.2)) (h _ _ _ _ clo)

noncomputable def TabNow (hp hp' : Hp) (P : Addr) (pos : Pos) (qual : Str) : Prop := Upd hp P (.tab none) (.tab (some (pos.line, pos.col, qual))) hp' ∨ (hp' = hp ∧ (P, AObj.tab (some (pos.line, pos.col, qual))) ∈ hp)
theorem J1.def {name : Str} {params : Arguments} {body : List Stmt} {scope : Scope} {c P : Addr} (T : TopB B K mg mb) (hG : G.g = mainGlobals) (E : EnvIs B G env L kinds own out) (hc : compOk scope.names kinds own out = true) (hcode : env.code = .ref c) (C : CodeHd B.h0 c P) (hP : P ∈ B.tabs)
    (hd0 : params.defaults = []) (hk0 : params.kw_defaults = []) (ha : annTrees params none env = [])
    (hU : TabNow hp hp' P pos (qualnameIn env name name))
    (h : ∀ cl doc pm c' ct, CloIs cl scope.names (own ++ out) → JSt B n env hp' name (.fn (fnX name (qualnameIn env name name) params body scope cl .none .none doc pm none c' ct)) fun hp₁ => Ψ .next hp₁) :
    J1 B n env hp (.FunctionDef name params body [] none [] scope none name pos) Ψ := fun A s ok S => Wp.of fun Q k =>
  nestDef_K hd0 hk0 ha ((mkDef (Φ := fun v hp₁ => JSt B n env hp₁ name v fun hp₁ => Ψ .next hp₁) T hG E hc hcode C hP S ⟨hU, h⟩).use fun v x hp₁ s₁ S₁ L₁ r₁ h₁ => (h₁ A s₁ v ok S₁ r₁).use fun _ _ hp₂ s₂ S₂ L₂ _ h₂ => k _ _ _ _ S₂ (L₁.trans L₂) .next h₂)
theorem JE.lambda {params : Arguments} {body : Expr} {scope : Scope} {c P : Addr} (T : TopB B K mg mb) (hG : G.g = mainGlobals) (E : EnvIs B G env L kinds own out) (hc : compOk scope.names kinds own out = true) (hcode : env.code = .ref c) (C : CodeHd B.h0 c P) (hP : P ∈ B.tabs)
    (hdef : defaultsOf params env = ([], [])) (hU : TabNow hp hp' P pos (env.qual ++ "<lambda>"))
    (h : ∀ cl pm c' ct, CloIs cl scope.names (own ++ out) → Φ (.fn (kla_fn "<lambda>" (env.qual ++ "<lambda>") params body scope cl pm c' ct)) hp') : JE B n env hp (.Lambda params body scope pos) Φ := fun A s ok S => Wp.of fun Q k =>
  kla_eval hdef ((mkLam T hG E hc hcode C hP S ⟨hU, h⟩).use k)

theorem bindLV_all {kindOf : Str → Option NameKind} {x : Str} : ∀ (ws : List (Str × V)) (m : Str → Option V), (∀ y ∈ ws, kindOf y.1 = some .local) → bindLV kindOf ws m x = (ws.reverse.lookup x).or (m x)
  | [], m, _ => by simp [bindLV]
  | (y, v) :: r, m, h => by
    unfold bindLV
    rw [bindLV_all r _ fun y hy => h y (.tail _ hy), if_pos (h (y, v) (.head _)), List.reverse_cons, lookup_append]
    by_cases e : x = y
    · subst e
      simp
    · have : (x == y) = false := by simpa using e
      simp [List.lookup_cons, this, e]
theorem BindIs.look {z : Z} {x : Str} : ∀ {bs : List (Str × Value)} {ws : List (Str × V)}, BindIs z bs ws → OptIs z (bs.lookup x) (ws.lookup x)
  | _, _, .nil => trivial
  | _, _, .cons (x := y) h r => by
    rw [List.lookup_cons, List.lookup_cons]
    cases x == y with
    | true => exact h
    | false => exact r.look
theorem BindIs.snoc {z : Z} {y : Str} {v : Value} {w : V} (hv : Is z v w) : ∀ {bs : List (Str × Value)} {ws : List (Str × V)}, BindIs z bs ws → BindIs z (bs ++ [(y, v)]) (ws ++ [(y, w)])
  | _, _, .nil => .cons hv .nil
  | _, _, .cons h r => .cons h (r.snoc hv)
theorem BindIs.rev {z : Z} : ∀ {bs : List (Str × Value)} {ws : List (Str × V)}, BindIs z bs ws → BindIs z bs.reverse ws.reverse
  | _, _, .nil => .nil
  | _, _, .cons h r => by rw [List.reverse_cons, List.reverse_cons]; exact r.rev.snoc h
theorem localsAt_look {z : Z} {scope : Scope} {bs : List (Str × Value)} {ws : List (Str × V)} (h : BindIs z bs ws) (hl : ∀ y ∈ ws, scope.names.lookup y.1 = some .local) (x : Str) : OptIs z (bs.reverse.lookup x) ((localsAt scope ws).lookup x).join := by
  have e : (localsAt scope ws).lookup x = if x ∈ (scope.names.filter fun p => p.2 == .local).map (·.1) then some (bindLV (fun y => scope.names.lookup y) ws (fun _ => none) x) else none := by
    have := lookup_map_self (fun y => bindLV (fun y => scope.names.lookup y) ws (fun _ => none) y) ((scope.names.filter fun p => p.2 == .local).map (·.1)) x
    rw [List.map_map] at this
    exact this
  have k := h.rev.look (x := x)
  have b := bindLV_all (kindOf := fun y => scope.names.lookup y) (x := x) ws (fun _ => none) hl
  rw [Option.or_none] at b
  rw [e]
  by_cases q : x ∈ (scope.names.filter fun p => p.2 == .local).map (·.1)
  · rw [if_pos q, b]; exact k
  · rw [if_neg q]
    have hx : scope.names.lookup x ≠ some .local := fun c => q (List.mem_map.mpr ⟨(x, .local), List.mem_filter.mpr ⟨mem_of_lookup' c, rfl⟩, rfl⟩)
    have b' := bindLV_other (kindOf := fun y => scope.names.lookup y) hx ws fun _ => none
    rw [b] at b'
    rw [b'] at k
    exact k
theorem St.locals {s : Shared} {h' : Heap} {tk : Nat} {cls : String} {scope : Scope} {bs : List (Str × Value)} {ws : List (Str × V)} (S : St B hp s) (hnd : (scope.names.map (·.1)).Nodup) (hl : ∀ y ∈ ws, scope.names.lookup y.1 = some .local) (r : BindIs (zof hp s.heap) bs ws)
    (hn : h'.Ns s.heap.objs.size fun x => bs.reverse.lookup x) (hs : Heap.SameBut s.heap.objs.size (s.heap.push { cls := .type cls, data := .dict #[] }) h') :
    St B ((s.heap.objs.size, .ns (localsAt scope ws)) :: hp) { s with heap := h', toks := tk } ∧ Le (zof hp s.heap) (zof ((s.heap.objs.size, .ns (localsAt scope ws)) :: hp) h') :=
  S.add (fun b o e => hs.extBut b o (Nat.ne_of_lt (Heap.lt_size e)) (Heap.get?_push_of_some _ e)) (size_fresh _) ⟨localsAt_nodup hnd, _, hn, fun x => localsAt_look r hl x⟩
theorem JCc.clo {fd : FuncData} {body : List Stmt} {args : List V} {kw : List (Str × V)} (hf : FnOk fd body) (hcell : ∀ x ∈ fd.scope.names, x.2 ≠ .cell) (T : TopB B K mg mb) (hnd : (fd.scope.names.map (·.1)).Nodup)
    (hb : JBind B n hp fd args kw fun ws hp₁ => (∀ x ∈ ws, fd.scope.names.lookup x.1 = some .local) ∧
      ∀ L a, JS B n (newEnv fd.scope L fd.globals fd.closure (fd.qualname ++ ".<locals>.") (some a) fd.code none fd.builtins) ((L, .ns (localsAt fd.scope ws)) :: hp₁) body (Back Φ)) :
    JCc B (n + 1) hp (.fn fd) args kw Φ := fun A s fv vs kvs R ok S rf rv ek rk k => by
  obtain ⟨a, o, rfl, e, hc, hd, hcz⟩ := rf.inv
  next =>
    refine codeAny_call_function ok.room (zof_of e).1 hd hf.co hf.gen hf.body (codeRec_of' zof_le hcz) ?_
    refine ((hb A.in1 s vs kvs (by have := ok.in1; exact this) S rv (bind_args ek rk)).use fun bs ws hp₁ s₁ S₁ L₁ r₁ h₁ => ?_)
    obtain ⟨k1, h₁⟩ := h₁
    have names : ∀ x ∈ bs, fd.scope.names.lookup x.1 = some .local := fun x hx => by
      have : x.1 ∈ ws.map (·.1) := r₁.names ▸ List.mem_map_of_mem hx
      obtain ⟨y, hy, e⟩ := List.mem_map.mp this
      exact e ▸ k1 y hy
    refine wpAny_newFunctionEnv hcell names (fun h' hns hsb => ⟨((noLimit_of S₁ T.lim T.ct).fresh _ hsb), codeAny_func ?_⟩) hf.kind
    have K' := S₁.locals (tk := s₁.toks + bs.length) hnd k1 r₁ hns hsb
    refine (h₁ s₁.heap.objs.size a _ _ (ok.deeper _) K'.1).use fun fl af hp₂ s₃ S₃ L₃ r₃ h₃ => ?_
    obtain ⟨v, hp₄, S₄, L₄, r₄, h₄⟩ := h₃.done (z := zof hp₂ s₃.heap) S₃ r₃
    exact k _ _ _ _ S₄ (((L₁.trans K'.2).trans L₃).trans L₄) r₄ h₄
theorem JCc.lam {fd : FuncData} {body : Expr} {args : List V} {kw : List (Str × V)} (hbd : fd.body = .expr body) (hco : fd.scope.isCoroutine = false) (hgen : fd.scope.isGenerator = false) (hkind : fd.scope.kind = .function) (hcell : ∀ x ∈ fd.scope.names, x.2 ≠ .cell) (T : TopB B K mg mb) (hnd : (fd.scope.names.map (·.1)).Nodup)
    (hb : JBind B n hp fd args kw fun ws hp₁ => (∀ x ∈ ws, fd.scope.names.lookup x.1 = some .local) ∧
      ∀ L a, JE B n (newEnv fd.scope L fd.globals fd.closure (fd.qualname ++ ".<locals>.") (some a) fd.code none fd.builtins) ((L, .ns (localsAt fd.scope ws)) :: hp₁) body fun v hp₂ => ∃ hp₃, hp₃.Sublist hp₂ ∧ Φ v hp₃) :
    JCc B (n + 1) hp (.fn fd) args kw Φ := fun A s fv vs kvs R ok S rf rv ek rk k => by
  obtain ⟨a, o, rfl, e, hc, hd, hcz⟩ := rf.inv
  next =>
    refine kla_callFunE ok.room (zof_of e).1 hd hco hgen hbd (codeRec_of' zof_le hcz) ?_
    refine ((hb A.in1 s vs kvs (by have := ok.in1; exact this) S rv (bind_args ek rk)).use fun bs ws hp₁ s₁ S₁ L₁ r₁ h₁ => ?_)
    obtain ⟨k1, h₁⟩ := h₁
    have names : ∀ x ∈ bs, fd.scope.names.lookup x.1 = some .local := fun x hx => by
      have : x.1 ∈ ws.map (·.1) := r₁.names ▸ List.mem_map_of_mem hx
      obtain ⟨y, hy, e⟩ := List.mem_map.mp this
      exact e ▸ k1 y hy
    refine wpAny_newFunctionEnv hcell names (fun h' hns hsb => ⟨((noLimit_of S₁ T.lim T.ct).fresh _ hsb), kla_codeExpr ?_⟩) hkind
    have K' := S₁.locals (tk := s₁.toks + bs.length) hnd k1 r₁ hns hsb
    refine (h₁ s₁.heap.objs.size a _ _ (ok.deeper _) K'.1).use fun v x hp₂ s₃ S₃ L₃ r₃ h₃ => ?_
    obtain ⟨hp₃, hs, h₃⟩ := h₃
    exact k _ _ _ _ (S₃.sub hs).1 (((L₁.trans K'.2).trans L₃).trans (S₃.sub hs).2) (r₃.mono (S₃.sub hs).2) h₃
theorem EnvIs.ofClo {fd : FuncData} {a : Addr} (T : TopB B K mg mb) (hk : fd.scope.kind = .function) (hg : fd.globals = mainGlobals) (hb : fd.builtins = builtinsNs) (hnd : (fd.scope.names.map (·.1)).Nodup) (hc : CloIs fd.closure fd.scope.names out) :
    EnvIs B T.GG (newEnv fd.scope L fd.globals fd.closure (fd.qualname ++ ".<locals>.") (some a) fd.code none fd.builtins) L fd.scope.names [] out where
  fn := hk
  loc := rfl
  kd := fun p hp => .inl (lookup_mem' hnd hp)
  ow := fun p hp => nomatch hp
  ou := fun p hp hf => hc p hp hf
  g := hg
  b := hb
theorem EnvIs.ofFn {fd : FuncData} {a : Addr} (T : TopB B K mg mb) (hk : fd.scope.kind = .function) (hg : fd.globals = mainGlobals) (hb : fd.builtins = builtinsNs) (hnd : (fd.scope.names.map (·.1)).Nodup) :
    EnvIs B T.GG (newEnv fd.scope L fd.globals (cellsFrom (L + 1) fd.scope.names []) (fd.qualname ++ ".<locals>.") (some a) fd.code none fd.builtins) L fd.scope.names (cellsFrom (L + 1) fd.scope.names []) [] where
  fn := hk
  loc := rfl
  kd := fun p hp => .inl (lookup_mem' hnd hp)
  ow := fun p hp => ⟨cellsFrom_names _ _ _ hp, lookup_of_mem_nodup (cellsFrom_nodup _ _ hnd) hp⟩
  ou := fun p hp hf => nomatch hp
  g := hg
  b := hb
theorem JCc.meth {f self : V} {args : List V} {kw : List (Str × V)} (h : JCc B n hp f (self :: args) kw Φ) : JCc B n hp (.meth f self) args kw Φ := fun A s fv vs kvs R ok S rf rv ek rk k => by
  obtain ⟨_, _, _, rfl, e, rf, rs⟩ := rf.inv
  next => exact method_call (zof_of e).1 (h A s _ _ _ R ok S rf (.cons rs rv) ek rk k)
end
end Mine

set_option maxRecDepth 100000
set_option linter.unusedVariables false
namespace Mine
open PySem PySem.W PySem.Calls PyProof.Rows Builtin Builtin.ObjectAttr

structure ClsK (K : Frag) (C : Addr) : Prop where
  makes : makesIn K C = true
  plain : plainGet K C "" = true
  has : hasDictIn K C = true
  over : plainOver K C = true
  set : findIn K (.ref C) "__setattr__" = some (some (.builtin "object.__setattr__"))
  keep : keepIn K (.ref C) = true
structure FnK (K : Frag) (f : Addr) : Prop where
  fn : isFn K (.ref f) = true
  get : specialIn K (.ref f) "__get__" = some (some (.builtin "function.__get__"))
  takes : takesIn K (.ref f) = some false
structure TopFn (B : Base) (f : Addr) (fd : FuncData) : Prop where
  at_ : ∃ o, B.h0.get? f = some o ∧ o.cls = .type "function" ∧ o.data = .func fd
  code : ∃ c o vs t, fd.code = .ref c ∧ B.h0.get? c = some o ∧ o.cls = .type "code" ∧ o.data = .fields vs ∧ vs[1]? = some (.str fd.qualname t)

theorem getL_put {y x : Str} {hsh : Int} {tk : Tok} {v : Value} : ∀ (es : List DictEntry) {r : Option Value}, getL y es = some r → getL y (putL x hsh (.str x tk) v es) = some (if y = x then some v else r)
  | [], r, e => by
    have : r = none := by simpa [getL] using e.symm
    subst this
    unfold putL getL
    by_cases q : y = x
    · subst q; simp [Value.isStr]
    · have : (x == y) = false := by simpa using fun e => q e.symm
      simp [Value.isStr, this, q, DictEntry.refKey]
  | en :: es, r, e => by
    unfold putL
    by_cases p : en.key.isStr x = true
    · rw [if_pos p]
      unfold getL at e ⊢
      have hk : ∃ t, en.key = .str x t := by
        cases hk : en.key with
        | str s t => rw [hk] at p; simp [Value.isStr] at p; exact ⟨t, by rw [p]⟩
        | _ => rw [hk] at p; simp [Value.isStr] at p
      obtain ⟨t, hk⟩ := hk
      by_cases q : y = x
      · subst q; simp [hk, Value.isStr]
      · have hne : (x == y) = false := by simpa using fun e => q e.symm
        simp only [List.find?_cons, List.any_cons, hk, Value.isStr, hne, DictEntry.refKey, if_neg q] at e ⊢
        exact e
    · rw [if_neg p]
      unfold getL at e ⊢
      by_cases k : en.key.isStr y = true
      · simp only [List.find?_cons, k] at e ⊢
        have hyx : ¬ y = x := fun e => p (e ▸ k)
        rw [if_neg hyx]; exact e
      · have k' : en.key.isStr y = false := by simpa using k
        simp only [List.find?_cons, k', List.any_cons] at e ⊢
        by_cases rk : en.refKey = true
        · -- a key that is an object: then the answer was there
          simp only [rk, Bool.true_or, if_true] at e ⊢
          cases f : es.find? (fun x => x.key.isStr y) with
          | none => rw [f] at e; simp at e
          | some e1 =>
            rw [f] at e
            have := getL_put (y := y) (x := x) (hsh := hsh) (tk := tk) (v := v) es (r := some e1.val) (by unfold getL; rw [f])
            have er : r = some e1.val := by simpa using e.symm
            subst er
            unfold getL at this
            cases f2 : (putL x hsh (.str x tk) v es).find? (fun x => x.key.isStr y) with
            | none =>
              rw [f2] at this
              simp only at this
              split at this
              · cases this
              · by_cases q : y = x
                · rw [if_pos q] at this; cases this
                · rw [if_neg q] at this; cases this
            | some e2 => rw [f2] at this; exact this
        · have rk' : en.refKey = false := by simpa using rk
          simp only [rk', Bool.false_or] at e ⊢
          exact getL_put (y := y) (x := x) (hsh := hsh) (tk := tk) (v := v) es (by unfold getL; exact e)
theorem putL_length {x : Str} {hsh : Int} {k v : Value} : ∀ es : List DictEntry, (putL x hsh k v es).length ≤ es.length + 1
  | [] => Nat.le_refl _
  | e :: es => by unfold putL; split <;> simp [putL_length es]
theorem putL_length' {x : Str} {hsh : Int} {k v : Value} : ∀ es : List DictEntry, (∃ w, getL x es = some (some w)) → (putL x hsh k v es).length = es.length
  | [], h => by obtain ⟨w, e⟩ := h; simp [getL] at e
  | en :: es, h => by
    unfold putL
    by_cases p : en.key.isStr x = true
    · rw [if_pos p]; rfl
    · rw [if_neg p, List.length_cons, List.length_cons, putL_length' es]
      obtain ⟨w, e⟩ := h
      unfold getL at e ⊢
      have p' : en.key.isStr x = false := by simpa using p
      simp only [List.find?_cons, p', List.any_cons] at e
      cases f : es.find? (fun y => y.key.isStr x) with
      | some e1 => exact ⟨_, rfl⟩
      | none =>
        rw [f] at e
        simp at e

section
variable {B : Base} {n : Nat} {env : Env} {hp hp' : Hp} {pos : Pos} {Φ : V → Hp → Prop} {Ψ : AF → Hp → Prop} {Υ : Hp → Prop} {G : Globs B} {L C d : Addr} {kinds : List (Str × NameKind)} {own out : List (Str × Addr)} {K : Frag} {mg mb : Str → Option Value}

theorem TopFn.is {s : Shared} {f : Addr} {fd : FuncData} (T : TopB B K mg mb) (F : TopFn B f fd) (S : St B hp s) : Is (zof hp s.heap) (.ref f) (.fn fd) := by
  obtain ⟨⟨o, e, hc, hd⟩, c, oc, vs, t, hcd, ec, hcc, hdc, hv⟩ := F
  have n1 : f ∉ B.tabs := fun q => by rw [T.tabs _ q] at e; cases e; cases hc
  have n2 : c ∉ B.tabs := fun q => by rw [T.tabs _ q] at ec; cases ec; cases hcc
  exact .fn (S.base _ _ e n1) hc hd ⟨c, oc, vs, t, hcd, S.base _ _ ec n2, hdc, hv⟩
theorem handed_of {z : Z} {v : Value} {x : V} (h : Is z v x) (hr : ∀ w, x ≠ .raw w) : handedIn v = true := by
  (first | refine Is.eInt h fun _ => ?_ | refine Is.eStr h fun _ => ?_ | refine Is.eNone h ?_ | refine Is.eBool h ?_ | refine Is.eRaw h ?_ | refine Is.eMref h ?_ | refine IsAll.eNil h ?_ | (obtain rfl := h.inv) | (obtain ⟨_, rfl⟩ := h.inv) | cases h) <;> first | rfl | exact absurd rfl (hr _)
theorem instAt_of {s : Shared} {a : Addr} {es : List DictEntry} {m : Nat} (r : Is (zof hp s.heap) (.ref a) (.inst C d)) (e : s.heap.get? d = some (dictOf es m)) : ∃ ox, InstAt s.heap a ox C (some (dictOf es m)) ∧ ox.dict = some d := by
  obtain ⟨_, o, q0, h, hc, hd, hp⟩ := r.inv; cases q0
  next =>
    exact ⟨o, ⟨(zof_of h).1, hc, by unfold notCls; rw [hp], by rw [hd]; exact e⟩, hd⟩
theorem inst_ref {z : Z} {v : Value} (r : Is z v (.inst C d)) : ∃ a, v = .ref a := by (first | refine Is.eInt r fun _ => ?_ | refine Is.eStr r fun _ => ?_ | refine Is.eNone r ?_ | refine Is.eBool r ?_ | refine Is.eRaw r ?_ | refine Is.eMref r ?_ | refine IsAll.eNil r ?_ | (obtain rfl := r.inv) | (obtain ⟨_, rfl⟩ := r.inv) | cases r); exact ⟨_, rfl⟩
theorem JGa.attr {name : Str} {fs : List (Str × V)} {v : V} (T : TopB B K mg mb) (hC : ClsK K C) (hno : findIn K (.ref C) name = some none) (hm : (d, AObj.attrs fs) ∈ hp) (hv : fs.lookup name = some v) (hr : ∀ w, v ≠ .raw w) (h : Φ v hp) : JGa B n hp (.inst C d) name Φ :=
  fun A s val ok S r => Wp.of fun Q k => by
    obtain ⟨a, rfl⟩ := inst_ref r
    obtain ⟨es, m, e, hl, hx⟩ := S.objs _ hm
    obtain ⟨ox, I, hd⟩ := instAt_of r e
    obtain ⟨w, hw, hwi⟩ := hx name
    rw [hv] at hwi
    cases w with
    | none => exact hwi.elim
    | some w =>
      refine get_value (T.kin S) I (plainGet_of (name := "") hC.plain).1 (findObj_own hC.has hno rfl (by rw [lookIn_dict]; exact hw)) (handed_of hwi hr) ?_
      exact k _ _ _ _ (S.toks _) (Le.refl _) hwi h
theorem JGa.bound {name : Str} {fs : List (Str × V)} {f : Addr} {fd : FuncData} (T : TopB B K mg mb) (hC : ClsK K C) (hf : findIn K (.ref C) name = some (some (.ref f))) (hk : FnK K f) (hF : TopFn B f fd) (hc : copiedNames.contains name = false) (hm : (d, AObj.attrs fs) ∈ hp) (hv : fs.lookup name = none)
    (h : Φ (.meth (.fn fd) (.inst C d)) hp) : JGa B n hp (.inst C d) name Φ :=
  fun A s val ok S r => Wp.of fun Q k => by
    obtain ⟨a, rfl⟩ := inst_ref r
    obtain ⟨es, m, e, hl, hx⟩ := S.objs _ hm
    obtain ⟨ox, I, hd⟩ := instAt_of r e
    obtain ⟨w, hw, hwi⟩ := hx name
    rw [hv] at hwi
    cases w with
    | some w => exact hwi.elim
    | none =>
      refine get_bind (T.kin S) I (plainGet_of (name := "") hC.plain).1 (findObj_fn hC.has hf hk.get hk.takes hc (by rw [lookIn_dict]; exact hw)) (plainGet_of (name := "") hC.plain).2 ?_
      refine wpAny_call (fn_get (s := { s with toks := s.toks + 1 }) (show K.In s.heap from T.kin S) (beq_iff_eq.mp hk.fn) (handed_on rfl ?_))
      have E := S.ext (tk := s.toks + 1) (h' := s.heap.push (methodObj (.ref f) (.ref a))) fun _ _ e => Heap.get?_push_of_some _ e
      exact k _ _ _ _ E.1 E.2 (.meth (S.frozen (size_fresh _) (Heap.get?_push_size _ rfl)) (hF.is T E.1) (r.mono E.2)) h

theorem osa_own {A : Around} {R : Result → Shared → Prop} {prog : Program} {w : World} {s : Shared} {x dx : Addr} {ox : Obj} {name : Str} {tk : Tok} {v : Value} {es : List DictEntry} {m : Nat} (X : K.In s.heap)
    (I : InstAt s.heap x ox C (some (dictOf es m))) (hd : ox.dict = some dx) (hp : plainOver K C = true) (ht : takerIn K C name = some none) (hh : hasDictIn K C = true) (hl : (getL name es).isSome = true) (hz : es.length ≤ 900)
    (h : R (.ok (.ret .none)) { s with heap := s.heap.update dx (Obj.putName name (PyData.keyHash w.params name) (.str name s.toks) v), toks := s.toks + 1 }) :
    codeAny (model prog w) A (.call (.builtin "object.__setattr__") ⟨[.ref x, .str name tk, v], []⟩) R s := by
  refine osa_open X I hp ht fun b => ?_
  obtain ⟨cd, hc, hd'⟩ := any_some hh
  have e : Obj.putName name (PyData.keyHash w.params name) (.str name s.toks) v (dictOf es m) = dictOf (putL name (PyData.keyHash w.params name) (.str name s.toks) v es) (putN name es m) := putName_dict ..
  have D : s.heap.get? dx = some (dictOf es m) := by have := I.dict; rw [hd] at this; exact this
  have D' : (s.heap.update dx (Obj.putName name (PyData.keyHash w.params name) (.str name s.toks) v)).get? dx = some (dictOf (putL name (PyData.keyHash w.params name) (.str name s.toks) v es) (putN name es m)) := by
    rw [Heap.get?_update_self _ D (by rw [e]; rfl), e]
  obtain ⟨hx, hcl, hn, -⟩ := I
  obtain ⟨oc, odi, oda, osl⟩ := ox
  dsimp only at hcl hd
  subst hcl hd
  refine wpAny_bind (wpAny_pure (wpAny_bind (wpAny_bind (wpAny_loadPart hx (wpAny_bind ((looks_clsIn X hc).here ?_))))))
  rw [hd']
  refine wpAny_pure (a := some dx) (wpAny_bind (wpAny_pure (wpAny_bind ?_)))
  unfold nsSet
  refine wpAny_bind (wpAny_bind (wpAny_askSetting (wpAny_pure (wpAny_bind (wpAny_mkText (wpAny_bind (wpAny_loadPart D ?_)))))))
  have c : (!es.toArray.any (·.key.isStr name) && es.toArray.any (·.refKey)) = false := by
    rw [← Array.any_toList, ← Array.any_toList]
    unfold getL at hl
    split at hl
    · rename_i en he
      rw [List.any_eq_true.mpr ⟨en, List.mem_of_find?_eq_some he, List.find?_some he⟩]; rfl
    · split at hl
      · cases hl
      · rename_i z; rw [Bool.not_eq_true] at z; rw [show es.toArray.toList = es from rfl, z, Bool.and_false]
  dsimp only
  rw [aRefKeyMayBeTheName_at, c]
  refine wpAny_updatePart D ?_
  refine wpAny_bind (wpAny_lookBehind D' (pastItsLine_dict (by rw [List.size_toArray, sizeLine_eq]; have := putL_length (x := name) (hsh := PyData.keyHash w.params name) (k := .str name s.toks) (v := v) es; omega)) ?_)
  exact wpAny_pure h

inductive PutO (x : Str) (v : V) : List (Str × V) → List (Str × V) → Prop
  | head {w : V} {r : List (Str × V)} : PutO x v ((x, w) :: r) ((x, v) :: r)
  | tail {p : Str × V} {r r' : List (Str × V)} : (x == p.1) = false → PutO x v r r' → PutO x v (p :: r) (p :: r')
theorem PutO.look {x : Str} {v : V} {fs fs' : List (Str × V)} (P : PutO x v fs fs') (y : Str) : fs'.lookup y = if y = x then some v else fs.lookup y := by
  induction P with
  | head =>
    rename_i w r
    rw [List.lookup_cons, List.lookup_cons]
    by_cases q : y = x
    · subst q; simp
    · have : (y == x) = false := by simpa using q
      rw [this, if_neg q]
  | tail hp _ ih =>
    rename_i p r r' _
    rw [List.lookup_cons, List.lookup_cons]
    by_cases q : y = x
    · subst q; rw [hp, ih]
    · rw [ih, if_neg q, if_neg q]
theorem PutO.has {x : Str} {v : V} {fs fs' : List (Str × V)} (P : PutO x v fs fs') : ∃ w, fs.lookup x = some w := by
  induction P with
  | head => exact ⟨_, by rw [List.lookup_cons, beq_self_eq_true]⟩
  | tail hp _ ih => obtain ⟨w, e⟩ := ih; exact ⟨w, by rw [List.lookup_cons, hp]; exact e⟩
theorem PutO.len {x : Str} {v : V} {fs fs' : List (Str × V)} (P : PutO x v fs fs') : fs'.length = fs.length := by
  induction P with
  | head => rfl
  | tail _ _ ih => rw [List.length_cons, List.length_cons, ih]
theorem setA {A : Around} {s : Shared} {val x : Value} {name : Str} {fs fs' : List (Str × V)} {v : V} {Q : Unit → Shared → Prop} (T : TopB B K mg mb) (hC : ClsK K C) (hno : findIn K (.ref C) name = some none) (S : St B hp s) (r : Is (zof hp s.heap) val (.inst C d)) (rv : Is (zof hp s.heap) x v)
    (U : Upd hp d (.attrs fs) (.attrs fs') hp') (hlen : fs.length ≤ 900) (hfs : (∀ y, fs'.lookup y = if y = name then some v else fs.lookup y) ∧ ((∃ w, fs.lookup name = some w) ∧ fs'.length = fs.length ∨ fs'.length = fs.length + 1))
    (h : ∀ s₁, St B hp' s₁ → Le (zof hp s.heap) (zof hp' s₁.heap) → Q () s₁) : wpAny B.M A (setAttr val name x) Q (fun _ _ => False) s := by
  obtain ⟨a, rfl⟩ := inst_ref r
  obtain ⟨es, m, e, hl, hx⟩ := S.objs _ U.mem
  obtain ⟨ox, I, hd⟩ := instAt_of r e
  obtain ⟨w, hw, hwi⟩ := hx name
  have ht : takerIn K C name = some none := by unfold takerIn; rw [hno]; rfl
  refine set_plain (T.kin S) I hC.set (osa_own (s := { s with toks := s.toks + 1 }) (show K.In s.heap from T.kin S) I hd hC.over ht hC.has (by rw [hw]; rfl) (Nat.le_trans hl hlen) ?_)
  have eo : ((s.heap.update d (Obj.putName name (PyData.keyHash B.w.params name) (.str name (s.toks + 1)) x))).get? d = some (dictOf (putL name (PyData.keyHash B.w.params name) (.str name (s.toks + 1)) x es) (putN name es m)) := by
    have e' : Obj.putName name (PyData.keyHash B.w.params name) (.str name (s.toks + 1)) x (dictOf es m) = dictOf (putL name (PyData.keyHash B.w.params name) (.str name (s.toks + 1)) x es) (putN name es m) := putName_dict ..
    rw [Heap.get?_update_self _ e (by rw [e']; rfl), e']
  have K' := S.set (tk := s.toks + 1 + 1) U (h' := s.heap.update d (Obj.putName name (PyData.keyHash B.w.params name) (.str name (s.toks + 1)) x)) (Heap.SameBut.update ..).extBut (ao' := .attrs fs') ⟨_, _, eo, ?_, fun y => ?_⟩
  · exact h _ K'.1 K'.2
  · rcases hfs.2 with ⟨⟨w', hw'⟩, e1⟩ | e1
    · rw [hw'] at hwi
      cases w with
      | none => exact hwi.elim
      | some w => rw [putL_length' es ⟨w, hw⟩, e1]; exact hl
    · rw [e1]; exact Nat.le_trans (putL_length es) (Nat.succ_le_succ hl)
  · obtain ⟨ry, hy, hyi⟩ := hx y
    refine ⟨_, getL_put es hy, ?_⟩
    rw [hfs.1 y]
    by_cases q : y = name
    · rw [if_pos q, if_pos q]; exact rv
    · rw [if_neg q, if_neg q]; exact hyi
theorem JSa.new {name : Str} {fs : List (Str × V)} {v : V} (T : TopB B K mg mb) (hC : ClsK K C) (hno : findIn K (.ref C) name = some none) (U : Upd hp d (.attrs fs) (.attrs ((name, v) :: fs)) hp') (hlen : fs.length ≤ 900) (h : Υ hp') : JSa B n hp (.inst C d) name v Υ :=
  fun A s val x ok S r rv => Wp.of fun Q k => setA T hC hno S r rv U hlen ⟨fun y => by
    rw [List.lookup_cons]
    by_cases q : y = name
    · subst q; simp
    · have : (y == name) = false := by simpa using q
      rw [this, if_neg q], .inr rfl⟩ fun s₁ S₁ L₁ => k _ () _ _ S₁ L₁ trivial h
theorem JSa.old {name : Str} {fs fs' : List (Str × V)} {v : V} (T : TopB B K mg mb) (hC : ClsK K C) (hno : findIn K (.ref C) name = some none) (P : PutO name v fs fs') (U : Upd hp d (.attrs fs) (.attrs fs') hp') (hlen : fs.length ≤ 900) (h : Υ hp') : JSa B n hp (.inst C d) name v Υ :=
  fun A s val x ok S r rv => Wp.of fun Q k => setA T hC hno S r rv U hlen ⟨P.look, .inl ⟨P.has, P.len⟩⟩ fun s₁ S₁ L₁ => k _ () _ _ S₁ L₁ trivial h

theorem JCc.cls {fI : Addr} {fd : FuncData} {args : List V} {kw : List (Str × V)} (T : TopB B K mg mb) (hC : ClsK K C) (hi : findIn K (.ref C) "__init__" = some (some (.ref fI))) (hf : FnK K fI) (hF : TopFn B fI fd)
    (h : ∀ d, JCc B n ((d, .attrs []) :: hp) (.fn fd) (.inst C d :: args) kw fun v hp₁ => v = .none ∧ Φ (.inst C d) hp₁) : JCc B (n + 1) hp (.raw (.ref C)) args kw Φ := fun A s fv vs kvs R ok S rf rv ek rk k => by
  (first | refine Is.eInt rf fun _ => ?_ | refine Is.eStr rf fun _ => ?_ | refine Is.eNone rf ?_ | refine Is.eBool rf ?_ | refine Is.eRaw rf ?_ | refine Is.eMref rf ?_ | refine IsAll.eNil rf ?_ | (obtain rfl := rf.inv) | (obtain ⟨_, rfl⟩ := rf.inv) | cases rf)
  have X := T.kin S
  obtain ⟨hh, g, dr, t, os⟩ := s
  refine make_core (makes_of X hC.makes) (looks_findIn X hi) (fun self => bind_fn X self (beq_iff_eq.mp hf.fn)) (.inl rfl) ?_
  have K1 := S.add (tk := t) (a := hh.objs.size) (ao := .attrs []) (h' := (hh.push emptyDict).push (instObj C hh.objs.size)) (fun _ _ e => Heap.get?_push_of_some _ (Heap.get?_push_of_some _ e)) (size_fresh _)
    ⟨[], 0, Heap.get?_push_of_some _ (Heap.get?_push_size _ rfl), Nat.le_refl _, fun x => ⟨none, rfl, trivial⟩⟩
  have hx : ((hh.push emptyDict).push (instObj C hh.objs.size)).get? (hh.objs.size + 1) = some (instObj C hh.objs.size) := by heap_get
  have hxn : hh.objs.size + 1 ∉ keys ((hh.objs.size, AObj.attrs []) :: hp) := by
    rw [keys_cons, List.mem_cons]
    rintro (q | q)
    · exact absurd q (Nat.succ_ne_self _)
    · exact S.fresh_not (s := ⟨hh, g, dr, t, os⟩) (Heap.get?_none_of_le (Nat.le_succ _)) q
  have ri : Is (zof ((hh.objs.size, AObj.attrs []) :: hp) ((hh.push emptyDict).push (instObj C hh.objs.size))) (.ref (hh.objs.size + 1)) (.inst C hh.objs.size) := .inst (zof_mk hx hxn) rfl rfl rfl
  have hw : (Code.builtin "type.__call__" ⟨.ref C :: vs, kvs⟩).weight = 1 := by kernel_rfl
  have hu : (Code.builtin "type.__call__" ⟨.ref C :: vs, kvs⟩).cUnits = 1 := by kernel_rfl
  have ok' : AOk n (A.under (.builtin "type.__call__" ⟨.ref C :: vs, kvs⟩)) := ⟨ok.handled, by show A.depth + _ + n ≤ 400; rw [hw]; have := ok.depth; omega, by show A.units + _ + 8 * n ≤ 2000; rw [hu]; have := ok.units; omega⟩
  refine h hh.objs.size _ _ (.ref fI) (.ref (hh.objs.size + 1) :: vs) kvs _ ok' K1.1 (hF.is T K1.1) (.cons ri (rv.mono K1.2)) ek (rk.mono K1.2) fun v x hp₁ s₁ S₁ L₁ r₁ h₁ => ?_
  obtain ⟨rfl, h₁⟩ := h₁
  (first | refine Is.eInt r₁ fun _ => ?_ | refine Is.eStr r₁ fun _ => ?_ | refine Is.eNone r₁ ?_ | refine Is.eBool r₁ ?_ | refine Is.eRaw r₁ ?_ | refine Is.eMref r₁ ?_ | refine IsAll.eNil r₁ ?_ | (obtain rfl := r₁.inv) | (obtain ⟨_, rfl⟩ := r₁.inv) | cases r₁)
  exact ⟨rfl, k _ _ _ _ S₁ (K1.2.trans L₁) (ri.mono L₁) h₁⟩
theorem JK.cls (T : TopB B K mg mb) (hC : ClsK K C) : JK B hp (.raw (.ref C)) := fun A s x S r Q k => by
  (first | refine Is.eInt r fun _ => ?_ | refine Is.eStr r fun _ => ?_ | refine Is.eNone r ?_ | refine Is.eBool r ?_ | refine Is.eRaw r ?_ | refine Is.eMref r ?_ | refine IsAll.eNil r ?_ | (obtain rfl := r.inv) | (obtain ⟨_, rfl⟩ := r.inv) | cases r)
  obtain ⟨kp, _, L⟩ := looks_keep (M := B.M) hC.keep (T.kin S)
  exact L A Q _ s (fun _ _ e => e) (k _)
theorem JM.inst {name : Str} {fs : List (Str × V)} {f : Addr} {fd : FuncData} {Ξ : V → List V → Hp → Prop} (T : TopB B K mg mb) (hC : ClsK K C) (hf : findIn K (.ref C) name = some (some (.ref f))) (hk : FnK K f) (hF : TopFn B f fd) (hm : (d, AObj.attrs fs) ∈ hp) (hv : fs.lookup name = none)
    (h : Ξ (.fn fd) [.inst C d] hp) : JM B n hp (.inst C d) name Ξ := fun A s x pl ok S r => Wp.of fun Q k => by
  obtain ⟨a, rfl⟩ := inst_ref r
  obtain ⟨es, m, e, hl, hx⟩ := S.objs _ hm
  obtain ⟨ox, I, hd⟩ := instAt_of r e
  obtain ⟨w, hw, hwi⟩ := hx name
  rw [hv] at hwi
  cases w with
  | some w => exact hwi.elim
  | none =>
    exact method_fn (T.kin S) I (plainGet_of (name := "") hC.plain).1 (plainGet_of (name := "") hC.plain).2 hf (beq_iff_eq.mp hk.fn) (by show (lookIn name (dictOf es m)).map _ = _; rw [lookIn_dict, hw]; rfl)
      (k _ (.fn fd, [.inst C d]) _ _ S (Le.refl _) ⟨hF.is T S, .cons r .nil⟩ h)
end
end Mine

set_option maxRecDepth 100000
set_option linter.unusedVariables false
namespace Mine
open PySem PySem.W PySem.Calls PyProof.Rows

section
variable {B : Base} {n : Nat} {env : Env} {hp hp' : Hp} {pos : Pos} {Φ : V → Hp → Prop} {Θ : Bool → Hp → Prop} {a b : Int} {x y : Str}

theorem JBin.add (h : Φ (.int (a + b)) hp) : JBin B n hp .Add (.int a) (.int b) Φ := fun A s x y ok S rx ry => Wp.of fun Q k => by
  (first | refine Is.eInt rx fun _ => ?_ | refine Is.eStr rx fun _ => ?_ | refine Is.eNone rx ?_ | refine Is.eBool rx ?_ | refine Is.eRaw rx ?_ | refine Is.eMref rx ?_ | refine IsAll.eNil rx ?_ | (obtain rfl := rx.inv) | (obtain ⟨_, rfl⟩ := rx.inv) | cases rx); (first | refine Is.eInt ry fun _ => ?_ | refine Is.eStr ry fun _ => ?_ | refine Is.eNone ry ?_ | refine Is.eBool ry ?_ | refine Is.eRaw ry ?_ | refine Is.eMref ry ?_ | refine IsAll.eNil ry ?_ | (obtain rfl := ry.inv) | (obtain ⟨_, rfl⟩ := ry.inv) | cases ry); exact add_int (k _ _ _ _ (S.toks _) (Le.refl _) (.int _ _) h)
theorem JBin.sub (h : Φ (.int (a - b)) hp) : JBin B n hp .Sub (.int a) (.int b) Φ := fun A s x y ok S rx ry => Wp.of fun Q k => by
  (first | refine Is.eInt rx fun _ => ?_ | refine Is.eStr rx fun _ => ?_ | refine Is.eNone rx ?_ | refine Is.eBool rx ?_ | refine Is.eRaw rx ?_ | refine Is.eMref rx ?_ | refine IsAll.eNil rx ?_ | (obtain rfl := rx.inv) | (obtain ⟨_, rfl⟩ := rx.inv) | cases rx); (first | refine Is.eInt ry fun _ => ?_ | refine Is.eStr ry fun _ => ?_ | refine Is.eNone ry ?_ | refine Is.eBool ry ?_ | refine Is.eRaw ry ?_ | refine Is.eMref ry ?_ | refine IsAll.eNil ry ?_ | (obtain rfl := ry.inv) | (obtain ⟨_, rfl⟩ := ry.inv) | cases ry); exact sub_int (k _ _ _ _ (S.toks _) (Le.refl _) (.int _ _) h)
theorem JBin.mul (hm : IntMulOk a b) (h : Φ (.int (a * b)) hp) : JBin B n hp .Mult (.int a) (.int b) Φ := fun A s x y ok S rx ry => Wp.of fun Q k => by
  (first | refine Is.eInt rx fun _ => ?_ | refine Is.eStr rx fun _ => ?_ | refine Is.eNone rx ?_ | refine Is.eBool rx ?_ | refine Is.eRaw rx ?_ | refine Is.eMref rx ?_ | refine IsAll.eNil rx ?_ | (obtain rfl := rx.inv) | (obtain ⟨_, rfl⟩ := rx.inv) | cases rx); (first | refine Is.eInt ry fun _ => ?_ | refine Is.eStr ry fun _ => ?_ | refine Is.eNone ry ?_ | refine Is.eBool ry ?_ | refine Is.eRaw ry ?_ | refine Is.eMref ry ?_ | refine IsAll.eNil ry ?_ | (obtain rfl := ry.inv) | (obtain ⟨_, rfl⟩ := ry.inv) | cases ry); exact mul_int (k _ _ _ _ (S.toks _) (Le.refl _) (.int _ _) h) hm
theorem JBin.fdiv (hb : b ≠ 0) (hp1 : Builtin.divisionGoesByPylong a b = false) (h : Φ (.int (a.fdiv b)) hp) : JBin B n hp .FloorDiv (.int a) (.int b) Φ := fun A s x y ok S rx ry => Wp.of fun Q k => by
  (first | refine Is.eInt rx fun _ => ?_ | refine Is.eStr rx fun _ => ?_ | refine Is.eNone rx ?_ | refine Is.eBool rx ?_ | refine Is.eRaw rx ?_ | refine Is.eMref rx ?_ | refine IsAll.eNil rx ?_ | (obtain rfl := rx.inv) | (obtain ⟨_, rfl⟩ := rx.inv) | cases rx); (first | refine Is.eInt ry fun _ => ?_ | refine Is.eStr ry fun _ => ?_ | refine Is.eNone ry ?_ | refine Is.eBool ry ?_ | refine Is.eRaw ry ?_ | refine Is.eMref ry ?_ | refine IsAll.eNil ry ?_ | (obtain rfl := ry.inv) | (obtain ⟨_, rfl⟩ := ry.inv) | cases ry); exact floordiv_int hb (k _ _ _ _ (S.toks _) (Le.refl _) (.int _ _) h) (.inl hp1)
theorem JBin.mod (hb : b ≠ 0) (h : Φ (.int (a.fmod b)) hp) : JBin B n hp .Mod (.int a) (.int b) Φ := fun A s x y ok S rx ry => Wp.of fun Q k => by
  (first | refine Is.eInt rx fun _ => ?_ | refine Is.eStr rx fun _ => ?_ | refine Is.eNone rx ?_ | refine Is.eBool rx ?_ | refine Is.eRaw rx ?_ | refine Is.eMref rx ?_ | refine IsAll.eNil rx ?_ | (obtain rfl := rx.inv) | (obtain ⟨_, rfl⟩ := rx.inv) | cases rx); (first | refine Is.eInt ry fun _ => ?_ | refine Is.eStr ry fun _ => ?_ | refine Is.eNone ry ?_ | refine Is.eBool ry ?_ | refine Is.eRaw ry ?_ | refine Is.eMref ry ?_ | refine IsAll.eNil ry ?_ | (obtain rfl := ry.inv) | (obtain ⟨_, rfl⟩ := ry.inv) | cases ry); exact mod_int hb (k _ _ _ _ (S.toks _) (Le.refl _) (.int _ _) h)
theorem JBin.band (h : Φ (.int (Builtin.bitAnd a b)) hp) : JBin B n hp .BitAnd (.int a) (.int b) Φ := fun A s x y ok S rx ry => Wp.of fun Q k => by
  (first | refine Is.eInt rx fun _ => ?_ | refine Is.eStr rx fun _ => ?_ | refine Is.eNone rx ?_ | refine Is.eBool rx ?_ | refine Is.eRaw rx ?_ | refine Is.eMref rx ?_ | refine IsAll.eNil rx ?_ | (obtain rfl := rx.inv) | (obtain ⟨_, rfl⟩ := rx.inv) | cases rx); (first | refine Is.eInt ry fun _ => ?_ | refine Is.eStr ry fun _ => ?_ | refine Is.eNone ry ?_ | refine Is.eBool ry ?_ | refine Is.eRaw ry ?_ | refine Is.eMref ry ?_ | refine IsAll.eNil ry ?_ | (obtain rfl := ry.inv) | (obtain ⟨_, rfl⟩ := ry.inv) | cases ry); exact and_int (k _ _ _ _ (S.toks _) (Le.refl _) (.int _ _) h)
theorem JBin.bor (h : Φ (.int (Builtin.bitOr a b)) hp) : JBin B n hp .BitOr (.int a) (.int b) Φ := fun A s x y ok S rx ry => Wp.of fun Q k => by
  (first | refine Is.eInt rx fun _ => ?_ | refine Is.eStr rx fun _ => ?_ | refine Is.eNone rx ?_ | refine Is.eBool rx ?_ | refine Is.eRaw rx ?_ | refine Is.eMref rx ?_ | refine IsAll.eNil rx ?_ | (obtain rfl := rx.inv) | (obtain ⟨_, rfl⟩ := rx.inv) | cases rx); (first | refine Is.eInt ry fun _ => ?_ | refine Is.eStr ry fun _ => ?_ | refine Is.eNone ry ?_ | refine Is.eBool ry ?_ | refine Is.eRaw ry ?_ | refine Is.eMref ry ?_ | refine IsAll.eNil ry ?_ | (obtain rfl := ry.inv) | (obtain ⟨_, rfl⟩ := ry.inv) | cases ry); exact or_int (k _ _ _ _ (S.toks _) (Le.refl _) (.int _ _) h)
theorem JBin.bxor (h : Φ (.int (Builtin.bitXor a b)) hp) : JBin B n hp .BitXor (.int a) (.int b) Φ := fun A s x y ok S rx ry => Wp.of fun Q k => by
  (first | refine Is.eInt rx fun _ => ?_ | refine Is.eStr rx fun _ => ?_ | refine Is.eNone rx ?_ | refine Is.eBool rx ?_ | refine Is.eRaw rx ?_ | refine Is.eMref rx ?_ | refine IsAll.eNil rx ?_ | (obtain rfl := rx.inv) | (obtain ⟨_, rfl⟩ := rx.inv) | cases rx); (first | refine Is.eInt ry fun _ => ?_ | refine Is.eStr ry fun _ => ?_ | refine Is.eNone ry ?_ | refine Is.eBool ry ?_ | refine Is.eRaw ry ?_ | refine Is.eMref ry ?_ | refine IsAll.eNil ry ?_ | (obtain rfl := ry.inv) | (obtain ⟨_, rfl⟩ := ry.inv) | cases ry); exact xor_int (k _ _ _ _ (S.toks _) (Le.refl _) (.int _ _) h)
theorem JBin.shl (hn : 0 ≤ b) (hs : (Builtin.Int.intBits a : Int) + b ≤ 2 ^ 27) (h : Φ (.int (a * 2 ^ b.toNat)) hp) : JBin B n hp .LShift (.int a) (.int b) Φ := fun A s x y ok S rx ry => Wp.of fun Q k => by
  (first | refine Is.eInt rx fun _ => ?_ | refine Is.eStr rx fun _ => ?_ | refine Is.eNone rx ?_ | refine Is.eBool rx ?_ | refine Is.eRaw rx ?_ | refine Is.eMref rx ?_ | refine IsAll.eNil rx ?_ | (obtain rfl := rx.inv) | (obtain ⟨_, rfl⟩ := rx.inv) | cases rx); (first | refine Is.eInt ry fun _ => ?_ | refine Is.eStr ry fun _ => ?_ | refine Is.eNone ry ?_ | refine Is.eBool ry ?_ | refine Is.eRaw ry ?_ | refine Is.eMref ry ?_ | refine IsAll.eNil ry ?_ | (obtain rfl := ry.inv) | (obtain ⟨_, rfl⟩ := ry.inv) | cases ry); exact lshift_int hn hs (k _ _ _ _ (S.toks _) (Le.refl _) (.int _ _) h)
theorem JBin.shr (hn : 0 ≤ b) (h : Φ (.int (a.fdiv (2 ^ b.toNat))) hp) : JBin B n hp .RShift (.int a) (.int b) Φ := fun A s x y ok S rx ry => Wp.of fun Q k => by
  (first | refine Is.eInt rx fun _ => ?_ | refine Is.eStr rx fun _ => ?_ | refine Is.eNone rx ?_ | refine Is.eBool rx ?_ | refine Is.eRaw rx ?_ | refine Is.eMref rx ?_ | refine IsAll.eNil rx ?_ | (obtain rfl := rx.inv) | (obtain ⟨_, rfl⟩ := rx.inv) | cases rx); (first | refine Is.eInt ry fun _ => ?_ | refine Is.eStr ry fun _ => ?_ | refine Is.eNone ry ?_ | refine Is.eBool ry ?_ | refine Is.eRaw ry ?_ | refine Is.eMref ry ?_ | refine IsAll.eNil ry ?_ | (obtain rfl := ry.inv) | (obtain ⟨_, rfl⟩ := ry.inv) | cases ry); exact rshift_int hn (k _ _ _ _ (S.toks _) (Le.refl _) (.int _ _) h)
theorem JBin.pow (hn : 0 ≤ b) (hs : (Builtin.Int.intBits a : Int) * b ≤ 2 ^ 27) (h : Φ (.int (a ^ b.toNat)) hp) : JBin B n hp .Pow (.int a) (.int b) Φ := fun A s x y ok S rx ry => Wp.of fun Q k => by
  (first | refine Is.eInt rx fun _ => ?_ | refine Is.eStr rx fun _ => ?_ | refine Is.eNone rx ?_ | refine Is.eBool rx ?_ | refine Is.eRaw rx ?_ | refine Is.eMref rx ?_ | refine IsAll.eNil rx ?_ | (obtain rfl := rx.inv) | (obtain ⟨_, rfl⟩ := rx.inv) | cases rx); (first | refine Is.eInt ry fun _ => ?_ | refine Is.eStr ry fun _ => ?_ | refine Is.eNone ry ?_ | refine Is.eBool ry ?_ | refine Is.eRaw ry ?_ | refine Is.eMref ry ?_ | refine IsAll.eNil ry ?_ | (obtain rfl := ry.inv) | (obtain ⟨_, rfl⟩ := ry.inv) | cases ry); exact pow_int hn hs (k _ _ _ _ (S.toks _) (Le.refl _) (.int _ _) h)
theorem JInp.add (h : Φ (.int (a + b)) hp) : JInp B n hp .Add (.int a) (.int b) Φ := fun A s x y ok S rx ry => Wp.of fun Q k => by
  (first | refine Is.eInt rx fun _ => ?_ | refine Is.eStr rx fun _ => ?_ | refine Is.eNone rx ?_ | refine Is.eBool rx ?_ | refine Is.eRaw rx ?_ | refine Is.eMref rx ?_ | refine IsAll.eNil rx ?_ | (obtain rfl := rx.inv) | (obtain ⟨_, rfl⟩ := rx.inv) | cases rx); (first | refine Is.eInt ry fun _ => ?_ | refine Is.eStr ry fun _ => ?_ | refine Is.eNone ry ?_ | refine Is.eBool ry ?_ | refine Is.eRaw ry ?_ | refine Is.eMref ry ?_ | refine IsAll.eNil ry ?_ | (obtain rfl := ry.inv) | (obtain ⟨_, rfl⟩ := ry.inv) | cases ry); exact iadd_int (k _ _ _ _ (S.toks _) (Le.refl _) (.int _ _) h)
theorem JInp.bor (h : Φ (.int (Builtin.bitOr a b)) hp) : JInp B n hp .BitOr (.int a) (.int b) Φ := fun A s x y ok S rx ry => Wp.of fun Q k => by
  (first | refine Is.eInt rx fun _ => ?_ | refine Is.eStr rx fun _ => ?_ | refine Is.eNone rx ?_ | refine Is.eBool rx ?_ | refine Is.eRaw rx ?_ | refine Is.eMref rx ?_ | refine IsAll.eNil rx ?_ | (obtain rfl := rx.inv) | (obtain ⟨_, rfl⟩ := rx.inv) | cases rx); (first | refine Is.eInt ry fun _ => ?_ | refine Is.eStr ry fun _ => ?_ | refine Is.eNone ry ?_ | refine Is.eBool ry ?_ | refine Is.eRaw ry ?_ | refine Is.eMref ry ?_ | refine IsAll.eNil ry ?_ | (obtain rfl := ry.inv) | (obtain ⟨_, rfl⟩ := ry.inv) | cases ry); exact ior_int (k _ _ _ _ (S.toks _) (Le.refl _) (.int _ _) h)
theorem JBin.cat (hsz : x.length + y.length ≤ 16777216) (h : Φ (.str (x ++ y)) hp) : JBin B n hp .Add (.str x) (.str y) Φ := fun A s x y ok S rx ry => Wp.of fun Q k => by
  (first | refine Is.eInt rx fun _ => ?_ | refine Is.eStr rx fun _ => ?_ | refine Is.eNone rx ?_ | refine Is.eBool rx ?_ | refine Is.eRaw rx ?_ | refine Is.eMref rx ?_ | refine IsAll.eNil rx ?_ | (obtain rfl := rx.inv) | (obtain ⟨_, rfl⟩ := rx.inv) | cases rx); (first | refine Is.eInt ry fun _ => ?_ | refine Is.eStr ry fun _ => ?_ | refine Is.eNone ry ?_ | refine Is.eBool ry ?_ | refine Is.eRaw ry ?_ | refine Is.eMref ry ?_ | refine IsAll.eNil ry ?_ | (obtain rfl := ry.inv) | (obtain ⟨_, rfl⟩ := ry.inv) | cases ry); exact add_str (fun t' tk => k _ _ _ _ (S.toks _) (Le.refl _) (.str _ _) h) hsz
theorem JInp.cat (hsz : x.length + y.length ≤ 16777216) (h : Φ (.str (x ++ y)) hp) : JInp B n hp .Add (.str x) (.str y) Φ := fun A s x y ok S rx ry => Wp.of fun Q k => by
  (first | refine Is.eInt rx fun _ => ?_ | refine Is.eStr rx fun _ => ?_ | refine Is.eNone rx ?_ | refine Is.eBool rx ?_ | refine Is.eRaw rx ?_ | refine Is.eMref rx ?_ | refine IsAll.eNil rx ?_ | (obtain rfl := rx.inv) | (obtain ⟨_, rfl⟩ := rx.inv) | cases rx); (first | refine Is.eInt ry fun _ => ?_ | refine Is.eStr ry fun _ => ?_ | refine Is.eNone ry ?_ | refine Is.eBool ry ?_ | refine Is.eRaw ry ?_ | refine Is.eMref ry ?_ | refine IsAll.eNil ry ?_ | (obtain rfl := ry.inv) | (obtain ⟨_, rfl⟩ := ry.inv) | cases ry); exact iadd_str (fun t' tk => k _ _ _ _ (S.toks _) (Le.refl _) (.str _ _) h) hsz

theorem JCmp.eqI (h : Φ (.bool (a == b)) hp) : JCmp B n hp .Eq (.int a) (.int b) Φ := fun A s x y ok S rx ry => Wp.of fun Q k => by
  (first | refine Is.eInt rx fun _ => ?_ | refine Is.eStr rx fun _ => ?_ | refine Is.eNone rx ?_ | refine Is.eBool rx ?_ | refine Is.eRaw rx ?_ | refine Is.eMref rx ?_ | refine IsAll.eNil rx ?_ | (obtain rfl := rx.inv) | (obtain ⟨_, rfl⟩ := rx.inv) | cases rx); (first | refine Is.eInt ry fun _ => ?_ | refine Is.eStr ry fun _ => ?_ | refine Is.eNone ry ?_ | refine Is.eBool ry ?_ | refine Is.eRaw ry ?_ | refine Is.eMref ry ?_ | refine IsAll.eNil ry ?_ | (obtain rfl := ry.inv) | (obtain ⟨_, rfl⟩ := ry.inv) | cases ry); exact eq_int (k _ _ _ _ S (Le.refl _) (.bool _) h)
theorem JCmp.neI (h : Φ (.bool (a != b)) hp) : JCmp B n hp .NotEq (.int a) (.int b) Φ := fun A s x y ok S rx ry => Wp.of fun Q k => by
  (first | refine Is.eInt rx fun _ => ?_ | refine Is.eStr rx fun _ => ?_ | refine Is.eNone rx ?_ | refine Is.eBool rx ?_ | refine Is.eRaw rx ?_ | refine Is.eMref rx ?_ | refine IsAll.eNil rx ?_ | (obtain rfl := rx.inv) | (obtain ⟨_, rfl⟩ := rx.inv) | cases rx); (first | refine Is.eInt ry fun _ => ?_ | refine Is.eStr ry fun _ => ?_ | refine Is.eNone ry ?_ | refine Is.eBool ry ?_ | refine Is.eRaw ry ?_ | refine Is.eMref ry ?_ | refine IsAll.eNil ry ?_ | (obtain rfl := ry.inv) | (obtain ⟨_, rfl⟩ := ry.inv) | cases ry); exact ne_int (k _ _ _ _ S (Le.refl _) (.bool _) h)
theorem JCmp.ltI (h : Φ (.bool (decide (a < b))) hp) : JCmp B n hp .Lt (.int a) (.int b) Φ := fun A s x y ok S rx ry => Wp.of fun Q k => by
  (first | refine Is.eInt rx fun _ => ?_ | refine Is.eStr rx fun _ => ?_ | refine Is.eNone rx ?_ | refine Is.eBool rx ?_ | refine Is.eRaw rx ?_ | refine Is.eMref rx ?_ | refine IsAll.eNil rx ?_ | (obtain rfl := rx.inv) | (obtain ⟨_, rfl⟩ := rx.inv) | cases rx); (first | refine Is.eInt ry fun _ => ?_ | refine Is.eStr ry fun _ => ?_ | refine Is.eNone ry ?_ | refine Is.eBool ry ?_ | refine Is.eRaw ry ?_ | refine Is.eMref ry ?_ | refine IsAll.eNil ry ?_ | (obtain rfl := ry.inv) | (obtain ⟨_, rfl⟩ := ry.inv) | cases ry); exact lt_int (k _ _ _ _ S (Le.refl _) (.bool _) h)
theorem JCmp.gtI (h : Φ (.bool (decide (b < a))) hp) : JCmp B n hp .Gt (.int a) (.int b) Φ := fun A s x y ok S rx ry => Wp.of fun Q k => by
  (first | refine Is.eInt rx fun _ => ?_ | refine Is.eStr rx fun _ => ?_ | refine Is.eNone rx ?_ | refine Is.eBool rx ?_ | refine Is.eRaw rx ?_ | refine Is.eMref rx ?_ | refine IsAll.eNil rx ?_ | (obtain rfl := rx.inv) | (obtain ⟨_, rfl⟩ := rx.inv) | cases rx); (first | refine Is.eInt ry fun _ => ?_ | refine Is.eStr ry fun _ => ?_ | refine Is.eNone ry ?_ | refine Is.eBool ry ?_ | refine Is.eRaw ry ?_ | refine Is.eMref ry ?_ | refine IsAll.eNil ry ?_ | (obtain rfl := ry.inv) | (obtain ⟨_, rfl⟩ := ry.inv) | cases ry); exact gt_int (k _ _ _ _ S (Le.refl _) (.bool _) h)
theorem JCmp.geI (h : Φ (.bool (decide (b ≤ a))) hp) : JCmp B n hp .GtE (.int a) (.int b) Φ := fun A s x y ok S rx ry => Wp.of fun Q k => by
  (first | refine Is.eInt rx fun _ => ?_ | refine Is.eStr rx fun _ => ?_ | refine Is.eNone rx ?_ | refine Is.eBool rx ?_ | refine Is.eRaw rx ?_ | refine Is.eMref rx ?_ | refine IsAll.eNil rx ?_ | (obtain rfl := rx.inv) | (obtain ⟨_, rfl⟩ := rx.inv) | cases rx); (first | refine Is.eInt ry fun _ => ?_ | refine Is.eStr ry fun _ => ?_ | refine Is.eNone ry ?_ | refine Is.eBool ry ?_ | refine Is.eRaw ry ?_ | refine Is.eMref ry ?_ | refine IsAll.eNil ry ?_ | (obtain rfl := ry.inv) | (obtain ⟨_, rfl⟩ := ry.inv) | cases ry); exact ge_int (k _ _ _ _ S (Le.refl _) (.bool _) h)
theorem JCmp.eqS (h : Φ (.bool (x == y)) hp) : JCmp B n hp .Eq (.str x) (.str y) Φ := fun A s x y ok S rx ry => Wp.of fun Q k => by
  (first | refine Is.eInt rx fun _ => ?_ | refine Is.eStr rx fun _ => ?_ | refine Is.eNone rx ?_ | refine Is.eBool rx ?_ | refine Is.eRaw rx ?_ | refine Is.eMref rx ?_ | refine IsAll.eNil rx ?_ | (obtain rfl := rx.inv) | (obtain ⟨_, rfl⟩ := rx.inv) | cases rx); (first | refine Is.eInt ry fun _ => ?_ | refine Is.eStr ry fun _ => ?_ | refine Is.eNone ry ?_ | refine Is.eBool ry ?_ | refine Is.eRaw ry ?_ | refine Is.eMref ry ?_ | refine IsAll.eNil ry ?_ | (obtain rfl := ry.inv) | (obtain ⟨_, rfl⟩ := ry.inv) | cases ry); exact eq_str (k _ _ _ _ S (Le.refl _) (.bool _) h)
theorem JCmp.inS (h : Φ (.bool (PySem.Txt.contains y x)) hp) : JCmp B n hp .In (.str x) (.str y) Φ := fun A s x y ok S rx ry => Wp.of fun Q k => by
  (first | refine Is.eInt rx fun _ => ?_ | refine Is.eStr rx fun _ => ?_ | refine Is.eNone rx ?_ | refine Is.eBool rx ?_ | refine Is.eRaw rx ?_ | refine Is.eMref rx ?_ | refine IsAll.eNil rx ?_ | (obtain rfl := rx.inv) | (obtain ⟨_, rfl⟩ := rx.inv) | cases rx); (first | refine Is.eInt ry fun _ => ?_ | refine Is.eStr ry fun _ => ?_ | refine Is.eNone ry ?_ | refine Is.eBool ry ?_ | refine Is.eRaw ry ?_ | refine Is.eMref ry ?_ | refine IsAll.eNil ry ?_ | (obtain rfl := ry.inv) | (obtain ⟨_, rfl⟩ := ry.inv) | cases ry); exact SB.contains (k _ _ _ _ S (Le.refl _) (.bool _) h)

noncomputable def V.isKind : V → Option Value
  | .none => some .none
  | .bool b => some (.bool b)
  | .raw (.type t) => some (.type t)
  | _ => Option.none
theorem isKind_of {z : Z} {v w : Value} {x : V} (r : Is z v x) : x.isKind = some w → v = w :=
  Is.casesOn (motive_1 := fun v x _ => x.isKind = some w → v = w) r (fun e => Option.some.inj e) (fun _ e => Option.some.inj e) (fun _ _ e => none_no e) (fun _ _ e => none_no e) (fun u e => by cases u with | type => exact Option.some.inj e | _ => exact none_no e) (fun _ e => none_no e) (fun _ _ e => none_no e) (fun _ _ e => none_no e) (fun _ _ _ _ e => none_no e) (fun _ _ _ _ e => none_no e) (fun _ _ _ e => none_no e) (fun _ _ _ _ e => none_no e) (fun _ e => none_no e) (fun _ _ _ _ _ e => none_no e) (fun _ _ e => none_no e) (fun _ _ e => none_no e)
theorem JCmp.is {x y : V} {v w : Value} (hx : x.isKind = some v) (hy : y.isKind = some w) (hpl : PySem.plainIs v w = true) (h : Φ (.bool (v == w)) hp) : JCmp B n hp .Is x y Φ := fun A s x y ok S rx ry => Wp.of fun Q k => by
  rw [isKind_of rx hx, isKind_of ry hy]; exact wpAny_is_plain hpl (k _ _ _ _ S (Le.refl _) (.bool _) h)
theorem JCmp.isNot {x y : V} {v w : Value} (hx : x.isKind = some v) (hy : y.isKind = some w) (hpl : PySem.plainIs v w = true) (h : Φ (.bool (!(v == w))) hp) : JCmp B n hp .IsNot x y Φ := fun A s x y ok S rx ry => Wp.of fun Q k => by
  rw [isKind_of rx hx, isKind_of ry hy]; exact wpAny_isNot_plain hpl (k _ _ _ _ S (Le.refl _) (.bool _) h)
noncomputable def V.some' : V → Bool
  | .none => false
  | .raw _ => false
  | _ => true
theorem some_ne {z : Z} {v : Value} {x : V} (r : Is z v x) : x.some' = true → PySem.plainIs v .none = true ∧ (v == Value.none) = false :=
  Is.casesOn (motive_1 := fun v x _ => x.some' = true → PySem.plainIs v .none = true ∧ (v == Value.none) = false) r (fun e => Bool.noConfusion e) (fun _ _ => ⟨rfl, rfl⟩) (fun _ _ _ => ⟨rfl, rfl⟩) (fun _ _ _ => ⟨rfl, rfl⟩) (fun _ e => Bool.noConfusion e) (fun _ _ => ⟨rfl, rfl⟩) (fun _ _ _ => ⟨rfl, rfl⟩) (fun _ _ _ => ⟨rfl, rfl⟩) (fun _ _ _ _ _ => ⟨rfl, rfl⟩) (fun _ _ _ _ _ => ⟨rfl, rfl⟩) (fun _ _ _ _ => ⟨rfl, rfl⟩) (fun _ _ _ _ _ => ⟨rfl, rfl⟩) (fun _ _ => ⟨rfl, rfl⟩) (fun _ _ _ _ _ _ => ⟨rfl, rfl⟩) (fun _ _ _ => ⟨rfl, rfl⟩) (fun _ _ _ => ⟨rfl, rfl⟩)
theorem JCmp.isNone (e : Φ (.bool true) hp) : JCmp B n hp .Is .none .none Φ := JCmp.is (v := .none) (w := .none) rfl rfl rfl e
theorem JCmp.isNoneF {x : V} (hx : x.some' = true) (h : Φ (.bool false) hp) : JCmp B n hp .Is x .none Φ := fun A s x y ok S rx ry => Wp.of fun Q k => by
  (first | refine Is.eInt ry fun _ => ?_ | refine Is.eStr ry fun _ => ?_ | refine Is.eNone ry ?_ | refine Is.eBool ry ?_ | refine Is.eRaw ry ?_ | refine Is.eMref ry ?_ | refine IsAll.eNil ry ?_ | (obtain rfl := ry.inv) | (obtain ⟨_, rfl⟩ := ry.inv) | cases ry)
  obtain ⟨h1, h2⟩ := some_ne rx hx
  exact wpAny_is_plain h1 (by rw [h2]; exact k _ _ _ _ S (Le.refl _) (.bool _) h)
theorem JCmp.isNotNoneT {x : V} (hx : x.some' = true) (h : Φ (.bool true) hp) : JCmp B n hp .IsNot x .none Φ := fun A s x y ok S rx ry => Wp.of fun Q k => by
  (first | refine Is.eInt ry fun _ => ?_ | refine Is.eStr ry fun _ => ?_ | refine Is.eNone ry ?_ | refine Is.eBool ry ?_ | refine Is.eRaw ry ?_ | refine Is.eMref ry ?_ | refine IsAll.eNil ry ?_ | (obtain rfl := ry.inv) | (obtain ⟨_, rfl⟩ := ry.inv) | cases ry)
  obtain ⟨h1, h2⟩ := some_ne rx hx
  exact wpAny_isNot_plain h1 (by rw [h2]; exact k _ _ _ _ S (Le.refl _) (.bool _) h)
theorem JCmp.isNotNoneF (h : Φ (.bool false) hp) : JCmp B n hp .IsNot .none .none Φ := JCmp.isNot (v := .none) (w := .none) rfl rfl rfl h

theorem JTru.bool {c : Bool} (h : Θ c hp) : JTru B n hp (.bool c) Θ := fun A s x ok S r => Wp.of fun Q k => by
  (first | refine Is.eInt r fun _ => ?_ | refine Is.eStr r fun _ => ?_ | refine Is.eNone r ?_ | refine Is.eBool r ?_ | refine Is.eRaw r ?_ | refine Is.eMref r ?_ | refine IsAll.eNil r ?_ | (obtain rfl := r.inv) | (obtain ⟨_, rfl⟩ := r.inv) | cases r); exact wpAny_truthy_bool (k _ _ _ _ S (Le.refl _) rfl h)
theorem JTru.int (h : Θ (a != 0) hp) : JTru B n hp (.int a) Θ := fun A s x ok S r => Wp.of fun Q k => by
  (first | refine Is.eInt r fun _ => ?_ | refine Is.eStr r fun _ => ?_ | refine Is.eNone r ?_ | refine Is.eBool r ?_ | refine Is.eRaw r ?_ | refine Is.eMref r ?_ | refine IsAll.eNil r ?_ | (obtain rfl := r.inv) | (obtain ⟨_, rfl⟩ := r.inv) | cases r); exact truthy_int (k _ _ _ _ S (Le.refl _) rfl h)
theorem JTru.none (h : Θ false hp) : JTru B n hp .none Θ := fun A s x ok S r => Wp.of fun Q k => by
  (first | refine Is.eInt r fun _ => ?_ | refine Is.eStr r fun _ => ?_ | refine Is.eNone r ?_ | refine Is.eBool r ?_ | refine Is.eRaw r ?_ | refine Is.eMref r ?_ | refine IsAll.eNil r ?_ | (obtain rfl := r.inv) | (obtain ⟨_, rfl⟩ := r.inv) | cases r); exact truthy_none (k _ _ _ _ S (Le.refl _) rfl h)
theorem JTru.mref {l : Addr} {xs : List V} (hm : (l, AObj.list xs) ∈ hp) (hz : xs.length ≤ 16777216) (h : Θ (!xs.isEmpty) hp) : JTru B n hp (.mref l) Θ := fun A s x ok S r => Wp.of fun Q k => by
  (first | refine Is.eInt r fun _ => ?_ | refine Is.eStr r fun _ => ?_ | refine Is.eNone r ?_ | refine Is.eBool r ?_ | refine Is.eRaw r ?_ | refine Is.eMref r ?_ | refine IsAll.eNil r ?_ | (obtain rfl := r.inv) | (obtain ⟨_, rfl⟩ := r.inv) | cases r)
  obtain ⟨items, hl, rs⟩ := isListM_of (S.objs _ hm)
  have e := rs.length
  rw [Array.length_toList] at e
  refine wpAny_truthy_list hl (by omega) ?_
  have e' : (!items.isEmpty) = !xs.isEmpty := by
    cases xs with
    | nil => have : items.size = 0 := by simpa using e
             simp [Array.isEmpty, this]
    | cons p q => have : items.size ≠ 0 := by simp at e; omega
                  simp [Array.isEmpty, this]
  rw [e']
  exact k _ _ _ _ (S.toks _) (Le.refl _) rfl h
theorem JTru.lst {xs : List V} (hz : xs.length ≤ 16777216) (h : Θ (!xs.isEmpty) hp) : JTru B n hp (.lst xs) Θ := fun A s x ok S r => Wp.of fun Q k => by
  obtain ⟨l, items, m, rfl, hl, rs⟩ := r.inv
  next =>
    have e := rs.length
    rw [Array.length_toList] at e
    refine wpAny_truthy_list (items := items) ⟨_, zof_le _ _ hl, rfl, _, rfl⟩ (by omega) ?_
    have e' : (!items.isEmpty) = !xs.isEmpty := by
      cases xs with
      | nil => have : items.size = 0 := by simpa using e
               simp [Array.isEmpty, this]
      | cons p q => have : items.size ≠ 0 := by simp at e; omega
                    simp [Array.isEmpty, this]
    rw [e']
    exact k _ _ _ _ (S.toks _) (Le.refl _) rfl h
end
end Mine

set_option maxRecDepth 100000
set_option linter.unusedVariables false
namespace Mine
open PySem PySem.W PySem.Calls PyProof.Rows

section
variable {B : Base} {n : Nat} {env : Env} {hp hp' : Hp} {pos : Pos} {Φ : V → Hp → Prop} {Θ : Bool → Hp → Prop} {Ξ : V → List V → Hp → Prop} {Υ : Hp → Prop} {a b : Int} {x y : Str}

theorem JM.str {name : Str} {id : String} (slot : Slot "str" name id) (ty : typeOf (.builtin id) = pure (.type "method_descriptor")) (h : Ξ (.raw (.builtin id)) [.str x] hp) : JM B n hp (.str x) name Ξ := fun A s v pl ok S r => Wp.of fun Q k => by
  (first | refine Is.eInt r fun _ => ?_ | refine Is.eStr r fun _ => ?_ | refine Is.eNone r ?_ | refine Is.eBool r ?_ | refine Is.eRaw r ?_ | refine Is.eMref r ?_ | refine IsAll.eNil r ?_ | (obtain rfl := r.inv) | (obtain ⟨_, rfl⟩ := r.inv) | cases r)
  exact GM.of _ (typeIs_str _ _ _) slot ty GM.noRef (k _ (.raw (.builtin id), [.str x]) _ _ S (Le.refl _) ⟨.raw _, .cons (.str _ _) .nil⟩ h)
theorem one_arg {z : Z} {vs : List Value} {x : V} (r : IsAll z vs [x]) : ∃ v, vs = [v] ∧ Is z v x := by
  obtain ⟨_, _, rfl, h, t⟩ := r.inv
  next => cases t; exact ⟨_, rfl, h⟩
theorem two_args {z : Z} {vs : List Value} {x y : V} (r : IsAll z vs [x, y]) : ∃ v w, vs = [v, w] ∧ Is z v x ∧ Is z w y := by
  obtain ⟨_, _, rfl, h, t⟩ := r.inv
  next => obtain ⟨w, rfl, h'⟩ := one_arg t; exact ⟨_, _, rfl, h, h'⟩
theorem no_kw {kvs : List (Str × Value)} (e : kvs.map (·.1) = ([] : List (Str × V)).map (·.1)) : kvs = [] := by
  cases kvs with
  | nil => rfl
  | cons _ _ => cases e
theorem JC.lower (hz : (Txt.lower x).length ≤ 16777216) (h : Φ (.str (Txt.lower x)) hp) : JC B n hp (.raw (.builtin "str.lower")) [.str x] [] Φ := fun A s fv vs kvs ok S rf rv ek rk => Wp.of fun Q k => by
  (first | refine Is.eInt rf fun _ => ?_ | refine Is.eStr rf fun _ => ?_ | refine Is.eNone rf ?_ | refine Is.eBool rf ?_ | refine Is.eRaw rf ?_ | refine Is.eMref rf ?_ | refine IsAll.eNil rf ?_ | (obtain rfl := rf.inv) | (obtain ⟨_, rfl⟩ := rf.inv) | cases rf); obtain ⟨v, rfl, r⟩ := one_arg rv; (first | refine Is.eInt r fun _ => ?_ | refine Is.eStr r fun _ => ?_ | refine Is.eNone r ?_ | refine Is.eBool r ?_ | refine Is.eRaw r ?_ | refine Is.eMref r ?_ | refine IsAll.eNil r ?_ | (obtain rfl := r.inv) | (obtain ⟨_, rfl⟩ := r.inv) | cases r); cases no_kw ek
  refine call_gives F.slot_str_lower (typeIs_str _ _ _) F.entry_str_lower (F.args_str_lower_1 _) (gives_str_lower _ _ ?_) ?_
  · simp [Builtin.Str.tooLong, sizeLine]; exact hz
  · exact ⟨hz, k _ _ _ _ (S.toks _) (Le.refl _) (.str _ _) h⟩
theorem JC.upper (hz : (Txt.upper x).length ≤ 16777216) (h : Φ (.str (Txt.upper x)) hp) : JC B n hp (.raw (.builtin "str.upper")) [.str x] [] Φ := fun A s fv vs kvs ok S rf rv ek rk => Wp.of fun Q k => by
  (first | refine Is.eInt rf fun _ => ?_ | refine Is.eStr rf fun _ => ?_ | refine Is.eNone rf ?_ | refine Is.eBool rf ?_ | refine Is.eRaw rf ?_ | refine Is.eMref rf ?_ | refine IsAll.eNil rf ?_ | (obtain rfl := rf.inv) | (obtain ⟨_, rfl⟩ := rf.inv) | cases rf); obtain ⟨v, rfl, r⟩ := one_arg rv; (first | refine Is.eInt r fun _ => ?_ | refine Is.eStr r fun _ => ?_ | refine Is.eNone r ?_ | refine Is.eBool r ?_ | refine Is.eRaw r ?_ | refine Is.eMref r ?_ | refine IsAll.eNil r ?_ | (obtain rfl := r.inv) | (obtain ⟨_, rfl⟩ := r.inv) | cases r); cases no_kw ek
  refine call_gives F.slot_str_upper (typeIs_str _ _ _) F.entry_str_upper (F.args_str_upper_1 _) (gives_str_upper _ _ ?_) ?_
  · simp [Builtin.Str.tooLong, sizeLine]; exact hz
  · exact ⟨hz, k _ _ _ _ (S.toks _) (Le.refl _) (.str _ _) h⟩
theorem JC.count (h : Φ (.int (Txt.count x y)) hp) : JC B n hp (.raw (.builtin "str.count")) [.str x, .str y] [] Φ := fun A s fv vs kvs ok S rf rv ek rk => Wp.of fun Q k => by
  (first | refine Is.eInt rf fun _ => ?_ | refine Is.eStr rf fun _ => ?_ | refine Is.eNone rf ?_ | refine Is.eBool rf ?_ | refine Is.eRaw rf ?_ | refine Is.eMref rf ?_ | refine IsAll.eNil rf ?_ | (obtain rfl := rf.inv) | (obtain ⟨_, rfl⟩ := rf.inv) | cases rf); obtain ⟨v, w, rfl, r, r'⟩ := two_args rv; (first | refine Is.eInt r fun _ => ?_ | refine Is.eStr r fun _ => ?_ | refine Is.eNone r ?_ | refine Is.eBool r ?_ | refine Is.eRaw r ?_ | refine Is.eMref r ?_ | refine IsAll.eNil r ?_ | (obtain rfl := r.inv) | (obtain ⟨_, rfl⟩ := r.inv) | cases r); (first | refine Is.eInt r' fun _ => ?_ | refine Is.eStr r' fun _ => ?_ | refine Is.eNone r' ?_ | refine Is.eBool r' ?_ | refine Is.eRaw r' ?_ | refine Is.eMref r' ?_ | refine IsAll.eNil r' ?_ | (obtain rfl := r'.inv) | (obtain ⟨_, rfl⟩ := r'.inv) | cases r'); cases no_kw ek
  exact call_gives F.slot_str_count (typeIs_str _ _ _) F.entry_str_count (F.args_str_count_2 _ _) (gives_str_count _ _ _ _) (k _ _ _ _ (S.toks _) (Le.refl _) (.int _ _) h)
theorem JC.index {i : Nat} {rest : List Nat} (ho : Builtin.Str.occurrences x y 0 x.length 1 = i :: rest) (h : Φ (.int i) hp) : JC B n hp (.raw (.builtin "str.index")) [.str x, .str y] [] Φ := fun A s fv vs kvs ok S rf rv ek rk => Wp.of fun Q k => by
  (first | refine Is.eInt rf fun _ => ?_ | refine Is.eStr rf fun _ => ?_ | refine Is.eNone rf ?_ | refine Is.eBool rf ?_ | refine Is.eRaw rf ?_ | refine Is.eMref rf ?_ | refine IsAll.eNil rf ?_ | (obtain rfl := rf.inv) | (obtain ⟨_, rfl⟩ := rf.inv) | cases rf); obtain ⟨v, w, rfl, r, r'⟩ := two_args rv; (first | refine Is.eInt r fun _ => ?_ | refine Is.eStr r fun _ => ?_ | refine Is.eNone r ?_ | refine Is.eBool r ?_ | refine Is.eRaw r ?_ | refine Is.eMref r ?_ | refine IsAll.eNil r ?_ | (obtain rfl := r.inv) | (obtain ⟨_, rfl⟩ := r.inv) | cases r); (first | refine Is.eInt r' fun _ => ?_ | refine Is.eStr r' fun _ => ?_ | refine Is.eNone r' ?_ | refine Is.eBool r' ?_ | refine Is.eRaw r' ?_ | refine Is.eMref r' ?_ | refine IsAll.eNil r' ?_ | (obtain rfl := r'.inv) | (obtain ⟨_, rfl⟩ := r'.inv) | cases r'); cases no_kw ek
  exact call_gives F.slot_str_index (typeIs_str _ _ _) F.entry_str_index (F.args_str_index_2 _ _) (gives_str_index _ _ _ _ i rest ho) (k _ _ _ _ (S.toks _) (Le.refl _) (.int _ _) h)
theorem JC.lenStr (hz : x.length ≤ 16777216) (h : Φ (.int x.length) hp) : JC B n hp (.raw (.builtin "len")) [.str x] [] Φ := fun A s fv vs kvs ok S rf rv ek rk => Wp.of fun Q k => by
  (first | refine Is.eInt rf fun _ => ?_ | refine Is.eStr rf fun _ => ?_ | refine Is.eNone rf ?_ | refine Is.eBool rf ?_ | refine Is.eRaw rf ?_ | refine Is.eMref rf ?_ | refine IsAll.eNil rf ?_ | (obtain rfl := rf.inv) | (obtain ⟨_, rfl⟩ := rf.inv) | cases rf); obtain ⟨v, rfl, r⟩ := one_arg rv; (first | refine Is.eInt r fun _ => ?_ | refine Is.eStr r fun _ => ?_ | refine Is.eNone r ?_ | refine Is.eBool r ?_ | refine Is.eRaw r ?_ | refine Is.eMref r ?_ | refine IsAll.eNil r ?_ | (obtain rfl := r.inv) | (obtain ⟨_, rfl⟩ := r.inv) | cases r); cases no_kw ek
  exact len_str (by omega) (k _ _ _ _ (S.toks _) (Le.refl _) (.int _ _) h)
theorem JC.strInt (ha : a.natAbs.log2 < 1920) (h : Φ (.str (Str.ofString (toString a))) hp) : JC B n hp (.raw (.type "str")) [.int a] [] Φ := fun A s fv vs kvs ok S rf rv ek rk => Wp.of fun Q k => by
  (first | refine Is.eInt rf fun _ => ?_ | refine Is.eStr rf fun _ => ?_ | refine Is.eNone rf ?_ | refine Is.eBool rf ?_ | refine Is.eRaw rf ?_ | refine Is.eMref rf ?_ | refine IsAll.eNil rf ?_ | (obtain rfl := rf.inv) | (obtain ⟨_, rfl⟩ := rf.inv) | cases rf); obtain ⟨v, rfl, r⟩ := one_arg rv; (first | refine Is.eInt r fun _ => ?_ | refine Is.eStr r fun _ => ?_ | refine Is.eNone r ?_ | refine Is.eBool r ?_ | refine Is.eRaw r ?_ | refine Is.eMref r ?_ | refine IsAll.eNil r ?_ | (obtain rfl := r.inv) | (obtain ⟨_, rfl⟩ := r.inv) | cases r); cases no_kw ek
  exact P.str_of_int ha (k _ _ _ _ (S.toks _) (Le.refl _) (.str _ _) h)
theorem noPy_of {v : Value} {T id : String} {s : Shared} {A : Around} {M : Model} {E : Value → Shared → Prop} {Q : Bool → Shared → Prop} (hT : s.TypeIs v T) (slot : Slot T "__getitem__" id) (h : Q false s) : wpAny M A (getitemInPython v) Q E s := by
  unfold getitemInPython
  exact wpAny_bind (wpAny_specialOf hT slot.lookup (wpAny_pure h))
theorem NoPyItem.str : NoPyItem B hp (.str x) := fun A s v S r Q h => by
  (first | refine Is.eInt r fun _ => ?_ | refine Is.eStr r fun _ => ?_ | refine Is.eNone r ?_ | refine Is.eBool r ?_ | refine Is.eRaw r ?_ | refine Is.eMref r ?_ | refine IsAll.eNil r ?_ | (obtain rfl := r.inv) | (obtain ⟨_, rfl⟩ := r.inv) | cases r)
  exact noPy_of (typeIs_str _ _ _) F.slot_str_getitem h
theorem NoPyItem.lst {xs : List V} : NoPyItem B hp (.lst xs) := fun A s v S r Q h => by
  obtain ⟨_, _, _, rfl, e, _⟩ := r.inv
  next => exact noPy_of (T := "list") ⟨_, zof_le _ _ e, rfl⟩ slot_list_getitem h
theorem NoPyItem.tup {xs : List V} : NoPyItem B hp (.tup xs) := fun A s v S r Q h => by
  obtain ⟨_, _, _, rfl, e, _⟩ := r.inv
  next => exact noPy_of (T := "tuple") ⟨_, zof_le _ _ e, rfl⟩ F.slot_tuple_getitem h
theorem NoPyItem.mref {l : Addr} {xs : List V} (hm : (l, AObj.list xs) ∈ hp) : NoPyItem B hp (.mref l) := fun A s v S r Q h => by
  (first | refine Is.eInt r fun _ => ?_ | refine Is.eStr r fun _ => ?_ | refine Is.eNone r ?_ | refine Is.eBool r ?_ | refine Is.eRaw r ?_ | refine Is.eMref r ?_ | refine IsAll.eNil r ?_ | (obtain rfl := r.inv) | (obtain ⟨_, rfl⟩ := r.inv) | cases r)
  obtain ⟨items, m, e, _⟩ := S.objs _ hm
  exact noPy_of (T := "list") ⟨_, e, rfl⟩ slot_list_getitem h
theorem part_of {v : Value} {k : Option Int} (p : IsPart v k) : ∃ q : Option (Int × Tok), v = partValue q ∧ q.map (·.1) = k := by
  cases p with
  | none => exact ⟨none, rfl, rfl⟩
  | int i t => exact ⟨some (i, t), rfl, rfl⟩
theorem JGi.strSl {l u : Option Int} (hz : x.length ≤ 16777216) (h : Φ (.str (Txt.slice x l u)) hp) : JGi B n hp (.str x) (.sl l u none) Φ := fun A s v w ok S r r' => Wp.of fun Q k => by
  (first | refine Is.eInt r fun _ => ?_ | refine Is.eStr r fun _ => ?_ | refine Is.eNone r ?_ | refine Is.eBool r ?_ | refine Is.eRaw r ?_ | refine Is.eMref r ?_ | refine IsAll.eNil r ?_ | (obtain rfl := r.inv) | (obtain ⟨_, rfl⟩ := r.inv) | cases r)
  obtain ⟨_, _, _, _, rfl, e, p1, p2, p3⟩ := r'.inv
  next =>
    obtain ⟨q1, rfl, rfl⟩ := part_of p1
    obtain ⟨q2, rfl, rfl⟩ := part_of p2
    (first | refine Is.eInt p3 fun _ => ?_ | refine Is.eStr p3 fun _ => ?_ | refine Is.eNone p3 ?_ | refine Is.eBool p3 ?_ | refine Is.eRaw p3 ?_ | refine Is.eMref p3 ?_ | refine IsAll.eNil p3 ?_ | (obtain rfl := p3.inv) | (obtain ⟨_, rfl⟩ := p3.inv) | cases p3)
    refine wpAny_getItem_str_slice (l := q1) (u := q2) (st := none) ⟨_, zof_le _ _ e, rfl, rfl⟩ rfl ?_
    exact post_val_or_str ⟨Nat.le_trans (Txt.slice_le x _ _) hz, fun t' tk => k _ _ _ _ (S.toks _) (Le.refl _) (.str _ _) h⟩
theorem JGi.str (hr : fitsSsize a = true) (hin : (Txt.charAt x a).isSome = true) (h : Φ (.str (Txt.item x a)) hp) : JGi B n hp (.str x) (.int a) Φ := fun A s v w ok S r r' => Wp.of fun Q k => by
  (first | refine Is.eInt r fun _ => ?_ | refine Is.eStr r fun _ => ?_ | refine Is.eNone r ?_ | refine Is.eBool r ?_ | refine Is.eRaw r ?_ | refine Is.eMref r ?_ | refine IsAll.eNil r ?_ | (obtain rfl := r.inv) | (obtain ⟨_, rfl⟩ := r.inv) | cases r); (first | refine Is.eInt r' fun _ => ?_ | refine Is.eStr r' fun _ => ?_ | refine Is.eNone r' ?_ | refine Is.eBool r' ?_ | refine Is.eRaw r' ?_ | refine Is.eMref r' ?_ | refine IsAll.eNil r' ?_ | (obtain rfl := r'.inv) | (obtain ⟨_, rfl⟩ := r'.inv) | cases r')
  exact SB.getItem hr hin (k _ _ _ _ (S.toks _) (Le.refl _) (.str _ _) h)
theorem JM.int_bits (h : Ξ (.raw (.builtin "int.bit_length")) [.int a] hp) : JM B n hp (.int a) "bit_length" Ξ := fun A s v pl ok S r => Wp.of fun Q k => by
  (first | refine Is.eInt r fun _ => ?_ | refine Is.eStr r fun _ => ?_ | refine Is.eNone r ?_ | refine Is.eBool r ?_ | refine Is.eRaw r ?_ | refine Is.eMref r ?_ | refine IsAll.eNil r ?_ | (obtain rfl := r.inv) | (obtain ⟨_, rfl⟩ := r.inv) | cases r)
  exact getMethod_int_bit_length (k _ (.raw (.builtin "int.bit_length"), [.int a]) _ _ S (Le.refl _) ⟨.raw _, .cons (.int _ _) .nil⟩ h)
theorem JC.bits (h : Φ (.int ((Builtin.Int.intBits a : Nat) : Int)) hp) : JC B n hp (.raw (.builtin "int.bit_length")) [.int a] [] Φ := fun A s fv vs kvs ok S rf rv ek rk => Wp.of fun Q k => by
  (first | refine Is.eInt rf fun _ => ?_ | refine Is.eStr rf fun _ => ?_ | refine Is.eNone rf ?_ | refine Is.eBool rf ?_ | refine Is.eRaw rf ?_ | refine Is.eMref rf ?_ | refine IsAll.eNil rf ?_ | (obtain rfl := rf.inv) | (obtain ⟨_, rfl⟩ := rf.inv) | cases rf); obtain ⟨v, rfl, r⟩ := one_arg rv; (first | refine Is.eInt r fun _ => ?_ | refine Is.eStr r fun _ => ?_ | refine Is.eNone r ?_ | refine Is.eBool r ?_ | refine Is.eRaw r ?_ | refine Is.eMref r ?_ | refine IsAll.eNil r ?_ | (obtain rfl := r.inv) | (obtain ⟨_, rfl⟩ := r.inv) | cases r); cases no_kw ek
  exact call_gives slot_int_bit_length (typeIs_int _ _ _) entry_int_bit_length (args_int_bit_length _) (AutoIntG2.int_bit_length_int_0 _ _) (k _ _ _ _ (S.toks _) (Le.refl _) (.int _ _) h)
end
end Mine

set_option maxRecDepth 100000
set_option linter.unusedVariables false
namespace Mine
open PySem PySem.W PySem.Calls PyProof.Rows

section
variable {B : Base} {n : Nat} {env : Env} {hp hp' : Hp} {pos : Pos} {Φ : V → Hp → Prop} {Θ : Bool → Hp → Prop} {Ξ : V → List V → Hp → Prop} {Υ : Hp → Prop} {a b : Int} {x y : Str}

inductive LstOf (hp : Hp) : V → List V → Prop
  | lst (xs : List V) : LstOf hp (.lst xs) xs
  | mref {l : Addr} {xs : List V} : (l, AObj.list xs) ∈ hp → LstOf hp (.mref l) xs
theorem LstOf.at {s : Shared} {v : V} {xs : List V} {val : Value} (S : St B hp s) (h : LstOf hp v xs) (r : Is (zof hp s.heap) val v) : ∃ a items n, val = .ref a ∧ s.heap.get? a = some { cls := .type "list", data := .seq items n } ∧ IsAll (zof hp s.heap) items.toList xs := by
  cases h with
  | lst => cases r with
    | lst e r => exact ⟨_, _, _, rfl, zof_le _ _ e, r⟩
  | mref hm => (first | refine Is.eInt r fun _ => ?_ | refine Is.eStr r fun _ => ?_ | refine Is.eNone r ?_ | refine Is.eBool r ?_ | refine Is.eRaw r ?_ | refine Is.eMref r ?_ | refine IsAll.eNil r ?_ | (obtain rfl := r.inv) | (obtain ⟨_, rfl⟩ := r.inv) | cases r); obtain ⟨items, n, e, r⟩ := S.objs _ hm; exact ⟨_, _, _, rfl, e, r⟩
theorem isL {h : Heap} {a : Addr} {items : Array Value} {n : Nat} (e : h.get? a = some { cls := .type "list", data := .seq items n }) : h.IsList a items := ⟨_, e, rfl, _, rfl⟩
theorem IsAll.size {z : Z} {items : Array Value} {xs : List V} (r : IsAll z items.toList xs) : items.size = xs.length := by rw [← r.length, Array.length_toList]
theorem NoPyItem.lstOf {v : V} {xs : List V} (h : LstOf hp v xs) : NoPyItem B hp v := by
  cases h with
  | lst => exact NoPyItem.lst
  | mref hm => exact NoPyItem.mref hm
theorem JM.list {name : Str} {id : String} {v : V} {xs : List V} (hl : LstOf hp v xs) (slot : Slot "list" name id) (ty : typeOf (.builtin id) = pure (.type "method_descriptor")) (h : Ξ (.raw (.builtin id)) [v] hp) : JM B n hp v name Ξ := fun A s val pl ok S r => Wp.of fun Q k => by
  obtain ⟨a, items, m, rfl, e, rs⟩ := hl.at S r
  exact getMethod_builtin ⟨_, e, rfl⟩ F.plainAttrs_list slot ty (fun b eb => by cases eb; exact ⟨_, e, rfl⟩) (k _ (.raw (.builtin id), [v]) _ _ S (Le.refl _) ⟨.raw _, .cons r .nil⟩ h)
theorem JGi.lst {v x : V} {xs : List V} {i : Int} (hl : LstOf hp v xs) (h0 : 0 ≤ i) (hfit : i < 2 ^ 63) (hx : xs[i.toNat]? = some x) (h : Φ x hp) : JGi B n hp v (.int i) Φ := fun A s val w ok S r r' => Wp.of fun Q k => by
  obtain ⟨a, items, m, rfl, e, rs⟩ := hl.at S r
  (first | refine Is.eInt r' fun _ => ?_ | refine Is.eStr r' fun _ => ?_ | refine Is.eNone r' ?_ | refine Is.eBool r' ?_ | refine Is.eRaw r' ?_ | refine Is.eMref r' ?_ | refine IsAll.eNil r' ?_ | (obtain rfl := r'.inv) | (obtain ⟨_, rfl⟩ := r'.inv) | cases r')
  obtain ⟨y, hy, ry⟩ := rs.get hx
  exact wpAny_getItem_list (isL e) h0 hfit (by simpa using hy) (k _ _ _ _ S (Le.refl _) ry h)
theorem JGi.lstNeg {v x : V} {xs : List V} {i : Int} (hl : LstOf hp v xs) (h0 : i < 0) (h1 : -(xs.length : Int) ≤ i) (hfit : -(2 ^ 63) ≤ i) (hx : xs[(i + xs.length).toNat]? = some x) (h : Φ x hp) : JGi B n hp v (.int i) Φ := fun A s val w ok S r r' => Wp.of fun Q k => by
  obtain ⟨a, items, m, rfl, e, rs⟩ := hl.at S r
  (first | refine Is.eInt r' fun _ => ?_ | refine Is.eStr r' fun _ => ?_ | refine Is.eNone r' ?_ | refine Is.eBool r' ?_ | refine Is.eRaw r' ?_ | refine Is.eMref r' ?_ | refine IsAll.eNil r' ?_ | (obtain rfl := r'.inv) | (obtain ⟨_, rfl⟩ := r'.inv) | cases r')
  obtain ⟨y, hy, ry⟩ := rs.get hx
  exact wpAny_getItem_list_neg (isL e) h0 (by rw [rs.size]; exact h1) hfit (by rw [rs.size]; simpa using hy) (k _ _ _ _ S (Le.refl _) ry h)
theorem JGi.tup {x : V} {xs : List V} {i : Int} {j : Nat} (hlo : -2 ^ 63 ≤ i) (hhi : i < 2 ^ 63) (hj : seqIndex? i xs.length = some j) (hx : xs[j]? = some x) (h : Φ x hp) : JGi B n hp (.tup xs) (.int i) Φ := fun A s val w ok S r r' => Wp.of fun Q k => by
  obtain ⟨_, _, _, rfl, e, rs⟩ := r.inv
  next =>
    (first | refine Is.eInt r' fun _ => ?_ | refine Is.eStr r' fun _ => ?_ | refine Is.eNone r' ?_ | refine Is.eBool r' ?_ | refine Is.eRaw r' ?_ | refine Is.eMref r' ?_ | refine IsAll.eNil r' ?_ | (obtain rfl := r'.inv) | (obtain ⟨_, rfl⟩ := r'.inv) | cases r')
    obtain ⟨y, hy, ry⟩ := rs.get hx
    exact P.getItem_tuple (zof_le _ _ e) hlo hhi (by rw [rs.size]; exact hj) (by simpa using hy) (k _ _ _ _ S (Le.refl _) ry h)
noncomputable def vpick (xs : List V) (lo hi st : Option Int) : List V := (sliceRange (sliceBounds lo hi st xs.length).1 (sliceBounds lo hi st xs.length).2.1 (sliceBounds lo hi st xs.length).2.2).filterMap (xs[·]?)
theorem pick_is {z : Z} {items : Array Value} {xs : List V} {lo hi st : Option Int} (r : IsAll z items.toList xs) : IsAll z (slicePick items lo hi st).toList (vpick xs lo hi st) := by
  unfold slicePick vpick
  rw [r.size]
  generalize sliceRange _ _ _ = l
  induction l with
  | nil => exact .nil
  | cons i l ih =>
    rw [List.filterMap_cons, List.filterMap_cons]
    cases q : xs[i]? with
    | none => rw [none_of r q]; exact ih
    | some x =>
      obtain ⟨y, hy, ry⟩ := r.get q
      have : items[i]? = some y := by simpa using hy
      rw [this]
      exact .cons ry ih
theorem JGi.lstSl {v : V} {xs : List V} {l u st : Option Int} (hl : LstOf hp v xs) (h0 : st ≠ some 0) (hz : xs.length ≤ 16777216) (h : Φ (.lst (vpick xs l u st)) hp) : JGi B n hp v (.sl l u st) Φ := fun A s val w ok S r r' => Wp.of fun Q k => by
  obtain ⟨a, items, m, rfl, e, rs⟩ := hl.at S r
  obtain ⟨_, _, _, _, rfl, es, p1, p2, p3⟩ := r'.inv
  next =>
    refine wpAny_getItem_list_slice (isL e) ⟨_, zof_le _ _ es, rfl, rfl⟩ p1 p2 p3 h0 ?_ (by rw [rs.size]; exact hz)
    have K := S.ext (tk := s.toks) (h' := s.heap.push { cls := .type "list", data := .seq (slicePick items l u st) }) fun _ _ e => Heap.get?_push_of_some _ e
    exact k _ _ _ _ K.1 K.2 (.lst (S.frozen (size_fresh _) (Heap.get?_push_size _ rfl)) ((pick_is rs).mono K.2)) h
theorem JGi.lstSlM {v : V} {xs : List V} {l u st : Option Int} (hl : LstOf hp v xs) (h0 : st ≠ some 0) (hz : xs.length ≤ 16777216) (h : ∀ a, Φ (.mref a) ((a, .list (vpick xs l u st)) :: hp)) : JGi B n hp v (.sl l u st) Φ := fun A s val w ok S r r' => Wp.of fun Q k => by
  obtain ⟨a, items, m, rfl, e, rs⟩ := hl.at S r
  obtain ⟨_, _, _, _, rfl, es, p1, p2, p3⟩ := r'.inv
  next =>
    refine wpAny_getItem_list_slice (isL e) ⟨_, zof_le _ _ es, rfl, rfl⟩ p1 p2 p3 h0 ?_ (by rw [rs.size]; exact hz)
    have K := S.add (tk := s.toks) (a := s.heap.objs.size) (ao := .list (vpick xs l u st)) (h' := s.heap.push { cls := .type "list", data := .seq (slicePick items l u st) }) (fun _ _ e => Heap.get?_push_of_some _ e) (size_fresh _) ⟨_, _, Heap.get?_push_size _ rfl, pick_is rs⟩
    exact k _ _ _ _ K.1 K.2 (.mref _) (h _)
noncomputable def JPart (B : Base) (n : Nat) (env : Env) (hp : Hp) (e : Option Expr) (Ω : Option Int → Hp → Prop) : Prop := ∀ A s, AOk n A → St B hp s → Wp B (fun _ v k => IsPart v k) A (valueOrNone (evalOpt e env)) hp s Ω
theorem JPart.none {Ω : Option Int → Hp → Prop} (h : Ω none hp) : JPart B n env hp none Ω := fun A s ok S => Wp.of fun Q k => wpAny_pure (k _ _ _ _ S (Le.refl _) .none h)
theorem JPart.some {e : Expr} {Ω : Option Int → Hp → Prop} (h : JE B n env hp e fun v hp₁ => ∃ i, v = .int i ∧ Ω (some i) hp₁) : JPart B n env hp (some e) Ω := fun A s ok S => Wp.of fun Q k => by
  refine (h A s ok S).use fun v x hp₁ s₁ S₁ L₁ r₁ h₁ => ?_
  obtain ⟨i, rfl, h₁⟩ := h₁
  (first | refine Is.eInt r₁ fun _ => ?_ | refine Is.eStr r₁ fun _ => ?_ | refine Is.eNone r₁ ?_ | refine Is.eBool r₁ ?_ | refine Is.eRaw r₁ ?_ | refine Is.eMref r₁ ?_ | refine IsAll.eNil r₁ ?_ | (obtain rfl := r₁.inv) | (obtain ⟨_, rfl⟩ := r₁.inv) | cases r₁)
  exact k _ _ _ _ S₁ L₁ (.int _ _) h₁
noncomputable abbrev slK3 (Φ : V → Hp → Prop) (l u k : Option Int) (hp : Hp) : Prop := Φ (.sl l u k) hp
noncomputable abbrev slK2 (B : Base) (n : Nat) (env : Env) (Φ : V → Hp → Prop) (st : Option Expr) (l u : Option Int) (hp : Hp) : Prop := JPart B n env hp st (slK3 Φ l u)
noncomputable abbrev slK1 (B : Base) (n : Nat) (env : Env) (Φ : V → Hp → Prop) (hi st : Option Expr) (l : Option Int) (hp : Hp) : Prop := JPart B n env hp hi (slK2 B n env Φ st l)
theorem JE.slice {lo hi st : Option Expr} (h : JPart B n env hp lo (slK1 B n env Φ hi st)) : JE B n env hp (.Slice lo hi st pos) Φ := fun A s ok S => Wp.of fun Q k => by
  rw [arm_eval_Slice]
  refine wpAny_bind ((h A s ok S).use fun v1 l hp₁ s₁ S₁ L₁ r₁ h₁ => wpAny_bind (wpAny_holding ((h₁ A s₁ ok S₁).use fun v2 u hp₂ s₂ S₂ L₂ r₂ h₂ => wpAny_bind (wpAny_holding ((h₂ A s₂ ok S₂).use fun v3 st hp₃ s₃ S₃ L₃ r₃ h₃ => ?_)))))
  have K := S₃.ext (tk := s₃.toks) (h' := s₃.heap.push { cls := .type "slice", data := .fields #[v1, v2, v3] }) fun _ _ e => Heap.get?_push_of_some _ e
  exact wpAny_newObj_type (k _ _ _ _ K.1 (((L₁.trans L₂).trans L₃).trans K.2) (.sl (S₃.frozen (size_fresh _) (Heap.get?_push_size _ rfl)) r₁ r₂ r₃) h₃)
theorem JC.lenLst {v : V} {xs : List V} (hl : LstOf hp v xs) (hz : xs.length ≤ 16777216) (h : Φ (.int xs.length) hp) : JC B n hp (.raw (.builtin "len")) [v] [] Φ := fun A s fv vs kvs ok S rf rv ek rk => Wp.of fun Q k => by
  (first | refine Is.eInt rf fun _ => ?_ | refine Is.eStr rf fun _ => ?_ | refine Is.eNone rf ?_ | refine Is.eBool rf ?_ | refine Is.eRaw rf ?_ | refine Is.eMref rf ?_ | refine IsAll.eNil rf ?_ | (obtain rfl := rf.inv) | (obtain ⟨_, rfl⟩ := rf.inv) | cases rf); obtain ⟨v, rfl, r⟩ := one_arg rv; cases no_kw ek
  obtain ⟨a, items, m, rfl, e, rs⟩ := hl.at S r
  refine call_len_list (isL e) (by rw [rs.size]; omega) ?_
  rw [rs.size]
  exact k _ _ _ _ (S.toks _) (Le.refl _) (.int _ _) h
theorem seq_update {items its' : Array Value} {m : Nat} {l : Addr} {h : Heap} {f : Array Value → Array Value} (e : h.get? l = some { cls := .type "list", data := .seq items m }) (hf : f items = its') : ∃ m', (h.update l (Obj.mapSeq f)).get? l = some { cls := .type "list", data := .seq its' m' } := by
  rw [Heap.get?_update_self _ e rfl]
  simp only [Obj.mapSeq, hf]
  exact ⟨_, rfl⟩
theorem JC.append {l : Addr} {v : V} {xs : List V} (hz : xs.length < 16777216) (U : Upd hp l (.list xs) (.list (xs ++ [v])) hp') (h : Φ .none hp') : JC B n hp (.raw (.builtin "list.append")) [.mref l, v] [] Φ := fun A s fv vs kvs ok S rf rv ek rk => Wp.of fun Q k => by
  (first | refine Is.eInt rf fun _ => ?_ | refine Is.eStr rf fun _ => ?_ | refine Is.eNone rf ?_ | refine Is.eBool rf ?_ | refine Is.eRaw rf ?_ | refine Is.eMref rf ?_ | refine IsAll.eNil rf ?_ | (obtain rfl := rf.inv) | (obtain ⟨_, rfl⟩ := rf.inv) | cases rf); obtain ⟨p, q, rfl, r, r'⟩ := two_args rv; (first | refine Is.eInt r fun _ => ?_ | refine Is.eStr r fun _ => ?_ | refine Is.eNone r ?_ | refine Is.eBool r ?_ | refine Is.eRaw r ?_ | refine Is.eMref r ?_ | refine IsAll.eNil r ?_ | (obtain rfl := r.inv) | (obtain ⟨_, rfl⟩ := r.inv) | cases r); cases no_kw ek
  obtain ⟨items, m, e, rs⟩ := S.objs _ U.mem
  refine wpAny_call_entry slot_list_append (T := "list") ⟨_, e, rfl⟩ entry_list_append ?_ (args_list_append _ _)
  show wpAny _ _ (updateSeq l (·.push q) >>= fun _ => ret .none) _ _ s
  have hz1 : items.size < 16777216 := by rw [rs.size]; exact hz
  refine wpAny_bind (wpAny_updateSeq e rfl (wpAny_pure ⟨.none, rfl, ?_⟩) (by show items.size ≤ 16777216; omega) (by rw [Array.size_push]; show items.size + 1 ≤ 16777216 + 1; omega))
  obtain ⟨m', e'⟩ := seq_update e (f := (·.push q)) rfl
  have K := S.set (tk := s.toks) (h' := s.heap.update l fun o => o.mapSeq (·.push q)) U (Heap.SameBut.update ..).extBut ⟨items.push q, m', e', by rw [Array.toList_push]; exact IsAll.append (.cons r' .nil) rs⟩
  exact k _ _ _ _ K.1 K.2 .none h
theorem IsAll.split {z : Z} : ∀ {vs : List Value} {xs : List V} {y : V}, IsAll z vs (xs ++ [y]) → ∃ ws w, vs = ws ++ [w] ∧ IsAll z ws xs ∧ Is z w y
  | _, [], _, h => by
    obtain ⟨w, rfl, h2⟩ := one_arg (z := z) (x := _) h
    exact ⟨[], w, rfl, .nil, h2⟩
  | _, x :: xs, _, h => by
    obtain ⟨_, _, rfl, h', t⟩ := h.inv
    obtain ⟨ws, w, rfl, h1, h2⟩ := IsAll.split t
    exact ⟨_ :: ws, w, rfl, .cons h' h1, h2⟩
theorem JC.pop {l : Addr} {y : V} {xs : List V} (U : Upd hp l (.list (xs ++ [y])) (.list xs) hp') (hz : xs.length < 16777216) (h : Φ y hp') : JC B n hp (.raw (.builtin "list.pop")) [.mref l] [] Φ := fun A s fv vs kvs ok S rf rv ek rk => Wp.of fun Q k => by
  (first | refine Is.eInt rf fun _ => ?_ | refine Is.eStr rf fun _ => ?_ | refine Is.eNone rf ?_ | refine Is.eBool rf ?_ | refine Is.eRaw rf ?_ | refine Is.eMref rf ?_ | refine IsAll.eNil rf ?_ | (obtain rfl := rf.inv) | (obtain ⟨_, rfl⟩ := rf.inv) | cases rf); obtain ⟨p, rfl, r⟩ := one_arg rv; (first | refine Is.eInt r fun _ => ?_ | refine Is.eStr r fun _ => ?_ | refine Is.eNone r ?_ | refine Is.eBool r ?_ | refine Is.eRaw r ?_ | refine Is.eMref r ?_ | refine IsAll.eNil r ?_ | (obtain rfl := r.inv) | (obtain ⟨_, rfl⟩ := r.inv) | cases r); cases no_kw ek
  obtain ⟨items, m, e, rs⟩ := S.objs _ U.mem
  obtain ⟨ws, w, e1, r1, r2⟩ := rs.split
  have ei : items = (ws ++ [w]).toArray := by rw [← e1, Array.toArray_toList]
  subst ei
  have hl : ws.length = xs.length := r1.length
  have hk : (ws ++ [w]).toArray.size - 1 = ws.length := by rw [List.size_toArray, List.length_append]; rfl
  have hy : (ws ++ [w]).toArray[(ws ++ [w]).toArray.size - 1]? = some w := by rw [hk]; simp
  have hf : (ws ++ [w]).toArray.eraseIdxIfInBounds ((ws ++ [w]).toArray.size - 1) = ws.toArray := by rw [hk, kl_erase, List.append_nil]
  refine call_meets F.slot_list_pop (T := "list") ⟨_, e, rfl⟩ F.entry_list_pop (F.args_list_pop_1 _) (MeetsSeq.list_pop_last l _ m w hy (by rw [List.size_toArray, List.length_append]; show ws.length + 1 ≤ 16777216; omega)) ⟨e, ?_⟩
  obtain ⟨m', e'⟩ := seq_update e (f := fun xs => xs.eraseIdxIfInBounds ((ws ++ [w]).toArray.size - 1)) hf
  have K := S.set (tk := s.toks) (h' := s.heap.update l (Obj.mapSeq fun xs => xs.eraseIdxIfInBounds ((ws ++ [w]).toArray.size - 1))) U (Heap.SameBut.update ..).extBut ⟨ws.toArray, m', e', r1⟩
  exact k _ _ _ _ K.1 K.2 (r2.mono K.2) h
theorem JC.pop0 {l : Addr} {y : V} {xs : List V} (U : Upd hp l (.list (y :: xs)) (.list xs) hp') (hz : xs.length < 16777216) (h : Φ y hp') : JC B n hp (.raw (.builtin "list.pop")) [.mref l, .int 0] [] Φ := fun A s fv vs kvs ok S rf rv ek rk => Wp.of fun Q k => by
  (first | refine Is.eInt rf fun _ => ?_ | refine Is.eStr rf fun _ => ?_ | refine Is.eNone rf ?_ | refine Is.eBool rf ?_ | refine Is.eRaw rf ?_ | refine Is.eMref rf ?_ | refine IsAll.eNil rf ?_ | (obtain rfl := rf.inv) | (obtain ⟨_, rfl⟩ := rf.inv) | cases rf); obtain ⟨p, q, rfl, r, r'⟩ := two_args rv; (first | refine Is.eInt r fun _ => ?_ | refine Is.eStr r fun _ => ?_ | refine Is.eNone r ?_ | refine Is.eBool r ?_ | refine Is.eRaw r ?_ | refine Is.eMref r ?_ | refine IsAll.eNil r ?_ | (obtain rfl := r.inv) | (obtain ⟨_, rfl⟩ := r.inv) | cases r); (first | refine Is.eInt r' fun _ => ?_ | refine Is.eStr r' fun _ => ?_ | refine Is.eNone r' ?_ | refine Is.eBool r' ?_ | refine Is.eRaw r' ?_ | refine Is.eMref r' ?_ | refine IsAll.eNil r' ?_ | (obtain rfl := r'.inv) | (obtain ⟨_, rfl⟩ := r'.inv) | cases r'); cases no_kw ek
  obtain ⟨items, m, e, rs⟩ := S.objs _ U.mem
  obtain ⟨il⟩ := items
  obtain ⟨w, ws, rfl, hw, ht⟩ := rs.inv
  next =>
    have hl : ws.length = xs.length := ht.length
    have hf : (w :: ws).toArray.eraseIdxIfInBounds 0 = ws.toArray := kl_erase [] ws w
    refine call_meets F.slot_list_pop (T := "list") ⟨_, e, rfl⟩ F.entry_list_pop (F.args_list_pop_2 _ _) (MeetsSeq.list_pop_at l _ m 0 _ 0 w rfl (by simp [seqIndex?]) (by simp) (by rw [List.size_toArray, List.length_cons]; show ws.length + 1 ≤ 16777216; omega)) ⟨e, ?_⟩
    obtain ⟨m', e'⟩ := seq_update e (f := fun xs => xs.eraseIdxIfInBounds 0) hf
    have K := S.set (tk := s.toks) (h' := s.heap.update l (Obj.mapSeq fun xs => xs.eraseIdxIfInBounds 0)) U (Heap.SameBut.update ..).extBut ⟨ws.toArray, m', e', ht⟩
    exact k _ _ _ _ K.1 K.2 (hw.mono K.2) h
theorem IsAll.set {z : Z} {y : V} {w : Value} (hw : Is z w y) : ∀ {vs : List Value} {xs : List V}, IsAll z vs xs → ∀ i, IsAll z (vs.set i w) (xs.set i y)
  | _, _, .nil, _ => .nil
  | _, _, .cons h t, 0 => .cons hw t
  | _, _, .cons h t, i + 1 => .cons h (IsAll.set hw t i)
theorem JSi.list {l : Addr} {y : V} {xs : List V} {i : Int} (h0 : 0 ≤ i) (h1 : i < xs.length) (hfit : i < 2 ^ 63) (U : Upd hp l (.list xs) (.list (xs.set i.toNat y)) hp') (h : Υ hp') : JSi B n hp (.mref l) (.int i) y Υ := fun A s val w v ok S r r' rv => Wp.of fun Q k => by
  (first | refine Is.eInt r fun _ => ?_ | refine Is.eStr r fun _ => ?_ | refine Is.eNone r ?_ | refine Is.eBool r ?_ | refine Is.eRaw r ?_ | refine Is.eMref r ?_ | refine IsAll.eNil r ?_ | (obtain rfl := r.inv) | (obtain ⟨_, rfl⟩ := r.inv) | cases r); (first | refine Is.eInt r' fun _ => ?_ | refine Is.eStr r' fun _ => ?_ | refine Is.eNone r' ?_ | refine Is.eBool r' ?_ | refine Is.eRaw r' ?_ | refine Is.eMref r' ?_ | refine IsAll.eNil r' ?_ | (obtain rfl := r'.inv) | (obtain ⟨_, rfl⟩ := r'.inv) | cases r')
  obtain ⟨items, m, e, rs⟩ := S.objs _ U.mem
  refine ki_setAt e h0 hfit (by rw [rs.size]; exact h1) ?_
  obtain ⟨m', e'⟩ := seq_update e (f := (·.setIfInBounds i.toNat v)) rfl
  have K := S.set (tk := s.toks) (h' := s.heap.update l (Obj.mapSeq (·.setIfInBounds i.toNat v))) U (Heap.SameBut.update ..).extBut ⟨_, m', e', by rw [Array.toList_setIfInBounds]; exact IsAll.set rv rs _⟩
  exact k _ () _ _ K.1 K.2 trivial h
theorem JBin.catL {v w : V} {xs ys : List V} (hl : LstOf hp v xs) (hr : LstOf hp w ys) (hz : xs.length + ys.length ≤ 16777216) (h : Φ (.lst (xs ++ ys)) hp) : JBin B n hp .Add v w Φ := fun A s x y ok S rx ry => Wp.of fun Q k => by
  obtain ⟨a, items, m, rfl, e, rs⟩ := hl.at S rx
  obtain ⟨b, items2, m2, rfl, e2, rs2⟩ := hr.at S ry
  refine concat_meets (T := "list") ⟨_, e, rfl⟩ ⟨_, e2, rfl⟩ noFill_list_add seq_list_add F.slot_list_add F.entry_list_add (F.args_list_add_2 _ _) (list_addW a b items items2 m m2 none none #[] #[] (by rw [rs.size, rs2.size]; exact hz)) ⟨e, e2, ?_⟩
  have K := S.ext (tk := s.toks) (h' := s.heap.push { cls := .type "list", data := .seq (items ++ items2) }) fun _ _ e => Heap.get?_push_of_some _ e
  exact k _ _ _ _ K.1 K.2 (.lst (S.frozen (size_fresh _) (Heap.get?_push_size _ rfl)) (by rw [Array.toList_append]; exact (IsAll.append (rs2) rs).mono K.2)) h
end
end Mine

set_option maxRecDepth 100000
set_option linter.unusedVariables false
namespace Mine
open PySem PySem.W PySem.Calls PyProof.Rows

theorem ints_of {z : Z} : ∀ {vs : List Value} {ns : List Int}, IsAll z vs (ns.map .int) → IntsAre vs ns
  | _, [], .nil => .nil
  | _, n :: ns, .cons h t => by (first | refine Is.eInt h fun _ => ?_ | refine Is.eStr h fun _ => ?_ | refine Is.eNone h ?_ | refine Is.eBool h ?_ | refine Is.eRaw h ?_ | refine Is.eMref h ?_ | refine IsAll.eNil h ?_ | (obtain rfl := h.inv) | (obtain ⟨_, rfl⟩ := h.inv) | cases h); exact .cons _ _ (ints_of t)
theorem of_ints {z : Z} : ∀ {vs : List Value} {ns : List Int}, IntsAre vs ns → IsAll z vs (ns.map .int)
  | _, _, .nil => .nil
  | _, _, .cons n t r => .cons (.int _ _) (of_ints r)
theorem strs_of {z : Z} : ∀ {vs : List Value} {ss : List Str}, IsAll z vs (ss.map .str) → ∃ l : List (Str × Tok), vs = strValues l ∧ l.map (·.1) = ss
  | _, [], .nil => ⟨[], rfl, rfl⟩
  | _, x :: ss, .cons h t => by
    (first | refine Is.eInt h fun _ => ?_ | refine Is.eStr h fun _ => ?_ | refine Is.eNone h ?_ | refine Is.eBool h ?_ | refine Is.eRaw h ?_ | refine Is.eMref h ?_ | refine IsAll.eNil h ?_ | (obtain rfl := h.inv) | (obtain ⟨_, rfl⟩ := h.inv) | cases h)
    rename_i tk
    obtain ⟨l, rfl, rfl⟩ := strs_of t
    exact ⟨(x, tk) :: l, rfl, rfl⟩
theorem join_fits (sep : Str) : ∀ (ss : List Str) (k : Nat), ss.foldl (· + ·.length + sep.length) k = k + (ss.map (·.length)).sum + ss.length * sep.length
  | [], k => by simp
  | x :: ss, k => by
    rw [List.foldl_cons, join_fits sep ss]
    simp only [List.map_cons, List.sum_cons, List.length_cons, Nat.add_mul, Nat.one_mul]
    omega

section
variable {B : Base} {n : Nat} {env : Env} {hp hp' : Hp} {pos : Pos} {Φ : V → Hp → Prop} {Θ : Bool → Hp → Prop} {Ξ : V → List V → Hp → Prop} {Υ : Hp → Prop} {a b : Int} {x y : Str}

theorem JC.range1 (h : Φ (.rng 0 a 1) hp) : JC B n hp (.raw (.type "range")) [.int a] [] Φ := fun A s fv vs kvs ok S rf rv ek rk => Wp.of fun Q k => by
  (first | refine Is.eInt rf fun _ => ?_ | refine Is.eStr rf fun _ => ?_ | refine Is.eNone rf ?_ | refine Is.eBool rf ?_ | refine Is.eRaw rf ?_ | refine Is.eMref rf ?_ | refine IsAll.eNil rf ?_ | (obtain rfl := rf.inv) | (obtain ⟨_, rfl⟩ := rf.inv) | cases rf); obtain ⟨v, rfl, r⟩ := one_arg rv; (first | refine Is.eInt r fun _ => ?_ | refine Is.eStr r fun _ => ?_ | refine Is.eNone r ?_ | refine Is.eBool r ?_ | refine Is.eRaw r ?_ | refine Is.eMref r ?_ | refine IsAll.eNil r ?_ | (obtain rfl := r.inv) | (obtain ⟨_, rfl⟩ := r.inv) | cases r); cases no_kw ek
  rename_i t
  refine call_range_1 ?_
  have K := S.ext (tk := s.toks + 1 + 1) (h' := s.heap.push { cls := .type "range", data := .fields #[.int 0 s.toks, .int a t, .int 1 (s.toks + 1)] }) fun _ _ e => Heap.get?_push_of_some _ e
  exact k _ _ _ _ K.1 K.2 (.rng (S.frozen (size_fresh _) (Heap.get?_push_size _ rfl))) h
theorem JC.range2 (h : Φ (.rng a b 1) hp) : JC B n hp (.raw (.type "range")) [.int a, .int b] [] Φ := fun A s fv vs kvs ok S rf rv ek rk => Wp.of fun Q k => by
  (first | refine Is.eInt rf fun _ => ?_ | refine Is.eStr rf fun _ => ?_ | refine Is.eNone rf ?_ | refine Is.eBool rf ?_ | refine Is.eRaw rf ?_ | refine Is.eMref rf ?_ | refine IsAll.eNil rf ?_ | (obtain rfl := rf.inv) | (obtain ⟨_, rfl⟩ := rf.inv) | cases rf); obtain ⟨v, v', rfl, r, r'⟩ := two_args rv; (first | refine Is.eInt r fun _ => ?_ | refine Is.eStr r fun _ => ?_ | refine Is.eNone r ?_ | refine Is.eBool r ?_ | refine Is.eRaw r ?_ | refine Is.eMref r ?_ | refine IsAll.eNil r ?_ | (obtain rfl := r.inv) | (obtain ⟨_, rfl⟩ := r.inv) | cases r); (first | refine Is.eInt r' fun _ => ?_ | refine Is.eStr r' fun _ => ?_ | refine Is.eNone r' ?_ | refine Is.eBool r' ?_ | refine Is.eRaw r' ?_ | refine Is.eMref r' ?_ | refine IsAll.eNil r' ?_ | (obtain rfl := r'.inv) | (obtain ⟨_, rfl⟩ := r'.inv) | cases r'); cases no_kw ek
  rename_i t t'
  refine call_range_2 ?_
  have K := S.ext (tk := s.toks + 1) (h' := s.heap.push { cls := .type "range", data := .fields #[.int a t, .int b t', .int 1 s.toks] }) fun _ _ e => Heap.get?_push_of_some _ e
  exact k _ _ _ _ K.1 K.2 (.rng (S.frozen (size_fresh _) (Heap.get?_push_size _ rfl))) h
theorem JI.rng {c : Int} {Ω : Addr → Hp → Prop} (hs : Builtin.Range.small a b c = true) (h : ∀ it, Ω it ((it, .it (.rng a (Builtin.Range.rangeSize a b c) c)) :: hp)) : JI B n hp (.rng a b c) Ω := fun A s v ok S r => Wp.of fun Q k => by
  obtain ⟨_, _, _, _, rfl, e⟩ := r.inv
  next =>
    refine wpAny_pyIter_range (zof_le _ _ e) hs ?_
    have K := S.add (tk := s.toks) (a := s.heap.objs.size) (ao := .it (.rng a (Builtin.Range.rangeSize a b c) c)) (h' := s.heap.push { cls := .type "range_iterator", data := .fields #[rawInt a, rawInt (Builtin.Range.rangeSize a b c), rawInt c] }) (fun _ _ e => Heap.get?_push_of_some _ e) (size_fresh _)
      (Heap.get?_push_size _ rfl)
    exact k _ _ _ _ K.1 K.2 rfl (h _)
noncomputable def chars (x : Str) : List V := x.cps.toList.map fun c => .str ⟨#[c]⟩
theorem chars_is {z : Z} {x : Str} {items : Array Value} (h : ItemsOf (SignAt x) items x.cps.size) : IsAll z items.toList (chars x) := by
  obtain ⟨h1, h2⟩ := h
  have gen : ∀ (vs : List Value) (cs : List Nat), vs.length = cs.length → (∀ (j : Nat) (v : Value), vs[j]? = some v → ∃ c t, cs[j]? = some c ∧ v = Value.str ⟨#[c]⟩ t) → IsAll z vs (cs.map fun c => V.str ⟨#[c]⟩) := by
    intro vs
    induction vs with
    | nil => intro cs hl _; cases cs with
      | nil => exact .nil
      | cons _ _ => cases hl
    | cons v vs ih =>
      intro cs hl hv
      cases cs with
      | nil => cases hl
      | cons c cs =>
        obtain ⟨c', t, e1, rfl⟩ := hv 0 v rfl
        simp at e1; subst e1
        exact .cons (.str _ _) (ih cs (Nat.succ.inj hl) fun j w e => by simpa using hv (j + 1) w (by simpa using e))
  refine gen _ _ (by simpa using h1) fun j v e => ?_
  obtain ⟨c, u, hc, rfl⟩ := h2 j v (by simpa using e)
  exact ⟨c, u, by simpa using hc, rfl⟩
theorem JC.listStr (hz : x.cps.size ≤ 16777216) (h : Φ (.lst (chars x)) hp) : JC B n hp (.raw (.type "list")) [.str x] [] Φ := fun A s fv vs kvs ok S rf rv ek rk => Wp.of fun Q k => by
  (first | refine Is.eInt rf fun _ => ?_ | refine Is.eStr rf fun _ => ?_ | refine Is.eNone rf ?_ | refine Is.eBool rf ?_ | refine Is.eRaw rf ?_ | refine Is.eMref rf ?_ | refine IsAll.eNil rf ?_ | (obtain rfl := rf.inv) | (obtain ⟨_, rfl⟩ := rf.inv) | cases rf); obtain ⟨v, rfl, r⟩ := one_arg rv; (first | refine Is.eInt r fun _ => ?_ | refine Is.eStr r fun _ => ?_ | refine Is.eNone r ?_ | refine Is.eBool r ?_ | refine Is.eRaw r ?_ | refine Is.eMref r ?_ | refine IsAll.eNil r ?_ | (obtain rfl := r.inv) | (obtain ⟨_, rfl⟩ := r.inv) | cases r); cases no_kw ek
  refine call_list_str ok.handled x _ (hn := hz) fun h' tk acc' c' hk hS' hacc => ?_
  have K := S.ext (tk := tk) (h' := h') hk
  exact k _ _ _ _ K.1 K.2 (.lst (zof_mk hS' (S.fresh_not (size_fresh _))) (chars_is hacc)) h
theorem JC.join {v : V} {ss : List Str} (hl : LstOf hp v (ss.map .str)) (hz : (ss.map (·.length)).sum + ss.length * x.length ≤ 16777216) (h : Φ (.str (Builtin.Str.glued x ss)) hp) : JC B n hp (.raw (.builtin "str.join")) [.str x, v] [] Φ := fun A s fv vs kvs ok S rf rv ek rk => Wp.of fun Q k => by
  (first | refine Is.eInt rf fun _ => ?_ | refine Is.eStr rf fun _ => ?_ | refine Is.eNone rf ?_ | refine Is.eBool rf ?_ | refine Is.eRaw rf ?_ | refine Is.eMref rf ?_ | refine IsAll.eNil rf ?_ | (obtain rfl := rf.inv) | (obtain ⟨_, rfl⟩ := rf.inv) | cases rf); obtain ⟨p, q, rfl, r, r'⟩ := two_args rv; (first | refine Is.eInt r fun _ => ?_ | refine Is.eStr r fun _ => ?_ | refine Is.eNone r ?_ | refine Is.eBool r ?_ | refine Is.eRaw r ?_ | refine Is.eMref r ?_ | refine IsAll.eNil r ?_ | (obtain rfl := r.inv) | (obtain ⟨_, rfl⟩ := r.inv) | cases r); cases no_kw ek
  obtain ⟨a, items, m, rfl, e, rs⟩ := hl.at S r'
  obtain ⟨l, el, rfl⟩ := strs_of rs
  have ei : items = (strValues l).toArray := by rw [← el, Array.toArray_toList]
  have hsz : (Builtin.Str.glued x (l.map (·.1))).length ≤ 16777216 := by
    rw [size_glued]
    refine Nat.le_trans (Nat.add_le_add_left (Nat.mul_le_mul_right _ (Nat.sub_le _ _)) _) hz
  refine call_meets F.slot_str_join (typeIs_str _ _ _) F.entry_str_join (F.args_str_join_2 _ _) (meets_str_join_list x _ a l ?_) ⟨ei ▸ isL e, ?_⟩
  · have e3 := join_fits x (l.map (·.1)) 0
    have e4 : (l.map (·.1)).toArray.foldl (· + ·.length + x.length) 0 = (l.map (·.1)).foldl (· + ·.length + x.length) 0 := by simp
    rw [e4, e3]
    simp only [Builtin.Str.tooLong, decide_eq_false_iff_not, Nat.not_lt]
    show 0 + _ + _ ≤ 16777216
    omega
  · match l, hsz, h with
    | [p], hsz, h => exact k _ _ _ _ S (Le.refl _) (.str _ _) h
    | [], hsz, h => exact ⟨hsz, k _ _ _ _ (S.toks _) (Le.refl _) (.str _ _) h⟩
    | p :: q :: l, hsz, h => exact ⟨hsz, k _ _ _ _ (S.toks _) (Le.refl _) (.str _ _) h⟩
theorem JC.split (hx : x.length ≤ 16777216) (hn : (Builtin.Str.spaceWords x (x.length + 1)).length ≤ 16777216) (hs : (Builtin.Str.spaceWords x (x.length + 1) == [(0, x.length)]) = false) (h : Φ (.lst ((PySem.wordsOf x).map .str)) hp) : JC B n hp (.raw (.builtin "str.split")) [.str x] [] Φ := fun A s fv vs kvs ok S rf rv ek rk => Wp.of fun Q k => by
  (first | refine Is.eInt rf fun _ => ?_ | refine Is.eStr rf fun _ => ?_ | refine Is.eNone rf ?_ | refine Is.eBool rf ?_ | refine Is.eRaw rf ?_ | refine Is.eMref rf ?_ | refine IsAll.eNil rf ?_ | (obtain rfl := rf.inv) | (obtain ⟨_, rfl⟩ := rf.inv) | cases rf); obtain ⟨v, rfl, r⟩ := one_arg rv; (first | refine Is.eInt r fun _ => ?_ | refine Is.eStr r fun _ => ?_ | refine Is.eNone r ?_ | refine Is.eBool r ?_ | refine Is.eRaw r ?_ | refine Is.eMref r ?_ | refine IsAll.eNil r ?_ | (obtain rfl := r.inv) | (obtain ⟨_, rfl⟩ := r.inv) | cases r); cases no_kw ek
  refine call_meets F.slot_str_split (typeIs_str _ _ _) F.entry_str_split (F.args_str_split_1 _) (meets_str_split_space x _ hx hn) ?_
  rw [hs]
  simp only [Bool.false_eq_true, if_false]
  have K := S.ext (tk := s.toks + (Builtin.Str.spaceWords x (x.length + 1)).length) (h' := s.heap.push { cls := .type "list", data := .seq (strsFrom s.toks (PySem.wordsOf x)).toArray }) fun _ _ e => Heap.get?_push_of_some _ e
  have gen : ∀ (z : Z) (ws : List Str) (t : Nat), IsAll z (strsFrom t ws) (ws.map .str) := by
    intro z ws
    induction ws with
    | nil => intro t; exact .nil
    | cons w ws ih => intro t; exact .cons (.str _ _) (ih _)
  exact k _ _ _ _ K.1 K.2 (.lst (S.frozen (size_fresh _) (Heap.get?_push_size _ rfl)) (gen _ _ _)) h
theorem JC.sum {v : V} {ns : List Int} (hl : LstOf hp v (ns.map .int)) (h : Φ (.int ns.sum) hp) : JC B n hp (.raw (.builtin "sum")) [v] [] Φ := fun A s fv vs kvs ok S rf rv ek rk => Wp.of fun Q k => by
  (first | refine Is.eInt rf fun _ => ?_ | refine Is.eStr rf fun _ => ?_ | refine Is.eNone rf ?_ | refine Is.eBool rf ?_ | refine Is.eRaw rf ?_ | refine Is.eMref rf ?_ | refine IsAll.eNil rf ?_ | (obtain rfl := rf.inv) | (obtain ⟨_, rfl⟩ := rf.inv) | cases rf); obtain ⟨p, rfl, r⟩ := one_arg rv; cases no_kw ek
  obtain ⟨a, items, m, rfl, e, rs⟩ := hl.at S r
  have hi := ints_of rs
  have hall : AllInts items := by have := hi.allInts; rwa [Array.toArray_toList] at this
  obtain ⟨xs, rfl⟩ := hall.items
  refine sum_intListG ok.handled (isL e) fun h' tk t' hk => ?_
  have K := S.ext (tk := tk) (h' := h') hk
  have e2 : preSum (numAt xs) xs.size = ns.sum := by
    rw [preSum_eq, List.take_of_length_le (by simp)]
    have := hi.numsOf
    rw [nums_intItems] at this
    rw [this]
  rw [e2]
  exact k _ _ _ _ K.1 K.2 (.int _ _) h
theorem JC.sorted {v : V} {ns : List Int} (hl : LstOf hp v (ns.map .int)) (h64 : ns.length < 64) (h : ∀ ns' : List Int, ns'.Perm ns → ns'.Pairwise (· ≤ ·) → Φ (.lst (ns'.map .int)) hp) : JC B n hp (.raw (.builtin "sorted")) [v] [] Φ := fun A s fv vs kvs ok S rf rv ek rk => Wp.of fun Q k => by
  (first | refine Is.eInt rf fun _ => ?_ | refine Is.eStr rf fun _ => ?_ | refine Is.eNone rf ?_ | refine Is.eBool rf ?_ | refine Is.eRaw rf ?_ | refine Is.eMref rf ?_ | refine IsAll.eNil rf ?_ | (obtain rfl := rf.inv) | (obtain ⟨_, rfl⟩ := rf.inv) | cases rf); obtain ⟨p, rfl, r⟩ := one_arg rv; cases no_kw ek
  obtain ⟨a, items, m, rfl, e, rs⟩ := hl.at S r
  have hi := ints_of rs
  have e' : s.heap.IsList a items.toList.toArray := by rw [Array.toArray_toList]; exact isL e
  refine sorted_ints e' hi (by rw [hi.length]; exact h64) fun out ns' a1 a2 a3 => ?_
  obtain ⟨e1, he⟩ := sortedAll_at s.heap items.toList out
  have K := S.ext (tk := s.toks) (h' := sortedAll s.heap items.toList out) fun _ _ => sortedAll_old
  exact k _ _ _ _ K.1 K.2 (.lst (zof_mk he (S.fresh_not (Heap.get?_none_of_le (Nat.le_succ _)))) (of_ints a1)) (h ns' a2 a3)
theorem JC.typeOf {v : V} {T : String} (hT : ∀ s val, St B hp s → Is (zof hp s.heap) val v → s.TypeIs val T) (hn : (Value.type T == Value.type "builtin_function_or_method") = false) (h : Φ (.raw (.type T)) hp) : JC B n hp (.raw (.type "type")) [v] [] Φ := fun A s fv vs kvs ok S rf rv ek rk => Wp.of fun Q k => by
  (first | refine Is.eInt rf fun _ => ?_ | refine Is.eStr rf fun _ => ?_ | refine Is.eNone rf ?_ | refine Is.eBool rf ?_ | refine Is.eRaw rf ?_ | refine Is.eMref rf ?_ | refine IsAll.eNil rf ?_ | (obtain rfl := rf.inv) | (obtain ⟨_, rfl⟩ := rf.inv) | cases rf); obtain ⟨p, rfl, r⟩ := one_arg rv; cases no_kw ek
  exact call_type_of (hT s p S r) hn (k _ _ _ _ S (Le.refl _) (.raw _) h)
theorem mulL_obj {A : Around} {s : Shared} {v : V} {xs : List V} {val c : Value} {Q : Value → Shared → Prop} (hl : LstOf hp v xs) (S : St B hp s) (r : Is (zof hp s.heap) val v) (r' : Is (zof hp s.heap) c (.int a)) (hlo : -(2 ^ 63 : Int) ≤ a) (hhi : a < 2 ^ 63) (hsz : xs.length * a.toNat ≤ 256)
    (h : ∀ items : Array Value, IsAll (zof hp s.heap) items.toList (List.replicate a.toNat xs).flatten → Q (.ref s.heap.objs.size) { s with heap := s.heap.push { cls := .type "list", data := .seq items } }) : wpAny B.M A (binaryOp .Mult val c) Q (fun _ _ => False) s := by
  obtain ⟨l, items, m, rfl, e, rs⟩ := hl.at S r
  (first | refine Is.eInt r' fun _ => ?_ | refine Is.eStr r' fun _ => ?_ | refine Is.eNone r' ?_ | refine Is.eBool r' ?_ | refine Is.eRaw r' ?_ | refine Is.eMref r' ?_ | refine IsAll.eNil r' ?_ | (obtain rfl := r'.inv) | (obtain ⟨_, rfl⟩ := r'.inv) | cases r')
  rename_i u
  have hsz' : items.size * a.toNat ≤ 256 := by rw [rs.size]; exact hsz
  have rep : ∀ k : Nat, IsAll (zof hp s.heap) (List.replicate k items.toList).flatten (List.replicate k xs).flatten := fun k => by
    induction k with
    | zero => exact .nil
    | succ k ih => rw [List.replicate_succ, List.replicate_succ, List.flatten_cons, List.flatten_cons]; exact IsAll.append ih rs
  have hq := h (List.replicate a.toNat items.toList).flatten.toArray (rep _)
  refine wpAny_binaryOp_repeat_ref (T := "list") (U := "int") (by decide) ⟨_, e, rfl⟩ (fun s' => typeIs_int s' a u) noFill_list_mul F.fills_int_mul F.slot_int_rmul repeat_list F.slot_int_index.lookup
    (call_meets F.slot_int_rmul (typeIs_int s a u) F.entry_int_rmul (F.args_int_rmul_2 _ _) (lm_int_rmul_list_any a u l items m none #[])
      ⟨e, rfl, ⟨_, e, rfl⟩, call_meets F.slot_list_mul ⟨_, e, rfl⟩ F.entry_list_mul (F.args_list_mul_2 _ _)
        (lm_list_mul_any l items m none #[] a u (by simp [Builtin.List.listFitsIndex]; omega) (by omega) (by simp [Builtin.List.listTooLong, sizeLine]; omega))
        ⟨e, ?_⟩⟩)
  rw [listMul_foldl_if]
  exact hq
theorem JBin.mulL {v : V} {xs : List V} (hl : LstOf hp v xs) (hlo : -(2 ^ 63 : Int) ≤ a) (hhi : a < 2 ^ 63) (hsz : xs.length * a.toNat ≤ 256) (h : Φ (.lst (List.replicate a.toNat xs).flatten) hp) : JBin B n hp .Mult v (.int a) Φ := fun A s x y ok S rx ry => Wp.of fun Q k =>
  mulL_obj hl S rx ry hlo hhi hsz fun items ri => by
    have K := S.ext (tk := s.toks) (h' := s.heap.push { cls := .type "list", data := .seq items }) fun _ _ e => Heap.get?_push_of_some _ e
    exact k _ _ _ _ K.1 K.2 (.lst (S.frozen (size_fresh _) (Heap.get?_push_size _ rfl)) (ri.mono K.2)) h
theorem JBin.mulLM {v : V} {xs : List V} (hl : LstOf hp v xs) (hlo : -(2 ^ 63 : Int) ≤ a) (hhi : a < 2 ^ 63) (hsz : xs.length * a.toNat ≤ 256) (h : ∀ l, Φ (.mref l) ((l, .list (List.replicate a.toNat xs).flatten) :: hp)) : JBin B n hp .Mult v (.int a) Φ := fun A s x y ok S rx ry => Wp.of fun Q k =>
  mulL_obj hl S rx ry hlo hhi hsz fun items ri => by
    have K := S.add (tk := s.toks) (a := s.heap.objs.size) (ao := .list (List.replicate a.toNat xs).flatten) (h' := s.heap.push { cls := .type "list", data := .seq items }) (fun _ _ e => Heap.get?_push_of_some _ e) (size_fresh _) ⟨_, _, Heap.get?_push_size _ rfl, ri⟩
    exact k _ _ _ _ K.1 K.2 (.mref _) (h _)
theorem JC.setInts {v : V} {ns : List Int} (hl : LstOf hp v (ns.map .int)) (hb : ns.length + 1 < 4096) (h : Φ (.iset (firstMet (fun i => ns.getD i 0) ns.length).length) hp) : JC B n hp (.raw (.type "set")) [v] [] Φ := fun A s fv vs kvs ok S rf rv ek rk => Wp.of fun Q k => by
  (first | refine Is.eInt rf fun _ => ?_ | refine Is.eStr rf fun _ => ?_ | refine Is.eNone rf ?_ | refine Is.eBool rf ?_ | refine Is.eRaw rf ?_ | refine Is.eMref rf ?_ | refine IsAll.eNil rf ?_ | (obtain rfl := rf.inv) | (obtain ⟨_, rfl⟩ := rf.inv) | cases rf); obtain ⟨p, rfl, r⟩ := one_arg rv; cases no_kw ek
  obtain ⟨a, items, m, rfl, e, rs⟩ := hl.at S r
  have hi := ints_of rs
  have hsz : items.size = ns.length := by rw [rs.size, List.length_map]
  refine call_set_list ok.handled (isL e) hi (by rw [hsz]; exact hb) fun h' tk hso hk => ?_
  rw [hsz] at hso
  obtain ⟨o, es, ep, t, eo, hex, hd, _, _, _, hf, hs⟩ := hso
  have K := S.ext (tk := tk) (h' := h') fun b o e => hk b o (Heap.lt_size e) e
  exact k _ _ _ _ K.1 K.2 (.iset (zof_mk eo (S.fresh_not (size_fresh _))) hex hd hf hs) h
theorem JC.lenSet {m : Nat} (hz : m ≤ 4096) (h : Φ (.int m) hp) : JC B n hp (.raw (.builtin "len")) [.iset m] [] Φ := fun A s fv vs kvs ok S rf rv ek rk => Wp.of fun Q k => by
  (first | refine Is.eInt rf fun _ => ?_ | refine Is.eStr rf fun _ => ?_ | refine Is.eNone rf ?_ | refine Is.eBool rf ?_ | refine Is.eRaw rf ?_ | refine Is.eMref rf ?_ | refine IsAll.eNil rf ?_ | (obtain rfl := rf.inv) | (obtain ⟨_, rfl⟩ := rf.inv) | cases rf); obtain ⟨p, rfl, r⟩ := one_arg rv; cases no_kw ek
  obtain ⟨_, _, _, _, _, rfl, e, hex, hd, hf, hs⟩ := r.inv
  next =>
    refine call_len_set (zof_le _ _ e) hex hd hf (by rw [hs]; omega) ?_
    rw [hs]
    exact k _ _ _ _ (S.toks _) (Le.refl _) (.int _ _) h
end
end Mine

set_option maxRecDepth 100000
set_option linter.unusedVariables false
namespace Mine
open PySem PySem.W PySem.Calls PyProof.Rows

noncomputable def plainV : Nat → V → Bool
  | _, .none => true
  | _, .bool _ => true
  | _, .int _ => true
  | _, .str _ => true
  | d + 1, .tup xs => xs.all (plainV d)
  | d + 1, .lst xs => xs.all (plainV d)
  | _, _ => false
section
variable {A : Around} {s : Shared}
theorem eqAt_true {y x : Value} (hf : ∀ b t, y ≠ .float b t) (h : SeqAt.RcAt A s y x true) : SeqAt.EqAt A s y x true := fun prog w E Q hq => by
  unfold eqBool
  refine wpAny_holding ?_
  refine wpAny_ite_split (fun _ => wpAny_bind (wpAny_rule (wpAny_pure hq))) (fun _ => ?_)
  have fin := h prog w E (fun v s' => wpAny (model prog w) A (truthOfDropped v) Q E s') (wpAny_truthy_bool hq)
  cases y with
  | float b t => exact absurd rfl (hf b t)
  | _ => exact wpAny_bind fin
theorem notFloat {z : Z} {v : Value} {x : V} {d : Nat} (r : Is z v x) (h : plainV d x = true) : ∀ b t, v ≠ .float b t := by
  intro b t e
  subst e
  (first | refine Is.eInt r fun _ => ?_ | refine Is.eStr r fun _ => ?_ | refine Is.eNone r ?_ | refine Is.eBool r ?_ | refine Is.eRaw r ?_ | refine Is.eMref r ?_ | refine IsAll.eNil r ?_ | (obtain rfl := r.inv) | (obtain ⟨_, rfl⟩ := r.inv) | cases r)
  cases d <;> simp [plainV] at h
theorem all_true (m : Nat) : ((List.range m).all fun _ => true) = true := List.all_eq_true.mpr fun _ _ => rfl
theorem IsAll.both {z : Z} {i : Nat} : ∀ {vs ws : List Value} {xs : List V}, IsAll z vs xs → IsAll z ws xs → (h1 : i < vs.length) → (h2 : i < ws.length) → ∃ x ∈ xs, Is z vs[i] x ∧ Is z ws[i] x := by
  intro vs ws xs r r' h1 h2
  obtain ⟨x, hx, rx⟩ := r.get' (i := i) (v := vs[i]) (by simp)
  obtain ⟨y, hy, ry⟩ := r'.get' (i := i) (v := ws[i]) (by simp)
  rw [hx] at hy; cases hy
  exact ⟨x, List.mem_of_getElem? hx, rx, ry⟩
theorem rc_same {hp : Hp} : ∀ (d : Nat) {x : V} {v w : Value} {A : Around}, plainV d x = true → Is (zof hp s.heap) v x → Is (zof hp s.heap) w x → A.units + d < cLine → SeqAt.RcAt A s v w true := by
  intro d
  induction d with
  | zero =>
    intro x v w A hp' r r' hu
    cases x <;> simp [plainV] at hp'
    · (first | refine Is.eInt r fun _ => ?_ | refine Is.eStr r fun _ => ?_ | refine Is.eNone r ?_ | refine Is.eBool r ?_ | refine Is.eRaw r ?_ | refine Is.eMref r ?_ | refine IsAll.eNil r ?_ | (obtain rfl := r.inv) | (obtain ⟨_, rfl⟩ := r.inv) | cases r); (first | refine Is.eInt r' fun _ => ?_ | refine Is.eStr r' fun _ => ?_ | refine Is.eNone r' ?_ | refine Is.eBool r' ?_ | refine Is.eRaw r' ?_ | refine Is.eMref r' ?_ | refine IsAll.eNil r' ?_ | (obtain rfl := r'.inv) | (obtain ⟨_, rfl⟩ := r'.inv) | cases r'); exact SeqAt.RcAt.none_none
    · (first | refine Is.eInt r fun _ => ?_ | refine Is.eStr r fun _ => ?_ | refine Is.eNone r ?_ | refine Is.eBool r ?_ | refine Is.eRaw r ?_ | refine Is.eMref r ?_ | refine IsAll.eNil r ?_ | (obtain rfl := r.inv) | (obtain ⟨_, rfl⟩ := r.inv) | cases r); (first | refine Is.eInt r' fun _ => ?_ | refine Is.eStr r' fun _ => ?_ | refine Is.eNone r' ?_ | refine Is.eBool r' ?_ | refine Is.eRaw r' ?_ | refine Is.eMref r' ?_ | refine IsAll.eNil r' ?_ | (obtain rfl := r'.inv) | (obtain ⟨_, rfl⟩ := r'.inv) | cases r'); rename_i b; have := SeqAt.RcAt.bool_bool (A := A) (s := s) b b; rwa [beq_self_eq_true] at this
    · (first | refine Is.eInt r fun _ => ?_ | refine Is.eStr r fun _ => ?_ | refine Is.eNone r ?_ | refine Is.eBool r ?_ | refine Is.eRaw r ?_ | refine Is.eMref r ?_ | refine IsAll.eNil r ?_ | (obtain rfl := r.inv) | (obtain ⟨_, rfl⟩ := r.inv) | cases r); (first | refine Is.eInt r' fun _ => ?_ | refine Is.eStr r' fun _ => ?_ | refine Is.eNone r' ?_ | refine Is.eBool r' ?_ | refine Is.eRaw r' ?_ | refine Is.eMref r' ?_ | refine IsAll.eNil r' ?_ | (obtain rfl := r'.inv) | (obtain ⟨_, rfl⟩ := r'.inv) | cases r'); rename_i i t t'; have := SeqAt.RcAt.int_int (A := A) (s := s) i t i t'; rwa [beq_self_eq_true] at this
    · (first | refine Is.eInt r fun _ => ?_ | refine Is.eStr r fun _ => ?_ | refine Is.eNone r ?_ | refine Is.eBool r ?_ | refine Is.eRaw r ?_ | refine Is.eMref r ?_ | refine IsAll.eNil r ?_ | (obtain rfl := r.inv) | (obtain ⟨_, rfl⟩ := r.inv) | cases r); (first | refine Is.eInt r' fun _ => ?_ | refine Is.eStr r' fun _ => ?_ | refine Is.eNone r' ?_ | refine Is.eBool r' ?_ | refine Is.eRaw r' ?_ | refine Is.eMref r' ?_ | refine IsAll.eNil r' ?_ | (obtain rfl := r'.inv) | (obtain ⟨_, rfl⟩ := r'.inv) | cases r'); rename_i i t t'; have := SeqAt.RcAt.str_str (A := A) (s := s) i t i t'; rwa [beq_self_eq_true] at this
  | succ d ih =>
    intro x v w A hp' r r' hu
    have hu' : A.in1.units + d < cLine := by show A.units + 1 + d < cLine; lia
    have elems : ∀ {xs : List V} {i1 i2 : Array Value}, (xs.all (plainV d)) = true → IsAll (zof hp s.heap) i1.toList xs → IsAll (zof hp s.heap) i2.toList xs → ∀ j (h1 : j < i1.size) (h2 : j < i2.size), SeqAt.EqAt A.in1 s i1[j] i2[j] true := by
      intro xs i1 i2 hx r1 r2 j h1 h2
      obtain ⟨y, hy, ry, ry'⟩ := r1.both r2 (i := j) (by simpa using h1) (by simpa using h2)
      exact eqAt_true (notFloat (by simpa using ry) (List.all_eq_true.mp hx y hy)) (ih (List.all_eq_true.mp hx y hy) (by simpa using ry) (by simpa using ry') hu')
    cases x <;> simp [plainV] at hp'
    · (first | refine Is.eInt r fun _ => ?_ | refine Is.eStr r fun _ => ?_ | refine Is.eNone r ?_ | refine Is.eBool r ?_ | refine Is.eRaw r ?_ | refine Is.eMref r ?_ | refine IsAll.eNil r ?_ | (obtain rfl := r.inv) | (obtain ⟨_, rfl⟩ := r.inv) | cases r); (first | refine Is.eInt r' fun _ => ?_ | refine Is.eStr r' fun _ => ?_ | refine Is.eNone r' ?_ | refine Is.eBool r' ?_ | refine Is.eRaw r' ?_ | refine Is.eMref r' ?_ | refine IsAll.eNil r' ?_ | (obtain rfl := r'.inv) | (obtain ⟨_, rfl⟩ := r'.inv) | cases r'); exact SeqAt.RcAt.none_none
    · (first | refine Is.eInt r fun _ => ?_ | refine Is.eStr r fun _ => ?_ | refine Is.eNone r ?_ | refine Is.eBool r ?_ | refine Is.eRaw r ?_ | refine Is.eMref r ?_ | refine IsAll.eNil r ?_ | (obtain rfl := r.inv) | (obtain ⟨_, rfl⟩ := r.inv) | cases r); (first | refine Is.eInt r' fun _ => ?_ | refine Is.eStr r' fun _ => ?_ | refine Is.eNone r' ?_ | refine Is.eBool r' ?_ | refine Is.eRaw r' ?_ | refine Is.eMref r' ?_ | refine IsAll.eNil r' ?_ | (obtain rfl := r'.inv) | (obtain ⟨_, rfl⟩ := r'.inv) | cases r'); rename_i b; have := SeqAt.RcAt.bool_bool (A := A) (s := s) b b; rwa [beq_self_eq_true] at this
    · (first | refine Is.eInt r fun _ => ?_ | refine Is.eStr r fun _ => ?_ | refine Is.eNone r ?_ | refine Is.eBool r ?_ | refine Is.eRaw r ?_ | refine Is.eMref r ?_ | refine IsAll.eNil r ?_ | (obtain rfl := r.inv) | (obtain ⟨_, rfl⟩ := r.inv) | cases r); (first | refine Is.eInt r' fun _ => ?_ | refine Is.eStr r' fun _ => ?_ | refine Is.eNone r' ?_ | refine Is.eBool r' ?_ | refine Is.eRaw r' ?_ | refine Is.eMref r' ?_ | refine IsAll.eNil r' ?_ | (obtain rfl := r'.inv) | (obtain ⟨_, rfl⟩ := r'.inv) | cases r'); rename_i i t t'; have := SeqAt.RcAt.int_int (A := A) (s := s) i t i t'; rwa [beq_self_eq_true] at this
    · (first | refine Is.eInt r fun _ => ?_ | refine Is.eStr r fun _ => ?_ | refine Is.eNone r ?_ | refine Is.eBool r ?_ | refine Is.eRaw r ?_ | refine Is.eMref r ?_ | refine IsAll.eNil r ?_ | (obtain rfl := r.inv) | (obtain ⟨_, rfl⟩ := r.inv) | cases r); (first | refine Is.eInt r' fun _ => ?_ | refine Is.eStr r' fun _ => ?_ | refine Is.eNone r' ?_ | refine Is.eBool r' ?_ | refine Is.eRaw r' ?_ | refine Is.eMref r' ?_ | refine IsAll.eNil r' ?_ | (obtain rfl := r'.inv) | (obtain ⟨_, rfl⟩ := r'.inv) | cases r'); rename_i i t t'; have := SeqAt.RcAt.str_str (A := A) (s := s) i t i t'; rwa [beq_self_eq_true] at this
    · cases r with
      | tup e rs => cases r' with
        | tup e' rs' =>
          have hx := elems (List.all_eq_true.mpr hp') rs rs'
          have := SeqAt.RcAt.tuples (e := fun _ => true) ⟨_, zof_le _ _ e, rfl, _, rfl⟩ ⟨_, zof_le _ _ e', rfl, _, rfl⟩ (by lia) hx
          rw [rs.size, rs'.size, all_true, beq_self_eq_true] at this
          exact this
    · cases r with
      | lst e rs => cases r' with
        | lst e' rs' =>
          have hx := elems (List.all_eq_true.mpr hp') rs rs'
          have := SeqAt.RcAt.lists (e := fun _ => true) ⟨_, zof_le _ _ e, rfl, _, rfl⟩ ⟨_, zof_le _ _ e', rfl, _, rfl⟩ (by rw [rs.size, rs'.size]) (by lia) hx
          rw [all_true] at this
          exact this
theorem rcne_lists {hp : Hp} {a b : Addr} {n m : Nat} {i1 i2 : Array Value} {xs : List V} {d : Nat} (hx : xs.all (plainV d) = true) (e : s.heap.get? a = some { cls := .type "list", data := .seq i1 n }) (e' : s.heap.get? b = some { cls := .type "list", data := .seq i2 m })
    (r : IsAll (zof hp s.heap) i1.toList xs) (r' : IsAll (zof hp s.heap) i2.toList xs) (hu : A.units + (d + 1) < cLine) : SeqAt.RcAt A s (.ref a) (.ref b) true ∧ SeqAt.RcNeAt A s (.ref a) (.ref b) false := by
  have hu' : A.in1.units + d < cLine := by show A.units + 1 + d < cLine; lia
  have elems : ∀ j (h1 : j < i1.size) (h2 : j < i2.size), SeqAt.EqAt A.in1 s i1[j] i2[j] true := by
    intro j h1 h2
    obtain ⟨y, hy, ry, ry'⟩ := r.both r' (i := j) (by simpa using h1) (by simpa using h2)
    exact eqAt_true (notFloat (by simpa using ry) (List.all_eq_true.mp hx y hy)) (rc_same d (List.all_eq_true.mp hx y hy) (by simpa using ry) (by simpa using ry') hu')
  have h1 := SeqAt.RcAt.lists (e := fun _ => true) (isL e) (isL e') (by rw [r.size, r'.size]) (by lia) elems
  have h2 := SeqAt.RcNeAt.lists (e := fun _ => true) (isL e) (isL e') (by rw [r.size, r'.size]) (by lia) elems
  rw [all_true] at h1 h2
  exact ⟨h1, h2⟩
end

section
variable {B : Base} {n : Nat} {env : Env} {hp hp' : Hp} {pos : Pos} {Φ : V → Hp → Prop} {Θ : Bool → Hp → Prop} {Ξ : V → List V → Hp → Prop} {Υ : Hp → Prop} {a b : Int} {x y : Str} {K : Frag} {mg mb : Str → Option Value}
theorem AOk.eqs {A : Around} (h : AOk n A) {d : Nat} (hd : d ≤ 100) : A.units + d < cLine := by have := h.space; lia
theorem JCmp.eqSame {v w : V} {xs : List V} {d : Nat} (hl : LstOf hp v xs) (hr : LstOf hp w xs) (hx : xs.all (plainV d) = true) (hd : d < 100) (h : Φ (.bool true) hp) : JCmp B n hp .Eq v w Φ := fun A s x y ok S rx ry => Wp.of fun Q k => by
  obtain ⟨a, i1, m1, rfl, e1, r1⟩ := hl.at S rx
  obtain ⟨b, i2, m2, rfl, e2, r2⟩ := hr.at S ry
  exact (rcne_lists hx e1 e2 r1 r2 (ok.eqs (by lia))).1 _ _ _ _ (k _ _ _ _ S (Le.refl _) (.bool _) h)
theorem JCmp.neSame {v w : V} {xs : List V} {d : Nat} (hl : LstOf hp v xs) (hr : LstOf hp w xs) (hx : xs.all (plainV d) = true) (hd : d < 100) (h : Φ (.bool false) hp) : JCmp B n hp .NotEq v w Φ := fun A s x y ok S rx ry => Wp.of fun Q k => by
  obtain ⟨a, i1, m1, rfl, e1, r1⟩ := hl.at S rx
  obtain ⟨b, i2, m2, rfl, e2, r2⟩ := hr.at S ry
  exact (rcne_lists hx e1 e2 r1 r2 (ok.eqs (by lia))).2 _ _ _ _ (k _ _ _ _ S (Le.refl _) (.bool _) h)
theorem JCmp.eqInts {v w : V} {ns ms : List Int} (hl : LstOf hp v (ns.map .int)) (hr : LstOf hp w (ms.map .int)) (h : Φ (.bool (decide (ns = ms))) hp) : JCmp B n hp .Eq v w Φ := fun A s x y ok S rx ry => Wp.of fun Q k => by
  obtain ⟨a, i1, m1, rfl, e1, r1⟩ := hl.at S rx
  obtain ⟨b, i2, m2, rfl, e2, r2⟩ := hr.at S ry
  exact ke_eq_ints (xs := i1.toList) (ys := i2.toList) (by rw [Array.toArray_toList]; exact isL e1) (by rw [Array.toArray_toList]; exact isL e2) (ints_of r1) (ints_of r2) (by have := ok.space; lia) (k _ _ _ _ S (Le.refl _) (.bool _) h)
theorem JCmp.neInts {v w : V} {ns ms : List Int} (hl : LstOf hp v (ns.map .int)) (hr : LstOf hp w (ms.map .int)) (h : Φ (.bool (!decide (ns = ms))) hp) : JCmp B n hp .NotEq v w Φ := fun A s x y ok S rx ry => Wp.of fun Q k => by
  obtain ⟨a, i1, m1, rfl, e1, r1⟩ := hl.at S rx
  obtain ⟨b, i2, m2, rfl, e2, r2⟩ := hr.at S ry
  exact ke_ne_ints (xs := i1.toList) (ys := i2.toList) (by rw [Array.toArray_toList]; exact isL e1) (by rw [Array.toArray_toList]; exact isL e2) (ints_of r1) (ints_of r2) (by have := ok.space; lia) (k _ _ _ _ S (Le.refl _) (.bool _) h)
theorem strsAre_of {z : Z} : ∀ {vs : List Value} {ss : List Str}, IsAll z vs (ss.map .str) → StrsAre vs ss
  | _, [], .nil => .nil
  | _, x :: ss, .cons h t => by (first | refine Is.eInt h fun _ => ?_ | refine Is.eStr h fun _ => ?_ | refine Is.eNone h ?_ | refine Is.eBool h ?_ | refine Is.eRaw h ?_ | refine Is.eMref h ?_ | refine IsAll.eNil h ?_ | (obtain rfl := h.inv) | (obtain ⟨_, rfl⟩ := h.inv) | cases h); exact .cons _ _ (strsAre_of t)
theorem JCmp.notInL {v : V} {ss : List Str} (hl : LstOf hp v (ss.map .str)) (h : Φ (.bool (!ss.any (· == x))) hp) : JCmp B n hp .NotIn (.str x) v Φ := fun A s p q ok S rx ry => Wp.of fun Q k => by
  (first | refine Is.eInt rx fun _ => ?_ | refine Is.eStr rx fun _ => ?_ | refine Is.eNone rx ?_ | refine Is.eBool rx ?_ | refine Is.eRaw rx ?_ | refine Is.eMref rx ?_ | refine IsAll.eNil rx ?_ | (obtain rfl := rx.inv) | (obtain ⟨_, rfl⟩ := rx.inv) | cases rx)
  obtain ⟨a, i1, m1, rfl, e1, r1⟩ := hl.at S ry
  exact notin_list_strs (vs := i1.toList) (by rw [Array.toArray_toList]; exact isL e1) (strsAre_of r1) (k _ _ _ _ S (Le.refl _) (.bool _) h)

noncomputable def TabI (h : Heap) (d : Addr) (D : List (Str × Int)) : Prop := (d == sysModules) = false ∧ ∃ o es ep, h.get? d = some o ∧ o.ExactDict ∧ o.data = .dict es ep ∧ KTD.Rows (fun (n : Int) v => PyProof.V.Flat v (.int n)) es.toList D
theorem TabI.here {s : Shared} {d : Addr} {D : List (Str × Int)} (T : TopB B K mg mb) (X : TabI B.h0 d D) (S : St B hp s) : KTD.Here s.heap s.heap d (D.map fun p => (p.1, KTD.Dat.flat (.int p.2))) := by
  obtain ⟨h1, o, es, ep, e, hx, hd, hr⟩ := X
  have hn : d ∉ B.tabs := fun q => by rw [T.tabs _ q] at e; cases e; cases hd
  refine ⟨⟨h1, o, es, ep, (zof_of (S.base _ _ e hn)).1, hx, hd, ?_⟩, fun _ _ e => e⟩
  exact hr.mono (f := fun n => KTD.Dat.flat (.int n)) fun d v h h' => h h'
theorem datumAt_map {k : Str} : ∀ {D : List (Str × Int)}, KTD.datumAt k (D.map fun p => (p.1, KTD.Dat.flat (.int p.2))) = (KTD.datumAt k D).map fun i => KTD.Dat.flat (.int i)
  | [] => rfl
  | (x, i) :: D => by
    rw [List.map_cons]
    unfold KTD.datumAt
    split
    · rfl
    · exact datumAt_map
theorem inKeys_map {k : Str} {D : List (Str × Int)} : KTD.inKeys k (D.map fun p => (p.1, KTD.Dat.flat (.int p.2))) = (KTD.datumAt k D).isSome := by
  rw [← KTD.isSome_datumAt, datumAt_map, Option.isSome_map]
theorem JCmp.inTab {d : Addr} {D : List (Str × Int)} (T : TopB B K mg mb) (X : TabI B.h0 d D) (h : Φ (.bool (KTD.datumAt x D).isSome) hp) : JCmp B n hp .In (.str x) (.raw (.ref d)) Φ := fun A s p q ok S rx ry => Wp.of fun Q k => by
  (first | refine Is.eInt rx fun _ => ?_ | refine Is.eStr rx fun _ => ?_ | refine Is.eNone rx ?_ | refine Is.eBool rx ?_ | refine Is.eRaw rx ?_ | refine Is.eMref rx ?_ | refine IsAll.eNil rx ?_ | (obtain rfl := rx.inv) | (obtain ⟨_, rfl⟩ := rx.inv) | cases rx); (first | refine Is.eInt ry fun _ => ?_ | refine Is.eStr ry fun _ => ?_ | refine Is.eNone ry ?_ | refine Is.eBool ry ?_ | refine Is.eRaw ry ?_ | refine Is.eMref ry ?_ | refine IsAll.eNil ry ?_ | (obtain rfl := ry.inv) | (obtain ⟨_, rfl⟩ := ry.inv) | cases ry)
  refine KTD.in_text (X.here T S) ?_
  rw [inKeys_map]
  exact k _ _ _ _ (S.toks _) (Le.refl _) (.bool _) h
theorem NoPyItem.tab {d : Addr} {D : List (Str × Int)} (T : TopB B K mg mb) (X : TabI B.h0 d D) : NoPyItem B hp (.raw (.ref d)) := fun A s v S r Q h => by
  (first | refine Is.eInt r fun _ => ?_ | refine Is.eStr r fun _ => ?_ | refine Is.eNone r ?_ | refine Is.eBool r ?_ | refine Is.eRaw r ?_ | refine Is.eMref r ?_ | refine IsAll.eNil r ?_ | (obtain rfl := r.inv) | (obtain ⟨_, rfl⟩ := r.inv) | cases r)
  exact noPy_of (X.here T S).typeIs PySem.slot_dict_getitem h
theorem JGi.tab {d : Addr} {D : List (Str × Int)} {i : Int} (T : TopB B K mg mb) (X : TabI B.h0 d D) (hx : KTD.datumAt x D = some i) (h : Φ (.int i) hp) : JGi B n hp (.raw (.ref d)) (.str x) Φ := fun A s v w ok S r r' => Wp.of fun Q k => by
  (first | refine Is.eInt r fun _ => ?_ | refine Is.eStr r fun _ => ?_ | refine Is.eNone r ?_ | refine Is.eBool r ?_ | refine Is.eRaw r ?_ | refine Is.eMref r ?_ | refine IsAll.eNil r ?_ | (obtain rfl := r.inv) | (obtain ⟨_, rfl⟩ := r.inv) | cases r); (first | refine Is.eInt r' fun _ => ?_ | refine Is.eStr r' fun _ => ?_ | refine Is.eNone r' ?_ | refine Is.eBool r' ?_ | refine Is.eRaw r' ?_ | refine Is.eMref r' ?_ | refine IsAll.eNil r' ?_ | (obtain rfl := r'.inv) | (obtain ⟨_, rfl⟩ := r'.inv) | cases r')
  have Hr := X.here T S
  unfold getItem
  try with_reducible refine wpAny_holding ?_
  refine wpAny_bind (wpAny_sequenceKey Hr.typeIs (by decide) ?_)
  refine wpAny_bind (wpAny_callSpecial?_slot (name := Str.ofString "__getitem__") Hr.typeIs PySem.slot_dict_getitem
    (wpAny_call_entry PySem.slot_dict_getitem Hr.typeIs entry_dict_getitem ?_ (args_dict_getitem _ _)))
  show wpAny _ _ (dictGet d (.str x _) >>= _) _ _ s
  refine wpAny_bind (KTD.dictGet_text Hr (fun dd v ha hv => ?_) fun hn => ?_)
  · rw [datumAt_map, hx] at ha
    cases ha
    have hv : Reads s.heap v (.int i) [] := hv s.heap
    cases hv
    exact wpAny_pure ⟨_, rfl, wpAny_pure (k _ _ _ _ (S.toks _) (Le.refl _) (.int _ _) h)⟩
  · rw [datumAt_map, hx] at hn; cases hn
end
end Mine

set_option maxRecDepth 100000
set_option linter.unusedVariables false
namespace Mine
open PySem PySem.W PySem.Calls PyProof.Rows

theorem plainAttrs_re : PlainAttrs "re.Pattern" :=
  ⟨⟨"object.__getattribute__", by rw [typeLookup_type, builtinLookup_eq_fast]; kernel_rfl, by decide +kernel⟩, by rw [typeLookup_type, builtinLookup_eq_fast]; kernel_rfl⟩
theorem slot_re_search : Slot "re.Pattern" "search" "re.Pattern.search" :=
  .of (owner := "re.Pattern") (n := "search") (by rw [typeLookup_type, builtinLookup_eq_fast]; kernel_rfl) (by decide +kernel) (by decide +kernel) (by decide +kernel)
    (by first | exact .inl (by decide +kernel) | exact .inr (by decide +kernel)) (by rw [isSubtype_type]; kernel_rfl)
theorem type_re_search : typeOf (.builtin "re.Pattern.search") = pure (.type "method_descriptor") := by show builtinType _ = _; rw [builtinType_eq_fast]; kernel_rfl
theorem entry_re_search : entryFor table "re.Pattern.search" = some Builtin.«re.Pattern.search» := entryFor_of_tree (by kernel_rfl)
theorem args_re_search (a b : Value) : argsOk "re.Pattern.search" ⟨[a, b], []⟩ := by unfold argsOk; kernel_rfl

open PySem.Sre in
theorem admitted_none {code : Array Nat} {m : M} (hm : m.code = code) (hset : ∀ (c : Nat) (seen : Sre.Seen), c ∈ m.text.toList → ∃ seen', inSet code c code.size 5 true seen = .ok (false, seen')) (hlim : m.lim = m.text.size) :
    ∀ (fuel s : Nat) (seen : Sre.Seen), ∃ seen', M.admitted m fuel s seen = .ok (none, seen')
  | 0, s, seen => ⟨seen, rfl⟩
  | fuel + 1, s, seen => by
    unfold M.admitted
    by_cases h : s ≥ m.lim
    · rw [if_pos h]; exact ⟨seen, rfl⟩
    · rw [if_neg h, hm]
      have hs : s < m.text.size := by rw [hlim] at h; omega
      have hc : m.text.getD s 0 ∈ m.text.toList := by
        rw [Array.getD_eq_getD_getElem?, Array.getElem?_eq_getElem hs]
        simp
      obtain ⟨seen', e⟩ := hset _ seen hc
      rw [e]
      exact admitted_none hm hset hlim fuel (s + 1) seen'
open PySem.Sre in
theorem run_said {m : M} (ha : m.answer = some false) (hf : m.frames = []) (ho : m.outcome = none) : ∃ m', M.runFor 4 m = m' ∧ m'.outcome = some .failed ∧ m'.seen = m.seen := by
  refine ⟨{ m with outcome := some .failed }, ?_, rfl, rfl⟩
  have h1 : m.step = { m with outcome := some .failed } := by
    unfold M.step
    rw [ho, ha, hf]; rfl
  unfold M.runFor
  rw [ho]
  simp only [Option.isSome_none, Bool.false_eq_true, if_false]
  rw [h1]
  unfold M.runFor
  simp
section
variable {M : Model} {A : Around} {E : Value → Shared → Prop} {s : Shared}
open PySem.Builtin.Re
theorem wpAny_reRun_failed {m : Sre.M} {Q : Option Sre.M → Shared → Prop} (ha : m.answer = some false) (hf : m.frames = []) (ho : m.outcome = none) (h : Q none s) : wpAny M A (reRunToEnd m) Q E s := by
  obtain ⟨m', e, h1, h2⟩ := run_said ha hf ho
  unfold reRunToEnd
  have e1 : ∀ k, reDrive (k + 1) m = pure m' := fun k => by
    show (if (Sre.M.runFor 4 m).outcome.isSome then pure (Sre.M.runFor 4 m) else _) = _
    rw [e, h1]; rfl
  have e2 : reDrive (2 ^ 64) m = pure m' := e1 (2 ^ 64 - 1)
  rw [e2]
  refine wpAny_bind (wpAny_pure (wpAny_bind ?_))
  refine wpAny_forIn_list _ (fun _ _ s' => s' = s) _ ?_ ?_ _ _ rfl
  · rintro i rest b s' rfl
    split
    · exact wpAny_bind (wpAny_rule (wpAny_pure rfl))
    · exact wpAny_pure rfl
  · rintro b s' rfl
    rw [h1]
    exact wpAny_pure h
end

structure RePat (h : Heap) (p : Addr) (ok : Nat → Prop) : Prop where
  ex : ∃ o vs q oq items nq code, h.get? p = some o ∧ o.cls = .type "re.Pattern" ∧ o.dict = none ∧ o.data = .fields vs ∧ vs.getD 6 .none = .int 0 0 ∧ vs.getD 2 .none = .int 0 0 ∧ vs.getD 5 .none = .ref q ∧
    h.get? q = some oq ∧ oq.data = .seq items nq ∧ ((items.map Builtin.Re.reRawOf).map (·.toNat)) = code ∧ (Sre.header code).1 = 1 ∧ code.getD 2 0 = 4 ∧ Sre.ops[code.getD 0 0]? = some .INFO ∧
    ∀ c, ok c → ∀ seen : Sre.Seen, ∃ seen', Sre.inSet code c code.size 5 true seen = .ok (false, seen')
theorem forSearch_none {code text : Array Nat} {groups : Nat} (h1 : (Sre.header code).1 = 1) (h2 : code.getD 2 0 = 4) (h3 : Sre.ops[code.getD 0 0]? = some .INFO) (hset : ∀ c, c ∈ text.toList → ∀ seen : Sre.Seen, ∃ seen', Sre.inSet code c code.size 5 true seen = .ok (false, seen')) :
    (Sre.forSearch code text groups 0 text.size false).answer = some false ∧ (Sre.forSearch code text groups 0 text.size false).frames = [] ∧ (Sre.forSearch code text groups 0 text.size false).outcome = none := by
  have key1 : ∀ (m : Sre.M) fuel s seen a b, Sre.M.admitted m fuel s seen = .ok (some a, b) → m.code = code → m.text = text → m.lim = text.size → False := fun m fuel s seen a b e e1 e2 e3 => by
    obtain ⟨seen', e'⟩ := admitted_none (m := m) e1 (fun c seen hc => hset c (e2 ▸ hc) seen) (by rw [e3, e2]) fuel s seen
    rw [e'] at e; cases e
  have key2 : ∀ (m : Sre.M) fuel s seen a, Sre.M.admitted m fuel s seen = .error a → m.code = code → m.text = text → m.lim = text.size → False := fun m fuel s seen a e e1 e2 e3 => by
    obtain ⟨seen', e'⟩ := admitted_none (m := m) e1 (fun c seen hc => hset c (e2 ▸ hc) seen) (by rw [e3, e2]) fuel s seen
    rw [e'] at e; cases e
  unfold Sre.forSearch
  dsimp only
  split
  · exact ⟨rfl, rfl, rfl⟩
  · unfold Sre.M.attemptFrom
    have hf : ∀ m : Sre.M, m.code = code → m.hasFirstSet = true := fun m e => by
      unfold Sre.M.hasFirstSet
      rw [e, h3, h2]; rfl
    rw [hf _ rfl]
    simp only [Bool.not_true, Bool.false_eq_true, if_false]
    split
    · rename_i s' seen e
      exact (key1 _ _ _ _ _ _ e rfl rfl rfl).elim
    · exact ⟨rfl, rfl, rfl⟩
    · rename_i why e
      exact (key2 _ _ _ _ _ e rfl rfl rfl).elim
section
variable {B : Base} {n : Nat} {env : Env} {hp hp' : Hp} {pos : Pos} {Φ : V → Hp → Prop} {Ξ : V → List V → Hp → Prop} {x : Str} {K : Frag} {mg mb : Str → Option Value} {ok : Nat → Prop}
theorem JM.search {p : Addr} (T : TopB B K mg mb) (R : RePat B.h0 p ok) (h : Ξ (.raw (.builtin "re.Pattern.search")) [.raw (.ref p)] hp) : JM B n hp (.raw (.ref p)) "search" Ξ := fun A s v pl ok S r => Wp.of fun Q k => by
  (first | refine Is.eInt r fun _ => ?_ | refine Is.eStr r fun _ => ?_ | refine Is.eNone r ?_ | refine Is.eBool r ?_ | refine Is.eRaw r ?_ | refine Is.eMref r ?_ | refine IsAll.eNil r ?_ | (obtain rfl := r.inv) | (obtain ⟨_, rfl⟩ := r.inv) | cases r)
  obtain ⟨o, vs, q, oq, items, nq, code, e, hc, hdi, hd, _⟩ := R.ex
  have hn : p ∉ B.tabs := fun q => by rw [T.tabs _ q] at e; cases e; cases hc
  have e' := (zof_of (S.base _ _ e hn)).1
  exact getMethod_builtin (T := "re.Pattern") ⟨_, e', hc⟩ plainAttrs_re slot_re_search type_re_search (fun a ea => by cases ea; exact ⟨_, e', hdi⟩) (k _ (.raw (.builtin "re.Pattern.search"), [.raw (.ref p)]) _ _ S (Le.refl _) ⟨.raw _, .cons (.raw _) .nil⟩ h)
theorem JC.search {p : Addr} (T : TopB B K mg mb) (R : RePat B.h0 p ok) (hz : x.cps.size ≤ 16777216) (hx : ∀ c ∈ x.cps.toList, ok c) (h : Φ .none hp) : JC B n hp (.raw (.builtin "re.Pattern.search")) [.raw (.ref p), .str x] [] Φ := fun A s fv vs kvs ok' S rf rv ek rk => Wp.of fun Q k => by
  (first | refine Is.eInt rf fun _ => ?_ | refine Is.eStr rf fun _ => ?_ | refine Is.eNone rf ?_ | refine Is.eBool rf ?_ | refine Is.eRaw rf ?_ | refine Is.eMref rf ?_ | refine IsAll.eNil rf ?_ | (obtain rfl := rf.inv) | (obtain ⟨_, rfl⟩ := rf.inv) | cases rf); obtain ⟨v, w, rfl, r, r'⟩ := two_args rv; (first | refine Is.eInt r fun _ => ?_ | refine Is.eStr r fun _ => ?_ | refine Is.eNone r ?_ | refine Is.eBool r ?_ | refine Is.eRaw r ?_ | refine Is.eMref r ?_ | refine IsAll.eNil r ?_ | (obtain rfl := r.inv) | (obtain ⟨_, rfl⟩ := r.inv) | cases r); (first | refine Is.eInt r' fun _ => ?_ | refine Is.eStr r' fun _ => ?_ | refine Is.eNone r' ?_ | refine Is.eBool r' ?_ | refine Is.eRaw r' ?_ | refine Is.eMref r' ?_ | refine IsAll.eNil r' ?_ | (obtain rfl := r'.inv) | (obtain ⟨_, rfl⟩ := r'.inv) | cases r'); cases no_kw ek
  rename_i t
  obtain ⟨o, vs, q, oq, items, nq, code, e, hc, hdi, hd, v6, v2, v5, eq, hdq, hcode, c1, c2, c3, hset⟩ := R.ex
  have hn : p ∉ B.tabs := fun q => by rw [T.tabs _ q] at e; cases e; cases hc
  have hn2 : q ∉ B.tabs := fun q' => by rw [T.tabs _ q'] at eq; cases eq; cases hdq
  have e' := (zof_of (S.base _ _ e hn)).1
  have eq' := (zof_of (S.base _ _ eq hn2)).1
  refine wpAny_call (codeAny_call_builtin slot_re_search.plain entry_re_search (slot_re_search.check _ _ _ _ _ _ _ _ (T := "re.Pattern") ⟨_, e', hc⟩ (args_re_search _ _) ?_))
  unfold Builtin.«re.Pattern.search» Builtin.Re.reTarget
  have en : Builtin.Re.reNamed "re.Pattern.search" "search" ["string", "pos", "endpos"] 1 [.str x t] [] = pure [some (.str x t), none, none] := by kernel_rfl
  refine wpAny_bind (wpAny_bind ?_)
  show wpAny _ _ (Builtin.Re.reNamed "re.Pattern.search" "search" ["string", "pos", "endpos"] 1 [.str x t] []) _ _ s
  rw [en]
  refine wpAny_pure ?_
  refine wpAny_bind (wpAny_pure (wpAny_bind (wpAny_pure ?_)))
  refine wpAny_bind (wpAny_fieldsOf e' hd ?_)
  refine wpAny_bind (wpAny_of_eq (a := (x.cps, 0)) (by rfl) ?_)
  dsimp only
  rw [v6, v2, v5]
  refine wpAny_bind (wpAny_of_eq (a := ()) (by rfl) ?_)
  unfold Builtin.Re.reRawItems
  refine wpAny_bind (wpAny_bind (wpAny_seqItems eq' hdq (wpAny_pure ?_)))
  refine wpAny_pure ?_
  have hlim : min (2 ^ 63 - 1 : Int).toNat x.cps.size = x.cps.size := by
    show min 9223372036854775807 x.cps.size = x.cps.size
    omega
  dsimp only [Option.getD_some]
  rw [hcode, hlim]
  unfold Builtin.Re.reAnswer
  obtain ⟨f1, f2, f3⟩ := forSearch_none (text := x.cps) (groups := Builtin.Re.reRawNat (.int 0 0)) c1 c2 c3 fun c hc => hset c (hx c hc)
  exact wpAny_bind (wpAny_reRun_failed f1 f2 f3 (wpAny_pure (k _ _ _ _ S (Le.refl _) .none h)))
end
end Mine

set_option maxRecDepth 100000
set_option linter.unusedVariables false
namespace Mine
open PySem PySem.W PySem.Calls PyProof.Rows

theorem slot_callit_next : Slot "callable_iterator" "__next__" "callable_iterator.__next__" :=
  .of (owner := "callable_iterator") (n := "__next__") (by rw [typeLookup_type, builtinLookup_eq_fast]; kernel_rfl) (by decide +kernel) (by decide +kernel) (by decide +kernel)
    (by first | exact .inl (by decide +kernel) | exact .inr (by decide +kernel)) (by rw [isSubtype_type]; kernel_rfl)
theorem entry_callit_next : entryFor table "callable_iterator.__next__" = some Builtin.«callable_iterator.__next__» := entryFor_of_tree (by kernel_rfl)
theorem args_callit_next (a : Value) : argsOk "callable_iterator.__next__" ⟨[a], []⟩ := by unfold argsOk; kernel_rfl
theorem kind_iter : builtinKind "iter" = none := by decide +kernel
theorem plain_iter : plainId "iter" = true := by decide +kernel
theorem entry_iter : entryFor table "iter" = some Builtin.«iter» := entryFor_of_tree (by kernel_rfl)
theorem args_iter_2 (a b : Value) : argsOk "iter" ⟨[a, b], []⟩ := by unfold argsOk; kernel_rfl
theorem look_method_call : typeLookup (.type "method") "__call__" = pure (some (.builtin "method.__call__")) := by rw [typeLookup_type, builtinLookup_eq_fast]; kernel_rfl

section
variable {M : Model} {A : Around} {E : Value → Shared → Prop} {s : Shared}
theorem wpAny_callBorrowed {f : Value} {pos : List Value} {Q : Value → Shared → Prop} (h : wpAny M A (call f pos []) Q E s) : wpAny M A (callBorrowed f pos) Q E s := fun Γ p hΓ => by
  have := h Γ p hΓ
  unfold call at this
  rw [Sem.wp_runValue] at this
  unfold callBorrowed
  rw [Sem.wp]
  refine cast (congrArg (fun F => wpCode M (Γ.enter (Code.call f { pos := pos }) none p) F p s) (funext fun r => funext fun s' => ?_)) this
  cases r with
  | error e => rfl
  | ok f => cases f <;> rfl
theorem wpAny_stopIter {α : Type} {Q : α → Shared → Prop} (hh : A.handled = none) (h : ∀ h' e, (∀ b o, s.heap.get? b = some o → h'.get? b = some o) → (∃ o, h'.get? e = some o ∧ o.cls = .type "StopIteration") → E (.ref e) { s with heap := h' }) :
    wpAny M A.in1 (Builtin.SmallTypes.stopIteration : Sem α) Q E s := by
  unfold Builtin.SmallTypes.stopIteration
  show wpAny _ _ (newExc (.type "StopIteration") [] >>= _) _ _ _
  refine wpAny_bind ?_
  simp only [newExc, newTuple]
  refine wpAny_bind (wpAny_newObj_type ?_ (by size_fits))
  refine wpAny_bind (m := firstArgMember _ _) (wpAny_of_eq (a := Value.none) (by first | rfl | (simp only [firstArgMember]; rfl)) ?_)
  refine wpAny_newObj_type ?_ (by size_fits)
  simp only [raiseNew]
  refine wpAny_bind (wpAny_handled ?_)
  rw [show A.in1.handled = none from hh]
  refine wpAny_bind (wpAny_pure (wpAny_throw ?_))
  exact h _ _ (fun b o e => Heap.get?_push_of_some _ (Heap.get?_push_of_some _ e)) ⟨_, Heap.get?_push_size _ rfl, rfl⟩
end
section
variable {B : Base} {n : Nat} {env : Env} {hp hp' : Hp} {pos : Pos} {Φ : V → Hp → Prop} {x y : Str}
theorem JC.iter2 {f self sent : V} (h : ∀ it, Φ (.mref it) ((it, .it (.call (.meth f self) sent false)) :: hp)) : JC B n hp (.raw (.builtin "iter")) [.meth f self, sent] [] Φ := fun A s fv vs kvs ok S rf rv ek rk => Wp.of fun Q k => by
  (first | refine Is.eInt rf fun _ => ?_ | refine Is.eStr rf fun _ => ?_ | refine Is.eNone rf ?_ | refine Is.eBool rf ?_ | refine Is.eRaw rf ?_ | refine Is.eMref rf ?_ | refine IsAll.eNil rf ?_ | (obtain rfl := rf.inv) | (obtain ⟨_, rfl⟩ := rf.inv) | cases rf); obtain ⟨v, w, rfl, r, r'⟩ := two_args rv; cases no_kw ek
  have hr := r
  obtain ⟨a, f', self', rfl, e, rf', rs'⟩ := r.inv
  next =>
    refine call_function_entry kind_iter plain_iter entry_iter (args_iter_2 _ _) ?_
    unfold Builtin.«iter»
    refine wpAny_bind (wpAny_of_eq (a := [.ref a, w]) (by kernel_rfl) ?_)
    dsimp only
    refine wpAny_bind (wpAny_specialOf (T := "method") ⟨_, zof_le _ _ e, rfl⟩ look_method_call ?_)
    simp only [Option.isNone_some, Bool.false_eq_true, if_false]
    refine wpAny_bind (wpAny_rule (wpAny_bind (wpAny_newObj_type ?_)))
    have K := S.add (tk := s.toks) (a := s.heap.objs.size) (ao := .it (.call (.meth f self) sent false)) (h' := s.heap.push { cls := .type "callable_iterator", data := .fields #[.ref a, w, .bool false] }) (fun _ _ e => Heap.get?_push_of_some _ e) (size_fresh _)
      ⟨.ref a, w, Heap.get?_push_size _ rfl, fun _ => ⟨hr, r'⟩⟩
    exact wpAny_pure ⟨_, rfl, k _ _ _ _ K.1 K.2 (.mref _) (h _)⟩
theorem JN.callEnded {t : Expr} {it : Addr} {f sent : V} {Ω : Option V → Hp → Prop} (hm : (it, .it (.call f sent true)) ∈ hp) (h : Ω none hp) : JN B n hp t it Ω := fun A s ok S => by
  obtain ⟨vf, vs, e, _⟩ := S.objs _ hm
  have hT : s.TypeIs (.ref it) "callable_iterator" := ⟨_, e, rfl⟩
  unfold pyNext
  refine wpAny_bind (wpAny_attempt (wpAny_callSpecial?_slot (name := Str.ofString "__next__") hT slot_callit_next
    (wpAny_call_entry slot_callit_next hT entry_callit_next ?_ (args_callit_next _))))
  show wpAny _ _ (field (.ref it) 2 >>= _) _ _ s
  refine wpAny_bind (wpAny_field e rfl (x := .bool true) rfl ?_)
  show wpAny _ _ (rule _ >>= _) _ _ s
  refine wpAny_bind (wpAny_rule (wpAny_bind ?_))
  refine wpAny_stopIter ok.handled fun h' ex hk hX => ?_
  refine wpAny_bind (wpAny_isInstance (T := "StopIteration") (b := true) hX isSubtype_stop ?_)
  have K := S.ext (tk := s.toks) (h' := h') hk
  exact wpAny_pure ⟨hp, K.1, K.2, h⟩
theorem borrows_meth {A : Around} {M : Model} {s : Shared} {v : Value} {fd : FuncData} {self : V} {Q : Bool → Shared → Prop} {E : Value → Shared → Prop} (r : Is (zof hp s.heap) v (.meth (.fn fd) self)) (h : Q true s) : wpAny M A (borrowsExactly v) Q E s := by
  obtain ⟨_, _, _, rfl, e, rf, rs⟩ := r.inv
  next =>
    obtain ⟨_, _, rfl, e', hc, hd, _⟩ := rf.inv
    next =>
      unfold borrowsExactly
      refine wpAny_bind (wpAny_load (zof_of e).1 ?_)
      dsimp only
      rw [if_pos (by decide)]
      refine wpAny_bind (wpAny_load (zof_of e').1 ?_)
      rw [hd]
      exact wpAny_pure h
theorem JN.call {t : Expr} {it : Addr} {fd : FuncData} {self : V} {Ω : Option V → Hp → Prop} (hm : (it, .it (.call (.meth (.fn fd) self) (.str y) false)) ∈ hp)
    (h : JC B n hp (.meth (.fn fd) self) [] [] fun v hp₁ => ∃ r, v = .str r ∧ ((y == r) = false → (it, .it (.call (.meth (.fn fd) self) (.str y) false)) ∈ hp₁ ∧ Ω (some v) hp₁) ∧
      ((y == r) = true → ∃ hp₂, Upd hp₁ it (.it (.call (.meth (.fn fd) self) (.str y) false)) (.it (.call (.meth (.fn fd) self) (.str y) true)) hp₂ ∧ Ω none hp₂)) : JN B (n + 1) hp t it Ω := fun A s ok S => by
  obtain ⟨vf, vs, e, rr⟩ := S.objs _ hm
  obtain ⟨rf, rs⟩ := rr rfl
  have hT : s.TypeIs (.ref it) "callable_iterator" := ⟨_, e, rfl⟩
  have ok1 : AOk n A.in1 := ok.in1
  unfold pyNext
  refine wpAny_bind (wpAny_attempt (wpAny_callSpecial?_slot (name := Str.ofString "__next__") hT slot_callit_next
    (wpAny_call_entry slot_callit_next hT entry_callit_next ?_ (args_callit_next _))))
  show wpAny _ _ (field (.ref it) 2 >>= _) _ _ s
  refine wpAny_bind (wpAny_field e rfl (x := .bool false) rfl ?_)
  show wpAny _ _ (field (.ref it) 0 >>= _) _ _ s
  refine wpAny_bind (wpAny_field e rfl (x := vf) rfl ?_)
  refine wpAny_bind (wpAny_attempt ?_)
  unfold callOutOfASlot
  refine wpAny_bind (borrows_meth rf ?_)
  simp only [if_true]
  refine wpAny_callBorrowed ((h A.in1 s vf [] [] ok1 S rf .nil rfl .nil).use fun r v hp₁ s₁ S₁ L₁ r₁ h₁ => ?_)
  have F0 : ∃ rs', Is (zof hp₁ s₁.heap) r (.str rs') ∧ ((y == rs') = false → (it, AObj.it (.call (.meth (.fn fd) self) (.str y) false)) ∈ hp₁ ∧ Ω (some (.str rs')) hp₁) ∧
      ((y == rs') = true → ∃ hp₂, Upd hp₁ it (.it (.call (.meth (.fn fd) self) (.str y) false)) (.it (.call (.meth (.fn fd) self) (.str y) true)) hp₂ ∧ Ω none hp₂) := by
    obtain ⟨rs', rfl, a, b⟩ := h₁
    exact ⟨rs', r₁, a, b⟩
  clear r₁ h₁
  have r₁ := F0.choose_spec.1
  have hno := F0.choose_spec.2.1
  have hyes := F0.choose_spec.2.2
  generalize F0.choose = rs' at hno hyes r₁
  refine Is.eStr r₁ fun tr => ?_
  have hmem : (it, AObj.it (.call (.meth (.fn fd) self) (.str y) false)) ∈ hp₁ := by
    cases q : (y == rs') with
    | false => exact (hno q).1
    | true => exact (hyes q).choose_spec.1.mem
  have F : ∃ vf₁ ty, s₁.heap.get? it = some { cls := .type "callable_iterator", data := .fields #[vf₁, .str y ty, .bool false] } ∧ Is (zof hp₁ s₁.heap) vf₁ (.meth (.fn fd) self) := by
    obtain ⟨vf₁, vs₁, e₁, rr₁⟩ := S₁.objs _ hmem
    obtain ⟨ty, e⟩ := (rr₁ rfl).2.inv
    exact ⟨vf₁, ty, e ▸ e₁, (rr₁ rfl).1⟩
  have e₁ := F.choose_spec.choose_spec.1
  have rf₁ := F.choose_spec.choose_spec.2
  generalize F.choose_spec.choose = ty at e₁
  generalize F.choose = vf₁ at e₁ rf₁
  show wpAny _ _ (field (.ref it) 2 >>= _) _ _ s₁
  refine wpAny_bind (wpAny_field e₁ rfl (x := .bool false) rfl ?_)
  rw [if_neg (by decide)]
  refine wpAny_bind (wpAny_field e₁ rfl (x := .str y ty) rfl ?_)
  refine wpAny_bind (wpAny_holding (SeqAt.EqAt.str_str y ty rs' tr _ _ _ _ ?_))
  cases q : (y == rs') with
  | false =>
    rw [if_pos (by rfl)]
    exact wpAny_pure ⟨_, rfl, wpAny_pure (letOwned_plain e₁ rfl (by decide) ⟨_, hp₁, S₁, L₁, .str _ _, (hno q).2⟩)⟩
  | true =>
    have U := (hyes q).choose_spec.1
    have h₂ := (hyes q).choose_spec.2
    rw [if_neg (by decide)]
    refine wpAny_bind (wpAny_rule (wpAny_bind ?_))
    show wpAny _ _ (field (.ref it) 0 >>= _) _ _ s₁
    refine wpAny_bind (wpAny_field e₁ rfl (x := vf₁) rfl ?_)
    refine wpAny_bind ?_
    have lets : ∀ (Q : Unit → Shared → Prop) E busy, Q () s₁ → wpAny B.M A.in1 (slotLetsGo "callable_iterator.__next__" vf₁ busy) Q E s₁ := by
      intro Q E busy hq
      have hb := borrows_meth (A := A.in1) (M := B.M) (E := E) rf₁ (Q := fun b s' => wpAny B.M A.in1 (do
        if b then return
        if ((← stack).drop 1).any fun (c, _) => busy c then unsupported s!"{"callable_iterator.__next__"}:what-C-calls-borrowed-out-of-this-slot-is-let-go-while-that-call-runs") Q E s') (by
          simp only [if_true]
          exact wpAny_pure hq)
      (first | (obtain rfl := rf₁.inv) | (obtain ⟨_, rfl⟩ := rf₁.inv) | cases rf₁)
      exact wpAny_bind hb
    refine lets _ _ _ ?_
    refine wpAny_bind (wpAny_setField_rec e₁ (by simp) fun h1 e1 hs1 => wpAny_bind (wpAny_setField_rec e1 (by simp) fun h2 e2 hs2 => wpAny_setField_rec e2 (by simp) fun h3 e3 hs3 => ?_))
    refine wpAny_stopIter (s := { s₁ with heap := h3 }) ok.handled fun h' ex hk hX => ?_
    refine wpAny_bind (wpAny_isInstance (T := "StopIteration") (b := true) hX isSubtype_stop ?_)
    have hx : Heap.ExtBut it s₁.heap h' := fun b o hb e => hk _ _ (hs3.extBut b o hb (hs2.extBut b o hb (hs1.extBut b o hb e)))
    have K := S₁.set (tk := s₁.toks) U hx ⟨_, _, hk _ _ e3, fun hb => nomatch hb⟩
    exact wpAny_pure ⟨_, K.1, L₁.trans K.2, h₂⟩
end
end Mine

set_option maxRecDepth 100000
set_option linter.unusedVariables false
namespace Mine
open PySem PySem.W PySem.Calls PyProof.Rows

section
variable {B : Base} {n : Nat} {env : Env} {hp hp₁ hp₂ hp₃ hp₄ hp' : Hp} {pos : Pos} {Φ : V → Hp → Prop} {Ψ : AF → Hp → Prop} {Ξ : V → List V → Hp → Prop} {x y : Str} {G : Globs B} {L : Addr} {kinds : List (Str × NameKind)} {own out : List (Str × Addr)}
theorem JI.self {it : Addr} {k : ItK} {Ω : Addr → Hp → Prop} (hm : (it, AObj.it k) ∈ hp) (hk : k.plain) (h : Ω it hp) : JI B n hp (.mref it) Ω := fun A s v ok S r => Wp.of fun Q q => by
  (first | refine Is.eInt r fun _ => ?_ | refine Is.eStr r fun _ => ?_ | refine Is.eNone r ?_ | refine Is.eBool r ?_ | refine Is.eRaw r ?_ | refine Is.eMref r ?_ | refine IsAll.eNil r ?_ | (obtain rfl := r.inv) | (obtain ⟨_, rfl⟩ := r.inv) | cases r)
  exact ItSelf.of hm (by cases k <;> first | trivial | exact hk) A s S Q (q _ _ _ _ S (Le.refl _) rfl h) _
theorem JC.enumerate {v : V} {xs : List V} (hl : v = .lst xs) (h : ∀ e it, e ≠ it → Φ (.mref e) ((e, .it (.enum it 0)) :: (it, .it (.lst xs 0)) :: hp)) : JC B n hp (.raw (.type "enumerate")) [v] [] Φ := fun A s fv vs kvs ok S rf rv ek rk => Wp.of fun Q k => by
  subst hl
  (first | refine Is.eInt rf fun _ => ?_ | refine Is.eStr rf fun _ => ?_ | refine Is.eNone rf ?_ | refine Is.eBool rf ?_ | refine Is.eRaw rf ?_ | refine Is.eMref rf ?_ | refine IsAll.eNil rf ?_ | (obtain rfl := rf.inv) | (obtain ⟨_, rfl⟩ := rf.inv) | cases rf); obtain ⟨v, rfl, r⟩ := one_arg rv; cases no_kw ek
  obtain ⟨l, items, m, rfl, e, rs⟩ := r.inv
  next =>
    refine call_enumerate_list (isL (zof_le _ _ e)) fun h' he hi hz hk => ?_
    have hfi : s.heap.get? s.heap.objs.size = none := size_fresh _
    have K1 := S.add (tk := s.toks) (a := s.heap.objs.size) (ao := .it (.lst xs 0)) (h' := h') hk hfi ⟨l, hi, .lst e rs⟩
    have hfe : s.heap.objs.size + 1 ∉ keys ((s.heap.objs.size, AObj.it (.lst xs 0)) :: hp) := by
      rw [keys_cons, List.mem_cons]
      rintro (q | q)
      · exact absurd q (Nat.succ_ne_self _)
      · exact S.fresh_not (Heap.get?_none_of_le (Nat.le_succ _)) q
    have LL : Le (zof hp s.heap) (zof ((s.heap.objs.size + 1, AObj.it (.enum s.heap.objs.size 0)) :: (s.heap.objs.size, AObj.it (.lst xs 0)) :: hp) h') := fun b o eb => by
      have z := zof_of (K1.2 b o eb)
      refine zof_mk z.1 ?_
      rw [keys_cons, List.mem_cons]
      rintro (rfl | q)
      · have := (zof_of eb).1; rw [Heap.get?_none_of_le (Nat.le_succ _)] at this; cases this
      · exact z.2 q
    refine k _ (.mref _) ((s.heap.objs.size + 1, .it (.enum s.heap.objs.size 0)) :: (s.heap.objs.size, .it (.lst xs 0)) :: hp) { s with heap := h' } ⟨List.nodup_cons.mpr ⟨hfe, K1.1.nodup⟩, fun p hp => ?_, fun b o eb t => LL _ _ (S.base b o eb t), S.gens, S.os, S.drawn⟩ LL (.mref _) (h _ _ (Nat.succ_ne_self _))
    rcases List.mem_cons.mp hp with rfl | hp
    · exact ⟨_, he⟩
    · rcases List.mem_cons.mp hp with rfl | hp
      · exact ⟨l, hi, (Is.lst e rs).mono LL⟩
      · exact ((S.objs p hp).keep (hk _)).mono LL
theorem JN.enum {elts : List Expr} {x1} {tp : Pos} {e it : Addr} {xs : List V} {i : Nat} {v : V} {Ω : Option V → Hp → Prop} (hx : xs[i]? = some v) (U : Upd hp e (.it (.enum it i)) (.it (.enum it ((i : Int) + 1))) hp₁) (U' : Upd hp₁ it (.it (.lst xs i)) (.it (.lst xs (i + 1))) hp₂) (hne : e ≠ it)
    (h : Ω (some (.tup [.int i, v])) hp₂) : JN B n hp (.Tuple elts x1 tp) e Ω := fun A s ok S => by
  obtain ⟨old, he⟩ := S.objs _ U.mem
  have hit : (it, AObj.it (.lst xs i)) ∈ hp := by
    rcases U.mem' _ U'.mem with q | ⟨q, _⟩
    · injection q with q _; exact absurd q.symm hne
    · exact q
  obtain ⟨l, hi, r⟩ := S.objs _ hit
  obtain ⟨items, hl, rs⟩ := isList_of zof_le r
  obtain ⟨w, hw, rw'⟩ := rs.get hx
  refine wpAny_pyNext_enum_item he hi hl (by simpa using hw) hne fun h₁ heo hi₁ ht hz hk₁ => ?_
  refine wpAny_letOwnedTupleGo_enum heo fun h₂ he₂ hs₂ => ?_
  have hs₂ : Heap.SameBut e h₁ h₂ := hs₂
  have keep : ∀ b o, b ∉ [e, it] → s.heap.get? b = some o → h₂.get? b = some o := fun b o hb eb => by
    simp only [List.mem_cons, List.not_mem_nil, or_false, not_or] at hb
    exact hs₂.extBut b o hb.1 (hk₁ b o hb.1 hb.2 eb)
  have ke : keys hp₂ = keys hp := by rw [U'.keys, U.keys]
  have K := S.multi (hp' := hp₂) (tk := s.toks + 1) [e, it] (fun b hb => by
      simp only [List.mem_cons, List.not_mem_nil, or_false] at hb
      rcases hb with rfl | rfl
      · exact List.mem_map_of_mem U.mem
      · exact List.mem_map_of_mem hit) (by rw [ke]; exact List.Sublist.refl _) keep fun p hp2 => by
    rcases U'.mem' p hp2 with rfl | ⟨q, q'⟩
    · exact .inr ⟨l, hi₁.extBut hs₂.extBut (Ne.symm hne), r⟩
    · have nd : (keys hp₁).Nodup := by rw [U.keys]; exact S.nodup
      have q' : p.1 ≠ it := q'.resolve_right fun c => c nd
      rcases U.mem' p q with rfl | ⟨q2, q3⟩
      · exact .inr ⟨_, he₂⟩
      · have q3 : p.1 ≠ e := q3.resolve_right fun c => c S.nodup
        exact .inl ⟨q2, by simp [q3, q']⟩
  have htf : s.heap.objs.size ≠ e := Nat.ne_of_gt (Heap.lt_size he)
  have ht₂ : h₂.get? s.heap.objs.size = some { cls := .type "tuple", data := .seq #[.int i s.toks, w] } := hs₂.extBut _ _ htf ht
  refine ⟨_, hp₂, K.1, K.2, .tup (zof_mk ht₂ ?_) (.cons (.int _ _) (.cons (rw'.mono K.2) .nil)), h⟩
  rw [ke]; exact S.fresh_not (size_fresh _)
theorem JN.enumEnd {elts : List Expr} {x1} {tp : Pos} {e it : Addr} {xs : List V} {i : Nat} {Ω : Option V → Hp → Prop} (hx : xs[i]? = none) (hm : (e, AObj.it (.enum it i)) ∈ hp) (D : Del hp it (.it (.lst xs i)) hp₁) (h : Ω none hp₁) : JN B n hp (.Tuple elts x1 tp) e Ω := fun A s ok S => by
  obtain ⟨old, he⟩ := S.objs _ hm
  obtain ⟨l, hi, r⟩ := S.objs _ D.mem
  obtain ⟨items, hl, rs⟩ := isList_of zof_le r
  refine wpAny_pyNext_enum_end ok.handled he hi hl (none_of rs hx) fun h' hx' => ?_
  have K := S.drop (tk := s.toks) D hx'
  exact ⟨hp₁, K.1, K.2, h⟩

theorem emptyAt {prog : Program} {w : World} {h : Heap} {d : Addr} (e : h.get? d = some { cls := .type "dict", data := .dict #[] }) : h.DictAt (PySem.strKind prog w) d [] 0 := ⟨_, #[], e, ⟨rfl, rfl, rfl⟩, rfl, by intro x hx; simp at hx, .nil, .nil⟩
theorem JM.items (h : Ξ (.raw (.builtin "dict.items")) [.edict] hp) : JM B n hp .edict "items" Ξ := fun A s val pl ok S r => Wp.of fun Q k => by
  obtain ⟨_, rfl, hn, e⟩ := r.inv
  next =>
    exact getMethod_builtin (T := "dict") ⟨_, zof_le _ _ e, rfl⟩ F.plainAttrs_dict F.slot_dict_items F.type_dict_items (fun b eb => by cases eb; exact ⟨_, zof_le _ _ e, rfl⟩) (k _ (.raw (.builtin "dict.items"), [.edict]) _ _ S (Le.refl _) ⟨.raw _, .cons (.edict hn e) .nil⟩ h)
theorem JC.items (h : Φ .eview hp) : JC B n hp (.raw (.builtin "dict.items")) [.edict] [] Φ := fun A s fv vs kvs ok S rf rv ek rk => Wp.of fun Q k => by
  (first | refine Is.eInt rf fun _ => ?_ | refine Is.eStr rf fun _ => ?_ | refine Is.eNone rf ?_ | refine Is.eBool rf ?_ | refine Is.eRaw rf ?_ | refine Is.eMref rf ?_ | refine IsAll.eNil rf ?_ | (obtain rfl := rf.inv) | (obtain ⟨_, rfl⟩ := rf.inv) | cases rf); obtain ⟨v, rfl, r⟩ := one_arg rv; cases no_kw ek
  obtain ⟨d, rfl, hn, e⟩ := r.inv
  next =>
    have D := emptyAt (prog := B.prog) (w := B.w) (zof_le _ _ e)
    refine call_meetsIn F.slot_dict_items (T := "dict") ⟨_, zof_le _ _ e, rfl⟩ F.entry_dict_items (F.args_dict_items_1 _) (meets_dict_items (PySem.strKind B.prog B.w) d hn) ⟨⟨[], ?_⟩, ?_⟩
    · obtain ⟨o, es, r⟩ := D; exact ⟨o, es, 0, r⟩
    · have K := S.ext (tk := s.toks) (h' := s.heap.push { cls := .type "dict_items", data := .fields #[.ref d] }) fun _ _ e => Heap.get?_push_of_some _ e
      exact k _ _ _ _ K.1 K.2 (.eview (S.frozen (size_fresh _) (Heap.get?_push_size _ rfl)) (K.2 _ _ e)) h
theorem JI.items {Ω : Addr → Hp → Prop} (h : ∀ it, Ω it ((it, .it .eit) :: hp)) : JI B n hp .eview Ω := fun A s v ok S r => Wp.of fun Q k => by
  obtain ⟨a, d, rfl, e, e'⟩ := r.inv
  next =>
    have D := emptyAt (prog := B.prog) (w := B.w) (zof_le _ _ e')
    refine wpAny_pyIter_items (knd := PySem.strKind B.prog B.w) ⟨_, zof_le _ _ e, rfl, rfl⟩ D ?_
    have K := S.add (tk := s.toks) (a := s.heap.objs.size) (ao := .it .eit) (h' := s.heap.push { cls := .type "dict_itemiterator", data := .fields #[.none, .bool false, .ref d, .int 0 0, .int 0 0, .int 0 0, .none, .none] }) (fun _ _ e => Heap.get?_push_of_some _ e) (size_fresh _) ⟨d, Heap.get?_push_size _ rfl, e'⟩
    exact k _ _ _ _ K.1 K.2 rfl (h _)
theorem JN.items {t : Expr} {it : Addr} {Ω : Option V → Hp → Prop} (D : Del hp it (.it .eit) hp₁) (h : Ω none hp₁) : JN B n hp t it Ω := fun A s ok S => by
  obtain ⟨d, e, e'⟩ := S.objs _ D.mem
  have DD := emptyAt (prog := B.prog) (w := B.w) (zof_le _ _ e')
  refine wpAny_pyNext_items_end (knd := PySem.strKind B.prog B.w) (i := 0) ok.handled e DD rfl fun h' hx' => ?_
  have K := S.drop (tk := s.toks) D hx'
  exact ⟨hp₁, K.1, K.2, h⟩
end
end Mine

set_option maxRecDepth 100000
set_option linter.unusedVariables false
namespace Mine
open PySem PySem.W PySem.Calls PyProof.Rows

section
variable {B : Base} {n : Nat} {env : Env} {hp hp₁ hp₂ hp₃ hp₄ hp' : Hp} {pos : Pos} {Φ : V → Hp → Prop} {Ψ : AF → Hp → Prop} {Υ : Hp → Prop} {Ξ : V → List V → Hp → Prop} {x y : Str} {G : Globs B} {L : Addr} {kinds : List (Str × NameKind)} {own out : List (Str × Addr)}

theorem St.news {s : Shared} {h' : Heap} {tk : Nat} (S : St B hp s) (hk : ∀ b o, s.heap.get? b = some o → h'.get? b = some o) (nw : Hp) (hnd : (keys nw).Nodup) (hfr : ∀ p ∈ nw, s.heap.objs.size ≤ p.1)
    (ho : Le (zof hp s.heap) (zof (nw ++ hp) h') → ∀ p ∈ nw, ObjIs (zof (nw ++ hp) h') h' p.1 p.2) : St B (nw ++ hp) { s with heap := h', toks := tk } ∧ Le (zof hp s.heap) (zof (nw ++ hp) h') := by
  have ke : keys (nw ++ hp) = keys nw ++ keys hp := List.map_append
  have fr : ∀ a ∈ keys nw, s.heap.get? a = none := fun a ha => by
    obtain ⟨p, hp, rfl⟩ := List.mem_map.mp ha
    exact Heap.get?_none_of_le (hfr p hp)
  have LL : Le (zof hp s.heap) (zof (nw ++ hp) h') := fun b o e => by
    obtain ⟨e1, e2⟩ := zof_of e
    refine zof_mk (hk _ _ e1) fun q => ?_
    rw [ke] at q
    rcases List.mem_append.mp q with q | q
    · have := fr b q; rw [e1] at this; cases this
    · exact e2 q
  refine ⟨⟨?_, fun p hp' => ?_, fun b o e t => LL _ _ (S.base b o e t), S.gens, S.os, S.drawn⟩, LL⟩
  · rw [ke]
    refine List.nodup_append.mpr ⟨hnd, S.nodup, fun a ha b hb e => ?_⟩
    subst e
    exact S.fresh_not (fr a ha) hb
  · rcases List.mem_append.mp hp' with h | h
    · exact ho LL p h
    · exact ((S.objs p h).keep (hk _)).mono LL
theorem key_inj {hp : Hp} (hn : (keys hp).Nodup) {a : Addr} {o o' : AObj} (h : (a, o) ∈ hp) (h' : (a, o') ∈ hp) : o = o' := by
  induction hp with
  | nil => (first | refine Is.eInt h fun _ => ?_ | refine Is.eStr h fun _ => ?_ | refine Is.eNone h ?_ | refine Is.eBool h ?_ | refine Is.eRaw h ?_ | refine Is.eMref h ?_ | refine IsAll.eNil h ?_ | (obtain rfl := h.inv) | (obtain ⟨_, rfl⟩ := h.inv) | cases h)
  | cons p r ih =>
    have hn' := List.nodup_cons.mp hn
    rcases List.mem_cons.mp h with e | h <;> rcases List.mem_cons.mp h' with e' | h'
    · rw [← e] at e'; injection e' with _ e'; exact e'.symm
    · exact absurd (List.mem_map.mpr ⟨_, h', by rw [← e]⟩) hn'.1
    · exact absurd (List.mem_map.mpr ⟨_, h, by rw [← e']⟩) hn'.1
    · exact ih hn'.2 h h'
theorem JC.zip2 {xs ys : List V} (h : ∀ z TO TI i1 i2, i1 ≠ i2 → Φ (.mref z) ((z, .it (.zip TI TO i1 i2)) :: (TO, .it .pair) :: (i1, .it (.lst xs 0)) :: (i2, .it (.lst ys 0)) :: hp)) : JC B n hp (.raw (.type "zip")) [.lst xs, .lst ys] [] Φ := fun A s fv vs kvs ok S rf rv ek rk => Wp.of fun Q k => by
  (first | refine Is.eInt rf fun _ => ?_ | refine Is.eStr rf fun _ => ?_ | refine Is.eNone rf ?_ | refine Is.eBool rf ?_ | refine Is.eRaw rf ?_ | refine Is.eMref rf ?_ | refine IsAll.eNil rf ?_ | (obtain rfl := rf.inv) | (obtain ⟨_, rfl⟩ := rf.inv) | cases rf); obtain ⟨v, w, rfl, r, r'⟩ := two_args rv; cases no_kw ek
  obtain ⟨_, _, _, rfl, e, rs⟩ := r.inv
  next => cases r' with
    | lst e' rs' =>
      rename_i l1 t1 m1 l2 t2 m2
      refine call_zip_2 (isL (zof_le _ _ e)) (isL (zof_le _ _ e')) fun h' hz hTI hTO h1 h2 hsz hk => ?_
      have K := S.news (tk := s.toks) (h' := h') hk [(s.heap.objs.size + 4, .it (.zip (s.heap.objs.size + 2) (s.heap.objs.size + 3) s.heap.objs.size (s.heap.objs.size + 1))), (s.heap.objs.size + 3, .it .pair), (s.heap.objs.size, .it (.lst xs 0)), (s.heap.objs.size + 1, .it (.lst ys 0))]
        (by simp [keys]) (by simp) fun L p hq => by
          simp only [List.mem_cons, List.not_mem_nil, or_false] at hq
          rcases hq with rfl | rfl | rfl | rfl
          · refine ⟨hz, zof_mk hTI fun q => ?_⟩
            unfold keys at q
            rw [List.map_append] at q
            rcases List.mem_append.mp q with q | q
            · simp at q
            · exact S.fresh_not (Heap.get?_none_of_le (Nat.le_add_right _ 2)) q
          · exact ⟨_, _, hTO⟩
          · exact ⟨l1, h1, (Is.lst e rs).mono L⟩
          · exact ⟨l2, h2, (Is.lst e' rs').mono L⟩
      exact k _ _ _ _ K.1 K.2 (.mref _) (h _ _ _ _ _ (Nat.ne_of_lt (Nat.lt_succ_self _)))
noncomputable def itTag (o : AObj) : Nat := AObj.casesOn (motive := fun _ => Nat) o (fun k => ItK.casesOn (motive := fun _ => Nat) k (fun _ _ => 1) (fun _ _ => 0) (fun _ _ => 0) (fun _ _ _ => 0) (fun _ _ => 0) (fun _ _ => 0) (fun _ _ _ _ => 2) 3 (fun _ _ _ => 0) 0) (fun _ => 0) (fun _ => 0) (fun _ => 0) (fun _ => 0) (fun _ => 0) (fun _ => 0)
theorem Is.lst_at {z : Z} {l : Addr} {xs : List V} (r : Is z (.ref l) (.lst xs)) : ∃ (items : Array Value) (n : Nat), z l = some { cls := .type "list", data := .seq items n } := by
  obtain ⟨a, items, n, e, h, _⟩ := r.inv
  exact ⟨items, n, (Value.ref.inj e).symm ▸ h⟩
theorem zip_apart {s : Shared} (S : St B hp s) {z TI TO i1 i2 l1 l2 : Addr} {xs ys : List V} {i : Nat} (hz : (z, AObj.it (.zip TI TO i1 i2)) ∈ hp) (hTO : (TO, AObj.it .pair) ∈ hp) (h1 : (i1, AObj.it (.lst xs i)) ∈ hp) (h2 : (i2, AObj.it (.lst ys i)) ∈ hp) (hn : i1 ≠ i2)
    (r1 : Is (zof hp s.heap) (.ref l1) (.lst xs)) (r2 : Is (zof hp s.heap) (.ref l2) (.lst ys)) : ZipApart z TI TO i1 i2 l1 l2 := by
  have mk : ∀ {a : Addr} {o : AObj}, (a, o) ∈ hp → a ∈ keys hp := fun h => List.mem_map_of_mem h
  have nl1 : l1 ∉ keys hp := (zof_of r1.lst_at.choose_spec.choose_spec).2
  have nl2 : l2 ∉ keys hp := (zof_of r2.lst_at.choose_spec.choose_spec).2
  have nTI : TI ∉ keys hp := (zof_of (S.objs _ hz).2).2
  have ne : ∀ {a b : Addr} {o o' : AObj}, (a, o) ∈ hp → (b, o') ∈ hp → itTag o ≠ itTag o' → a ≠ b := fun ha hb ho e => ho (congrArg itTag (key_inj S.nodup ha (e ▸ hb)))
  have out : ∀ {a b : Addr} {o : AObj}, a ∉ keys hp → (b, o) ∈ hp → a ≠ b := fun ha hb e => ha (e ▸ mk hb)
  exact ⟨out nTI hz, ne hTO hz (show (3 : Nat) ≠ 2 by decide), ne h1 hz (show (1 : Nat) ≠ 2 by decide), ne h2 hz (show (1 : Nat) ≠ 2 by decide), out nTI hTO, out nTI h1, out nTI h2, ne hTO h1 (show (3 : Nat) ≠ 1 by decide), ne hTO h2 (show (3 : Nat) ≠ 1 by decide), hn,
    out nl1 hz, out nl1 hTO, out nl1 h1, out nl1 h2, out nl2 hz, out nl2 hTO, out nl2 h1, out nl2 h2⟩
theorem JN.zip {elts : List Expr} {x1} {tp : Pos} {z TI TO i1 i2 : Addr} {xs ys : List V} {i : Nat} {v w : V} {Ω : Option V → Hp → Prop} (hx : xs[i]? = some v) (hy : ys[i]? = some w) (hz : (z, AObj.it (.zip TI TO i1 i2)) ∈ hp) (hTO : (TO, AObj.it .pair) ∈ hp)
    (h2 : (i2, AObj.it (.lst ys i)) ∈ hp) (hn : i1 ≠ i2) (U : Upd hp i1 (.it (.lst xs i)) (.it (.lst xs (i + 1))) hp₁) (U' : Upd hp₁ i2 (.it (.lst ys i)) (.it (.lst ys (i + 1))) hp₂)
    (h : Ω (some (.tup [v, w])) hp₂) : JN B n hp (.Tuple elts x1 tp) z Ω := fun A s ok S => by
  have h1 := U.mem
  obtain ⟨l1, e1, r1⟩ := S.objs _ h1
  obtain ⟨l2, e2, r2⟩ := S.objs _ h2
  have AP := zip_apart S hz hTO h1 h2 hn r1 r2
  obtain ⟨ez, eTI⟩ := S.objs _ hz
  obtain ⟨pa, pb, eTO⟩ := S.objs _ hTO
  obtain ⟨it1, hl1, rs1⟩ := isList_of zof_le r1
  obtain ⟨it2, hl2, rs2⟩ := isList_of zof_le r2
  obtain ⟨v', hv', rv'⟩ := rs1.get hx
  obtain ⟨w', hw', rw'⟩ := rs2.get hy
  refine wpAny_pyNext_zip_item AP ez (zof_of eTI).1 eTO e1 e2 hl1 hl2 (by simpa using hv') (by simpa using hw') fun h' a1 a2 a3 a4 a5 a6 a7 => ?_
  refine wpAny_letOwnedTupleGo_zip a1 fun h'' hz'' hs'' => ?_
  have hs'' : Heap.SameBut z h' h'' := hs''
  have ke : keys hp₂ = keys hp := by rw [U'.keys, U.keys]
  have keep : ∀ b o, b ∉ [z, TO, i1, i2] → s.heap.get? b = some o → h''.get? b = some o := fun b o hb eb => by
    simp only [List.mem_cons, List.not_mem_nil, or_false, not_or] at hb
    exact hs''.extBut b o hb.1 (a7 b o hb.1 hb.2.1 hb.2.2.1 hb.2.2.2 eb)
  have K := S.multi (hp' := hp₂) (tk := s.toks) [z, TO, i1, i2] (fun b hb => by
      simp only [List.mem_cons, List.not_mem_nil, or_false] at hb
      rcases hb with rfl | rfl | rfl | rfl
      · exact List.mem_map_of_mem hz
      · exact List.mem_map_of_mem hTO
      · exact List.mem_map_of_mem h1
      · exact List.mem_map_of_mem h2) (by rw [ke]; exact List.Sublist.refl _) keep fun p hp2 => by
    rcases U'.mem' p hp2 with rfl | ⟨q, q'⟩
    · exact .inr ⟨l2, a4.extBut hs''.extBut AP.i2z, r2⟩
    · have nd : (keys hp₁).Nodup := by rw [U.keys]; exact S.nodup
      have q' : p.1 ≠ i2 := q'.resolve_right fun c => c nd
      rcases U.mem' p q with rfl | ⟨q2, q3⟩
      · exact .inr ⟨l1, a3.extBut hs''.extBut AP.i1z, r1⟩
      · have q3 : p.1 ≠ i1 := q3.resolve_right fun c => c S.nodup
        by_cases c1 : p.1 = z
        · obtain ⟨pa', po⟩ := p
          cases c1
          have := key_inj S.nodup q2 hz
          subst this
          exact .inr ⟨hz'', eTI⟩
        · by_cases c2 : p.1 = TO
          · obtain ⟨pa', po⟩ := p
            cases c2
            have := key_inj S.nodup q2 hTO
            subst this
            exact .inr ⟨_, _, hs''.extBut _ _ AP.TOz a2⟩
          · exact .inl ⟨q2, by simp [c1, c2, q3, q']⟩
  have htf : s.heap.objs.size ≠ z := Nat.ne_of_gt (Heap.lt_size ez)
  have ht₂ : h''.get? s.heap.objs.size = some { cls := .type "tuple", data := .seq #[v', w'] } := hs''.extBut _ _ htf a5
  refine ⟨_, hp₂, K.1, K.2, .tup (zof_mk ht₂ ?_) (.cons (rv'.mono K.2) (.cons (rw'.mono K.2) .nil)), h⟩
  rw [ke]; exact S.fresh_not (size_fresh _)
theorem JN.zipEnd {elts : List Expr} {x1} {tp : Pos} {z TI TO i1 i2 : Addr} {xs ys : List V} {i : Nat} {Ω : Option V → Hp → Prop} (hx : xs[i]? = none) (hn : i1 ≠ i2) (D1 : Del hp z (.it (.zip TI TO i1 i2)) hp₁) (D2 : Del hp₁ TO (.it .pair) hp₂) (D3 : Del hp₂ i1 (.it (.lst xs i)) hp₃) (D4 : Del hp₃ i2 (.it (.lst ys i)) hp₄)
    (h : Ω none hp₄) : JN B n hp (.Tuple elts x1 tp) z Ω := fun A s ok S => by
  have hz := D1.mem
  have hTO := D1.sub.subset D2.mem
  have h1 := D1.sub.subset (D2.sub.subset D3.mem)
  have h2 := D1.sub.subset (D2.sub.subset (D3.sub.subset D4.mem))
  obtain ⟨l1, e1, r1⟩ := S.objs _ h1
  obtain ⟨l2, e2, r2⟩ := S.objs _ h2
  have AP := zip_apart S hz hTO h1 h2 hn r1 r2
  obtain ⟨ez, eTI⟩ := S.objs _ hz
  obtain ⟨pa, pb, eTO⟩ := S.objs _ hTO
  obtain ⟨it1, hl1, rs1⟩ := isList_of zof_le r1
  obtain ⟨it2, hl2, rs2⟩ := isList_of zof_le r2
  refine wpAny_pyNext_zip_end ok.handled AP ez (zof_of eTI).1 eTO e1 e2 hl1 hl2 (.inl (none_of rs1 hx)) fun h' hk => ?_
  have sub : hp₄.Sublist hp := ((D4.sub.trans D3.sub).trans D2.sub).trans D1.sub
  have n1 : (keys hp₁).Nodup := S.nodup.sublist (D1.sub.map _)
  have n2 : (keys hp₂).Nodup := n1.sublist (D2.sub.map _)
  have n3 : (keys hp₃).Nodup := n2.sublist (D3.sub.map _)
  have K := S.multi (hp' := hp₄) (tk := s.toks) (h' := h') [z, TO, i1, i2] (fun b hb => by
      simp only [List.mem_cons, List.not_mem_nil, or_false] at hb
      rcases hb with rfl | rfl | rfl | rfl
      · exact List.mem_map_of_mem hz
      · exact List.mem_map_of_mem hTO
      · exact List.mem_map_of_mem h1
      · exact List.mem_map_of_mem h2) (sub.map _) (fun b o hb eb => by
      simp only [List.mem_cons, List.not_mem_nil, or_false, not_or] at hb
      exact hk b o hb.1 hb.2.1 hb.2.2.1 hb.2.2.2 eb) fun p hp4 => .inl ⟨sub.subset hp4, fun q => by
      have k4 : p.1 ∈ keys hp₄ := List.mem_map_of_mem hp4
      have k3 : p.1 ∈ keys hp₃ := (D4.sub.map _).subset k4
      have k2 : p.1 ∈ keys hp₂ := (D3.sub.map _).subset k3
      have k1 : p.1 ∈ keys hp₁ := (D2.sub.map _).subset k2
      simp only [List.mem_cons, List.not_mem_nil, or_false] at q
      rcases q with q | q | q | q
      · exact D1.not S.nodup (q ▸ k1)
      · exact D2.not n1 (q ▸ k2)
      · exact D3.not n2 (q ▸ k3)
      · exact D4.not n3 (q ▸ k4)⟩
  exact ⟨hp₄, K.1, K.2, h⟩

theorem compTurn_list2 (elt t1 i1 t2 i2 : Expr) (scope : Scope) (pos : Pos) (it acc : Value) (env : Env) :
    compTurn (.ListComp elt [⟨t1, i1, [], 0⟩, ⟨t2, i2, [], 0⟩] scope pos) 0 it acc env = (do
      standAt i1.pos
      match ← pyNext it with
      | none => pure (.done .next)
      | some v =>
        letOwnedTupleGo t1 it v
        assign t1 env v
        let x ← eval i2 env
        standAt i2.pos
        let x ← foldedSetIterable i2 env x
        let _ ← runOwn (.compStart (.ListComp elt [⟨t1, i1, [], 0⟩, ⟨t2, i2, [], 0⟩] scope pos) 1 (← holding [x] (pyIter x)) acc env) env
        again (.compLoop (.ListComp elt [⟨t1, i1, [], 0⟩, ⟨t2, i2, [], 0⟩] scope pos) 0 it acc env)) := by rfl
theorem compTurn_list2' (elt t1 i1 t2 i2 : Expr) (scope : Scope) (pos : Pos) (it acc : Value) (env : Env) :
    compTurn (.ListComp elt [⟨t1, i1, [], 0⟩, ⟨t2, i2, [], 0⟩] scope pos) 1 it acc env = (do
      standAt i2.pos
      match ← pyNext it with
      | none => pure (.done .next)
      | some v =>
        letOwnedTupleGo t2 it v
        assign t2 env v
        (do let _ ← call (.builtin "list.append") [acc, ← eval elt env] : Sem Unit)
        again (.compLoop (.ListComp elt [⟨t1, i1, [], 0⟩, ⟨t2, i2, [], 0⟩] scope pos) 1 it acc env)) := by rfl
theorem codeAny_compStart1 {prog : Program} {w : World} {A : Around} {R : Result → Shared → Prop} {s : Shared} {elt t1 i1 t2 i2 : Expr} {scope : Scope} {pos : Pos} {it acc : Value} {env : Env}
    (h0 : codeAny (model prog w) A (.compLoop (.ListComp elt [⟨t1, i1, [], 0⟩, ⟨t2, i2, [], 0⟩] scope pos) 1 it acc env) R s)
    (h : wpAny (model prog w) A (pyIter it) (fun it' s' => codeAny (model prog w) A (.compLoop (.ListComp elt [⟨t1, i1, [], 0⟩, ⟨t2, i2, [], 0⟩] scope pos) 1 it' acc env) R s')
      (notedBy (model prog w) A env fun x s' => R (.error x) s') s) :
    codeAny (model prog w) A (.compStart (.ListComp elt [⟨t1, i1, [], 0⟩, ⟨t2, i2, [], 0⟩] scope pos) 1 it acc env) R s := by
  refine codeAny_of_tree ?_
  show wpAny _ _ ((compStart (.ListComp elt [⟨t1, i1, [], 0⟩, ⟨t2, i2, [], 0⟩] scope pos) 1 it acc env).onRaise (fun x => do noteFrame x env; standAt theWindowsPlace)) _ _ s
  refine wpAny_notedAt ?_
  unfold compStart
  show wpAny _ _ (ask >>= _) _ _ s
  refine wpAny_bind (wpAny_askSetting (wpAny_ite ?_))
  split
  · first
      | exact wpAny_bind (wpAny_pure (wpAny_pure (And.intro rfl h0)))
      | exact wpAny_pure (And.intro rfl h0)
  · first
      | exact wpAny_bind (wpAny_rule (wpAny_bind (wpAny_standAt (wpAny_bind (wpAny_mono h (fun it' s' h' => wpAny_pure (And.intro rfl h')) fun _ _ x => x)))))
      | (refine wpAny_bind (wpAny_rule ?_); show wpAny _ _ (standAt i2.pos >>= _) _ _ s; exact wpAny_bind (wpAny_standAt (wpAny_bind (wpAny_mono h (fun it' s' h' => wpAny_pure (And.intro rfl h')) fun _ _ x => x))))
theorem JCL.turn1 {elt t1 i1 t2 i2 : Expr} {scope : Scope} {it acc : Addr}
    (h : JN B n hp t2 it fun o hp₁ => match o with
      | none => Υ hp₁
      | some x => JA B n env hp₁ t2 x fun hp₂ => JE B n env hp₂ elt fun v hp₄ =>
            ∃ xs hp₅, Upd hp₄ acc (.list xs) (.list (xs ++ [v])) hp₅ ∧ xs.length < 16777216 ∧ JCL B n env hp₅ (.ListComp elt [⟨t1, i1, [], 0⟩, ⟨t2, i2, [], 0⟩] scope pos) 1 it acc Υ) :
    JCL B n env hp (.ListComp elt [⟨t1, i1, [], 0⟩, ⟨t2, i2, [], 0⟩] scope pos) 1 it acc Υ := fun A s R ok S k => by
  refine codeAny_of_tree ?_
  show wpAny _ A ((compTurn (.ListComp elt [⟨t1, i1, [], 0⟩, ⟨t2, i2, [], 0⟩] scope pos) 1 (.ref it) (.ref acc) env).onRaise (fun x => do noteFrame x env; theTreesLotGoes x)) _ _ s
  refine wpAny_noted ?_
  rw [compTurn_list2']
  refine wpAny_bind (wpAny_standAt (wpAny_bind (wpAny_mono (h A s ok S) (fun r s₁ h₁ => ?_) fun _ _ h' => h'.elim)))
  cases r with
  | none =>
    obtain ⟨hp₁, S₁, L₁, h₁⟩ := h₁
    exact wpAny_pure (k _ _ S₁ L₁ h₁)
  | some v =>
    refine wpAny_bind (wpAny_mono h₁ (fun _ s₂ h₂ => ?_) fun _ _ h' => h'.elim)
    obtain ⟨x, hp₂, S₂, L₂, r₂, h₂⟩ := h₂
    refine wpAny_bind ((h₂ A _ _ ok S₂ r₂).use fun _ _ hp₃ s₃ S₃ L₃ _ h₃ => ?_)
    refine wpAny_bind (wpAny_bind ((h₃ A _ ok S₃).use fun v w hp₅ s₅ S₅ L₅ r₅ h₅ => wpAny_bind ?_))
    obtain ⟨xs, hp₆, U, hlt, h₆⟩ := h₅
    obtain ⟨items, m, e, rs⟩ := S₅.objs _ U.mem
    have hsz : items.size = xs.length := by rw [← rs.length, Array.length_toList]
    refine wpAny_call_entry slot_list_append (T := "list") ⟨_, e, rfl⟩ entry_list_append ?_ (args_list_append _ _)
    show wpAny _ _ (updateSeq acc (·.push v) >>= fun _ => ret .none) _ _ s₅
    refine wpAny_bind ?_
    refine wpAny_updateSeq e rfl (wpAny_pure ⟨.none, rfl, wpAny_pure (wpAny_pure ⟨rfl, ?_⟩)⟩)
    have K := S₅.set (tk := s₅.toks) (h' := s₅.heap.update acc fun o => o.mapSeq (·.push v)) U (Heap.SameBut.update ..).extBut ⟨items.push v, _, Heap.get?_update_self _ e rfl, by
      rw [Array.toList_push]; exact IsAll.append (.cons r₅ .nil) rs⟩
    exact h₆ A _ R ok K.1 fun hp₇ s₇ S₇ L₇ => k hp₇ s₇ S₇ ((((L₂.trans L₃).trans L₅).trans K.2).trans L₇)
theorem JCL.turn2 {elt t1 i1 t2 i2 : Expr} {scope : Scope} {it acc : Addr}
    (h : JN B n hp t1 it fun o hp₁ => match o with
      | none => Υ hp₁
      | some x => JA B n env hp₁ t1 x fun hp₂ => JE B n env hp₂ i2 fun v hp₃ => JI B n hp₃ v fun it2 hp₄ => (∃ k, (it2, AObj.it k) ∈ hp₄ ∧ k.plain) ∧ JCL B n env hp₄ (.ListComp elt [⟨t1, i1, [], 0⟩, ⟨t2, i2, [], 0⟩] scope pos) 1 it2 acc fun hp₅ =>
          JCL B n env hp₅ (.ListComp elt [⟨t1, i1, [], 0⟩, ⟨t2, i2, [], 0⟩] scope pos) 0 it acc Υ)
    (hs : ∀ x, foldedSetIterable i2 env x = pure x := by intro _; rfl) :
    JCL B n env hp (.ListComp elt [⟨t1, i1, [], 0⟩, ⟨t2, i2, [], 0⟩] scope pos) 0 it acc Υ := fun A s R ok S k => by
  refine codeAny_of_tree ?_
  show wpAny _ A ((compTurn (.ListComp elt [⟨t1, i1, [], 0⟩, ⟨t2, i2, [], 0⟩] scope pos) 0 (.ref it) (.ref acc) env).onRaise (fun x => do noteFrame x env; theTreesLotGoes x)) _ _ s
  refine wpAny_noted ?_
  rw [compTurn_list2]
  refine wpAny_bind (wpAny_standAt (wpAny_bind (wpAny_mono (h A s ok S) (fun r s₁ h₁ => ?_) fun _ _ h' => h'.elim)))
  cases r with
  | none =>
    obtain ⟨hp₁, S₁, L₁, h₁⟩ := h₁
    exact wpAny_pure (k _ _ S₁ L₁ h₁)
  | some v =>
    refine wpAny_bind (wpAny_mono h₁ (fun _ s₂ h₂ => ?_) fun _ _ h' => h'.elim)
    obtain ⟨x, hp₂, S₂, L₂, r₂, h₂⟩ := h₂
    refine wpAny_bind ((h₂ A _ _ ok S₂ r₂).use fun _ _ hp₃ s₃ S₃ L₃ _ h₃ => ?_)
    refine wpAny_bind ((h₃ A _ ok S₃).use fun xv w hp₄ s₄ S₄ L₄ r₄ h₄ => wpAny_bind (wpAny_standAt (wpAny_bind (wpAny_of_eq (hs xv) ?_))))
    refine wpAny_bind (wpAny_holding ((h₄ A _ _ ok S₄ r₄).use fun y it2 hp₅ s₅ S₅ L₅ e h₅ => ?_))
    subst e
    obtain ⟨⟨kk, hm, hk⟩, h₅⟩ := h₅
    have L := ((L₂.trans L₃).trans L₄).trans L₅
    refine wpAny_bind (wpAny_runOwn ?_)
    have step : ∀ s', s' = s₅ → codeAny B.M A (.compLoop (.ListComp elt [⟨t1, i1, [], 0⟩, ⟨t2, i2, [], 0⟩] scope pos) 1 (.ref it2) (.ref acc) env) (fun r s' => match r with
        | .ok f => wpAny B.M A (again (.compLoop (.ListComp elt [⟨t1, i1, [], 0⟩, ⟨t2, i2, [], 0⟩] scope pos) 0 (.ref it) (.ref acc) env)) (fun fin s' => match fin with | .done f => R (.ok f) s' | .again c' => c'.quiet = true ∧ codeAny B.M A c' R s') (notedBy B.M A env fun x s' => R (.error x) s') s'
        | .error e => cameBackBy B.M A env (notedBy B.M A env fun x s' => R (.error x) s') e s') s' := by
      rintro s' rfl
      exact h₅ A _ _ ok S₅ fun hp₆ s₆ S₆ L₆ h₆ => wpAny_pure ⟨rfl, h₆ A _ R ok S₆ fun hp₇ s₇ S₇ L₇ => k hp₇ s₇ S₇ ((L.trans L₆).trans L₇)⟩
    refine codeAny_compStart1 (step _ rfl) ?_
    exact ItSelf.of hm (by cases kk <;> first | trivial | exact hk) A _ S₅ _ (step _ rfl) _
end
end Mine

set_option maxRecDepth 100000
set_option linter.unusedVariables false
namespace Mine
open PySem PySem.W PySem.Calls PyProof.Rows

section
variable {B : Base} {n : Nat} {env : Env} {hp hp₁ hp₂ hp₃ hp₄ hp' : Hp} {pos : Pos} {Φ : V → Hp → Prop} {Ψ : AF → Hp → Prop} {Υ : Hp → Prop} {Ξ : V → List V → Hp → Prop} {x y : Str} {G : Globs B} {L : Addr} {kinds : List (Str × NameKind)} {own out : List (Str × Addr)}

theorem Upd.pre {a : Addr} {o o' : AObj} (U : Upd hp a o o' hp') : ∀ pre : Hp, Upd (pre ++ hp) a o o' (pre ++ hp')
  | [] => U
  | _ :: pre => .tail (U.pre pre)
theorem Del.pre {a : Addr} {o : AObj} (D : Del hp a o hp') : ∀ pre : Hp, Del (pre ++ hp) a o (pre ++ hp')
  | [] => D
  | _ :: pre => .tail (D.pre pre)

structure Src (B : Base) (n : Nat) (target : Expr) (it : Addr) (I : Nat → Hp) (E : Hp) (Q : Hp → Prop) (xs : List V) : Prop where
  next : ∀ i x, xs[i]? = some x → ∀ pre rest Ω, Q rest → Ω (some x) (pre ++ (I (i + 1) ++ rest)) → JN B n (pre ++ (I i ++ rest)) target it Ω
  stop : ∀ pre rest Ω, Q rest → Ω none (pre ++ (E ++ rest)) → JN B n (pre ++ (I xs.length ++ rest)) target it Ω
theorem getElem?_len {α : Type} (xs : List α) : xs[xs.length]? = none := by simp
theorem Src.lst {t : Expr} {it : Addr} {xs : List V} : Src B n t it (fun i => [(it, .it (.lst xs i))]) [] (fun _ => True) xs where
  next := fun i x hx pre rest Ω _ h => JN.lst hx (Upd.pre .head pre) h
  stop := fun pre rest Ω _ h => JN.lstEnd (getElem?_len _) (Del.pre .head pre) h
theorem Src.mlst {t : Expr} {it l : Addr} {xs : List V} : Src B n t it (fun i => [(it, .it (.mlst l i))]) [] (fun r => (l, AObj.list xs) ∈ r) xs where
  next := fun i x hx pre rest Ω hm h => JN.mlst hx (List.mem_append_right _ (List.mem_append_right _ hm)) (Upd.pre .head pre) h
  stop := fun pre rest Ω hm h => JN.mlstEnd (getElem?_len _) (List.mem_append_right _ (List.mem_append_right _ hm)) (Del.pre .head pre) h
theorem Src.str {t : Expr} {it : Addr} {x : Str} : Src B n t it (fun i => [(it, .it (.str x i))]) [] (fun _ => True) (chars x) where
  next := fun i v hv pre rest Ω _ h => by
    unfold chars at hv
    rw [List.getElem?_map] at hv
    cases q : x.cps.toList[i]? with
    | none => rw [q] at hv; cases hv
    | some c =>
      rw [q] at hv; cases hv
      exact JN.str (by simpa using q) (Upd.pre .head pre) h
  stop := fun pre rest Ω _ h => JN.strEnd (by simp [chars]) (Del.pre .head pre) h
noncomputable def rngVals (a : Int) (k : Nat) : List V := (List.range k).map fun (i : Nat) => .int (a + (i : Int))
theorem Src.rng {t : Expr} {it : Addr} {a : Int} {k : Nat} : Src B n t it (fun i => [(it, .it (.rng (a + i) (k - i) 1))]) [] (fun _ => True) (rngVals a k) where
  next := fun i v hv pre rest Ω _ h => by
    unfold rngVals at hv
    rw [List.getElem?_map] at hv
    by_cases q : i < k
    · rw [List.getElem?_range q] at hv
      cases hv
      refine JN.rng (x := a + i) (left := k - i) (step := 1) (by lia) (Upd.pre .head pre) ?_
      have e1 : a + (i : Int) + 1 = a + ((i + 1 : Nat) : Int) := by push_cast; lia
      have e2 : (k : Int) - i - 1 = k - ((i + 1 : Nat) : Int) := by push_cast; lia
      rw [e1, e2]; exact h
    · rw [List.getElem?_eq_none (by simp; lia)] at hv; cases hv
  stop := fun pre rest Ω _ h => by
    refine JN.rngEnd (x := a + ((rngVals a k).length : Nat)) (left := k - ((rngVals a k).length : Nat)) (step := 1) (by simp [rngVals]) (Del.pre .head pre) h
noncomputable def enumVals (xs : List V) (k : Nat) : List V := match xs with
  | [] => []
  | x :: r => .tup [.int k, x] :: enumVals r (k + 1)
theorem enumVals_get : ∀ (xs : List V) (k i : Nat), (enumVals xs k)[i]? = (xs[i]?).map fun x => .tup [.int ((k + i : Nat) : Int), x]
  | [], k, i => by simp [enumVals]
  | x :: r, k, 0 => by simp [enumVals]
  | x :: r, k, i + 1 => by
    unfold enumVals
    rw [List.getElem?_cons_succ, List.getElem?_cons_succ, enumVals_get r (k + 1) i, show k + 1 + i = k + (i + 1) by lia]
theorem enumVals_length : ∀ (xs : List V) (k : Nat), (enumVals xs k).length = xs.length
  | [], k => rfl
  | x :: r, k => by unfold enumVals; rw [List.length_cons, List.length_cons, enumVals_length r]
theorem Src.enum {elts : List Expr} {x1} {tp : Pos} {e it : Addr} {xs : List V} (hne : e ≠ it) : Src B n (.Tuple elts x1 tp) e (fun i => [(e, .it (.enum it i)), (it, .it (.lst xs i))]) [(e, .it (.enum it xs.length))] (fun _ => True) (enumVals xs 0) where
  next := fun i v hv pre rest Ω _ h => by
    rw [enumVals_get] at hv
    cases q : xs[i]? with
    | none => rw [q] at hv; cases hv
    | some x =>
      rw [q] at hv; cases hv
      rw [Nat.zero_add] at h
      exact JN.enum q (Upd.pre .head pre) (Upd.pre (.tail .head) pre) hne h
  stop := fun pre rest Ω _ h => by
    rw [enumVals_length]
    exact JN.enumEnd (getElem?_len _) (List.mem_append_right _ (.head _)) (Del.pre (.tail .head) pre) h
noncomputable def zipVals : List V → List V → List V
  | x :: r, y :: q => .tup [x, y] :: zipVals r q
  | _, _ => []
theorem zipVals_get : ∀ (xs ys : List V) (i : Nat), xs.length ≤ ys.length → (zipVals xs ys)[i]? = match xs[i]?, ys[i]? with | some x, some y => some (.tup [x, y]) | _, _ => none
  | [], _, i, _ => by simp [zipVals]
  | x :: r, y :: q, 0, _ => by simp [zipVals]
  | x :: r, y :: q, i + 1, h => by
    unfold zipVals
    rw [List.getElem?_cons_succ, zipVals_get r q i (by simpa using h)]
    simp
  | x :: r, [], i, h => by simp at h
theorem zipVals_length : ∀ (xs ys : List V), xs.length ≤ ys.length → (zipVals xs ys).length = xs.length
  | [], _, _ => by simp [zipVals]
  | x :: r, y :: q, h => by unfold zipVals; rw [List.length_cons, List.length_cons, zipVals_length r q (by simpa using h)]
  | x :: r, [], h => by simp at h
theorem Src.zip {elts : List Expr} {x1} {tp : Pos} {z TO TI i1 i2 : Addr} {xs ys : List V} (hne : i1 ≠ i2) (hle : xs.length ≤ ys.length) :
    Src B n (.Tuple elts x1 tp) z (fun i => [(z, .it (.zip TI TO i1 i2)), (TO, .it .pair), (i1, .it (.lst xs i)), (i2, .it (.lst ys i))]) [] (fun _ => True) (zipVals xs ys) where
  next := fun i v hv pre rest Ω _ h => by
    rw [zipVals_get _ _ _ hle] at hv
    cases q : xs[i]? with
    | none => rw [q] at hv; cases hv
    | some x =>
      cases q' : ys[i]? with
      | none => rw [q, q'] at hv; cases hv
      | some y =>
        rw [q, q'] at hv; cases hv
        exact JN.zip q q' (List.mem_append_right _ (.head _)) (List.mem_append_right _ (.tail _ (.head _))) (List.mem_append_right _ (.tail _ (.tail _ (.tail _ (.head _))))) hne (Upd.pre (.tail (.tail .head)) pre) (Upd.pre (.tail (.tail (.tail .head))) pre) h
  stop := fun pre rest Ω _ h => by
    rw [zipVals_length _ _ hle]
    exact JN.zipEnd (getElem?_len _) hne (Del.pre .head pre) (Del.pre .head pre) (Del.pre .head pre) (Del.pre .head pre) h
theorem Src.items {t : Expr} {it : Addr} : Src B n t it (fun _ => [(it, .it .eit)]) [] (fun _ => True) [] where
  next := fun i v hv => by simp at hv
  stop := fun pre rest Ω _ h => JN.items (Del.pre .head pre) h

variable {it : Addr} {I : Nat → Hp} {EE : Hp} {Q : Hp → Prop} {xs : List V}
noncomputable abbrev rnK2 (Ψ : AF → Hp → Prop) (I : Nat → Hp) (Inv : Nat → Hp → Prop) (i : Nat) (f : AF) (hp₃ : Hp) : Prop := match f with
      | .next => ∃ r', hp₃ = I (i + 1) ++ r' ∧ Inv (i + 1) r'
      | .cont => ∃ r', hp₃ = I (i + 1) ++ r' ∧ Inv (i + 1) r'
      | .brk => Ψ .next hp₃
      | .ret v => Ψ (.ret v) hp₃
noncomputable abbrev rnK1 (B : Base) (n : Nat) (env : Env) (Ψ : AF → Hp → Prop) (I : Nat → Hp) (Inv : Nat → Hp → Prop) (body : List Stmt) (i : Nat) (hp₂ : Hp) : Prop := JS B n env hp₂ body (rnK2 Ψ I Inv i)
noncomputable abbrev ctK {τ : Type} (T : Addr → τ → Hp) (C acc : Addr) (ys : List V) (r : Hp) (fa : Option V) (o : Option V) (hp₄ : Hp) : Prop := o = fa ∧ ∃ t', hp₄ = T C t' ++ ((acc, .list ys) :: r)
theorem ctEnd {τ : Type} {T : Addr → τ → Hp} {C acc : Addr} {ys : List V} {r : Hp} {fa : Option V} {t : τ} : ctK T C acc ys r fa fa (T C t ++ ((acc, .list ys) :: r)) := ⟨rfl, t, rfl⟩
theorem JF.run {target : Expr} {body : List Stmt} (S : Src B n target it I EE Q xs) (Inv : Nat → Hp → Prop) (hQ : ∀ i r, Inv i r → Q r)
    (turn : ∀ i x r, xs[i]? = some x → Inv i r → JA B n env (I (i + 1) ++ r) target x (rnK1 B n env Ψ I Inv body i))
    (fin : ∀ r, Inv xs.length r → Ψ .next (EE ++ r)) : ∀ (k i : Nat) (r : Hp), i + k = xs.length → Inv i r → JF B n env (I i ++ r) target it body Ψ := by
  intro k
  induction k with
  | zero =>
    intro i r hi hr
    cases Nat.add_zero i ▸ hi
    refine JF.turn ?_
    exact S.stop [] r _ (hQ _ _ hr) (fin r hr)
  | succ k ih =>
    intro i r hi hr
    obtain ⟨x, hx⟩ : ∃ x, xs[i]? = some x := ⟨xs[i]'(by lia), by simp⟩
    refine JF.turn ?_
    refine S.next i x hx [] r _ (hQ _ _ hr) ?_
    intro A s val ok St' rv
    refine (turn i x r hx hr A s val ok St' rv).mono fun _ hp₂ h₂ => ?_
    refine h₂.mono fun f hp₃ h₃ => ?_
    cases f with
    | next => obtain ⟨r', rfl, h⟩ := h₃; exact ih (i + 1) r' (by lia) h
    | cont => obtain ⟨r', rfl, h⟩ := h₃; exact ih (i + 1) r' (by lia) h
    | brk => exact h₃
    | ret v => exact h₃
noncomputable def putO (ys : List V) : Option V → List V
  | some v => ys ++ [v]
  | none => ys
theorem JCL.run {τ : Type} {elt target iter : Expr} {ifs : List Expr} {scope : Scope} {acc : Addr} (S : Src B n target it I EE Q xs) (T : τ → Hp) (Inv : Nat → List V → Hp → Prop) (hQ : ∀ i ys r, Inv i ys r → Q r) (hlen : xs.length < 16777216)
    (turn : ∀ i x r t ys, xs[i]? = some x → Inv i ys r → CTurn B n env target ifs elt x (T t ++ ((acc, .list ys) :: (I (i + 1) ++ r))) fun o hp₄ => ∃ t' r', hp₄ = T t' ++ ((acc, .list ys) :: (I (i + 1) ++ r')) ∧ Inv (i + 1) (putO ys o) r')
    (fin : ∀ t ys r, Inv xs.length ys r → Υ (T t ++ ((acc, .list ys) :: (EE ++ r)))) :
    ∀ (k i : Nat) (t : τ) (ys : List V) (r : Hp), i + k = xs.length → ys.length ≤ i → Inv i ys r → JCL B n env (T t ++ ((acc, .list ys) :: (I i ++ r))) (.ListComp elt [⟨target, iter, ifs, 0⟩] scope pos) 0 it acc Υ := by
  intro k
  induction k with
  | zero =>
    intro i t ys r hi hl hr
    cases Nat.add_zero i ▸ hi
    refine JCL.turn ?_
    have := S.stop (T t ++ [(acc, .list ys)]) r (clK B n env Υ elt target iter ifs scope pos it acc) (hQ _ _ _ hr) (by
        rw [List.append_assoc]; exact fin t ys r hr)
    rw [List.append_assoc] at this
    exact this
  | succ k ih =>
    intro i t ys r hi hl hr
    obtain ⟨x, hx⟩ : ∃ x, xs[i]? = some x := ⟨xs[i]'(by lia), by simp⟩
    refine JCL.turn ?_
    have := S.next i x hx (T t ++ [(acc, .list ys)]) r (clK B n env Υ elt target iter ifs scope pos it acc) (hQ _ _ _ hr) (by
        rw [List.append_assoc]
        refine (turn i x r t ys hx hr).mono fun o hp₄ h => ?_
        obtain ⟨t', r', rfl, h⟩ := h
        cases o with
        | some v => exact ⟨ys, T t' ++ ((acc, .list (ys ++ [v])) :: (I (i + 1) ++ r')), Upd.pre .head _, by lia, ih (i + 1) t' (ys ++ [v]) r' (by lia) (by simp; lia) h⟩
        | none => exact ih (i + 1) t' ys r' (by lia) (by lia) h)
    rw [List.append_assoc] at this
    exact this

noncomputable abbrev goK2 (Ω : Option V → Hp → Prop) (v : V) (hp : Hp) : Prop := Ω (some v) hp
noncomputable abbrev goK1 (B : Base) (n : Nat) (env : Env) (Ω : Option V → Hp → Prop) (elt : Expr) (hp : Hp) : Prop := JE B n env hp elt (goK2 Ω)
theorem CTurn.go {target elt : Expr} {x : V} {Ω : Option V → Hp → Prop} (h : JA B n env hp target x (goK1 B n env Ω elt)) : CTurn B n env target [] elt x hp Ω := by
  intro A s val ok S r
  refine (h A s val ok S r).mono fun _ hp₂ h₂ => ?_
  refine JIfs.nil ?_
  show if true = true then _ else _
  exact h₂
theorem CTurn.goIf {target elt c : Expr} {x : V} {Ω : Option V → Hp → Prop} (h : JA B n env hp target x fun hp₂ => JT B n env hp₂ c fun b hp₃ => if b = true then JE B n env hp₃ elt (goK2 Ω) else Ω none hp₃) : CTurn B n env target [c] elt x hp Ω := by
  intro A s val ok S r
  refine (h A s val ok S r).mono fun _ hp₂ h₂ => ?_
  exact JIfs.one h₂

structure CompSt (B : Base) (G : Globs B) (scope : Scope) (kinds : List (Str × NameKind)) (own out : List (Str × Addr)) {τ : Type} (T : Addr → τ → Hp) (t0 : τ) (own' : Addr → List (Str × Addr)) (out' : List (Str × Addr)) : Prop where
  ok : CompOk scope kinds own out
  o : own ++ out = out'
  cells : ∀ C, cellsFrom (C + 1) scope.names [] = own' C
  start : ∀ C, compHp scope C [] = T C t0
  del : ∀ C t, ∃ fs T', Del (T C t) C (.ns fs) T'
theorem compHp_app (scope : Scope) (C : Addr) (hp : Hp) : compHp scope C hp = compHp scope C [] ++ hp := by
  unfold compHp
  rw [List.append_nil, List.cons_append]
theorem Del.post {a : Addr} {o : AObj} (D : Del hp a o hp') (r : Hp) : Del (hp ++ r) a o (hp' ++ r) := by
  induction D with
  | head => exact .head
  | tail _ ih => exact .tail ih
inductive CompIn (B : Base) (n : Nat) (G : Globs B) (names : List (Str × NameKind)) (own' : Addr → List (Str × Addr)) (out' : List (Str × Addr)) {τ : Type} (T : Addr → τ → Hp) (target : Expr) (ifs : List Expr) (elt : Expr) (it : Addr) (hp₂ : Hp) (F : List V → Hp → Prop) : Prop
  | mk (hk : ∃ k, (it, AObj.it k) ∈ hp₂ ∧ k.plain) (I : Nat → Hp) (EE : Hp) (Q : Hp → Prop) (xs : List V) (r₀ : Hp) (Inv : Nat → List V → Hp → Prop) (e : hp₂ = I 0 ++ r₀) (S : Src B n target it I EE Q xs) (hlen : xs.length < 16777216) (hQ : ∀ i ys r, Inv i ys r → Q r) (h0 : Inv 0 [] r₀)
      (turn : ∀ C acc env', EnvIs B G env' C names (own' C) out' → ∀ i x r t ys, xs[i]? = some x → Inv i ys r → CTurn B n env' target ifs elt x (T C t ++ ((acc, .list ys) :: (I (i + 1) ++ r))) fun o hp₄ => ∃ t' r', hp₄ = T C t' ++ ((acc, .list ys) :: (I (i + 1) ++ r')) ∧ Inv (i + 1) (putO ys o) r')
      (fin : ∀ ys r, Inv xs.length ys r → F ys r) : CompIn B n G names own' out' T target ifs elt it hp₂ F
noncomputable abbrev cpK2 (B : Base) (n : Nat) (G : Globs B) (names : List (Str × NameKind)) (own' : Addr → List (Str × Addr)) (out' : List (Str × Addr)) {τ : Type} (T : Addr → τ → Hp) (target : Expr) (ifs : List Expr) (elt : Expr) (F : List V → Hp → Prop) (it : Addr) (hp₂ : Hp) : Prop := CompIn B n G names own' out' T target ifs elt it hp₂ F
noncomputable abbrev cpK1 (B : Base) (n : Nat) (G : Globs B) (names : List (Str × NameKind)) (own' : Addr → List (Str × Addr)) (out' : List (Str × Addr)) {τ : Type} (T : Addr → τ → Hp) (target : Expr) (ifs : List Expr) (elt : Expr) (F : List V → Hp → Prop) (v : V) (hp₁ : Hp) : Prop := JI B n hp₁ v (cpK2 B n G names own' out' T target ifs elt F)
noncomputable abbrev lsK (Φ : V → Hp → Prop) (ys : List V) (r : Hp) : Prop := Φ (.lst ys) r
noncomputable abbrev nsK (Ψ : AF → Hp → Prop) (L : Addr) (x : Str) (ys : List V) (r : Hp) : Prop := ∃ fs fs' r', Upd r L (.ns fs) (.ns fs') r' ∧ UpdN fs x (.lst ys) fs' ∧ Ψ .next r'
theorem nsEnd {Ψ : AF → Hp → Prop} {L : Addr} {x : Str} {ys : List V} {r r' : Hp} {fs fs' : List (Str × Option V)} (U : Upd r L (.ns fs) (.ns fs') r') (u : UpdN fs x (.lst ys) fs') (h : Ψ .next r') : nsK Ψ L x ys r := ⟨fs, fs', r', U, u, h⟩
section
variable {τ : Type} {names : List (Str × NameKind)} {own' : Addr → List (Str × Addr)} {out' : List (Str × Addr)} {T : Addr → τ → Hp} {target elt : Expr} {ifs : List Expr} {F : List V → Hp → Prop}
theorem take_succ_filterMap {α : Type} (ls : List α) (f : α → Option V) (i : Nat) {a : α} (h : ls[i]? = some a) : (ls.take (i + 1)).filterMap f = putO ((ls.take i).filterMap f) (f a) := by
  rw [List.take_add_one, h, List.filterMap_append]
  cases q : f a with
  | none => simp [putO, q]
  | some v => simp [putO, q]
noncomputable abbrev cvK {τ : Type} (T : Addr → τ → Hp) (C acc : Addr) (ys : List V) (I : Nat → Hp) (i : Nat) (J : Nat → Hp → Prop) (fa : Option V) (o : Option V) (hp₄ : Hp) : Prop := o = fa ∧ ∃ t' r', J (i + 1) r' ∧ hp₄ = T C t' ++ ((acc, .list ys) :: (I (i + 1) ++ r'))
theorem CompIn.var {α : Type} (ls : List α) (g : α → V) (f : α → Option V) (J : Nat → Hp → Prop) {r₀ : Hp} (S : Src B n target it I EE Q (ls.map g)) (hQ : ∀ i r, J i r → Q r) (h0 : J 0 r₀) (hk : ∃ k, (it, AObj.it k) ∈ I 0 ++ r₀ ∧ k.plain) (hlen : ls.length < 16777216)
    (turn : ∀ C acc env', EnvIs B G env' C names (own' C) out' → ∀ i a t ys r, ls[i]? = some a → J i r → CTurn B n env' target ifs elt (g a) (T C t ++ ((acc, .list ys) :: (I (i + 1) ++ r))) (cvK T C acc ys I i J (f a)))
    (fin : ∀ r, J ls.length r → F (ls.filterMap f) r) : CompIn B n G names own' out' T target ifs elt it (I 0 ++ r₀) F := by
  refine ⟨hk, I, EE, Q, ls.map g, r₀, fun i ys r => ys = (ls.take i).filterMap f ∧ J i r, rfl, S, by simpa using hlen, fun i ys r h => hQ i r h.2, ⟨by simp, h0⟩, fun C acc env' E' i x r t ys hx hI => ?_, fun ys r h => ?_⟩
  · obtain ⟨rfl, hJ⟩ := hI
    rw [List.getElem?_map] at hx
    cases q : ls[i]? with
    | none => rw [q] at hx; cases hx
    | some a =>
      rw [q] at hx; cases hx
      refine (turn C acc env' E' i a t ((ls.take i).filterMap f) r q hJ).mono fun o hp₄ h => ?_
      obtain ⟨rfl, t', r', hJ', rfl⟩ := h
      exact ⟨t', r', rfl, (take_succ_filterMap ls f i q).symm, hJ'⟩
  · obtain ⟨rfl, hj⟩ := h
    rw [List.length_map, List.take_length] at *; exact fin r hj
theorem CompIn.const {α : Type} (ls : List α) (g : α → V) (f : α → Option V) {r₀ : Hp} (S : Src B n target it I EE Q (ls.map g)) (hQ : Q r₀) (hk : ∃ k, (it, AObj.it k) ∈ I 0 ++ r₀ ∧ k.plain) (hlen : ls.length < 16777216)
    (turn : ∀ C acc env', EnvIs B G env' C names (own' C) out' → ∀ i a t ys, ls[i]? = some a → CTurn B n env' target ifs elt (g a) (T C t ++ ((acc, .list ys) :: (I (i + 1) ++ r₀))) (ctK T C acc ys (I (i + 1) ++ r₀) (f a)))
    (fin : F (ls.filterMap f) r₀) : CompIn B n G names own' out' T target ifs elt it (I 0 ++ r₀) F :=
  CompIn.var ls g f (fun _ r => r = r₀) S (fun _ _ e => e ▸ hQ) rfl hk hlen (fun C acc env' E' i a t ys r h e => by
    subst e
    exact (turn C acc env' E' i a t ys h).mono fun o hp₄ h => ⟨h.1, h.2.imp fun t' e => ⟨r, rfl, e⟩⟩) fun r e => e ▸ fin
theorem CompIn.lst {α : Type} (ls : List α) (g : α → V) (f : α → Option V) {r₀ : Hp} (hlen : ls.length < 16777216)
    (turn : ∀ C acc env', EnvIs B G env' C names (own' C) out' → ∀ i a t ys, ls[i]? = some a → CTurn B n env' target ifs elt (g a) (T C t ++ ((acc, .list ys) :: ((it, .it (.lst (ls.map g) (i + 1))) :: r₀))) (ctK T C acc ys ((it, .it (.lst (ls.map g) (i + 1))) :: r₀) (f a)))
    (fin : F (ls.filterMap f) r₀) : CompIn B n G names own' out' T target ifs elt it ((it, .it (.lst (ls.map g) 0)) :: r₀) F :=
  CompIn.const (I := fun i => [(it, .it (.lst (ls.map g) i))]) ls g f Src.lst trivial ⟨_, .head _, trivial⟩ hlen turn fin
theorem CompIn.mlst {α : Type} (ls : List α) (g : α → V) (f : α → Option V) {r₀ : Hp} {l : Addr} (hm : (l, AObj.list (ls.map g)) ∈ r₀) (hlen : ls.length < 16777216)
    (turn : ∀ C acc env', EnvIs B G env' C names (own' C) out' → ∀ i a t ys, ls[i]? = some a → CTurn B n env' target ifs elt (g a) (T C t ++ ((acc, .list ys) :: ((it, .it (.mlst l (i + 1))) :: r₀))) (ctK T C acc ys ((it, .it (.mlst l (i + 1))) :: r₀) (f a)))
    (fin : F (ls.filterMap f) r₀) : CompIn B n G names own' out' T target ifs elt it ((it, .it (.mlst l 0)) :: r₀) F :=
  CompIn.const (I := fun i => [(it, .it (.mlst l i))]) ls g f Src.mlst hm ⟨_, .head _, trivial⟩ hlen turn fin
theorem CompIn.rng {a : Int} {k : Nat} (f : Nat → Option V) {r₀ : Hp} (hlen : k < 16777216)
    (turn : ∀ C acc env', EnvIs B G env' C names (own' C) out' → ∀ i t ys, i < k → CTurn B n env' target ifs elt (.int (a + i)) (T C t ++ ((acc, .list ys) :: ((it, .it (.rng (a + (i + 1 : Nat)) (k - (i + 1 : Nat)) 1)) :: r₀))) (ctK T C acc ys ((it, .it (.rng (a + (i + 1 : Nat)) (k - (i + 1 : Nat)) 1)) :: r₀) (f i)))
    (fin : F ((List.range k).filterMap f) r₀) : CompIn B n G names own' out' T target ifs elt it ((it, .it (.rng a k 1)) :: r₀) F := by
  have := CompIn.const (I := fun i => [(it, .it (.rng (a + i) (k - i) 1))]) (F := F) (G := G) (names := names) (own' := own') (out' := out') (T := T) (ifs := ifs) (elt := elt) (List.range k) (fun i => .int (a + (i : Int))) f (r₀ := r₀) (Src.rng (B := B) (n := n) (t := target) (a := a) (k := k)) trivial ⟨_, .head _, trivial⟩ (by simpa using hlen)
    (fun C acc env' E' i b t ys hb => by
      by_cases q : i < k
      · rw [List.getElem?_range q] at hb
        cases hb
        exact turn C acc env' E' i t ys q
      · rw [List.getElem?_eq_none (by simp; lia)] at hb; cases hb) fin
  simpa using this
theorem CompIn.str {x : Str} (f : Nat → Option V) {r₀ : Hp} (hlen : x.cps.size < 16777216)
    (turn : ∀ C acc env', EnvIs B G env' C names (own' C) out' → ∀ i c t ys, x.cps.toList[i]? = some c → CTurn B n env' target ifs elt (.str ⟨#[c]⟩) (T C t ++ ((acc, .list ys) :: ((it, .it (.str x (i + 1))) :: r₀))) (ctK T C acc ys ((it, .it (.str x (i + 1))) :: r₀) (f c)))
    (fin : F (x.cps.toList.filterMap f) r₀) : CompIn B n G names own' out' T target ifs elt it ((it, .it (.str x 0)) :: r₀) F :=
  CompIn.const (I := fun i => [(it, .it (.str x i))]) x.cps.toList (fun c => .str ⟨#[c]⟩) f Src.str trivial ⟨_, .head _, trivial⟩ (by simpa using hlen) turn fin
end
theorem JE.comp {τ : Type} {elt target iter : Expr} {ifs : List Expr} {scope : Scope} {own' : Addr → List (Str × Addr)} {out' : List (Str × Addr)} (T : Addr → τ → Hp) (t0 : τ) (E : EnvIs B G env L kinds own out) (hc : CompSt B G scope kinds own out T t0 own' out')
    (h : JE B n env hp iter (cpK1 B n G scope.names own' out' T target ifs elt (lsK Φ)))
    (hs : ∀ x, foldedSetIterable iter env x = pure x := by intro _; rfl) : JE B n env hp (.ListComp elt [⟨target, iter, ifs, 0⟩] scope pos) Φ := by
  refine JE.listComp E hc.ok ?_ hs
  refine h.mono fun v hp₁ h₁ => ?_
  intro A s y ok S r
  refine (h₁ A s y ok S r).mono fun it hp₂ h₂ => ?_
  obtain ⟨hk, I, EE, Q, xs, r₀, Inv, rfl, S', hlen, hQ, h0, turn, fin⟩ := h₂
  refine ⟨hk, fun C acc EE' => ?_⟩
  rw [compHp_app, hc.start]
  rw [hc.cells, hc.o] at EE'
  refine JCL.run S' (T C) Inv hQ hlen (fun i x r t ys hx hr => turn C acc _ EE' i x r t ys hx hr) (fun t ys r hr => ?_) xs.length 0 t0 [] r₀ (by lia) (by simp) h0
  obtain ⟨fs, T', D⟩ := hc.del C t
  exact .frz (D.post _) (Del.pre .head T') ((List.sublist_append_right EE r).trans (List.sublist_append_right T' _)) (fin ys r hr)

theorem swaps_true {px cpos : Pos} {elt : Expr} {gens : List Comprehension} {scope : Scope} {line : Nat} (E : EnvIs B G env L kinds own out) (hl : kinds.contains (x, NameKind.local) = true)
    (h : (px.line == cpos.line && !(scope.names.any fun p => p.1 == x && (p.2 == .local || p.2 == .cell))) = true) : swapsWith (.ListComp elt gens scope cpos) (some (.Name x px)) line env = pure true := by
  have k := E.kind (List.contains_iff_mem.mp hl) (by decide)
  unfold swapsWith Env.blockKind
  dsimp only
  rw [k, E.fn]
  rw [Bool.and_eq_true] at h
  rw [show (px.line == (Expr.ListComp elt gens scope cpos).pos.line) = true from h.1]
  refine congrArg pure ?_
  rw [Bool.and_eq_true]
  exact ⟨by decide, h.2⟩
theorem swaps_cell {px : Pos} {e : Expr} {line : Nat} {c : Addr} (E : EnvIs B G env L kinds own out) (hl : (x, c) ∈ own) : swapsWithSole [.Name x px] e line env = pure false := by
  have k := E.kind (E.ow _ hl).1 (by decide)
  unfold swapsWithSole swapsWith
  dsimp only
  split
  · refine congrArg pure ?_
    rw [k]
    simp
  · rfl
noncomputable abbrev acK (Ψ : AF → Hp → Prop) (c : Addr) (v : V) (hp : Hp) : Prop := ∃ o hp₂, Upd hp c (.cell o) (.cell (some v)) hp₂ ∧ Ψ .next hp₂
theorem acEnd {Ψ : AF → Hp → Prop} {c : Addr} {v : V} {hp hp₂ : Hp} {o : Option V} (U : Upd hp c (.cell o) (.cell (some v)) hp₂) (h : Ψ .next hp₂) : acK Ψ c v hp := ⟨o, hp₂, U, h⟩
theorem J1.assignC {px : Pos} {e : Expr} {c : Addr} (E : EnvIs B G env L kinds own out) (hl : (x, c) ∈ own) (h : JE B n env hp e (acK Ψ c)) : J1 B n env hp (.Assign [.Name x px] e pos) Ψ :=
  J1.assign (h.mono fun v hp₁ h => by obtain ⟨o, hp₂, U, h₂⟩ := h; exact JA.name (JSt.cell E hl U h₂)) (swaps_cell E hl) (by rfl) (by rfl)
theorem J1.comp {τ : Type} {elt target iter : Expr} {ifs : List Expr} {scope : Scope} {own' : Addr → List (Str × Addr)} {out' : List (Str × Addr)} {px cpos : Pos} (T : Addr → τ → Hp) (t0 : τ) (E : EnvIs B G env L kinds own out) (hc : CompSt B G scope kinds own out T t0 own' out') (hl : kinds.contains (x, NameKind.local) = true)
    (hsw : (px.line == cpos.line && !(scope.names.any fun p => p.1 == x && (p.2 == .local || p.2 == .cell))) = true)
    (h : JE B n env hp iter (cpK1 B n G scope.names own' out' T target ifs elt (nsK Ψ L x)))
    (hs : ∀ x, foldedSetIterable iter env x = pure x := by intro _; rfl) : J1 B n env hp (.Assign [.Name x px] (.ListComp elt [⟨target, iter, ifs, 0⟩] scope cpos) pos) Ψ := by
  refine J1.assignComp E hc.ok (swaps_true E hl hsw) ?_ hs
  refine h.mono fun v hp₁ h₁ => ?_
  intro A s y ok S r
  refine (h₁ A s y ok S r).mono fun it hp₂ h₂ => ?_
  obtain ⟨hk, I, EE, Q, xs, r₀, Inv, rfl, S', hlen, hQ, h0, turn, fin⟩ := h₂
  refine ⟨hk, fun C acc EE' => ?_⟩
  rw [compHp_app, hc.start]
  rw [hc.cells, hc.o] at EE'
  refine JCL.run S' (T C) Inv hQ hlen (fun i x r t ys hx hr => turn C acc _ EE' i x r t ys hx hr) (fun t ys r hr => ?_) xs.length 0 t0 [] r₀ (by lia) (by simp) h0
  obtain ⟨fs, T', D⟩ := hc.del C t
  obtain ⟨gs, gs', r', U, UN, hΨ⟩ := fin ys r hr
  exact ⟨ys, _, T C t ++ r, Del.pre .head _, (List.sublist_append_right EE r).append_left _, JSt.local E (List.contains_iff_mem.mp hl) (U.pre _) UN ⟨fs, T' ++ r', r', D.post _, List.sublist_append_right _ _, hΨ⟩⟩

theorem filterMap_lt {α β : Type} {f : α → Option β} : ∀ {l : List α} {a : α}, a ∈ l → f a = none → (l.filterMap f).length < l.length
  | b :: l, a, hm, hf => by
    have hle : (l.filterMap f).length ≤ l.length := List.length_filterMap_le ..
    rcases List.mem_cons.mp hm with e | hm
    · subst e
      rw [List.filterMap_cons_none hf, List.length_cons]; lia
    · have ih := filterMap_lt hm hf
      cases q : f b with
      | none => rw [List.filterMap_cons_none q, List.length_cons]; lia
      | some c => rw [List.filterMap_cons_some q, List.length_cons, List.length_cons]; lia
theorem swapped_none {ts es : List Expr} {k k' : Nat} {tp ep px : Pos} {c : Addr} (E : EnvIs B G env L kinds own out) (hc : (x, c) ∈ own) (hm : Expr.Name x px ∈ ts) : swappedStores [.Tuple ts k tp] (.Tuple es k' ep) env = pure none := by
  have kd := E.kind (E.ow _ hc).1 (by decide)
  unfold swappedStores
  dsimp only
  split
  · rfl
  split
  · rfl
  have hlt := filterMap_lt (f := fun e => match e with
    | .Name id pos => if (env.kindOf id == some .local && pos.line == (ts.head?.map (·.pos.line)).getD 0) = true then some id else none
    | _ => none) hm (by dsimp only; rw [kd]; rfl)
  rw [if_pos]
  · have : ((ts.filterMap fun e => match e with
      | .Name id pos => if (env.kindOf id == some .local && pos.line == (ts.head?.map (·.pos.line)).getD 0) = true then some id else none
      | _ => none).length != ts.length) = true := bne_iff_ne.mpr (Nat.ne_of_lt hlt)
    rw [Bool.or_eq_true]; exact .inl this
theorem swapped2 {a b : Str} {pa pb : Pos} {e1 e2 : Expr} {k k' : Nat} {tp ep : Pos} (E : EnvIs B G env L kinds own out) (ha : kinds.contains (a, NameKind.local) = true) (hb : kinds.contains (b, NameKind.local) = true) (hne : ([a, b].eraseDups.length != 2) = false) (hl : (pb.line == pa.line) = true)
    (hst : ([e1, e2].any fun | .Starred .. => true | _ => false) = false) (hf : [e1, e2].all (foldedForSure 8) = false) (hcn : [e1, e2].all (constantsAlone 8) = false) : swappedStores [.Tuple [.Name a pa, .Name b pb] k tp] (.Tuple [e1, e2] k' ep) env = pure (some [a, b]) := by
  have ka := E.kind (List.contains_iff_mem.mp ha) (by decide)
  have kb := E.kind (List.contains_iff_mem.mp hb) (by decide)
  unfold swappedStores Env.blockKind
  dsimp only
  have e : ([Expr.Name a pa, Expr.Name b pb].filterMap fun e => match e with
    | .Name id pos => if (env.kindOf id == some .local && pos.line == pa.line) = true then some id else none
    | _ => none) = [a, b] := by
    simp [ka, kb, beq_iff_eq.mp hl]
  rw [if_neg (by rw [E.fn]; simp)]
  refine (if_neg (fun h => Bool.noConfusion (hst.symm.trans h))).trans ?_
  show (if (_ : Bool) = true then _ else _) = _
  rw [show ((([Expr.Name a pa, Expr.Name b pb].head?.map (·.pos.line)).getD 0)) = pa.line from rfl]
  generalize hg : List.filterMap _ _ = l
  cases (hg.symm.trans e : l = [a, b])
  rw [if_neg (by show ¬ (((2 : Nat) != 2) || ([a, b].eraseDups.length != 2)) = true; rw [hne]; decide), if_neg (by rw [hf]; decide), if_neg (by rw [hcn]; decide)]
theorem swapped3 {a b c : Str} {pa pb pc : Pos} {e1 e2 e3 : Expr} {k k' : Nat} {tp ep : Pos} (E : EnvIs B G env L kinds own out) (ha : kinds.contains (a, NameKind.local) = true) (hb : kinds.contains (b, NameKind.local) = true) (hc : kinds.contains (c, NameKind.local) = true) (hne : ([a, b, c].eraseDups.length != 3) = false) (hl : (pb.line == pa.line && pc.line == pa.line) = true)
    (hst : ([e1, e2, e3].any fun | .Starred .. => true | _ => false) = false) (hf : [e1, e2, e3].all (foldedForSure 8) = false) (hcn : [e1, e2, e3].all (constantsAlone 8) = false) : swappedStores [.Tuple [.Name a pa, .Name b pb, .Name c pc] k tp] (.Tuple [e1, e2, e3] k' ep) env = pure (some [a, b, c]) := by
  have ka := E.kind (List.contains_iff_mem.mp ha) (by decide)
  have kb := E.kind (List.contains_iff_mem.mp hb) (by decide)
  have kc := E.kind (List.contains_iff_mem.mp hc) (by decide)
  rw [Bool.and_eq_true, beq_iff_eq, beq_iff_eq] at hl
  unfold swappedStores Env.blockKind
  dsimp only
  have e : ([Expr.Name a pa, Expr.Name b pb, Expr.Name c pc].filterMap fun e => match e with
    | .Name id pos => if (env.kindOf id == some .local && pos.line == pa.line) = true then some id else none
    | _ => none) = [a, b, c] := by
    simp [ka, kb, kc, hl.1, hl.2]
  rw [if_neg (by rw [E.fn]; simp)]
  refine (if_neg (fun h => Bool.noConfusion (hst.symm.trans h))).trans ?_
  show (if (_ : Bool) = true then _ else _) = _
  rw [show ((([Expr.Name a pa, Expr.Name b pb, Expr.Name c pc].head?.map (·.pos.line)).getD 0)) = pa.line from rfl]
  generalize hg : List.filterMap _ _ = l
  cases (hg.symm.trans e : l = [a, b, c])
  rw [if_neg (by show ¬ (((3 : Nat) != 3) || ([a, b, c].eraseDups.length != 3)) = true; rw [hne]; decide), if_neg (by rw [hf]; decide), if_neg (by rw [hcn]; decide)]
end
end Mine

set_option maxRecDepth 100000
namespace Mine
open PySem PySem.W PySem.Calls PyProof.Rows
theorem slot_callit_iter : Slot "callable_iterator" "__iter__" "callable_iterator.__iter__" :=
  .of (owner := "callable_iterator") (n := "__iter__") (by rw [typeLookup_type, builtinLookup_eq_fast]; kernel_rfl) (by decide +kernel) (by decide +kernel) (by decide +kernel)
    (by first | exact .inl (by decide +kernel) | exact .inr (by decide +kernel)) (by rw [isSubtype_type]; kernel_rfl)
theorem entry_callit_iter : entryFor table "callable_iterator.__iter__" = some Builtin.«dict_keyiterator.__iter__» :=
  entryFor_alias (id' := "dict_keyiterator.__iter__") (by kernel_rfl) (by rfl) (by decide +kernel) (by kernel_rfl)
theorem args_callit_iter (a : Value) : argsOk "callable_iterator.__iter__" ⟨[a], []⟩ := by unfold argsOk; kernel_rfl
section
variable {B : Base} {n : Nat} {env : Env} {hp hp' : Hp} {pos : Pos} {Φ : V → Hp → Prop} {x y : Str}
theorem JI.call {it : Addr} {f s' : V} {b : Bool} {Ω : Addr → Hp → Prop} (hm : (it, AObj.it (.call f s' b)) ∈ hp) (h : Ω it hp) : JI B n hp (.mref it) Ω := fun A s v ok S r => Wp.of fun Q q => by
  (first | refine Is.eInt r fun _ => ?_ | refine Is.eStr r fun _ => ?_ | refine Is.eNone r ?_ | refine Is.eBool r ?_ | refine Is.eRaw r ?_ | refine Is.eMref r ?_ | refine IsAll.eNil r ?_ | (obtain rfl := r.inv) | (obtain ⟨_, rfl⟩ := r.inv) | cases r)
  obtain ⟨vf, vs, e, _⟩ := S.objs _ hm
  have hT : s.TypeIs (.ref it) "callable_iterator" := ⟨_, e, rfl⟩
  refine wpAny_pyIter_slot hT slot_callit_iter (wpAny_call_entry slot_callit_iter hT entry_callit_iter ?_ (args_callit_iter _))
  show wpAny _ _ (ret (.ref it)) _ _ s
  exact wpAny_pure ⟨_, rfl, "callable_iterator", _, hT, slot_callit_next.lookup, q _ _ _ _ S (Le.refl _) rfl h⟩
variable {C d : Addr} {K : Frag} {mg mb : Str → Option Value} {Ξ : V → List V → Hp → Prop}
theorem JM.own {name : Str} {fs : List (Str × V)} {v : V} (T : TopB B K mg mb) (hC : ClsK K C) (hno : findIn K (.ref C) name = some none) (hm : (d, AObj.attrs fs) ∈ hp) (hv : fs.lookup name = some v) (hr : ∀ w, v ≠ .raw w) (h : Ξ v [] hp) : JM B n hp (.inst C d) name Ξ :=
  fun A s val pl ok S r => Wp.of fun Q k => by
    obtain ⟨a, rfl⟩ := inst_ref r
    obtain ⟨es, m, e, hl, hx⟩ := S.objs _ hm
    obtain ⟨ox, I, hd⟩ := instAt_of r e
    obtain ⟨w, hw, hwi⟩ := hx name
    rw [hv] at hwi
    cases w with
    | none => exact hwi.elim
    | some w =>
      refine method_usual (T.kin S) I (plainGet_of (name := "") hC.plain).1 (plainGet_of (name := "") hC.plain).2 hno rfl ?_
      refine get_value (T.kin S) I (plainGet_of (name := "") hC.plain).1 (findObj_own hC.has hno rfl (by rw [lookIn_dict]; exact hw)) (handed_of hwi hr) ?_
      exact k _ (v, []) _ _ (S.toks _) (Le.refl _) ⟨hwi, .nil⟩ h
end
end Mine

set_option maxRecDepth 100000
set_option linter.unusedVariables false
namespace Mine
open PySem PySem.W PySem.Calls PyProof.Rows
theorem pick0 {α : Type} : ∀ (m : Nat) (xs : List α), (List.range m).filterMap (xs[·]?) = xs.take m
  | 0, _ => rfl
  | m + 1, [] => List.filterMap_eq_nil_iff.mpr fun _ _ => rfl
  | m + 1, x :: r => by
    rw [List.range_succ_eq_map, List.filterMap_cons_some (f := fun i => (x :: r)[i]?) (b := x) rfl, List.filterMap_map]
    exact congrArg (x :: ·) (pick0 m r)
theorem up_count (s t : Nat) : (if (s : Int) < t then ((t : Int) - s + 1 - 1) / 1 else 0).toNat = t - s := by
  rw [Int.ediv_one]; split <;> lia
theorem sliceRange_up (s t : Nat) : sliceRange s t 1 = (List.range (t - s)).map (s + ·) := by
  unfold sliceRange
  dsimp only
  rw [if_pos (by decide), up_count]
  refine List.map_congr_left fun k _ => ?_
  rw [Int.one_mul, ← Int.natCast_add, Int.toNat_natCast]
theorem range_pick {α : Type} (xs : List α) (s t : Nat) : (sliceRange s t 1).filterMap (xs[·]?) = (xs.take t).drop s := by
  rw [sliceRange_up, List.filterMap_map, show ((xs[·]?) ∘ (s + ·)) = fun k => (xs.drop s)[k]? from funext fun k => List.getElem?_drop.symm, pick0, List.drop_take]
theorem cut_min {α : Type} (xs : List α) (a b : Nat) : (xs.take (min b xs.length)).drop (min a xs.length) = (xs.take b).drop a := by
  have e : xs.take (min b xs.length) = xs.take b := by
    rcases Nat.le_total b xs.length with h | h
    · rw [Nat.min_eq_left h]
    · rw [Nat.min_eq_right h, List.take_length, List.take_of_length_le h]
  rw [e]
  rcases Nat.le_total a xs.length with h | h
  · rw [Nat.min_eq_left h]
  · rw [Nat.min_eq_right h, List.drop_eq_nil_of_le (List.length_take_le' ..), List.drop_eq_nil_of_le (Nat.le_trans (List.length_take_le' ..) h)]
theorem vpick_rev (xs : List V) : vpick xs none none (some (-1)) = xs.reverse := by
  unfold vpick sliceBounds sliceRange
  have hc : (if (xs.length : Int) - 1 > -1 then ((xs.length : Int) - 1 - -1 - -1 - 1) / (- -1) else 0).toNat = xs.length := by
    rw [Int.neg_neg, Int.ediv_one]; split <;> lia
  show List.filterMap _ (List.map _ (List.range (if (-1 : Int) > 0 then _ else (if (xs.length : Int) - 1 > -1 then ((xs.length : Int) - 1 - -1 - -1 - 1) / (- -1) else 0)).toNat)) = _
  rw [if_neg (by decide), hc]
  have e : (List.range xs.length).map (fun k : Nat => ((xs.length : Int) - 1 + -1 * (k : Int)).toNat) = (List.range xs.length).reverse := by
    apply List.ext_getElem
    · simp
    · intro i h1 h2
      simp only [List.length_map, List.length_range] at h1
      simp only [List.getElem_map, List.getElem_range, List.getElem_reverse, List.length_range]
      lia
  refine (congrArg (List.filterMap (xs[·]?)) e).trans ?_
  rw [List.filterMap_reverse, pick0, List.take_length]
theorem cap (a n : Nat) : max (0 : Int) (min (a : Int) (n : Int)) = ((min a n : Nat) : Int) := by lia
theorem notNeg (a : Nat) : ¬ ((a : Int) < 0) := Int.not_lt.mpr (Int.natCast_nonneg a)
theorem vpick_all (xs : List V) : vpick xs none none none = xs := (range_pick xs 0 xs.length).trans List.take_length
theorem vpick_from (xs : List V) (a : Nat) : vpick xs (some a) none none = xs.drop a := by
  unfold vpick sliceBounds
  simp only [Option.getD_none, show (1 : Int) > 0 by decide, if_true, notNeg, if_false, cap]
  rw [range_pick, List.take_length]
  have := cut_min xs a xs.length
  rwa [Nat.min_self, List.take_length] at this
theorem vpick_to (xs : List V) (b : Nat) : vpick xs none (some b) none = xs.take b := by
  unfold vpick sliceBounds
  simp only [Option.getD_none, show (1 : Int) > 0 by decide, if_true, notNeg, if_false, cap]
  have := cut_min xs 0 b
  rw [Nat.zero_min] at this
  exact (range_pick xs 0 (min b xs.length)).trans this
theorem vpick_mid (xs : List V) (a b : Nat) : vpick xs (some a) (some b) none = (xs.take b).drop a := by
  unfold vpick sliceBounds
  simp only [Option.getD_none, show (1 : Int) > 0 by decide, if_true, notNeg, if_false, cap]
  rw [range_pick, cut_min]
section
variable {B : Base} {n : Nat} {env : Env} {hp hp' : Hp} {pos : Pos} {Φ : V → Hp → Prop} {x y : Str} {a b : Int}
theorem JE.negI {e : Expr} (h : JE B n env hp e fun v hp₁ => ∃ a, v = .int a ∧ Φ (.int (-a)) hp₁) : JE B n env hp (.UnaryOp .USub e pos) Φ :=
  JE.unary (h.mono fun v hp₁ h₁ => by
    obtain ⟨a, rfl, h₁⟩ := h₁
    intro A s val ok S r
    (first | refine Is.eInt r fun _ => ?_ | refine Is.eStr r fun _ => ?_ | refine Is.eNone r ?_ | refine Is.eBool r ?_ | refine Is.eRaw r ?_ | refine Is.eMref r ?_ | refine IsAll.eNil r ?_ | (obtain rfl := r.inv) | (obtain ⟨_, rfl⟩ := r.inv) | cases r)
    exact Wp.of fun Q k => PyProof.Rows.neg_int (k _ _ _ _ (S.toks _) (Le.refl _) (.int _ _) h₁))
end

section
variable {prog : Program} {w : World} {A : Around} {E : Value → Shared → Prop} {s : Shared}
theorem sliceApplied_to2 {sl : Addr} {u : Tok} {Q : Int × Int × Nat → Shared → Prop} (hs : s.heap.IsSliceOf sl .none (.int 2 u) .none) (h : Q (0, 1, 2) s) :
    wpAny (model prog w) A (Builtin.Slice.sliceApplied (.ref sl) (pure (3 : Int))) Q E s := by
  obtain ⟨os, hos, hcs, hds⟩ := id hs
  unfold Builtin.Slice.sliceApplied Builtin.Slice.sliceFields
  refine wpAny_bind (wpAny_bind (wpAny_field hos hds (x := .none) rfl (wpAny_bind (wpAny_field hos hds (x := .int 2 u) rfl (wpAny_bind (wpAny_field hos hds (x := .none) rfl (wpAny_pure ?_)))))))
  refine wpAny_bind (slicePart_none ?_)
  show wpAny _ _ (if ((1 : Int) == 0) = true then _ else _) _ _ s
  rw [if_neg (by decide)]
  refine wpAny_bind (slicePart_none (wpAny_bind (slicePart_int (wpAny_bind (wpAny_pure ?_)))))
  exact wpAny_pure h
theorem getItem_tuple_to2 {t sl : Addr} {a b c : Value} {m : Nat} {u : Tok} {Q : Value → Shared → Prop} (e : s.heap.get? t = some { cls := .type "tuple", data := .seq #[a, b, c] m }) (hs : s.heap.IsSliceOf sl .none (.int 2 u) .none)
    (h : Q (.ref s.heap.objs.size) { s with heap := s.heap.push { cls := .type "tuple", data := .seq #[a, b] } }) : wpAny (model prog w) A (getItem (.ref t) (.ref sl)) Q E s := by
  obtain ⟨os, hos, hcs, hds⟩ := id hs
  have hTs : s.TypeIs (.ref sl) "slice" := ⟨os, hos, hcs⟩
  have hT : s.TypeIs (.ref t) "tuple" := ⟨_, e, rfl⟩
  have ht : IsTup s.heap t #[a, b, c] := ⟨_, e, rfl, _, rfl⟩
  unfold getItem
  try with_reducible refine wpAny_holding ?_
  refine wpAny_bind (wpAny_sequenceKey hT (by decide) ?_)
  refine wpAny_bind (wpAny_callSpecial?_slot (name := Str.ofString "__getitem__") hT PySem.F.slot_tuple_getitem
    (wpAny_call_entry PySem.F.slot_tuple_getitem hT PySem.F.entry_tuple_getitem ?_ (PySem.F.args_tuple_getitem_2 _ _)))
  show wpAny _ _ (Builtin.Tuple.tupleItemsOf (.ref t) >>= _) _ _ s
  refine wpAny_bind (tupleItemsOf_ ht ?_)
  refine wpAny_bind (wpAny_typeOf hTs ?_)
  rw [if_pos (by decide)]
  refine wpAny_bind (sliceApplied_to2 hs ?_)
  first
    | exact wpAny_bind (m := Builtin.Tuple.tupleExact _) (wpAny_newObj_type (wpAny_pure ⟨_, rfl, wpAny_pure h⟩) (by show 2 ≤ sizeLine; decide))
    | exact wpAny_bind (m := Builtin.Tuple.tupleExact _) (wpAny_newObj_type (wpAny_bind (wpAny_pure (wpAny_pure ⟨_, rfl, wpAny_pure h⟩))) (by show 2 ≤ sizeLine; decide))
    | exact wpAny_bind (wpAny_bind (m := Builtin.Tuple.tupleExact _) (wpAny_newObj_type (wpAny_pure (wpAny_pure ⟨_, rfl, wpAny_pure h⟩)) (by show 2 ≤ sizeLine; decide)))
end
section
variable {B : Base} {n : Nat} {hp : Hp} {Φ : V → Hp → Prop}
theorem JGi.tup2 {x y z : V} (h : Φ (.tup [x, y]) hp) : JGi B n hp (.tup [x, y, z]) (.sl none (some 2) none) Φ := fun A s val w ok S r r' => Wp.of fun Q k => by
  obtain ⟨a, items, m, rfl, e, rs⟩ := r.inv
  next =>
    obtain ⟨il⟩ := items
    obtain ⟨_, _, rfl, h1, t1⟩ := rs.inv
    next => cases t1 with
      | cons h2 t2 => cases t2 with
        | cons h3 t3 =>
          (first | (obtain rfl := t3.inv) | (obtain ⟨_, rfl⟩ := t3.inv) | cases t3)
          obtain ⟨_, _, _, _, rfl, es, p1, p2, p3⟩ := r'.inv
          next =>
            (first | (obtain rfl := p1.inv) | (obtain ⟨_, rfl⟩ := p1.inv) | cases p1); (first | (obtain rfl := p2.inv) | (obtain ⟨_, rfl⟩ := p2.inv) | cases p2); (first | (obtain rfl := p3.inv) | (obtain ⟨_, rfl⟩ := p3.inv) | cases p3)
            refine getItem_tuple_to2 (zof_le _ _ e) ⟨_, zof_le _ _ es, rfl, rfl⟩ ?_
            rename_i v1 v2 v3 _ _
            have K := S.ext (tk := s.toks) (h' := s.heap.push { cls := .type "tuple", data := .seq #[v1, v2] }) fun _ _ e => Heap.get?_push_of_some _ e
            exact k _ _ _ _ K.1 K.2 (.tup (S.frozen (size_fresh _) (Heap.get?_push_size _ rfl)) (.cons (h1.mono K.2) (.cons (h2.mono K.2) .nil))) h
end
end Mine

set_option maxRecDepth 100000
set_option linter.unusedVariables false
namespace Mine
open PySem PySem.W PySem.Calls PyProof.Rows
section
variable {prog : Program} {w : World} {A : Around} {E : Value → Shared → Prop}
theorem unpack2 {s : Shared} {l : Addr} {a b : Value} {Q : List Value → Shared → Prop} (hh : A.handled = none) (hl : s.heap.IsList l #[a, b]) (hQ : ∀ h', Heap.ExtBut s.heap.objs.size s.heap h' → Q [a, b] { s with heap := h' }) :
    wpAny (model prog w) A (unpackItems (.ref l) 2 none) Q E s := by
  obtain ⟨ol, hol, hcl, rl⟩ := id hl
  have hne : l ≠ s.heap.objs.size := Nat.ne_of_lt (Heap.lt_size hol)
  have hT : s.TypeIs (.ref l) "list" := ⟨_, hol, hcl⟩
  unfold unpackItems notIterableAtAll
  refine wpAny_bind (wpAny_bind (wpAny_specialOf hT F.slot_list_iter.lookup (wpAny_pure ?_)))
  simp only [Bool.false_eq_true, if_false]
  refine wpAny_bind (wpAny_holding (wpAny_pyIter_list hl ?_))
  have hit : (s.heap.push { cls := .type "list_iterator", data := .fields #[.ref l, .int 0 0] }).IsListIter s.heap.objs.size l 0 := ⟨_, Heap.get?_push_size _ rfl, rfl, rfl⟩
  have hl0 : (s.heap.push { cls := .type "list_iterator", data := .fields #[.ref l, .int 0 0] }).IsList l #[a, b] := ⟨ol, Heap.get?_push_of_some _ hol, hcl, rl⟩
  refine wpAny_bind (wpAny_holding ?_)
  show wpAny _ _ (pyNext _ >>= _) _ _ _
  refine wpAny_bind (wpAny_pyNext_list_item hit hl0 (x := a) rfl fun h1 hit1 hs1 => ?_)
  have hl1 : h1.IsList l #[a, b] := by obtain ⟨o, ho, r⟩ := hl0; exact ⟨o, hs1.extBut _ _ hne ho, r⟩
  refine wpAny_bind (wpAny_holding ?_)
  show wpAny _ _ (pyNext _ >>= _) _ _ _
  refine wpAny_bind (wpAny_pyNext_list_item hit1 hl1 (x := b) rfl fun h2 hit2 hs2 => ?_)
  have hl2 : h2.IsList l #[a, b] := by obtain ⟨o, ho, r⟩ := hl1; exact ⟨o, hs2.extBut _ _ hne ho, r⟩
  refine wpAny_bind (wpAny_holding (wpAny_pure (wpAny_pure (wpAny_pure ?_))))
  rw [if_neg (by simp)]
  refine wpAny_bind (wpAny_holding (wpAny_pyNext_list_end hh hit2 hl2 rfl fun h3 he => ?_))
  simp only [Option.isSome_none, Bool.false_eq_true, if_false]
  exact wpAny_pure (hQ h3 fun b o hb e => he b o hb (hs2.extBut b o hb (hs1.extBut b o hb (Heap.get?_push_of_some _ e))))
end
section
variable {B : Base} {n : Nat} {env : Env} {hp : Hp} {pos : Pos} {Υ : Hp → Prop}
theorem JA.tupleL {es : List Expr} {x y : V} {k₀ : Nat} (h : JAs B n hp ((assignEach es env).map (·.2)) [x, y] Υ) (hn : (assignEach es env).length = 2) (hs : (assignEach es env).findIdx? (·.1) = none) :
    JA B n env hp (.Tuple es k₀ pos) (.lst [x, y]) Υ := fun A s val ok S r => Wp.of fun Q k => by
  obtain ⟨a, items, m, rfl, e, rs⟩ := r.inv
  next =>
    obtain ⟨il⟩ := items
    obtain ⟨_, _, rfl, h1, t1⟩ := rs.inv
    next => cases t1 with
      | cons h2 t2 =>
        (first | (obtain rfl := t2.inv) | (obtain ⟨_, rfl⟩ := t2.inv) | cases t2)
        rw [arm_assign_Tuple]
        refine wpAny_bind (wpAny_standAt ?_)
        unfold unpack
        rw [hn, hs]
        refine wpAny_bind (wpAny_holding (unpack2 ok.handled ⟨_, zof_le _ _ e, rfl, _, rfl⟩ fun h' hx => ?_))
        have E := S.ext (tk := s.toks) (keep_of_new hx)
        exact (h A _ _ ok E.1 (.cons (h1.mono E.2) (.cons (h2.mono E.2) .nil))).le E.2 k
end
end Mine

set_option maxRecDepth 100000
set_option linter.unusedVariables false
namespace Mine
open PySem PySem.W PySem.Calls PyProof.Rows
section
variable {B : Base} {n : Nat} {hp : Hp} {Φ : V → Hp → Prop} {a : Int}
theorem JC.indexL {v : V} {ns : List Int} (hl : LstOf hp v (ns.map .int)) (hz : ns.length ≤ 16777216) (hk : a ∈ ns) (h : Φ (.int (ns.idxOf a : Nat)) hp) : JC B n hp (.raw (.builtin "list.index")) [v, .int a] [] Φ := fun A s fv vs kvs ok S rf rv ek rk => Wp.of fun Q k => by
  (first | refine Is.eInt rf fun _ => ?_ | refine Is.eStr rf fun _ => ?_ | refine Is.eNone rf ?_ | refine Is.eBool rf ?_ | refine Is.eRaw rf ?_ | refine Is.eMref rf ?_ | refine IsAll.eNil rf ?_ | (obtain rfl := rf.inv) | (obtain ⟨_, rfl⟩ := rf.inv) | cases rf); obtain ⟨p, q, rfl, r, r'⟩ := two_args rv; (first | refine Is.eInt r' fun _ => ?_ | refine Is.eStr r' fun _ => ?_ | refine Is.eNone r' ?_ | refine Is.eBool r' ?_ | refine Is.eRaw r' ?_ | refine Is.eMref r' ?_ | refine IsAll.eNil r' ?_ | (obtain rfl := r'.inv) | (obtain ⟨_, rfl⟩ := r'.inv) | cases r'); cases no_kw ek
  obtain ⟨l, items, m, rfl, e, rs⟩ := hl.at S r
  have hi := ints_of rs
  have hlen : items.size = ns.length := by have := rs.size; simpa using this
  have hj : ns.idxOf a < ns.length := List.idxOf_lt_length_iff.mpr hk
  refine call_meets F.slot_list_index ⟨_, e, rfl⟩ F.entry_list_index (F.args_list_index_2 _ _)
    (MeetsSeq.list_index l items m (.int a _) (isInt a) (fun y hy => eq_isInt a _ hi y (by simpa using hy)) (ns.idxOf a) (by omega) (by omega) ?_ ?_) ⟨e, k _ _ _ _ (S.toks _) (Le.refl _) (.int _ _) h⟩
  · have := isInt_at a hi (ns.idxOf a) (by rw [Array.length_toList]; omega) hj
    rw [Array.getElem_toList] at this
    rw [this]
    simpa using List.getElem_idxOf hj
  · intro j hjs hlt
    have := isInt_at a hi j (by simpa using hjs) (by omega)
    rw [Array.getElem_toList] at this
    rw [this]
    exact ne_of_lt_idxOf hlt _
end
end Mine

set_option maxRecDepth 100000
set_option linter.unusedVariables false
namespace Mine
open PySem PySem.W PySem.Calls PyProof.Rows
noncomputable def stS (t : List Nat) : Str := ⟨t.toArray⟩
theorem stS_inj {a b : List Nat} (h : stS a = stS b) : a = b := by
  injection h with h
  simpa using h
theorem stS_of (x : Str) : stS x.cps.toList = x := by cases x; simp [stS]
theorem stS_app (a b : List Nat) : stS a ++ stS b = stS (a ++ b) := by
  show Str.mk (a.toArray ++ b.toArray) = _
  unfold stS
  congr 1
  simp
theorem stS_beq (a b : List Nat) : (stS a == stS b) = (a == b) := by
  rw [Bool.eq_iff_iff, beq_iff_eq, beq_iff_eq]
  exact ⟨stS_inj, fun h => h ▸ rfl⟩
theorem stS_len (t : List Nat) : (stS t).length = t.length := by simp [stS, Str.length]
theorem stS_toList (t : List Nat) : (stS t).cps.toList = t := by simp [stS]
theorem slice_whole {l : List Nat} {idx : List Nat} (e : idx.filterMap (l[·]?) = l') (h : (if ((1 : Int) == 1 && idx.length == l.length) = true then stS l else (⟨(idx.filterMap ((stS l).cps[·]?)).toArray⟩ : Str)) = x) (hw : idx.length = l.length → l' = l) : x = stS l' := by
  subst h
  have e2 : (fun i : Nat => (stS l).cps[i]?) = fun i : Nat => l[i]? := by funext i; simp [stS]
  by_cases q : idx.length = l.length
  · rw [if_pos (by simp [q]), hw q]
  · rw [if_neg (by simp [q])]
    show (⟨(idx.filterMap fun i : Nat => (stS l).cps[i]?).toArray⟩ : Str) = _
    rw [e2, e]; rfl
theorem slice_mid (l : List Nat) (a b : Nat) (hab : a ≤ b) : Txt.slice (stS l) (some (a : Int)) (some (b : Int)) = stS ((l.take b).drop a) := by
  have hx : Builtin.Str.strSliceIndices (some (a : Int)) (some (b : Int)) 1 (stS l).length = sliceRange ((min a l.length : Nat) : Int) ((min b l.length : Nat) : Int) 1 := by
    unfold Builtin.Str.strSliceIndices
    simp only [show (1 : Int) > 0 by decide, if_true, stS_len, notNeg, if_false, cap]
  refine slice_whole ((range_pick l _ _).trans (cut_min l a b)) (by unfold Txt.slice; rw [hx, stS_len]) fun hq => ?_
  rw [sliceRange_up, List.length_map, List.length_range] at hq
  by_cases h0 : l.length = 0
  · have : l = [] := List.eq_nil_of_length_eq_zero h0
    subst this; simp
  · have ha : a = 0 := by lia
    have hb : l.length ≤ b := by lia
    subst ha
    rw [List.take_of_length_le hb, List.drop_zero]
theorem item_at (l : List Nat) (k c : Nat) (h : l[k]? = some c) : Txt.item (stS l) (k : Int) = ⟨#[c]⟩ ∧ (Txt.charAt (stS l) (k : Int)).isSome = true := by
  have hk : k < l.length := (List.getElem?_eq_some_iff.mp h).1
  have e : Txt.charAt (stS l) (k : Int) = some c := by
    unfold Txt.charAt seqIndex?
    simp only [show ¬ ((k : Int) < 0) by lia, if_false, stS_len]
    rw [if_pos (by simp; lia)]
    simp [stS, h]
  unfold Txt.item
  rw [e]; exact ⟨rfl, rfl⟩
noncomputable def lowC (c : Nat) : Nat := if 65 ≤ c && c ≤ 90 then c + 32 else c
noncomputable def upC (c : Nat) : Nat := if 97 ≤ c && c ≤ 122 then c - 32 else c
theorem lowerOf_ascii : ∀ c, c < 128 → Unicode.lowerOf c = [lowC c] := by decide +kernel
theorem upperOf_ascii : ∀ c, c < 128 → Unicode.upperOf c = [upC c] := by decide +kernel
theorem placed_ascii (f : Nat → Nat → List Nat) (g : Nat → Nat) (l : List Nat) (h : ∀ i c, l[i]? = some c → f i c = [g c]) : placed (stS l) f = (l.map g).toArray := by
  unfold placed
  apply Array.ext'
  have key : ∀ (l : List Nat) (f : Nat → Nat → List Nat), (∀ i c, l[i]? = some c → f i c = [g c]) → (l.mapIdx fun i c => (f i c).toArray).map Array.toList = l.map fun c => [g c] := by
    intro l
    induction l with
    | nil => intro f _; rfl
    | cons c r ih =>
      intro f h
      rw [List.mapIdx_cons, List.map_cons, List.map_cons, h 0 c rfl]
      congr 1
      exact ih (fun i c => f (i + 1) c) fun i c e => h (i + 1) c e
  have := key l f h
  simp only [stS, Array.toList_flatten, List.mapIdx_toArray]
  rw [this]
  have e : ∀ l : List Nat, (l.map fun c => [g c]).flatten = l.map g := by
    intro l
    induction l with
    | nil => rfl
    | cons c r ih => simp [ih]
  rw [e]
theorem lower_ascii (l : List Nat) (h : ∀ c ∈ l, c < 128) : Txt.lower (stS l) = stS (l.map lowC) := by
  unfold Txt.lower
  rw [placed_ascii _ lowC l fun i c e => by
    have hc := h c (List.mem_of_getElem? e)
    unfold Unicode.lowerAt
    have : (stS l).cps[i]? = some c := by simp [stS, e]
    rw [this]
    dsimp only
    rw [if_neg (by simp; intro q; lia), lowerOf_ascii c hc]]
  rfl
theorem upper_ascii (l : List Nat) (h : ∀ c ∈ l, c < 128) : Txt.upper (stS l) = stS (l.map upC) := by
  unfold Txt.upper
  rw [placed_ascii _ upC l fun i c e => upperOf_ascii c (h c (List.mem_of_getElem? e))]
  rfl
end Mine

set_option maxRecDepth 100000
set_option linter.unusedVariables false
namespace Mine
open PySem PySem.W PySem.Calls PyProof.Rows
noncomputable def occStep (s sub : Str) (hi limit : Nat) (b : Array Nat × Nat) (i : Nat) : Array Nat × Nat :=
  if (decide (b.fst.size < limit) && decide (b.snd ≤ i) && decide (i + sub.length ≤ hi) && Builtin.Str.subAt s sub i) = true then (b.fst.push i, i + sub.length) else (b.fst, b.snd)
theorem occ_fold (s sub : Str) (lo hi limit : Nat) : Builtin.Str.occurrences s sub lo hi limit = ((List.range' lo (hi + 1 - lo)).foldl (occStep s sub hi limit) (#[], lo)).fst.toList := by
  unfold Builtin.Str.occurrences
  simp only [Std.Legacy.Range.forIn_eq_forIn_range', Std.Legacy.Range.size]
  rw [show (hi + 1 - lo + 1 - 1) / 1 = hi + 1 - lo by simp]
  have key : ∀ (l : List Nat) (b : Array Nat × Nat), (forIn (m := Id) l b fun i __s =>
      if (decide (__s.fst.size < limit) && decide (__s.snd ≤ i) && decide (i + sub.length ≤ hi) && Builtin.Str.subAt s sub i) = true then
        pure (ForInStep.yield (__s.fst.push i, i + sub.length))
      else pure (ForInStep.yield (__s.fst, __s.snd))) = pure (l.foldl (occStep s sub hi limit) b) := by
    intro l
    induction l with
    | nil => intro b; rfl
    | cons i r ih =>
      intro b
      rw [List.forIn_cons, List.foldl_cons, ← ih]
      unfold occStep
      by_cases c : (decide (b.fst.size < limit) && decide (b.snd ≤ i) && decide (i + sub.length ≤ hi) && Builtin.Str.subAt s sub i) = true
      · simp only [if_pos c, pure_bind]
      · simp only [if_neg c, pure_bind]
  rw [key]
  rfl
noncomputable def places (c : Nat) : List Nat → Nat → List Nat
  | [], _ => []
  | x :: r, i => if x = c then i :: places c r (i + 1) else places c r (i + 1)
theorem subAt_one (l : List Nat) (c i : Nat) : Builtin.Str.subAt (stS l) (stS [c]) i = decide (l[i]? = some c) := by
  unfold Builtin.Str.subAt
  rw [stS_len]
  have : ((stS l).cps.extract i (i + [c].length) == (stS [c]).cps) = (((l.drop i).take 1) == [c]) := by
    rw [Bool.eq_iff_iff, beq_iff_eq, beq_iff_eq]
    simp only [stS, List.extract_toArray, List.length_singleton]
    constructor
    · intro h
      have := congrArg Array.toList h
      simpa [List.extract_eq_take_drop] using this
    · intro h
      apply Array.ext'
      simpa [List.extract_eq_take_drop] using h
  rw [this]
  cases q : l[i]? with
  | none =>
    rw [List.drop_eq_nil_of_le (List.getElem?_eq_none_iff.mp q)]
    rfl
  | some x =>
    have hi := (List.getElem?_eq_some_iff.mp q).1
    have e : l.drop i = x :: l.drop (i + 1) := by
      rw [List.drop_eq_getElem_cons hi]
      congr 1
      exact (List.getElem?_eq_some_iff.mp q).2
    rw [e]
    simp
    rfl
theorem occ_run (l : List Nat) (c limit : Nat) : ∀ (r : List Nat) (i : Nat) (b : Array Nat), l.drop i = r → i ≤ l.length → b.size + r.length < limit →
    ((List.range' i (r.length + 1)).foldl (occStep (stS l) (stS [c]) l.length limit) (b, i)).fst.toList = b.toList ++ places c r i ∧ True := by
  have step_no : ∀ (i : Nat) (b : Array Nat) (f : Nat), l[i]? ≠ some c → occStep (stS l) (stS [c]) l.length limit (b, f) i = (b, f) := by
    intro i b f h
    unfold occStep
    rw [subAt_one, decide_eq_false h]
    simp
  have gen : ∀ (r : List Nat) (i : Nat) (b : Array Nat) (f : Nat), f ≤ i → l.drop i = r → i ≤ l.length → b.size + r.length < limit →
      ((List.range' i (r.length + 1)).foldl (occStep (stS l) (stS [c]) l.length limit) (b, f)).fst.toList = b.toList ++ places c r i := by
    intro r
    induction r with
    | nil =>
      intro i b f hf hd hi hl
      have : l.length ≤ i := List.drop_eq_nil_iff.mp hd
      simp only [List.length_nil, Nat.zero_add, List.range'_one, List.foldl_cons, List.foldl_nil]
      rw [step_no i b f (by rw [List.getElem?_eq_none this]; simp)]
      simp [places]
    | cons x r ih =>
      intro i b f hf hd hi hl
      have hx : l[i]? = some x := by
        have := List.getElem?_drop (xs := l) (i := i) (j := 0)
        rw [hd] at this
        simpa using this.symm
      have hi' : i < l.length := (List.getElem?_eq_some_iff.mp hx).1
      have hd' : l.drop (i + 1) = r := by
        rw [← List.drop_drop, hd]; rfl
      rw [List.length_cons, List.range'_succ, List.foldl_cons]
      unfold places
      by_cases e : x = c
      · subst e
        rw [if_pos rfl]
        have : occStep (stS l) (stS [x]) l.length limit (b, f) i = (b.push i, i + 1) := by
          unfold occStep
          rw [subAt_one, hx, stS_len]
          rw [if_pos]
          · rfl
          · simp at hl ⊢; lia
        rw [this, ih (i + 1) (b.push i) (i + 1) (Nat.le_refl _) hd' hi' (by simp at hl ⊢; lia)]
        simp
      · rw [if_neg e, step_no i b f (by rw [hx]; simpa using e), ih (i + 1) b f (by lia) hd' hi' (by simp at hl ⊢; lia)]
  intro r i b hd hi hl
  exact ⟨gen r i b i (Nat.le_refl _) hd hi hl, trivial⟩
theorem places_len (c : Nat) : ∀ (l : List Nat) (i : Nat), (places c l i).length = l.count c
  | [], _ => by simp [places]
  | x :: r, i => by
    unfold places
    by_cases e : x = c
    · subst e; rw [if_pos rfl, List.length_cons, places_len, List.count_cons_self]
    · rw [if_neg e, places_len, List.count_cons_of_ne (by simpa using e)]
theorem count_one (l : List Nat) (c : Nat) : Txt.count (stS l) (stS [c]) = (l.count c : Nat) := by
  unfold Txt.count
  rw [occ_fold, stS_len]
  have := (occ_run l c (l.length + 1) l 0 #[] rfl (Nat.zero_le _) (by simp)).1
  rw [Nat.sub_zero, this]
  simp [places_len]
end Mine

set_option maxRecDepth 100000
set_option linter.unusedVariables false
namespace Mine
open PySem PySem.W PySem.Calls PyProof.Rows
theorem band_nat (a b : Nat) : Builtin.bitAnd (a : Int) (b : Int) = ((a &&& b : Nat) : Int) := by
  unfold Builtin.bitAnd
  rw [decide_eq_true (Int.natCast_nonneg a), decide_eq_true (Int.natCast_nonneg b)]
  rfl
theorem bor_nat (a b : Nat) : Builtin.bitOr (a : Int) (b : Int) = ((a ||| b : Nat) : Int) := by
  unfold Builtin.bitOr Builtin.bitAnd Builtin.bitNot
  rw [decide_eq_false (by lia), decide_eq_false (by lia)]
  dsimp only
  have e : ∀ x : Nat, (-(-(x : Int) - 1) - 1).toNat = x := fun x => by lia
  rw [e, e]
  lia
theorem bxor_nat (a b : Nat) (h : a &&& b = b) : Builtin.bitXor (a : Int) (b : Int) = ((a - b : Nat) : Int) := by
  have hb : b ≤ a := by rw [← h]; exact Nat.and_le_left
  rw [bitXor_and, band_nat, h]
  lia
theorem and_hi (x s : Nat) : x &&& (x / 2 ^ s * 2 ^ s) = x / 2 ^ s * 2 ^ s := by
  apply Nat.eq_of_testBit_eq
  intro i
  rw [Nat.testBit_and, Nat.testBit_mul_two_pow]
  by_cases h : s ≤ i
  · rw [Nat.testBit_div_two_pow]
    have : i - s + s = i := by lia
    rw [this]
    simp [h]
  · simp [h]
theorem xor_lo (x s : Nat) : Builtin.bitXor (x : Int) ((x / 2 ^ s * 2 ^ s : Nat) : Int) = ((x % 2 ^ s : Nat) : Int) := by
  rw [bxor_nat _ _ (and_hi x s)]
  congr 1
  have := Nat.div_add_mod x (2 ^ s)
  rw [Nat.mul_comm] at this
  lia
theorem pow2_cast (b : Nat) : ((2 : Int) ^ b) = ((2 ^ b : Nat) : Int) := by push_cast; rfl
theorem shr_nat (a b : Nat) : (a : Int).fdiv (2 ^ ((b : Int).toNat)) = ((a / 2 ^ b : Nat) : Int) := by
  rw [Int.toNat_natCast, pow2_cast, Int.fdiv_eq_ediv_of_nonneg _ (Int.natCast_nonneg _)]
  push_cast; rfl
theorem shl_nat (a b : Nat) : (a : Int) * 2 ^ ((b : Int).toNat) = ((a * 2 ^ b : Nat) : Int) := by
  rw [Int.toNat_natCast, pow2_cast]; push_cast; rfl
theorem fmod_nat (a b : Nat) : (a : Int).fmod (b : Int) = ((a % b : Nat) : Int) := by
  rw [Int.fmod_eq_emod_of_nonneg _ (Int.natCast_nonneg _)]; push_cast; rfl
theorem fdiv_nat (a b : Nat) : (a : Int).fdiv (b : Int) = ((a / b : Nat) : Int) := by
  rw [Int.fdiv_eq_ediv_of_nonneg _ (Int.natCast_nonneg _)]; push_cast; rfl
theorem fmod_pos (a : Int) (b : Nat) (hb : 0 < b) : ∃ r : Nat, a.fmod (b : Int) = (r : Int) ∧ r < b := by
  rw [Int.fmod_eq_emod_of_nonneg _ (Int.natCast_nonneg _)]
  have h1 := Int.emod_nonneg a (show (b : Int) ≠ 0 by lia)
  have h2 := Int.emod_lt_of_pos a (show (0 : Int) < b by lia)
  exact ⟨(a % (b : Int)).toNat, by lia, by lia⟩
noncomputable abbrev natV (r : Nat) : V := .int (r : Int)
end Mine

set_option maxRecDepth 100000
set_option linter.unusedVariables false
namespace Mine
open PySem PySem.W PySem.Calls PyProof.Rows
noncomputable def digS (m : Nat) : List Nat := (Nat.toDigits 10 m).map Char.toNat
theorem digS_str (m : Nat) : Str.ofString (toString ((m : Nat) : Int)) = stS (digS m) := by
  rw [← stS_of (Str.ofString (toString ((m : Nat) : Int))), KIN.signs_num]; rfl
theorem digS_inj {a b : Nat} (h : digS a = digS b) : a = b := by
  have := congrArg NumText.digitsVal h
  unfold digS at this
  rwa [KIN.val_back, KIN.val_back] at this
theorem digS_dig {m c : Nat} (h : c ∈ digS m) : 48 ≤ c ∧ c ≤ 57 := by
  obtain ⟨d, hd, rfl⟩ := List.mem_map.mp h
  have := Nat.isDigit_of_mem_toDigits (b := 10) (by decide) (by decide) hd
  rw [Char.isDigit, Bool.and_eq_true, decide_eq_true_eq, decide_eq_true_eq] at this
  have h1 : (48 : UInt32).toNat ≤ d.val.toNat := this.1
  have h2 : d.val.toNat ≤ (57 : UInt32).toNat := this.2
  exact ⟨h1, h2⟩
theorem digS_len {m k : Nat} (hk : 1 ≤ k) (h : m < 10 ^ k) : (digS m).length ≤ k := by
  unfold digS
  rw [List.length_map]
  exact (Nat.length_toDigits_le_iff (by decide) (by omega)).mpr h
end Mine

set_option maxRecDepth 100000
set_option linter.unusedVariables false
namespace Mine
open PySem PySem.W PySem.Calls PyProof.Rows

structure Wd (B : Base) (K : Frag) (mg mb : Str → Option Value) : Prop where
  T : TopB B K mg mb
  fn : ∀ p ∈ fnTab, TopFn B p.1 p.2
  fk : ∀ p ∈ fnTab, FnK K p.1
  gl : ∀ p ∈ glTab, mg p.1 = some (.ref p.2)
  bl : ∀ p ∈ blTab, mg p.1 = none ∧ mb p.1 = some p.2
  cH : ClsK K 175
  cN : ClsK K 231
  me : ∀ p ∈ methTab, findIn K (.ref p.1) p.2.1 = some (some (.ref p.2.2))
  at_ : ∀ p ∈ attrTab, findIn K (.ref p.1) p.2 = some none
  reN : RePat B.h0 41 fun c => 31 < c ∧ c < 127
  reV : RePat B.h0 46 fun c => 31 < c ∧ c < 127
  eof : ∃ t, mg "ENDMARKER" = some (.int 0 t)
  nt : ∃ t, mg "NT_OFFSET" = some (.int 256 t)
  cd : ∀ p ∈ ([(185, 181), (192, 188), (265, 261)] : List (Addr × Addr)), CodeHd B.h0 p.1 p.2 ∧ p.2 ∈ B.tabs
  tab : TabI B.h0 236 exD
  dflt : ∀ a ∈ ([62, 115] : List Addr), ∃ n, B.h0.get? a = some { cls := .type "tuple", data := .seq #[.none] n }
theorem fnOk (s : Stmt) (q : Str) (d m : Value) (c : Addr) (h : ((scopeOf s).isCoroutine, (scopeOf s).isGenerator, (scopeOf s).kind) = (false, false, .function)) : FnOk (fdOf s q d m c) (bodyOf s) := by
  injection h with h1 h2
  injection h2 with h2 h3
  exact ⟨rfl, h1, h2, h3⟩
theorem mem_of_contains {α : Type} [BEq α] [LawfulBEq α] {l : List α} {x : α} (h : l.contains x = true) : x ∈ l := List.contains_iff_mem.mp h
section
variable {B : Base} {n : Nat} {env : Env} {hp hp' : Hp} {pos : Pos} {Φ : V → Hp → Prop} {G : Globs B} {L : Addr} {kinds : List (Str × NameKind)} {own out : List (Str × Addr)} {K : Frag} {mg mb : Str → Option Value}
theorem JE.gfn (W : Wd B K mg mb) (E : EnvIs B W.T.GG env L kinds own out) {x : Str} {a : Addr} {fd : FuncData} (hl : kinds.contains (x, NameKind.globalImplicit) = true) (hg : (x, a) ∈ glTab) (hf : (a, fd) ∈ fnTab) (h : Φ (.fn fd) hp) (hd : (x == ("__debug__" : Str)) = false := by decide) : JE B n env hp (.Name x pos) Φ :=
  JE.globalIs E (mem_of_contains hl) (v := .ref a) (W.gl _ hg) (fun s S => (W.fn _ hf).is W.T S) h hd
theorem JE.gref (W : Wd B K mg mb) (E : EnvIs B W.T.GG env L kinds own out) {x : Str} {a : Addr} (hl : kinds.contains (x, NameKind.globalImplicit) = true) (hg : (x, a) ∈ glTab) (h : Φ (.raw (.ref a)) hp) (hd : (x == ("__debug__" : Str)) = false := by decide) : JE B n env hp (.Name x pos) Φ :=
  JE.global E (mem_of_contains hl) (v := .ref a) (W.gl _ hg) h hd
theorem JE.gblt (W : Wd B K mg mb) (E : EnvIs B W.T.GG env L kinds own out) {x : Str} {v : Value} (hl : kinds.contains (x, NameKind.globalImplicit) = true) (hg : (x, v) ∈ blTab) (h : Φ (.raw v) hp) (hd : (x == ("__debug__" : Str)) = false := by decide) : JE B n env hp (.Name x pos) Φ :=
  JE.builtin E (mem_of_contains hl) (W.bl _ hg).1 (W.bl _ hg).2 h hd
theorem JE.gint (W : Wd B K mg mb) (E : EnvIs B W.T.GG env L kinds own out) {x : Str} {i : Int} (hl : kinds.contains (x, NameKind.globalImplicit) = true) (hg : ∃ t, mg x = some (.int i t)) (h : Φ (.int i) hp) (hd : (x == ("__debug__" : Str)) = false := by decide) : JE B n env hp (.Name x pos) Φ := by
  obtain ⟨t, ht⟩ := hg
  exact JE.globalIs E (mem_of_contains hl) (v := .int i t) ht (fun s S => .int _ _) h hd
theorem JE.loc (E : EnvIs B G env L kinds own out) {x : Str} {fs : List (Str × Option V)} {v : V} (hl : kinds.contains (x, NameKind.local) = true) (hm : (L, AObj.ns fs) ∈ hp) (hx : (x, some v) ∈ fs) (h : Φ v hp) (hd : (x == ("__debug__" : Str)) = false := by decide) : JE B n env hp (.Name x pos) Φ :=
  JE.name (JL.local E (mem_of_contains hl) hm hx h) hd
theorem JE.cel (E : EnvIs B G env L kinds own out) {x : Str} {c : Addr} {v : V} (hc : (x, c) ∈ own) (hm : (c, AObj.cell (some v)) ∈ hp) (h : Φ v hp) (hd : (x == ("__debug__" : Str)) = false := by decide) : JE B n env hp (.Name x pos) Φ :=
  JE.name (JL.cell E hc hm h) hd
theorem JE.fre (E : EnvIs B G env L kinds own out) {x : Str} {c : Addr} {v : V} (hl : kinds.contains (x, NameKind.free) = true) (hc : (x, c) ∈ out) (hm : (c, AObj.cell (some v)) ∈ hp) (h : Φ v hp) (hn : (x == ("__classdict__" : Str)) = false := by decide) (hd : (x == ("__debug__" : Str)) = false := by decide) : JE B n env hp (.Name x pos) Φ :=
  JE.name (JL.free E (mem_of_contains hl) hc hm h hn) hd
theorem JSt.loc (E : EnvIs B G env L kinds own out) {x : Str} {fs fs' : List (Str × Option V)} {v : V} {Υ : Hp → Prop} (hl : kinds.contains (x, NameKind.local) = true) (U : Upd hp L (.ns fs) (.ns fs') hp') (u : UpdN fs x v fs') (h : Υ hp') : JSt B n env hp x v Υ :=
  JSt.local E (mem_of_contains hl) U u h
noncomputable abbrev topK0 (W : Wd B K mg mb) (n : Nat) (Φ : V → Hp → Prop) (s : Stmt) (ws : List (Str × V)) (hp₁ : Hp) : Prop := ((ws.all fun x => (scopeOf s).names.lookup x.1 == some .local) = true) ∧ ∃ fs, localsAt (scopeOf s) ws = fs ∧
      ∀ env L, EnvIs B W.T.GG env L (scopeOf s).names [] [] → JS B n env ((L, .ns fs) :: hp₁) (bodyOf s) (Back Φ)
theorem top0 (W : Wd B K mg mb) {Φ : V → Hp → Prop} {s : Stmt} {ws : List (Str × V)} {hp₁ : Hp} (h1 : (ws.all fun x => (scopeOf s).names.lookup x.1 == some .local) = true) (fs : List (Str × Option V)) (e : localsAt (scopeOf s) ws = fs)
    (h : ∀ env L, EnvIs B W.T.GG env L (scopeOf s).names [] [] → JS B n env ((L, .ns fs) :: hp₁) (bodyOf s) (Back Φ)) : topK0 W n Φ s ws hp₁ := ⟨h1, fs, e, h⟩
theorem JCc.top (W : Wd B K mg mb) {s : Stmt} {q : Str} {d m : Value} {c : Addr} {args : List V} {kw : List (Str × V)} (hok : ((scopeOf s).isCoroutine, (scopeOf s).isGenerator, (scopeOf s).kind) = (false, false, .function)) (hnd : ((scopeOf s).names.map (·.1)).Nodup) (hcell : ((scopeOf s).names.all fun p => p.2 != .cell) = true)
    (hb : JBind B n hp (fdOf s q d m c) args kw (topK0 W n Φ s)) : JCc B (n + 1) hp (.fn (fdOf s q d m c)) args kw Φ := by
  have F := fnOk s q d m c hok
  refine JCc.clo F (fun x hx => by simpa using List.all_eq_true.mp hcell x hx) W.T hnd ?_
  intro A s' vs kvs ok S rv rk
  refine (hb A s' vs kvs ok S rv rk).mono fun ws hp₁ h => ?_
  obtain ⟨h1, fs, rfl, h2⟩ := h
  refine ⟨fun x hx => beq_iff_eq.mp (List.all_eq_true.mp h1 x hx), fun L a => ?_⟩
  exact h2 _ L (EnvIs.ofClo W.T (by injection hok with _ h; injection h with _ h) rfl rfl hnd fun p hp => nomatch hp)
theorem JBind.kw1 {fd : FuncData} {args : List V} {kv : V} {Ξ : List (Str × V) → Hp → Prop} (names : List Str) (k : Str) (hb : ∀ (vs : List Value) (w : Value), vs.length = names.length → bindArgs fd ⟨vs, [(k, w)]⟩ = pure (names.zip vs ++ [(k, w)])) (hl : args.length = names.length)
    (h : Ξ (names.zip args ++ [(k, kv)]) hp) : JBind B n hp fd args [(k, kv)] Ξ := fun A s vs kvs ok S r rk => by
  cases rk with
  | cons hk ht =>
    cases ht
    rw [hb vs _ (r.length.trans hl)]
    refine Wp.pure S ?_ h
    have gen : ∀ {z : Z} {a : List (Str × Value)} {b : List (Str × V)} {v : Value} {x : V}, Is z v x → BindIs z a b → BindIs z (a ++ [(k, v)]) (b ++ [(k, x)]) := fun hv hb => BindIs.snoc hv hb
    exact gen hk (BindIs.zip r names)
end
theorem JM.mono {o : V} {name : Str} {Ξ Ξ' : V → List V → Hp → Prop} (h : JM B n hp o name Ξ) (k : ∀ a b c, Ξ a b c → Ξ' a b c) : JM B n hp o name Ξ' := fun A s x pl ok S r => (h A s x pl ok S r).mono fun q hp' h => k _ _ _ h
theorem JEs.mono {ts : List (Bool × Sem Value)} {Ω Ω' : List V → Hp → Prop} (h : JEs B n env hp ts Ω) (k : ∀ a c, Ω a c → Ω' a c) : JEs B n env hp ts Ω' := fun A s ok S => (h A s ok S).mono fun q hp' h => k _ _ h
noncomputable abbrev meK4 (B : Base) (n : Nat) (Φ : V → Hp → Prop) (kw : List (Str × V)) (F : V) (first vs : List V) (hp : Hp) : Prop := JK B hp F ∧ JC B n hp F (first ++ vs) kw Φ
noncomputable abbrev meK2 (B : Base) (n : Nat) (env : Env) (Φ : V → Hp → Prop) (pos : Pos) (args : List Expr) (F : V) (first : List V) (hp : Hp) : Prop := JEs B n env hp (backTo pos (starEach args env)) (meK4 B n Φ [] F first)
noncomputable abbrev meK1 (B : Base) (n : Nat) (env : Env) (Φ : V → Hp → Prop) (pos : Pos) (args : List Expr) (name : Str) (ov : V) (hp : Hp) : Prop := JM B n hp ov name (meK2 B n env Φ pos args)
noncomputable abbrev m1K4 (B : Base) (n : Nat) (Φ : V → Hp → Prop) (k : Str) (F : V) (first vs : List V) (w : V) (hp : Hp) : Prop := JK B hp F ∧ JC B n hp F (first ++ vs) [(k, w)] Φ
noncomputable abbrev m1K3 (B : Base) (n : Nat) (env : Env) (Φ : V → Hp → Prop) (k : Str) (e : Expr) (F : V) (first vs : List V) (hp : Hp) : Prop := JE B n env hp e (m1K4 B n Φ k F first vs)
noncomputable abbrev m1K2 (B : Base) (n : Nat) (env : Env) (Φ : V → Hp → Prop) (k : Str) (e : Expr) (pos : Pos) (args : List Expr) (F : V) (first : List V) (hp : Hp) : Prop := JEs B n env hp (backTo pos (starEach args env)) (m1K3 B n env Φ k e F first)
noncomputable abbrev m1K1 (B : Base) (n : Nat) (env : Env) (Φ : V → Hp → Prop) (k : Str) (e : Expr) (pos : Pos) (args : List Expr) (name : Str) (ov : V) (hp : Hp) : Prop := JM B n hp ov name (m1K2 B n env Φ k e pos args)
theorem JE.meth0 {o : Expr} {name : Str} {apos : Pos} {args : List Expr}
    (h : JE B n env hp o (meK1 B n env Φ pos args name))
    (hb : attributeBase o name env (eval o env) = eval o env)
    (hform : methodCallForm (args.length + 0) (backTo pos (starEach args env)) [] = true) (hline : (apos.endLine == pos.line) = true) (hplain : (backTo pos (starEach args env)).any (·.1) = false) :
    JE B n env hp (.Call (.Attribute o name apos) args [] pos) Φ := by
  refine JE.meth (kws := []) (names := []) ?_ hb ?_ hline hplain ?_ ?_
  · refine h.mono fun ov hp₁ h => ?_
    refine h.mono fun F first hp₂ h => ?_
    refine h.mono fun vs hp₃ h => ?_
    exact JKws.nil h
  · exact hform
  · unfold keywordEach; rfl
  · unfold keywordEach; rfl
theorem JE.meth1 {o : Expr} {name : Str} {apos : Pos} {args : List Expr} {k : Str} {e : Expr} {kp : Pos}
    (h : JE B n env hp o (m1K1 B n env Φ k e pos args name))
    (hb : attributeBase o name env (eval o env) = eval o env)
    (hform : methodCallForm (args.length + 1) (backTo pos (starEach args env)) (backToKw pos [(some k, eval e env)]) = true) (hline : (apos.endLine == pos.line) = true) (hplain : (backTo pos (starEach args env)).any (·.1) = false) :
    JE B n env hp (.Call (.Attribute o name apos) args [⟨some k, e, kp⟩] pos) Φ := by
  have hk : keywordEach [⟨some k, e, kp⟩] env = [(some k, eval e env)] := by unfold keywordEach keywordEach; rfl
  refine JE.meth (kws := [⟨some k, e, kp⟩]) (names := [k]) ?_ hb ?_ hline hplain ?_ ?_
  · refine h.mono fun ov hp₁ h => ?_
    refine h.mono fun F first hp₂ h => ?_
    refine h.mono fun vs hp₃ h => ?_
    rw [hk]
    exact JKws.one (JE.mono h fun w hp₄ h => h)
  · rw [hk]; exact hform
  · rw [hk]; rfl
  · rw [hk]; rfl
theorem iteT {a b : Prop} (h : a) : if true = true then a else b := h
theorem iteF {a b : Prop} (h : b) : if false = true then a else b := h
theorem iteP {c : Bool} {a b : Prop} (hc : c = true) (h1 : a) : if c = true then a else b := by subst hc; exact h1
theorem iteN {c : Bool} {a b : Prop} (hc : c = false) (h1 : b) : if c = true then a else b := by subst hc; exact h1
section
variable {B : Base} {n : Nat} {env : Env} {hp hp' : Hp} {pos : Pos} {Φ : V → Hp → Prop} {Υ : Hp → Prop} {Ξ : V → List V → Hp → Prop} {G : Globs B} {L : Addr} {kinds : List (Str × NameKind)} {own out : List (Str × Addr)} {K : Frag} {mg mb : Str → Option Value}
theorem cellsFrom_has : ∀ (names : List (Str × NameKind)) (k : Nat) (x : Str), (x, NameKind.cell) ∈ names → ((cellsFrom k names []).lookup x).isSome = true
  | [], _, _, h => nomatch h
  | (y, kd) :: r, k, x, h => by
    unfold cellsFrom
    by_cases hk : (kd == NameKind.cell) = true
    · rw [if_pos hk, cellsFrom_append, lookup_append]
      by_cases e : x = y
      · subst e
        cases q : (cellsFrom (k + 1) r []).lookup x <;> simp
      · have := cellsFrom_has r (k + 1) x (by
          rcases List.mem_cons.mp h with h | h
          · injection h with h; exact absurd h e
          · exact h)
        cases q : (cellsFrom (k + 1) r []).lookup x with
        | none => rw [q] at this; cases this
        | some v => simp
    · rw [if_neg hk]
      refine cellsFrom_has r k x ?_
      rcases List.mem_cons.mp h with h | h
      · injection h with _ h; rw [← h] at hk; exact absurd rfl hk
      · exact h
noncomputable abbrev topK (W : Wd B K mg mb) (n : Nat) (Φ : V → Hp → Prop) (s : Stmt) (q : Str) (c : Addr) (ws : List (Str × V)) (hp₁ : Hp) : Prop := ((ws.all fun x => (scopeOf s).names.lookup x.1 == some .local || (scopeOf s).names.lookup x.1 == some .cell) = true) ∧ ∃ (fs : List (Str × Option V)) (own : Addr → List (Str × Addr)) (cs : Addr → Hp), localsAt (scopeOf s) ws = fs ∧ (∀ L, cellsFrom (L + 1) (scopeOf s).names [] = own L) ∧ (∀ L, cellsAt (scopeOf s) ws (own L) = cs L) ∧
      ∀ env L, EnvIs B W.T.GG env L (scopeOf s).names (own L) [] → env.code = .ref c → env.qual = q ++ ".<locals>." → JS B n env ((L, .ns fs) :: (cs L ++ hp₁)) (bodyOf s) (Back Φ)
theorem top1 (W : Wd B K mg mb) {Φ : V → Hp → Prop} {s : Stmt} {q : Str} {c : Addr} {ws : List (Str × V)} {hp₁ : Hp} (h1 : (ws.all fun x => (scopeOf s).names.lookup x.1 == some .local || (scopeOf s).names.lookup x.1 == some .cell) = true) (fs : List (Str × Option V)) (own : Addr → List (Str × Addr)) (cs : Addr → Hp)
    (e1 : localsAt (scopeOf s) ws = fs) (e2 : ∀ L, cellsFrom (L + 1) (scopeOf s).names [] = own L) (e3 : ∀ L, cellsAt (scopeOf s) ws (own L) = cs L)
    (h : ∀ env L, EnvIs B W.T.GG env L (scopeOf s).names (own L) [] → env.code = .ref c → env.qual = q ++ ".<locals>." → JS B n env ((L, .ns fs) :: (cs L ++ hp₁)) (bodyOf s) (Back Φ)) : topK W n Φ s q c ws hp₁ := ⟨h1, fs, own, cs, e1, e2, e3, h⟩
theorem JCc.topc (W : Wd B K mg mb) {s : Stmt} {q : Str} {d m : Value} {c : Addr} {args : List V} {kw : List (Str × V)} (hok : ((scopeOf s).isCoroutine, (scopeOf s).isGenerator, (scopeOf s).kind) = (false, false, .function)) (hnd : ((scopeOf s).names.map (·.1)).Nodup)
    (hb : JBind B n hp (fdOf s q d m c) args kw (topK W n Φ s q c)) : JCc B (n + 1) hp (.fn (fdOf s q d m c)) args kw Φ := by
  have F := fnOk s q d m c hok
  refine JCc.fn F rfl W.T.lim W.T.ct hnd ?_
  intro A s' vs kvs ok S rv rk
  refine (hb A s' vs kvs ok S rv rk).mono fun ws hp₁ h => ?_
  obtain ⟨h1, fs, own, cs, rfl, ho, hcs, h2⟩ := h
  refine ⟨fun x hx => ?_, fun k x hx hl => cellsFrom_has _ _ _ (mem_of_lookup' hl), fun L a => ?_⟩
  · have := List.all_eq_true.mp h1 x hx
    rw [Bool.or_eq_true, beq_iff_eq, beq_iff_eq] at this
    exact this
  · have E := EnvIs.ofFn (fd := fdOf s q d m c) (L := L) (a := a) W.T (by injection hok with _ h; injection h with _ h) rfl rfl hnd
    have e1 : cellsFrom (L + 1) (fdOf s q d m c).scope.names [] = own L := ho L
    rw [e1] at E ⊢
    have e2 : cellsAt (fdOf s q d m c).scope ws (own L) = cs L := hcs L
    rw [e2]
    exact h2 _ L E rfl rfl
theorem ob_cls (W : Wd B K mg mb) {C : Addr} (h : C = 175 ∨ C = 231) : ClsK K C := by rcases h with rfl | rfl; exact W.cH; exact W.cN
theorem JM.ob (W : Wd B K mg mb) {C d f : Addr} {name : Str} {fs : List (Str × V)} {fd : FuncData} (hC : C = 175 ∨ C = 231) (hme : (C, name, f) ∈ methTab) (hf : (f, fd) ∈ fnTab) (hm : (d, AObj.attrs fs) ∈ hp) (hv : fs.lookup name = none) (h : Ξ (.fn fd) [.inst C d] hp) : JM B n hp (.inst C d) name Ξ :=
  JM.inst W.T (ob_cls W hC) (W.me _ hme) (W.fk _ hf) (W.fn _ hf) hm hv h
theorem JGa.ob (W : Wd B K mg mb) {C d : Addr} {name : Str} {fs : List (Str × V)} {v : V} (hC : C = 175 ∨ C = 231) (hno : (C, name) ∈ attrTab) (hm : (d, AObj.attrs fs) ∈ hp) (hv : fs.lookup name = some v) (hr : ∀ w, v ≠ .raw w) (h : Φ v hp) : JGa B n hp (.inst C d) name Φ :=
  JGa.attr W.T (ob_cls W hC) (W.at_ _ hno) hm hv hr h
theorem JSa.obOld (W : Wd B K mg mb) {C d : Addr} {name : Str} {fs fs' : List (Str × V)} {v : V} (hC : C = 175 ∨ C = 231) (hno : (C, name) ∈ attrTab) (P : PutO name v fs fs') (U : Upd hp d (.attrs fs) (.attrs fs') hp') (hlen : fs.length ≤ 900) (h : Υ hp') : JSa B n hp (.inst C d) name v Υ :=
  JSa.old W.T (ob_cls W hC) (W.at_ _ hno) P U hlen h
theorem JSa.obNew (W : Wd B K mg mb) {C d : Addr} {name : Str} {fs : List (Str × V)} {v : V} (hC : C = 175 ∨ C = 231) (hno : (C, name) ∈ attrTab) (hnew : fs.lookup name = none) (U : Upd hp d (.attrs fs) (.attrs ((name, v) :: fs)) hp') (hlen : fs.length ≤ 900) (h : Υ hp') : JSa B n hp (.inst C d) name v Υ :=
  JSa.new W.T (ob_cls W hC) (W.at_ _ hno) U hlen h
theorem JCc.mk (W : Wd B K mg mb) {C fI : Addr} {fd : FuncData} {args : List V} {kw : List (Str × V)} (hC : C = 175 ∨ C = 231) (hi : (C, ("__init__" : Str), fI) ∈ methTab) (hf : (fI, fd) ∈ fnTab)
    (h : ∀ d, JCc B n ((d, .attrs []) :: hp) (.fn fd) (.inst C d :: args) kw fun v hp₁ => v = .none ∧ Φ (.inst C d) hp₁) : JCc B (n + 1) hp (.raw (.ref C)) args kw Φ :=
  JCc.cls W.T (ob_cls W hC) (W.me _ hi) (W.fk _ hf) (W.fn _ hf) h
theorem JK.mk (W : Wd B K mg mb) {C : Addr} (hC : C = 175 ∨ C = 231) : JK B hp (.raw (.ref C)) := JK.cls W.T (ob_cls W hC)
end
section
variable {B : Base} {n : Nat} {env : Env} {hp hp' : Hp} {pos : Pos} {K : Frag} {mg mb : Str → Option Value}
theorem BindIs.app {z : Z} {bs bs' : List (Str × Value)} {ws ws' : List (Str × V)} (h : BindIs z bs ws) (h' : BindIs z bs' ws') : BindIs z (bs ++ bs') (ws ++ ws') := by
  induction bs generalizing ws with
  | nil => cases h; exact h'
  | cons p r ih => cases h with
    | cons a b => exact .cons a (ih b)
theorem JBind.dflt (W : Wd B K mg mb) {fd : FuncData} {args : List V} {Ξ : List (Str × V) → Hp → Prop} {T : Addr} (names : List Str) (x : Str) (hT : T ∈ ([62, 115] : List Addr)) (hd : fd.defaults = .ref T)
    (hb : ∀ vs : List Value, vs.length = names.length → ∃ k, bindArgs fd ⟨vs, []⟩ = seqItems? fd.defaults >>= k ∧ k (some #[.none]) = pure (names.zip vs ++ [(x, .none)])) (hl : args.length = names.length)
    (h : Ξ (names.zip args ++ [(x, .none)]) hp) : JBind B n hp fd args [] Ξ := fun A s vs kvs ok S r rk => by
  cases rk
  obtain ⟨k, e1, e2⟩ := hb vs (r.length.trans hl)
  obtain ⟨m, e⟩ := W.dflt T hT
  have hn : T ∉ B.tabs := fun q => by rw [W.T.tabs _ q] at e; cases e
  have e' := (zof_of (S.base _ _ e hn)).1
  refine Wp.of fun Q q => ?_
  rw [e1, hd]
  refine wpAny_bind (wpAny_seqItems e' rfl ?_)
  rw [e2]
  exact wpAny_pure (q _ _ _ _ S (Le.refl _) ((BindIs.zip r names).app (.cons .none .nil)) h)
theorem St.sizeGt {s : Shared} (T : TopB B K mg mb) (S : St B hp s) : mainGlobals < s.heap.objs.size := by
  obtain ⟨o, es, ep, e, _⟩ := S.ns0 T.g T.gt
  exact Heap.lt_size e
theorem JBind.kwargs (W : Wd B K mg mb) {fd : FuncData} {args : List V} {Ξ : List (Str × V) → Hp → Prop} (names : List Str) (x : Str)
    (hb : ∀ vs : List Value, vs.length = names.length → bindArgs fd ⟨vs, []⟩ = (do let d ← alloc { cls := .type "dict", data := .dict #[] }; pure (names.zip vs ++ [(x, .ref d)]))) (hl : args.length = names.length)
    (h : Ξ (names.zip args ++ [(x, .edict)]) hp) : JBind B n hp fd args [] Ξ := fun A s vs kvs ok S r rk => by
  cases rk
  rw [hb vs (r.length.trans hl)]
  refine Wp.of fun Q q => wpAny_bind (wpAny_alloc (wpAny_pure ?_))
  have X := S.ext (tk := s.toks) (h' := s.heap.push { cls := .type "dict", data := .dict #[] }) fun _ _ e => Heap.get?_push_of_some _ e
  have hg : mainGlobals < s.heap.objs.size := S.sizeGt W.T
  refine q _ _ _ _ X.1 X.2 ((BindIs.zip (r.mono X.2) names).app (.cons (.edict ?_ (S.frozen (size_fresh _) (Heap.get?_push_size _ rfl))) .nil)) h
  rw [beq_eq_false_iff_ne]
  intro e
  rw [e] at hg
  exact absurd hg (by decide)
end
section
variable {B : Base} {n : Nat} {env : Env} {hp hp' : Hp} {pos : Pos} {Ψ : AF → Hp → Prop} {Υ : Hp → Prop} {G : Globs B} {L : Addr} {kinds : List (Str × NameKind)} {own out : List (Str × Addr)}
theorem JAs.consE {t : Expr} {es : List Expr} {v : V} {vs : List V} (hs : (assignEach (t :: es) env).map (·.2) = assign t env :: (assignEach es env).map (·.2)) (h : JA B n env hp t v (asK B n Υ ((assignEach es env).map (·.2)) vs)) : JAs B n hp ((assignEach (t :: es) env).map (·.2)) (v :: vs) Υ := by
  rw [hs]; exact JAs.cons h
theorem JAs.nilE (h : Υ hp) : JAs B n hp ((assignEach [] env).map (·.2)) [] Υ := JAs.nil h
theorem J1.exprE {e : Expr} (E : EnvIs B G env L kinds own out) (h : JE B n env hp e (exprK Ψ)) (hs : swapsWith e none pos.line env = pure false) : J1 B n env hp (.Expr e pos) Ψ :=
  J1.expr h (by unfold interactive; rw [E.fn]; rfl) hs
end
section
variable {B : Base} {n : Nat} {hp : Hp} {K : Frag} {mg mb : Str → Option Value} {Ξ : V → List V → Hp → Prop}
theorem JM.obOwn (W : Wd B K mg mb) {C d : Addr} {name : Str} {fs : List (Str × V)} {v : V} (hC : C = 175 ∨ C = 231) (hno : (C, name) ∈ attrTab) (hm : (d, AObj.attrs fs) ∈ hp) (hv : fs.lookup name = some v) (hr : ∀ w, v ≠ .raw w) (h : Ξ v [] hp) : JM B n hp (.inst C d) name Ξ :=
  JM.own W.T (ob_cls W hC) (W.at_ _ hno) hm hv hr h
theorem JGa.obBound (W : Wd B K mg mb) {C d f : Addr} {name : Str} {fs : List (Str × V)} {fd : FuncData} {Φ : V → Hp → Prop} (hC : C = 175 ∨ C = 231) (hme : (C, name, f) ∈ methTab) (hf : (f, fd) ∈ fnTab) (hc : copiedNames.contains name = false) (hm : (d, AObj.attrs fs) ∈ hp) (hv : fs.lookup name = none) (h : Φ (.meth (.fn fd) (.inst C d)) hp) : JGa B n hp (.inst C d) name Φ :=
  JGa.bound W.T (ob_cls W hC) (W.me _ hme) (W.fk _ hf) (W.fn _ hf) hc hm hv h
end
section
variable {B : Base} {n : Nat} {env : Env} {hp : Hp} {Φ : V → Hp → Prop} {G : Globs B} {L : Addr} {kinds : List (Str × NameKind)} {own out : List (Str × Addr)}
theorem JL.loc (E : EnvIs B G env L kinds own out) {x : Str} {fs : List (Str × Option V)} {v : V} (hl : kinds.contains (x, NameKind.local) = true) (hm : (L, AObj.ns fs) ∈ hp) (hx : (x, some v) ∈ fs) (h : Φ v hp) : JL B n env hp x Φ :=
  JL.local E (mem_of_contains hl) hm hx h
end
section
variable {B : Base} {n : Nat} {env : Env} {hp : Hp} {pos : Pos} {Φ : V → Hp → Prop}
noncomputable def asI (v : V) (P : Int → Prop) : Prop := ∃ i, v = .int i ∧ P i
theorem asI.int {i : Int} {P : Int → Prop} (h : P i) : asI (.int i) P := ⟨i, rfl, h⟩
noncomputable abbrev ptK2 (Ω : Option Int → Hp → Prop) (hp : Hp) (i : Int) : Prop := Ω (Option.some i) hp
noncomputable abbrev ptK (Ω : Option Int → Hp → Prop) (v : V) (hp : Hp) : Prop := asI v (ptK2 Ω hp)
noncomputable abbrev ngK2 (Φ : V → Hp → Prop) (hp : Hp) (i : Int) : Prop := Φ (.int (-i)) hp
noncomputable abbrev ngK (Φ : V → Hp → Prop) (v : V) (hp : Hp) : Prop := asI v (ngK2 Φ hp)
theorem JPart.someI {e : Expr} {Ω : Option Int → Hp → Prop} (h : JE B n env hp e (ptK Ω)) : JPart B n env hp (Option.some e) Ω := JPart.some h
theorem JE.negA {e : Expr} (h : JE B n env hp e (ngK Φ)) : JE B n env hp (.UnaryOp .USub e pos) Φ := JE.negI h
end
section
variable {B : Base} {n : Nat} {hp : Hp} {Φ : V → Hp → Prop}
theorem JBin.pow2 {y : Nat} (hy : y < 1000000) (h : Φ (natV (2 ^ y)) hp) : JBin B n hp .Pow (.int 2) (natV y) Φ := by
  refine JBin.pow (Int.natCast_nonneg y) ?_ ?_
  · have : Builtin.Int.intBits 2 = 2 := by decide
    rw [this]; show (2 : Int) * (y : Int) ≤ 134217728; omega
  · rw [Int.toNat_natCast, pow2_cast]; exact h
theorem JBin.shrN {a b : Nat} (h : Φ (natV (a / 2 ^ b)) hp) : JBin B n hp .RShift (natV a) (natV b) Φ := by
  refine JBin.shr (Int.natCast_nonneg b) ?_
  rw [shr_nat]; exact h
theorem JBin.bandN {a b : Nat} (h : Φ (natV (a &&& b)) hp) : JBin B n hp .BitAnd (natV a) (natV b) Φ := JBin.band (by rw [band_nat]; exact h)
theorem JBin.borN {a b : Nat} (h : Φ (natV (a ||| b)) hp) : JBin B n hp .BitOr (natV a) (natV b) Φ := JBin.bor (by rw [bor_nat]; exact h)
theorem JInp.borN {a b : Nat} (h : Φ (natV (a ||| b)) hp) : JInp B n hp .BitOr (natV a) (natV b) Φ := JInp.bor (by rw [bor_nat]; exact h)
theorem JBin.band1 {a : Nat} (h : Φ (natV (a &&& 1)) hp) : JBin B n hp .BitAnd (natV a) (.int 1) Φ := JBin.bandN (b := 1) h
end
section
variable {B : Base} {n : Nat} {hp : Hp} {Φ : V → Hp → Prop}
theorem nat_get {rows : List Nat} {x : Nat} (hx : x < rows.length) : (rows.map natV)[((x : Nat) : Int).toNat]? = some (natV (rows.getD x 0)) := by
  rw [Int.toNat_natCast, List.getElem?_map, List.getD_eq_getElem?_getD, List.getElem?_eq_getElem hx]; rfl
theorem JGi.nat {v : V} {rows : List Nat} {x : Nat} (hl : LstOf hp v (rows.map natV)) (hx : x < rows.length) (hs : rows.length < 1000000) (h : Φ (natV (rows.getD x 0)) hp) : JGi B n hp v (natV x) Φ :=
  JGi.lst hl (Int.natCast_nonneg x) (by lia) (nat_get hx) h
theorem NoPyItem.nat {v : V} {rows : List Nat} (hl : LstOf hp v (rows.map natV)) : NoPyItem B hp v := NoPyItem.lstOf hl
end
end Mine

set_option maxRecDepth 100000
set_option linter.unusedVariables false
namespace Mine
open PySem PySem.W PySem.Calls PyProof.Rows
theorem m0 {α : Type} {l : List α} {x : α} : x ∈ x :: l := .head _
theorem m1 {α : Type} {a : α} {l : List α} {x : α} : x ∈ a :: x :: l := .tail _ (.head _)
theorem m2 {α : Type} {a b : α} {l : List α} {x : α} : x ∈ a :: b :: x :: l := .tail _ (.tail _ (.head _))
theorem m3 {α : Type} {a b c : α} {l : List α} {x : α} : x ∈ a :: b :: c :: x :: l := .tail _ (.tail _ (.tail _ (.head _)))
theorem m4 {α : Type} {a b c d : α} {l : List α} {x : α} (h : x ∈ l) : x ∈ a :: b :: c :: d :: l := .tail _ (.tail _ (.tail _ (.tail _ h)))
theorem s1 {α : Type} {a : α} {l : List α} {x : α} (h : x ∈ l) : x ∈ a :: l := .tail _ h
theorem s2 {α : Type} {a b : α} {l : List α} {x : α} (h : x ∈ l) : x ∈ a :: b :: l := .tail _ (.tail _ h)
theorem s3 {α : Type} {a b c : α} {l : List α} {x : α} (h : x ∈ l) : x ∈ a :: b :: c :: l := .tail _ (.tail _ (.tail _ h))
theorem vs0 {α : Type} {P : List α → Prop} (h : P []) : ∀ vs : List α, vs.length = 0 → P vs
  | [], _ => h
theorem vs1 {α : Type} {P : List α → Prop} (h : ∀ a, P [a]) (vs : List α) (e : vs.length = 1) : P vs := by
  cases vs with
  | nil => cases e
  | cons x r => exact vs0 (P := fun r => P (x :: r)) (h x) r (Nat.succ.inj e)
theorem vs2 {α : Type} {P : List α → Prop} (h : ∀ a b, P [a, b]) (vs : List α) (e : vs.length = 2) : P vs := by
  cases vs with
  | nil => cases e
  | cons x r => exact vs1 (P := fun r => P (x :: r)) (h x) r (Nat.succ.inj e)
theorem vs3 {α : Type} {P : List α → Prop} (h : ∀ a b c, P [a, b, c]) (vs : List α) (e : vs.length = 3) : P vs := by
  cases vs with
  | nil => cases e
  | cons x r => exact vs2 (P := fun r => P (x :: r)) (h x) r (Nat.succ.inj e)
theorem vs4 {α : Type} {P : List α → Prop} (h : ∀ a b c d, P [a, b, c, d]) (vs : List α) (e : vs.length = 4) : P vs := by
  cases vs with
  | nil => cases e
  | cons x r => exact vs3 (P := fun r => P (x :: r)) (h x) r (Nat.succ.inj e)
section
variable {a : Addr} {o o' : AObj} {p q t u : Addr × AObj} {r r' : Hp}
theorem u0 : Upd ((a, o) :: r) a o o' ((a, o') :: r) := .head
theorem u1 : Upd (p :: (a, o) :: r) a o o' (p :: (a, o') :: r) := .tail .head
theorem u2 : Upd (p :: q :: (a, o) :: r) a o o' (p :: q :: (a, o') :: r) := .tail (.tail .head)
theorem u3 : Upd (p :: q :: t :: (a, o) :: r) a o o' (p :: q :: t :: (a, o') :: r) := .tail (.tail (.tail .head))
theorem u4 (h : Upd r a o o' r') : Upd (p :: q :: t :: u :: r) a o o' (p :: q :: t :: u :: r') := .tail (.tail (.tail (.tail h)))
end
section
variable {x : Str} {v : V} {o : Option V} {p q t u : Str × Option V} {r r' : List (Str × Option V)}
theorem n0 : UpdN ((x, o) :: r) x v ((x, some v) :: r) := .head
theorem n1 : UpdN (p :: (x, o) :: r) x v (p :: (x, some v) :: r) := .tail .head
theorem n2 : UpdN (p :: q :: (x, o) :: r) x v (p :: q :: (x, some v) :: r) := .tail (.tail .head)
theorem n3 : UpdN (p :: q :: t :: (x, o) :: r) x v (p :: q :: t :: (x, some v) :: r) := .tail (.tail (.tail .head))
theorem n4 (h : UpdN r x v r') : UpdN (p :: q :: t :: u :: r) x v (p :: q :: t :: u :: r') := .tail (.tail (.tail (.tail h)))
end
theorem and2 {a b : Bool} (h : (a && !b) = true) : a = true ∧ b = false := by cases a <;> cases b <;> simp at h ⊢
section
variable {B : Base} {n : Nat} {env : Env} {G : Globs B} {L : Addr} {kinds : List (Str × NameKind)} {own out : List (Str × Addr)} {K : Frag} {mg mb : Str → Option Value}
theorem rLoc (E : EnvIs B G env L kinds own out) {hp : Hp} {fs : List (Str × Option V)} (hm : (L, AObj.ns fs) ∈ hp) {x : Str} {v : V} (hx : (x, some v) ∈ fs) (hl : (kinds.contains (x, NameKind.local) && !(x == ("__debug__" : Str))) = true) {pos : Pos} {Φ : V → Hp → Prop} (h : Φ v hp) : JE B n env hp (.Name x pos) Φ :=
  JE.loc E (and2 hl).1 hm hx h (and2 hl).2
theorem rCel (E : EnvIs B G env L kinds own out) {x : Str} {c : Addr} (hc : (x, c) ∈ own) {hp : Hp} {v : V} (hm : (c, AObj.cell (some v)) ∈ hp) (hd : (x == ("__debug__" : Str)) = false) {pos : Pos} {Φ : V → Hp → Prop} (h : Φ v hp) : JE B n env hp (.Name x pos) Φ :=
  JE.cel E hc hm h hd
theorem rFre (E : EnvIs B G env L kinds own out) {x : Str} {c : Addr} (hc : (x, c) ∈ out) {hp : Hp} {v : V} (hm : (c, AObj.cell (some v)) ∈ hp) (hl : (kinds.contains (x, NameKind.free) && !(x == ("__classdict__" : Str) || x == ("__debug__" : Str))) = true) {pos : Pos} {Φ : V → Hp → Prop} (h : Φ v hp) : JE B n env hp (.Name x pos) Φ :=
  JE.fre E (and2 hl).1 hc hm h (Bool.or_eq_false_iff.mp (and2 hl).2).1 (Bool.or_eq_false_iff.mp (and2 hl).2).2
theorem rGfn (W : Wd B K mg mb) (E : EnvIs B W.T.GG env L kinds own out) {x : Str} {a : Addr} {fd : FuncData} (hg : (x, a) ∈ glTab) (hf : (a, fd) ∈ fnTab) (hl : (kinds.contains (x, NameKind.globalImplicit) && !(x == ("__debug__" : Str))) = true) {hp : Hp} {pos : Pos} {Φ : V → Hp → Prop} (h : Φ (.fn fd) hp) : JE B n env hp (.Name x pos) Φ :=
  JE.gfn W E (and2 hl).1 hg hf h (and2 hl).2
theorem rGref (W : Wd B K mg mb) (E : EnvIs B W.T.GG env L kinds own out) {x : Str} {a : Addr} (hg : (x, a) ∈ glTab) (hl : (kinds.contains (x, NameKind.globalImplicit) && !(x == ("__debug__" : Str))) = true) {hp : Hp} {pos : Pos} {Φ : V → Hp → Prop} (h : Φ (.raw (.ref a)) hp) : JE B n env hp (.Name x pos) Φ :=
  JE.gref W E (and2 hl).1 hg h (and2 hl).2
theorem rGblt (W : Wd B K mg mb) (E : EnvIs B W.T.GG env L kinds own out) {x : Str} {v : Value} (hg : (x, v) ∈ blTab) (hl : (kinds.contains (x, NameKind.globalImplicit) && !(x == ("__debug__" : Str))) = true) {hp : Hp} {pos : Pos} {Φ : V → Hp → Prop} (h : Φ (.raw v) hp) : JE B n env hp (.Name x pos) Φ :=
  JE.gblt W E (and2 hl).1 hg h (and2 hl).2
theorem rEof (W : Wd B K mg mb) (E : EnvIs B W.T.GG env L kinds own out) (hl : (kinds.contains ("ENDMARKER", NameKind.globalImplicit) && !(("ENDMARKER" : Str) == ("__debug__" : Str))) = true) {hp : Hp} {pos : Pos} {Φ : V → Hp → Prop} (h : Φ (.int 0) hp) : JE B n env hp (.Name "ENDMARKER" pos) Φ :=
  JE.gint W E (and2 hl).1 W.eof h (and2 hl).2
theorem rNt (W : Wd B K mg mb) (E : EnvIs B W.T.GG env L kinds own out) (hl : (kinds.contains ("NT_OFFSET", NameKind.globalImplicit) && !(("NT_OFFSET" : Str) == ("__debug__" : Str))) = true) {hp : Hp} {pos : Pos} {Φ : V → Hp → Prop} (h : Φ (.int 256) hp) : JE B n env hp (.Name "NT_OFFSET" pos) Φ :=
  JE.gint W E (and2 hl).1 W.nt h (and2 hl).2
theorem gNm {hp : Hp} {x : Str} {pos : Pos} {Φ : V → Hp → Prop} (h : JE B n env hp (.Name x pos) Φ) : JE B n env hp (.Name x pos) Φ := h
theorem gJL {hp : Hp} {x : Str} {Φ : V → Hp → Prop} (h : JL B n env hp x Φ) : JL B n env hp x Φ := h
theorem rJl (E : EnvIs B G env L kinds own out) {hp : Hp} {fs : List (Str × Option V)} (hm : (L, AObj.ns fs) ∈ hp) {x : Str} {v : V} (hx : (x, some v) ∈ fs) (hl : kinds.contains (x, NameKind.local) = true) {Φ : V → Hp → Prop} (h : Φ v hp) : JL B n env hp x Φ := JL.loc E hl hm hx h
theorem gJM {hp : Hp} {o : V} {name : Str} {Ξ : V → List V → Hp → Prop} (h : JM B n hp o name Ξ) : JM B n hp o name Ξ := h
theorem gSt {hp : Hp} {x : Str} {v : V} {Υ : Hp → Prop} (h : JSt B n env hp x v Υ) : JSt B n env hp x v Υ := h
theorem gGa {hp : Hp} {o : V} {x : Str} {Φ : V → Hp → Prop} (h : JGa B n hp o x Φ) : JGa B n hp o x Φ := h
noncomputable def isRaw : V → Bool
  | .raw _ => true
  | _ => false
theorem rGa (W : Wd B K mg mb) {C d : Addr} {name : Str} {hp : Hp} (hC : C = 175 ∨ C = 231) (hno : (C, name) ∈ attrTab) {fs : List (Str × V)} (hm : (d, AObj.attrs fs) ∈ hp) {v : V} (hv : fs.lookup name = some v) (hr : isRaw v = false) {Φ : V → Hp → Prop} (h : Φ v hp) : JGa B n hp (.inst C d) name Φ :=
  JGa.ob W hC hno hm hv (fun w e => by subst e; cases hr) h
theorem rSt (E : EnvIs B G env L kinds own out) {hp hp' : Hp} {fs fs' : List (Str × Option V)} {x : Str} {v : V} (U : Upd hp L (.ns fs) (.ns fs') hp') (u : UpdN fs x v fs') (hl : kinds.contains (x, NameKind.local) = true) {Υ : Hp → Prop} (h : Υ hp') : JSt B n env hp x v Υ :=
  JSt.loc E hl U u h
end
end Mine

set_option genInjectivity true
set_option maxRecDepth 100000
set_option linter.unusedVariables false
set_option linter.unusedSimpArgs false
set_option linter.unnecessarySimpa false
namespace Mine
open PySem PySem.W PySem.Calls PyProof.Rows
set_option compiler.extract_closed false
local macro_rules | `(tactic| lcg_off) => `(tactic| (first | (with_reducible first | exact m0 | exact m1 | exact m2 | exact m3) | ((with_reducible refine m4 ?_); lcg_off) | ((fail_if_success (with_reducible refine m4 ?_)); first | ((with_reducible refine s3 ?_); assumption) | ((fail_if_success (with_reducible refine s3 ?_)); first | ((with_reducible refine s2 ?_); assumption) | ((fail_if_success (with_reducible refine s2 ?_)); first | ((with_reducible refine s1 ?_); assumption) | ((fail_if_success (with_reducible refine s1 ?_)); first | assumption))))))
local macro_rules | `(tactic| tlg_ne) => `(tactic| (first | (with_reducible first | exact u0 | exact u1 | exact u2 | exact u3) | ((with_reducible apply u4); tlg_ne) | assumption))
local macro_rules | `(tactic| ktu_offL) => `(tactic| (first | (with_reducible first | exact n0 | exact n1 | exact n2 | exact n3) | ((with_reducible apply n4); ktu_offL)))
local macro_rules | `(tactic| tb_rel) => `(tactic| (first
  | with_reducible first
    | refine iteT ?_
    | refine iteF ?_
    | refine JE.cInt ?_
    | refine JE.cStr ?_
    | refine JE.cNone ?_
    | refine JE.cBool ?_
    | refine JE.bin ?_
    | refine JE.ite ?_
    | refine JE.tuple ?_
    | refine JE.slice ?_
    | refine JE.one ?_
    | refine JEs.nil ?_
    | refine JPart.none ?_
    | refine JPart.someI ?_
    | refine asI.int ?_
    | refine JE.negA ?_
    | refine JKws.nil ?_
    | refine JKws.one ?_
    | refine JBin.shrN ?_
    | refine JBin.band1 ?_
    | refine JBin.bandN ?_
    | refine JBin.borN ?_
    | refine JInp.borN ?_
    | refine JBin.add ?_
    | refine JBin.sub ?_
    | refine JInp.add ?_
    | refine JInp.bor ?_
    | refine JBin.band ?_
    | refine JBin.bor ?_
    | refine JBin.bxor ?_
    | refine JCmp.eqI ?_
    | refine JCmp.neI ?_
    | refine JCmp.ltI ?_
    | refine JCmp.gtI ?_
    | refine JCmp.geI ?_
    | refine JCmp.eqS ?_
    | refine JCmp.inS ?_
    | refine JTru.bool ?_
    | refine JTru.int ?_
    | refine JTru.none ?_
    | refine JCmp.isNone ?_
    | refine JCmp.isNotNoneF ?_
    | refine JT.boolOp ?_
    | refine JAll.and ?_
    | refine JAll.or ?_
    | refine JAll.andNil ?_
    | refine JAll.orNil ?_
    | refine JS.nil ?_
    | refine JS.cons ?_
    | refine J1.retSome ?_
    | refine J1.retNone ?_
    | refine J1.iff ?_
    | refine J1.cont ?_
    | refine J1.augName ?_
    | refine J1.augAttr ?_
    | refine J1.while ?_
    | refine JA.name ?_
    | refine JA.attr ?_
    | refine JA.sub ?_
    | refine JAs.nilE ?_
    | refine CTurn.go ?_
    | refine CTurn.goIf ?_
    | refine ⟨JK.fn, ?_⟩
    | refine ⟨JK.builtin, ?_⟩
    | refine ⟨JK.type, ?_⟩
    | refine ⟨NoPyItem.nat (LstOf.lst _), JGi.nat (LstOf.lst _) (by omega) (by omega) ?_⟩
  | ((fail_if_success (fail_if_success (with_reducible refine gNm ?_))); with_reducible first
    | refine rLoc (by assumption) (by lcg_off) (by lcg_off) (by kernel_rfl) ?_
    | refine rCel (by assumption) (by lcg_off) (by lcg_off) (by kernel_rfl) ?_
    | refine rFre (by assumption) (by lcg_off) (by lcg_off) (by kernel_rfl) ?_
    | refine rGfn (by assumption) (by assumption) (by lcg_off) (by lcg_off) (by kernel_rfl) ?_
    | refine rGref (by assumption) (by assumption) (by lcg_off) (by kernel_rfl) ?_
    | refine rGblt (by assumption) (by assumption) (by lcg_off) (by kernel_rfl) ?_
    | refine rEof (by assumption) (by assumption) (by kernel_rfl) ?_
    | refine rNt (by assumption) (by assumption) (by kernel_rfl) ?_)
  | ((fail_if_success (fail_if_success (with_reducible refine gSt ?_))); with_reducible first
    | refine rSt (by assumption) (by tlg_ne) (by ktu_offL) (by kernel_rfl) ?_
    | refine JSt.cell (by assumption) (by lcg_off) (by tlg_ne) ?_)
  | ((fail_if_success (fail_if_success (with_reducible refine gJM ?_))); with_reducible first
    | refine JM.ob (by assumption) (by first | exact .inl rfl | exact .inr rfl) (by lcg_off) (by lcg_off) (by lcg_off) (by kernel_rfl) ?_
    | refine JM.str (name := "lower") F.slot_str_lower F.type_str_lower ?_
    | refine JM.str (name := "upper") F.slot_str_upper F.type_str_upper ?_
    | refine JM.str (name := "join") F.slot_str_join F.type_str_join ?_
    | refine JM.str (name := "count") F.slot_str_count F.type_str_count ?_
    | refine JM.str (name := "index") F.slot_str_index F.type_str_index ?_
    | refine JM.str (name := "split") F.slot_str_split F.type_str_split ?_
    | refine JM.list (name := "append") (by first | exact LstOf.lst _ | exact LstOf.mref (by lcg_off)) F.slot_list_append F.type_list_append ?_
    | refine JM.list (name := "pop") (by first | exact LstOf.lst _ | exact LstOf.mref (by lcg_off)) F.slot_list_pop F.type_list_pop ?_
    | refine JM.list (name := "index") (by first | exact LstOf.lst _ | exact LstOf.mref (by lcg_off)) F.slot_list_index F.type_list_index ?_)
  | ((fail_if_success (fail_if_success (with_reducible refine gJL ?_))); with_reducible first
    | refine rJl (by assumption) (by lcg_off) (by lcg_off) (by kernel_rfl) ?_)
  | ((fail_if_success (fail_if_success (with_reducible refine gGa ?_))); ((with_reducible refine' rGa (by assumption) (by first | exact .inl rfl | exact .inr rfl) (by lcg_off) (by lcg_off) ?hv (by kernel_rfl) ?_); (case hv => rfl)))
  | ((with_reducible refine JE.cmp ?_ ?_); rotate_left; with_unfolding_all rfl)
  | ((with_reducible refine JE.meth0 ?_ ?_ ?_ ?_ ?_); rotate_left; rfl; rfl; rfl; rfl)
  | ((with_reducible refine JE.meth1 ?_ ?_ ?_ ?_ ?_); rotate_left; rfl; rfl; rfl; rfl)
  | ((with_reducible refine JE.call ?_ ?_ ?_); rotate_left; rfl; rfl)
  | ((with_reducible refine JE.attr ?_ ?_); rotate_left; rfl)
  | ((with_reducible refine JE.sub ?_ ?_); rotate_left; intros; first | exact .inl rfl | exact .inr rfl)
  | ((with_reducible refine JEs.cons ?_ ?_); rotate_left; rfl)
  | ((with_reducible refine JCmp.isNoneF ?_ ?_); rfl)
  | ((with_reducible refine JCmp.isNotNoneT ?_ ?_); rfl)
  | ((with_reducible refine JT.cmp ?_ ?_); rotate_left; with_unfolding_all rfl)
  | ((with_reducible refine JT.plain ?_ ?_); rotate_left; intro _; rfl)
  | ((with_reducible refine J1.assign ?_ ?_ ?_ ?_); rotate_left; rfl; rfl; rfl)
  | ((with_reducible refine J1.augSub ?_ ?_); rotate_left; intros; rfl)
  | ((with_reducible refine J1.exprE (by assumption) ?_ ?_); rotate_left; rfl)
  | ((with_reducible refine J1.for ?_ ?_); rotate_left; intro _; rfl)
  | ((with_reducible refine JA.tuple ?_ ?_ ?_); rotate_left; rfl; rfl)
  | ((with_reducible refine JA.tupleL ?_ ?_ ?_); rotate_left; rfl; rfl)
  | ((with_reducible refine JAs.consE ?_ ?_); rfl)
  | (with_reducible refine ⟨NoPyItem.tup, JGi.tup (by decide) (by decide) (by with_unfolding_all rfl) (by with_unfolding_all rfl) ?_⟩)))
local macro_rules | `(tactic| tb_start) => `(tactic| repeat (first | tb_rel | dsimp only))
section
variable {B : Base} {n : Nat} {env : Env} {hp hp' : Hp} {Φ : V → Hp → Prop} {K : Frag} {mg mb : Str → Option Value}
theorem JC.typeStr {x : Str} (h : Φ (.raw (.type "str")) hp) : JC B n hp (.raw (.type "type")) [.str x] [] Φ :=
  JC.typeOf (T := "str") (fun s val S r => by cases r; rfl) rfl h
theorem JC.typeLst {v : V} {xs : List V} (hl : LstOf hp v xs) (h : Φ (.raw (.type "list")) hp) : JC B n hp (.raw (.type "type")) [v] [] Φ :=
  JC.typeOf (T := "list") (fun s val S r => by
    obtain ⟨a, items, n, rfl, e, _⟩ := hl.at S r
    exact ⟨_, e, rfl⟩) rfl h
theorem c_eof (W : Wd B K mg mb) {i : Int} (h : Φ (.bool (i == 0)) hp) : JCc B (n + 1) hp (.fn fEof) [.int i] [] Φ := by
  refine JCc.top W (by kernel_rfl) (by decide +kernel) (by kernel_rfl) ?_
  refine JBind.plain ["x"] (vs1 fun a => by kernel_rfl) rfl ?_
  refine top0 W (by kernel_rfl) [("x", some (.int i))] (by kernel_rfl) (fun env L E => ?_)
  conv in (bodyOf _) => whnf
  tb_start
  exact Back.ret (by (repeat (first | (with_reducible exact List.Sublist.refl _) | (with_reducible refine List.Sublist.cons_cons _ ?_) | (with_reducible refine List.Sublist.cons _ ?_)))) h
theorem c_term (W : Wd B K mg mb) {i : Int} (h : Φ (.bool (decide (i < 256))) hp) : JCc B (n + 1) hp (.fn fTerm) [.int i] [] Φ := by
  refine JCc.top W (by kernel_rfl) (by decide +kernel) (by kernel_rfl) ?_
  refine JBind.plain ["x"] (vs1 fun a => by kernel_rfl) rfl ?_
  refine top0 W (by kernel_rfl) [("x", some (.int i))] (by kernel_rfl) (fun env L E => ?_)
  conv in (bodyOf _) => whnf
  tb_start
  exact Back.ret (by (repeat (first | (with_reducible exact List.Sublist.refl _) | (with_reducible refine List.Sublist.cons_cons _ ?_) | (with_reducible refine List.Sublist.cons _ ?_)))) h
theorem c_nont (W : Wd B K mg mb) {i : Int} (h : Φ (.bool (decide (256 ≤ i))) hp) : JCc B (n + 1) hp (.fn fNont) [.int i] [] Φ := by
  refine JCc.top W (by kernel_rfl) (by decide +kernel) (by kernel_rfl) ?_
  refine JBind.plain ["x"] (vs1 fun a => by kernel_rfl) rfl ?_
  refine top0 W (by kernel_rfl) [("x", some (.int i))] (by kernel_rfl) (fun env L E => ?_)
  conv in (bodyOf _) => whnf
  tb_start
  exact Back.ret (by (repeat (first | (with_reducible exact List.Sublist.refl _) | (with_reducible refine List.Sublist.cons_cons _ ?_) | (with_reducible refine List.Sublist.cons _ ?_)))) h
noncomputable def okTxt (x : Str) : Prop := x.cps.size ≤ 16777216 ∧ ∀ c ∈ x.cps.toList, 31 < c ∧ c < 127
theorem c_conv (W : Wd B K mg mb) {me : V} {x : Str} {b : Bool} (hx : okTxt x) (h : Φ (.str x) hp) : JCc B (n + 1) hp (.fn fConv) [me, .str x] [("name", .bool b)] Φ := by
  refine JCc.top W (by kernel_rfl) (by decide +kernel) (by kernel_rfl) ?_
  refine JBind.kw1 ["self", "value"] "name" (by intro vs w hv; revert vs; exact vs2 fun a c => by kernel_rfl) rfl ?_
  refine top0 W (by kernel_rfl) [("self", some me), ("value", some (.str x)), ("name", some (.bool b)), ("regex", none)] (by kernel_rfl) (fun env L E => ?_)
  conv in (bodyOf _) => whnf
  tb_start
  refine JC.typeStr ?_
  tb_start
  refine JCmp.is rfl rfl rfl ?_
  tb_start
  refine iteP rfl ?_
  cases b with
  | true =>
    tb_start
    refine JM.search W.T W.reN ?_
    tb_start
    refine JC.search W.T W.reN hx.1 hx.2 ?_
    tb_start
    exact Back.ret (by (repeat (first | (with_reducible exact List.Sublist.refl _) | (with_reducible refine List.Sublist.cons_cons _ ?_) | (with_reducible refine List.Sublist.cons _ ?_)))) h
  | false =>
    tb_start
    refine JM.search W.T W.reV ?_
    tb_start
    refine JC.search W.T W.reV hx.1 hx.2 ?_
    tb_start
    exact Back.ret (by (repeat (first | (with_reducible exact List.Sublist.refl _) | (with_reducible refine List.Sublist.cons_cons _ ?_) | (with_reducible refine List.Sublist.cons _ ?_)))) h
end
section
variable {B : Base} {n : Nat} {env : Env} {hp hp' : Hp} {Φ : V → Hp → Prop} {K : Frag} {mg mb : Str → Option Value}
noncomputable def tups (items : List (Str × Str)) : List V := items.map fun p => .tup [.str p.1, .str p.2]
noncomputable def getAllF (items : List (Str × Str)) (nm : Str) : List Str := (items.filter fun p => Txt.lower p.1 == Txt.lower nm).map (·.2)
theorem getAllF_eq (nm : Str) : ∀ items : List (Str × Str), (items.filterMap fun p => if Txt.lower p.1 == Txt.lower nm then some (V.str p.2) else none) = (getAllF items nm).map .str
  | [] => rfl
  | p :: r => by
    have ih := getAllF_eq nm r
    unfold getAllF at ih ⊢
    rw [List.filterMap_cons, List.filter_cons]
    cases q : Txt.lower p.1 == Txt.lower nm
    · exact ih
    · show _ :: _ = _
      rw [ih]; rfl
structure NmOk (nm : Str) : Prop where
  txt : okTxt (Txt.lower nm)
  len : (Txt.lower nm).length ≤ 16777216
structure ItemsOk (items : List (Str × Str)) : Prop where
  len : items.length < 16777215
  low : ∀ p ∈ items, (Txt.lower p.1).length ≤ 16777216
theorem c_getall (W : Wd B K mg mb) {d l : Addr} {items : List (Str × Str)} {nm : Str} (hd : (d, AObj.attrs [("_headers", .mref l)]) ∈ hp) (hl : (l, AObj.list (tups items)) ∈ hp) (hz : ItemsOk items) (hnm : NmOk nm)
    (h : Φ (.lst ((getAllF items nm).map .str)) hp) : JCc B (n + 1 + 1) hp (.fn fGetAll) [.inst 175 d, .str nm] [] Φ := by
  refine JCc.topc W (by kernel_rfl) (by decide +kernel) ?_
  refine JBind.plain ["self", "name"] (vs2 fun a b => by kernel_rfl) rfl ?_
  refine top1 W (by kernel_rfl) ([("self", some (.inst 175 d))]) (fun L => [("name", L + 1)]) (fun L => [(L + 1, .cell (some (.str nm)))]) (by kernel_rfl) (fun L => by kernel_rfl) (fun L => by kernel_rfl) (fun env L E _ _ => ?_)
  conv in (bodyOf _) => whnf
  dsimp only [List.cons_append, List.nil_append]
  tb_start
  refine JC.lower hnm.len ?_
  tb_start
  refine JCc.call (c_conv W hnm.txt ?_)
  tb_start
  refine JE.comp (own' := fun _ => []) (out' := [("name", L + 1)]) (fun C (t : Option V) => [(C, .ns [(".0", none), ("kv", t)])]) none E (⟨⟨by kernel_rfl, by decide +kernel, by kernel_rfl⟩, by rfl, fun C => by kernel_rfl, fun C => by kernel_rfl, fun C t => ⟨_, _, .head⟩⟩) ?_
  tb_start
  refine JI.mlst (by (lcg_off)) fun it => ?_
  refine CompIn.mlst items (fun p => .tup [.str p.1, .str p.2]) (fun p => if Txt.lower p.1 == Txt.lower nm then some (.str p.2) else none) (by (lcg_off)) (by have := hz.len; lia) (fun C acc env' E' i p t ys hp => ?_) ?_
  · dsimp only [List.cons_append, List.nil_append]
    tb_start
    refine JC.lower (hz.low p (List.mem_of_getElem? hp)) ?_
    tb_start
    cases q : Txt.lower p.1 == Txt.lower nm with
    | true => tb_start; first | exact ctEnd | exact ⟨rfl, _, rfl⟩
    | false => exact iteF ⟨rfl, _, rfl⟩
  · rw [getAllF_eq]
    exact Back.ret (by (repeat (first | (with_reducible exact List.Sublist.refl _) | (with_reducible refine List.Sublist.cons_cons _ ?_) | (with_reducible refine List.Sublist.cons _ ?_)))) h
noncomputable def getF (items : List (Str × Str)) (nm : Str) : Option Str := (items.find? fun p => Txt.lower p.1 == Txt.lower nm).map (·.2)
noncomputable def optV : Option Str → V
  | some x => .str x
  | none => .none
theorem c_get (W : Wd B K mg mb) {d l : Addr} {items : List (Str × Str)} {nm : Str} (hd : (d, AObj.attrs [("_headers", .mref l)]) ∈ hp) (hl : (l, AObj.list (tups items)) ∈ hp) (hz : ItemsOk items) (hnm : NmOk nm)
    (h : Φ (optV (getF items nm)) hp) : JCc B (n + 1 + 1) hp (.fn fGet) [.inst 175 d, .str nm] [] Φ := by
  refine JCc.top W (by kernel_rfl) (by decide +kernel) (by kernel_rfl) ?_
  refine JBind.dflt W (T := 115) ["self", "name"] "default" (by decide) rfl (vs2 fun a b => by exact ⟨_, rfl, by kernel_rfl⟩) rfl ?_
  refine top0 W (by kernel_rfl) [("self", some (.inst 175 d)), ("name", some (.str nm)), ("default", some .none), ("k", none), ("v", none)] (by kernel_rfl) (fun env L E => ?_)
  conv in (bodyOf _) => whnf
  tb_start
  refine JC.lower hnm.len ?_
  tb_start
  refine JCc.call (c_conv W hnm.txt ?_)
  tb_start
  refine JI.mlst (by (lcg_off)) fun it => ?_
  refine JF.run (I := fun i => [(it, .it (.mlst l i))]) (EE := []) (xs := tups items) Src.mlst (fun i r => ∃ k v, (items.take i).find? (fun p => Txt.lower p.1 == Txt.lower nm) = none ∧ r = (L, .ns [("self", some (.inst 175 d)), ("name", some (.str (Txt.lower nm))), ("default", some .none), ("k", k), ("v", v)]) :: hp) ?_ (fun i x r hx hI => ?_) (fun r hI => ?_) (tups items).length 0 _ (by lia) ⟨none, none, rfl, rfl⟩
  · rintro i r ⟨k, v, _, rfl⟩
    exact .tail _ hl
  · obtain ⟨k, v, hf, rfl⟩ := hI
    unfold tups at hx
    rw [List.getElem?_map] at hx
    cases q : items[i]? with
    | none => rw [q] at hx; cases hx
    | some p =>
      rw [q] at hx; cases hx
      dsimp only [List.cons_append, List.nil_append]
      tb_start
      refine JC.lower (hz.low p (List.mem_of_getElem? q)) ?_
      tb_start
      cases e : Txt.lower p.1 == Txt.lower nm with
      | true =>
        tb_start
        refine Back.ret (hp'' := hp) (by (repeat (first | (with_reducible exact List.Sublist.refl _) | (with_reducible refine List.Sublist.cons_cons _ ?_) | (with_reducible refine List.Sublist.cons _ ?_)))) ?_
        have : getF items nm = some p.2 := by
          unfold getF
          have e2 : items = items.take i ++ p :: items.drop (i + 1) := by
            rw [List.getElem?_eq_some_iff] at q
            obtain ⟨hi, rfl⟩ := q
            simp
          rw [e2, List.find?_append, hf]
          simp [List.find?_cons, e]
        rw [this] at h; exact h
      | false =>
        tb_start
        refine ⟨_, rfl, _, _, ?_, rfl⟩
        rw [List.take_add_one, q, List.find?_append, hf]
        simp [List.find?_cons, e]
  · obtain ⟨k, v, hf, rfl⟩ := hI
    dsimp only [List.cons_append, List.nil_append]
    tb_start
    refine Back.ret (hp'' := hp) (by (repeat (first | (with_reducible exact List.Sublist.refl _) | (with_reducible refine List.Sublist.cons_cons _ ?_) | (with_reducible refine List.Sublist.cons _ ?_)))) ?_
    have : getF items nm = none := by
      have e : (tups items).length = items.length := by simp [tups]
      rw [e, List.take_length] at hf
      unfold getF
      rw [hf]; rfl
    rw [this] at h; exact h
theorem tups_snoc (items : List (Str × Str)) (p : Str × Str) : tups (items ++ [p]) = tups items ++ [.tup [.str p.1, .str p.2]] := by simp [tups]
theorem c_setd (W : Wd B K mg mb) {d l : Addr} {items : List (Str × Str)} {nm vl : Str} (hd : (d, AObj.attrs [("_headers", .mref l)]) ∈ hp) (U : Upd hp l (.list (tups items)) (.list (tups (items ++ [(nm, vl)]))) hp') (hz : ItemsOk items) (hnm : NmOk nm) (h1 : okTxt nm) (h2 : okTxt vl)
    (h : match getF items nm with | some x => Φ (.str x) hp | none => Φ (.str vl) hp') : JCc B (n + 1 + 1 + 1) hp (.fn fSetd) [.inst 175 d, .str nm, .str vl] [] Φ := by
  refine JCc.top W (by kernel_rfl) (by decide +kernel) (by kernel_rfl) ?_
  refine JBind.plain ["self", "name", "value"] (vs3 fun a b c => by kernel_rfl) rfl ?_
  refine top0 W (by kernel_rfl) [("self", some (.inst 175 d)), ("name", some (.str nm)), ("value", some (.str vl)), ("result", none)] (by kernel_rfl) (fun env L E => ?_)
  have hl := U.mem
  conv in (bodyOf _) => whnf
  tb_start
  refine JCc.call (c_get W (by (lcg_off)) (by (lcg_off)) hz hnm ?_)
  cases q : getF items nm with
  | some x =>
    rw [q] at h
    unfold optV
    tb_start
    exact Back.ret (by (repeat (first | (with_reducible exact List.Sublist.refl _) | (with_reducible refine List.Sublist.cons_cons _ ?_) | (with_reducible refine List.Sublist.cons _ ?_)))) h
  | none =>
    rw [q] at h
    unfold optV
    tb_start
    refine JCc.call (c_conv W h1 ?_)
    tb_start
    refine JCc.call (c_conv W h2 ?_)
    tb_start
    refine ⟨by show 2 ≤ 16777216; lia, ?_⟩
    tb_start
    rw [tups_snoc] at U
    refine JC.append (by have := hz.len; simp [tups]; lia) (Upd.tail U) ?_
    tb_start
    exact Back.ret (by (repeat (first | (with_reducible exact List.Sublist.refl _) | (with_reducible refine List.Sublist.cons_cons _ ?_) | (with_reducible refine List.Sublist.cons _ ?_)))) h
theorem c_items (W : Wd B K mg mb) {d l : Addr} {items : List (Str × Str)} (hd : (d, AObj.attrs [("_headers", .mref l)]) ∈ hp) (hl : (l, AObj.list (tups items)) ∈ hp) (hz : ItemsOk items)
    (h : ∀ a, Φ (.mref a) ((a, .list (vpick (tups items) none none none)) :: hp)) : JCc B (n + 1) hp (.fn fItems) [.inst 175 d] [] Φ := by
  refine JCc.top W (by kernel_rfl) (by decide +kernel) (by kernel_rfl) ?_
  refine JBind.plain ["self"] (vs1 fun a => by kernel_rfl) rfl ?_
  refine top0 W (by kernel_rfl) [("self", some (.inst 175 d))] (by kernel_rfl) (fun env L E => ?_)
  conv in (bodyOf _) => whnf
  tb_start
  refine ⟨NoPyItem.lstOf (.mref (by (lcg_off))), JGi.lstSlM (.mref (by (lcg_off))) (by decide) (by have := hz.len; simp [tups]; lia) fun a => ?_⟩
  exact Back.ret (hp'' := (a, .list (vpick (tups items) none none none)) :: hp) (by (repeat (first | (with_reducible exact List.Sublist.refl _) | (with_reducible refine List.Sublist.cons_cons _ ?_) | (with_reducible refine List.Sublist.cons _ ?_)))) (h a)
theorem c_itemsF (W : Wd B K mg mb) {d l : Addr} {items : List (Str × Str)} (hd : (d, AObj.attrs [("_headers", .mref l)]) ∈ hp) (hl : (l, AObj.list (tups items)) ∈ hp) (hz : ItemsOk items)
    (h : Φ (.lst (vpick (tups items) none none none)) hp) : JCc B (n + 1) hp (.fn fItems) [.inst 175 d] [] Φ := by
  refine JCc.top W (by kernel_rfl) (by decide +kernel) (by kernel_rfl) ?_
  refine JBind.plain ["self"] (vs1 fun a => by kernel_rfl) rfl ?_
  refine top0 W (by kernel_rfl) [("self", some (.inst 175 d))] (by kernel_rfl) (fun env L E => ?_)
  conv in (bodyOf _) => whnf
  tb_start
  refine ⟨NoPyItem.lstOf (.mref (by (lcg_off))), JGi.lstSl (.mref (by (lcg_off))) (by decide) (by have := hz.len; simp [tups]; lia) ?_⟩
  exact Back.ret (by (repeat (first | (with_reducible exact List.Sublist.refl _) | (with_reducible refine List.Sublist.cons_cons _ ?_) | (with_reducible refine List.Sublist.cons _ ?_)))) h
theorem c_addh (W : Wd B K mg mb) {d l : Addr} {items : List (Str × Str)} {nm vl : Str} (hd : (d, AObj.attrs [("_headers", .mref l)]) ∈ hp) (U : Upd hp l (.list (tups items)) (.list (tups (items ++ [(nm, vl)]))) hp') (hz : ItemsOk items) (h1 : okTxt nm) (h2 : okTxt vl) (hv : vl.length < 16777000)
    (h : Φ .none hp') : JCc B (n + 1 + 1) hp (.fn fAddH) [.inst 175 d, .str nm, .str vl] [] Φ := by
  refine JCc.top W (by kernel_rfl) (by decide +kernel) (by kernel_rfl) ?_
  refine JBind.kwargs W ["self", "_name", "_value"] "_params" (vs3 fun a b c => by kernel_rfl) rfl ?_
  refine top0 W (by kernel_rfl) [("self", some (.inst 175 d)), ("_name", some (.str nm)), ("_value", some (.str vl)), ("_params", some .edict), ("parts", none), ("k", none), ("v", none)] (by kernel_rfl) (fun env L E => ?_)
  have hl := U.mem
  conv in (bodyOf _) => whnf
  tb_start
  refine JE.listM ?_
  tb_start
  refine ⟨by decide, fun p => ?_⟩
  tb_start
  refine JCc.call (c_conv W h2 ?_)
  tb_start
  refine JC.append (by decide) .head ?_
  tb_start
  refine JM.items ?_
  tb_start
  refine JC.items ?_
  tb_start
  refine JI.items fun it => ?_
  refine JF.run (I := fun i => [(it, .it .eit)]) (EE := []) (xs := []) Src.items (fun i r => r = _) (fun _ _ _ => trivial) (fun i x r hx => by simp at hx) (fun r hI => ?_) 0 0 _ rfl rfl
  subst hI
  dsimp only [List.cons_append, List.nil_append]
  tb_start
  refine JCc.call (c_conv W h1 ?_)
  tb_start
  refine JC.join (ss := [vl]) (.mref (show (p, AObj.list [V.str vl]) ∈ _ from by (lcg_off))) ?_ ?_
  · have := hv
    show (vl.length + 0) + 1 * 2 ≤ 16777216
    lia
  tb_start
  refine ⟨by show 2 ≤ 16777216; lia, ?_⟩
  tb_start
  rw [tups_snoc] at U
  refine JC.append (by have := hz.len; simp [tups]; lia) (.tail (.tail U)) ?_
  tb_start
  exact Back.next (by (repeat (first | (with_reducible exact List.Sublist.refl _) | (with_reducible refine List.Sublist.cons_cons _ ?_) | (with_reducible refine List.Sublist.cons _ ?_)))) h
theorem c_hinit (W : Wd B K mg mb) {d : Addr} {hp' : Addr → Hp} (U : ∀ l, Upd hp d (.attrs []) (.attrs [("_headers", .mref l)]) (hp' l)) (h : ∀ l, Φ .none ((l, .list []) :: hp' l)) : JCc B (n + 1) hp (.fn fHinit) [.inst 175 d] [] Φ := by
  refine JCc.top W (by kernel_rfl) (by decide +kernel) (by kernel_rfl) ?_
  refine JBind.dflt W (T := 62) ["self"] "headers" (by decide) rfl (vs1 fun a => by exact ⟨_, rfl, by kernel_rfl⟩) rfl ?_
  refine top0 W (by kernel_rfl) [("self", some (.inst 175 d)), ("headers", some .none), ("k", none), ("v", none)] (by kernel_rfl) (fun env L E => ?_)
  conv in (bodyOf _) => whnf
  tb_start
  refine JE.listM ?_
  tb_start
  refine ⟨by decide, fun l => ?_⟩
  tb_start
  refine JC.typeLst (.mref (by (lcg_off))) ?_
  tb_start
  refine JCmp.isNot rfl rfl rfl ?_
  tb_start
  refine iteN rfl ?_
  tb_start
  refine JSa.obNew W (.inl rfl) (by (lcg_off)) rfl (.tail (.tail (U l))) (by decide) ?_
  tb_start
  refine JI.mlst (by (lcg_off)) fun it => ?_
  refine JF.run (I := fun i => [(it, .it (.mlst l i))]) (EE := []) (xs := []) Src.mlst (fun i r => r = _) (fun _ r hr => hr ▸ .head _) (fun i x r hx => by simp at hx) (fun r hI => ?_) 0 0 _ rfl rfl
  subst hI
  dsimp only [List.cons_append, List.nil_append]
  tb_start
  exact Back.next (hp'' := (l, .list []) :: hp' l) (by (repeat (first | (with_reducible exact List.Sublist.refl _) | (with_reducible refine List.Sublist.cons_cons _ ?_) | (with_reducible refine List.Sublist.cons _ ?_)))) (h l)
end
noncomputable def lamX : Expr := match (bodyOf (stm 68))[2]? with
  | some (Stmt.Assign _ e _) => e
  | _ => Expr.Name "" ⟨0, 0, 0, 0⟩
noncomputable def lamP : Arguments := match lamX with
  | .Lambda p .. => p
  | _ => default
noncomputable def lamB : Expr := match lamX with
  | .Lambda _ b .. => b
  | e => e
noncomputable def lamS : Scope := match lamX with
  | .Lambda _ _ s _ => s
  | _ => default
noncomputable def lamFd (q : Str) (cl : List (Str × Addr)) (pm c ct : Value) : FuncData := kla_fn "<lambda>" q lamP lamB lamS cl pm c ct
theorem chS_beq' (c k : Nat) : ((⟨#[c]⟩ : Str) == ⟨#[k]⟩) = (c == k) := by
  rw [Bool.eq_iff_iff, beq_iff_eq, beq_iff_eq, Str.mk.injEq]
  constructor
  · intro h; injection h with h; injection h
  · rintro rfl; rfl
theorem chS_beq (c k : Nat) (s : Str) (h : s = ⟨#[k]⟩) : ((⟨#[c]⟩ : Str) == s) = (c == k) := h ▸ chS_beq' c k
noncomputable abbrev chS (c : Nat) : Str := ⟨#[c]⟩
noncomputable def sgs (r : List Nat) : List V := r.reverse.map fun c => .str (chS c)
theorem sgs_cons (c : Nat) (r : List Nat) : sgs (c :: r) = sgs r ++ [.str (chS c)] := by simp [sgs]
theorem sgs_len (r : List Nat) : (sgs r).length = r.length := by simp [sgs]
section
variable {B : Base} {n : Nat} {env : Env} {hp hp' : Hp} {Φ : V → Hp → Prop} {K : Frag} {mg mb : Str → Option Value}
theorem lam_call (W : Wd B K mg mb) {q : Str} {cl : List (Str × Addr)} {pm c ct : Value} {cs : Addr} (hcl : CloIs cl lamS.names [("signs", cs)])
    (h : ∀ env L, EnvIs B W.T.GG env L lamS.names [] [("signs", cs)] → JE B n env ((L, .ns [("size", some (.int 1))]) :: hp) lamB fun v hp₂ => ∃ hp₃, hp₃.Sublist hp₂ ∧ Φ v hp₃) : JCc B (n + 1) hp (.fn (lamFd q cl pm c ct)) [.int 1] [] Φ := by
  have hnd : (lamS.names.map (·.1)).Nodup := by decide +kernel
  have hcell : ∀ x ∈ lamS.names, x.2 ≠ .cell := by decide +kernel
  have hloc : ∀ x ∈ ([(("size" : Str), V.int 1)] : List (Str × V)), lamS.names.lookup x.1 = some .local := by
    intro x hx
    rw [List.mem_singleton.mp hx]; decide +kernel
  have e : localsAt lamS [("size", .int 1)] = [(("size" : Str), some (V.int 1))] := by kernel_rfl
  refine JCc.lam (body := lamB) rfl (by kernel_rfl) (by kernel_rfl) (by kernel_rfl) hcell W.T hnd ?_
  refine JBind.plain ["size"] (vs1 fun a => by kernel_rfl) rfl ?_
  refine ⟨hloc, fun L a => ?_⟩
  have E := EnvIs.ofClo (L := L) (fd := lamFd q cl pm c ct) (a := a) W.T (by kernel_rfl) rfl rfl hnd hcl
  have r := h _ L E
  rw [← e] at r
  exact r
theorem c_lam1 (W : Wd B K mg mb) {q : Str} {cl : List (Str × Addr)} {pm c ct : Value} {cs sg : Addr} {x : Nat} {r : List Nat} (hcl : CloIs cl lamS.names [("signs", cs)]) (hcs : (cs, AObj.cell (some (.mref sg))) ∈ hp)
    (U : Upd hp sg (.list (sgs (x :: r))) (.list (sgs r)) hp') (hz : r.length < 16777215) (h : Φ (.str (chS x)) hp') : JCc B (n + 1) hp (.fn (lamFd q cl pm c ct)) [.int 1] [] Φ := by
  refine lam_call W hcl fun env L E => ?_
  conv in lamB => whnf
  have hm := U.mem
  rw [sgs_cons] at U hm
  tb_start
  refine JTru.mref (by (lcg_off)) (by rw [List.length_append, sgs_len]; show _ + 1 ≤ _; omega) ?_
  have e1 : (!(sgs r ++ [V.str (chS x)]).isEmpty) = true := by simp
  rw [e1]
  tb_start
  refine iteP rfl ?_
  tb_start
  refine JC.pop (.tail U) (by rw [sgs_len]; omega) ?_
  exact ⟨hp', by (repeat (first | (with_reducible exact List.Sublist.refl _) | (with_reducible refine List.Sublist.cons_cons _ ?_) | (with_reducible refine List.Sublist.cons _ ?_))), h⟩
theorem c_lam0 (W : Wd B K mg mb) {q : Str} {cl : List (Str × Addr)} {pm c ct : Value} {cs sg : Addr} (hcl : CloIs cl lamS.names [("signs", cs)]) (hcs : (cs, AObj.cell (some (.mref sg))) ∈ hp)
    (hm : (sg, AObj.list (sgs [])) ∈ hp) (h : Φ (.str "") hp) : JCc B (n + 1) hp (.fn (lamFd q cl pm c ct)) [.int 1] [] Φ := by
  refine lam_call W hcl fun env L E => ?_
  conv in lamB => whnf
  tb_start
  refine JTru.mref (by (lcg_off)) (by decide) ?_
  have e1 : (!(sgs []).isEmpty) = false := by rfl
  rw [e1]
  tb_start
  exact ⟨hp, by (repeat (first | (with_reducible exact List.Sublist.refl _) | (with_reducible refine List.Sublist.cons_cons _ ?_) | (with_reducible refine List.Sublist.cons _ ?_))), h⟩
noncomputable abbrev lexA (p dh : Addr) (ln : Nat) : List (Str × V) := [("pushback", .mref p), ("whitespace", .str "\n\t\r "), ("instream", .inst 231 dh), ("lineno", .int (ln : Int))]
noncomputable abbrev holdA (ph : Addr) (fdl : FuncData) : List (Str × V) := [("read", .fn fdl), ("pushback", .mref ph), ("whitespace", .str "\n\t\r "), ("instream", .none), ("lineno", .int 1)]
structure LexAt (H : Nat → List V → List Nat → Hp) (d p dh cs sg : Addr) (fdl : FuncData) : Prop where
  hd : ∀ ln pb r, (d, AObj.attrs (lexA p dh ln)) ∈ H ln pb r
  hp : ∀ ln pb r, (p, AObj.list pb) ∈ H ln pb r
  hh : ∀ ln pb r, ∃ ph, (dh, AObj.attrs (holdA ph fdl)) ∈ H ln pb r
  hc : ∀ ln pb r, (cs, AObj.cell (some (.mref sg))) ∈ H ln pb r
  hs : ∀ ln pb r, (sg, AObj.list (sgs r)) ∈ H ln pb r
  ud : ∀ ln ln' pb r, Upd (H ln pb r) d (.attrs (lexA p dh ln)) (.attrs (lexA p dh ln')) (H ln' pb r)
  up : ∀ ln pb pb' r, Upd (H ln pb r) p (.list pb) (.list pb') (H ln pb' r)
  us : ∀ ln pb r r', Upd (H ln pb r) sg (.list (sgs r)) (.list (sgs r')) (H ln pb r')
  fd : ∃ q cl pm c ct, fdl = lamFd q cl pm c ct ∧ CloIs cl lamS.names [("signs", cs)]
theorem LexAt.cons {H : Nat → List V → List Nat → Hp} {d p dh cs sg : Addr} {fdl : FuncData} (X : LexAt H d p dh cs sg fdl) (e : Addr × AObj) : LexAt (fun ln pb r => e :: H ln pb r) d p dh cs sg fdl where
  hd := fun ln pb r => .tail _ (X.hd ln pb r)
  hp := fun ln pb r => .tail _ (X.hp ln pb r)
  hh := fun ln pb r => by obtain ⟨ph, h⟩ := X.hh ln pb r; exact ⟨ph, .tail _ h⟩
  hc := fun ln pb r => .tail _ (X.hc ln pb r)
  hs := fun ln pb r => .tail _ (X.hs ln pb r)
  ud := fun ln ln' pb r => .tail (X.ud ln ln' pb r)
  up := fun ln pb pb' r => .tail (X.up ln pb pb' r)
  us := fun ln pb r r' => .tail (X.us ln pb r r')
  fd := X.fd
variable {H : Nat → List V → List Nat → Hp} {d p dh cs sg : Addr} {fdl : FuncData}
noncomputable def nl (c : Nat) : Nat := if c = 10 then 1 else 0
theorem c_read1 (W : Wd B K mg mb) (X : LexAt H d p dh cs sg fdl) {ln c : Nat} {pb : List V} {r : List Nat} (hz : r.length < 16777215) (h : Φ (.str (chS c)) (H (ln + nl c) pb r)) : JCc B (n + 1 + 1) (H ln pb (c :: r)) (.fn fRead) [.inst 231 d] [] Φ := by
  refine JCc.top W (by kernel_rfl) (by decide +kernel) (by kernel_rfl) ?_
  refine JBind.plain ["self"] (vs1 fun a => by kernel_rfl) rfl ?_
  refine top0 W (by kernel_rfl) [("self", some (.inst 231 d)), ("ch", none)] (by kernel_rfl) (fun env L E => ?_)
  conv in (bodyOf _) => whnf
  have hd := X.hd ln pb (c :: r)
  obtain ⟨ph, hh⟩ := X.hh ln pb (c :: r)
  obtain ⟨q, cl, pm, cc, ct, rfl, hcl⟩ := X.fd
  tb_start
  refine JM.obOwn W (.inr rfl) (by decide) (by (lcg_off)) rfl (by intro w h; cases h) ?_
  tb_start
  refine JCc.call (c_lam1 W (x := c) (r := r) hcl (.tail _ (X.hc ln pb (c :: r))) (.tail (X.us ln pb (c :: r) r)) hz ?_)
  tb_start
  rw [chS_beq c 10 "\n" (by decide +kernel)]
  by_cases hc : c = 10
  · subst hc
    refine iteP rfl ?_
    have hd' := X.hd ln pb r
    tb_start
    refine JSa.obOld W (.inr rfl) (by decide) (.tail rfl (.tail rfl (.tail rfl .head))) (.tail (X.ud ln (ln + 1) pb r)) (Nat.le_of_ble_eq_true rfl) ?_
    tb_start
    exact Back.ret (hp'' := H (ln + 1) pb r) (by (repeat (first | (with_reducible exact List.Sublist.refl _) | (with_reducible refine List.Sublist.cons_cons _ ?_) | (with_reducible refine List.Sublist.cons _ ?_)))) h
  · refine iteN (by simpa using hc) ?_
    tb_start
    have e : ln + nl c = ln := by simp [nl, hc]
    rw [e] at h
    exact Back.ret (by (repeat (first | (with_reducible exact List.Sublist.refl _) | (with_reducible refine List.Sublist.cons_cons _ ?_) | (with_reducible refine List.Sublist.cons _ ?_)))) h
theorem c_read0 (W : Wd B K mg mb) (X : LexAt H d p dh cs sg fdl) {ln : Nat} {pb : List V} (h : Φ (.str "") (H ln pb [])) : JCc B (n + 1 + 1) (H ln pb []) (.fn fRead) [.inst 231 d] [] Φ := by
  refine JCc.top W (by kernel_rfl) (by decide +kernel) (by kernel_rfl) ?_
  refine JBind.plain ["self"] (vs1 fun a => by kernel_rfl) rfl ?_
  refine top0 W (by kernel_rfl) [("self", some (.inst 231 d)), ("ch", none)] (by kernel_rfl) (fun env L E => ?_)
  conv in (bodyOf _) => whnf
  have hd := X.hd ln pb []
  obtain ⟨ph, hh⟩ := X.hh ln pb []
  obtain ⟨q, cl, pm, cc, ct, rfl, hcl⟩ := X.fd
  tb_start
  refine JM.obOwn W (.inr rfl) (by decide) (by (lcg_off)) rfl (by intro w h; cases h) ?_
  tb_start
  refine JCc.call (c_lam0 W hcl (.tail _ (X.hc ln pb [])) (.tail _ (X.hs ln pb [])) ?_)
  tb_start
  refine iteN (by decide) ?_
  tb_start
  exact Back.ret (by (repeat (first | (with_reducible exact List.Sublist.refl _) | (with_reducible refine List.Sublist.cons_cons _ ?_) | (with_reducible refine List.Sublist.cons _ ?_)))) h
theorem c_push (W : Wd B K mg mb) (X : LexAt H d p dh cs sg fdl) {ln : Nat} {pb : List V} {r : List Nat} {v : V} (hz : pb.length < 16777215) (h : Φ .none (H ln (pb ++ [v]) r)) : JCc B (n + 1) (H ln pb r) (.fn fPush) [.inst 231 d, v] [] Φ := by
  refine JCc.top W (by kernel_rfl) (by decide +kernel) (by kernel_rfl) ?_
  refine JBind.plain ["self", "token"] (vs2 fun a b => by kernel_rfl) rfl ?_
  refine top0 W (by kernel_rfl) [("self", some (.inst 231 d)), ("token", some v)] (by kernel_rfl) (fun env L E => ?_)
  conv in (bodyOf _) => whnf
  have hd := X.hd ln pb r
  have hp := X.hp ln pb r
  tb_start
  refine JC.append (by omega) (.tail (X.up ln pb (pb ++ [v]) r)) ?_
  tb_start
  exact Back.next (by (repeat (first | (with_reducible exact List.Sublist.refl _) | (with_reducible refine List.Sublist.cons_cons _ ?_) | (with_reducible refine List.Sublist.cons _ ?_)))) h
theorem c_ninit (W : Wd B K mg mb) {fp : V} (h : ∀ p, Φ .none ((p, .list []) :: (d, .attrs [("pushback", .mref p), ("whitespace", .str "\n\t\r "), ("instream", fp), ("lineno", .int 1)]) :: hp)) : JCc B (n + 1) ((d, .attrs []) :: hp) (.fn fNinit) [.inst 231 d, fp] [] Φ := by
  refine JCc.top W (by kernel_rfl) (by decide +kernel) (by kernel_rfl) ?_
  refine JBind.plain ["self", "fp"] (vs2 fun a b => by kernel_rfl) rfl ?_
  refine top0 W (by kernel_rfl) [("self", some (.inst 231 d)), ("fp", some fp)] (by kernel_rfl) (fun env L E => ?_)
  conv in (bodyOf _) => whnf
  tb_start
  refine JSa.obNew W (.inr rfl) (by decide) rfl (.tail .head) (Nat.le_of_ble_eq_true rfl) ?_
  tb_start
  refine JSa.obNew W (.inr rfl) (by decide) rfl (.tail .head) (Nat.le_of_ble_eq_true rfl) ?_
  tb_start
  refine JSa.obNew W (.inr rfl) (by decide) rfl (.tail .head) (Nat.le_of_ble_eq_true rfl) ?_
  tb_start
  refine JE.listM ?_
  tb_start
  refine ⟨by decide, fun p => ?_⟩
  tb_start
  refine JSa.obNew W (.inr rfl) (by decide) rfl (.tail (.tail .head)) (Nat.le_of_ble_eq_true rfl) ?_
  tb_start
  exact Back.next (hp'' := (p, .list []) :: (d, .attrs [("pushback", .mref p), ("whitespace", .str "\n\t\r "), ("instream", fp), ("lineno", .int 1)]) :: hp) (by (repeat (first | (with_reducible exact List.Sublist.refl _) | (with_reducible refine List.Sublist.cons_cons _ ?_) | (with_reducible refine List.Sublist.cons _ ?_)))) (h p)
end
noncomputable def nthS (l : List Stmt) (i : Nat) : Stmt := match l[i]? with
  | some s => s
  | none => .Pass ⟨0, 0, 0, 0⟩
noncomputable def forB : Stmt → List Stmt
  | .For _ _ b _ _ => b
  | _ => []
noncomputable def ifT : Stmt → List Stmt
  | .If _ b _ _ => b
  | _ => []
noncomputable def ifE : Stmt → List Stmt
  | .If _ _ b _ => b
  | _ => []
noncomputable def whB : Stmt → List Stmt
  | .While _ b _ _ => b
  | _ => []
noncomputable def tokO : List Stmt := forB (nthS (bodyOf (inner 11 2)) 3)
noncomputable def tokQ : List Stmt := forB (nthS (ifT (nthS tokO 1)) 0)
noncomputable def tokB : List Stmt := forB (nthS (ifE (nthS tokO 1)) 2)
noncomputable def isWh (c : Nat) : Bool := c == 10 || c == 9 || c == 13 || c == 32
theorem wh_in : ∀ c, c < 128 → Txt.contains "\n\t\r " (chS c) = isWh c := by decide +kernel
theorem stS_snoc (t : List Nat) (c : Nat) : stS t ++ chS c = stS (t ++ [c]) := by
  show Str.mk (t.toArray ++ #[c]) = _
  unfold stS
  congr 1
  simp
theorem emp_ne (c : Nat) : (("" : Str) == chS c) = false := by
  rw [beq_eq_false_iff_ne]
  intro h
  have e : ("" : Str) = ⟨#[]⟩ := by decide +kernel
  rw [e] at h
  injection h with h
  have := congrArg Array.size h
  simp at this
inductive QT : List Nat → List Nat → List Nat → List Nat → Prop
  | close {r t : List Nat} : QT (34 :: r) t t r
  | esc {c : Nat} {r t t' r' : List Nat} : QT r (t ++ [c]) t' r' → QT (92 :: c :: r) t t' r'
  | plain {c : Nat} {r t t' r' : List Nat} : c ≠ 34 → c ≠ 92 → QT r (t ++ [c]) t' r' → QT (c :: r) t t' r'
inductive BT : List Nat → List Nat → List Nat → List Nat → Prop
  | white {c : Nat} {r t : List Nat} : c < 128 → isWh c = true → BT (c :: r) t t r
  | esc {c : Nat} {r t t' r' : List Nat} : BT r (t ++ [c]) t' r' → BT (92 :: c :: r) t t' r'
  | plain {c : Nat} {r t t' r' : List Nat} : c < 128 → isWh c = false → c ≠ 92 → BT r (t ++ [c]) t' r' → BT (c :: r) t t' r'
  | eof {t : List Nat} : BT [] t t []
inductive TT : List Nat → List Nat → List Nat → Prop
  | skip {c : Nat} {r t r' : List Nat} : c < 128 → isWh c = true → TT r t r' → TT (c :: r) t r'
  | quote {r t r' : List Nat} : QT r [] t r' → TT (34 :: r) t r'
  | esc {c : Nat} {r t r' : List Nat} : BT r [c] t r' → TT (92 :: c :: r) t r'
  | bare {c : Nat} {r t r' : List Nat} : c < 128 → isWh c = false → c ≠ 34 → c ≠ 92 → BT r [c] t r' → TT (c :: r) t r'
  | eof : TT [] [] []
noncomputable def nls (r : List Nat) : Nat := (r.map nl).sum
theorem nls_cons (c : Nat) (r : List Nat) : nls (c :: r) = nl c + nls r := by simp [nls]
section
variable {B : Base} {n : Nat} {env : Env} {hp hp' : Hp} {Φ : V → Hp → Prop} {Ψ : AF → Hp → Prop} {K : Frag} {mg mb : Str → Option Value} {H : Nat → List V → List Nat → Hp} {d p dh cs sg L it : Addr} {fdl : FuncData}
noncomputable abbrev tokFs (d it : Addr) (t : Str) (ch : Option V) : List (Str × Option V) := [("self", some (.inst 231 d)), ("token", some (.str t)), ("fiter", some (.mref it)), ("ch", ch)]
noncomputable abbrev tokIt (d : Addr) (b : Bool) : AObj := .it (.call (.meth (.fn fRead) (.inst 231 d)) (.str "") b)
theorem q_loop (W : Wd B K mg mb) (X : LexAt H d p dh cs sg fdl) {pb : List V} {tp : Pos} (E : EnvIs B W.T.GG env L (scopeOf (inner 11 2)).names [] []) {r t t' r' : List Nat} (q : QT r t t' r') :
    ∀ ln ch, r.length + t.length < 16777215 → (∀ ln' ch', ln' + nls r' = ln + nls r → Ψ (.ret (.str (stS t'))) ((it, tokIt d false) :: (L, .ns (tokFs d it (stS t') ch')) :: H ln' pb r')) →
      JF B (n + 1 + 1 + 1) env ((it, tokIt d false) :: (L, .ns (tokFs d it (stS t) ch)) :: H ln pb r) (.Name "ch" tp) it tokQ Ψ := by
  induction q with
  | close =>
    rename_i r t
    intro ln ch hz k
    refine JF.turn ?_
    refine JN.call (.head _) ?_
    refine JCc.call (JCc.meth (c_read1 W ((X.cons _).cons _) (by simp at hz; lia) ?_))
    refine ⟨_, rfl, fun _ => ⟨.head _, ?_⟩, fun e => absurd e (by rw [emp_ne]; decide)⟩
    conv in tokQ => whnf
    tb_start
    refine iteP (by decide +kernel) ?_
    tb_start
    exact k _ _ (by rw [nls_cons]; lia)
  | esc _ ih =>
    rename_i c r t t' r' _
    intro ln ch hz k
    refine JF.turn ?_
    refine JN.call (.head _) ?_
    refine JCc.call (JCc.meth (c_read1 W ((X.cons _).cons _) (by simp at hz ⊢; lia) ?_))
    refine ⟨_, rfl, fun _ => ⟨.head _, ?_⟩, fun e => absurd e (by rw [emp_ne]; decide)⟩
    conv in tokQ => whnf
    tb_start
    refine iteN (by decide +kernel) ?_
    tb_start
    refine iteP (by decide +kernel) ?_
    tb_start
    have hd := X.hd (ln + nl 92) pb (c :: r)
    tb_start
    refine JCc.call (c_read1 W ((X.cons _).cons _) (by simp at hz ⊢; lia) ?_)
    tb_start
    refine JInp.cat (by rw [stS_len]; simp [Str.length] at hz ⊢; lia) ?_
    rw [stS_snoc]
    tb_start
    exact ih _ _ (by simp at hz ⊢; lia) fun ln' ch' e => k ln' ch' (by rw [nls_cons, nls_cons]; lia)
  | plain h1 h2 _ ih =>
    rename_i c r t t' r' _
    intro ln ch hz k
    refine JF.turn ?_
    refine JN.call (.head _) ?_
    refine JCc.call (JCc.meth (c_read1 W ((X.cons _).cons _) (by simp at hz ⊢; lia) ?_))
    refine ⟨_, rfl, fun _ => ⟨.head _, ?_⟩, fun e => absurd e (by rw [emp_ne]; decide)⟩
    conv in tokQ => whnf
    tb_start
    refine iteN (by rw [chS_beq c 34 "\"" (by decide +kernel)]; simpa using h1) ?_
    tb_start
    refine iteN (by rw [chS_beq c 92 "\\" (by decide +kernel)]; simpa using h2) ?_
    tb_start
    refine JInp.cat (by rw [stS_len]; simp [Str.length] at hz ⊢; lia) ?_
    rw [stS_snoc]
    tb_start
    exact ih _ _ (by simp at hz ⊢; lia) fun ln' ch' e => k ln' ch' (by rw [nls_cons]; lia)
theorem b_loop (W : Wd B K mg mb) (X : LexAt H d p dh cs sg fdl) {pb : List V} {tp : Pos} (E : EnvIs B W.T.GG env L (scopeOf (inner 11 2)).names [] []) {r t t' r' : List Nat} (q : BT r t t' r') :
    ∀ ln ch, r.length + t.length < 16777215 → (∀ ln' ch', ln' + nls r' = ln + nls r → Ψ (.ret (.str (stS t'))) ((it, tokIt d false) :: (L, .ns (tokFs d it (stS t') ch')) :: H ln' pb r')) →
      (∀ ln' ch', ln' + nls r' = ln + nls r → r' = [] → Ψ .next ((it, tokIt d true) :: (L, .ns (tokFs d it (stS t') ch')) :: H ln' pb r')) →
      JF B (n + 1 + 1 + 1) env ((it, tokIt d false) :: (L, .ns (tokFs d it (stS t) ch)) :: H ln pb r) (.Name "ch" tp) it tokB Ψ := by
  induction q with
  | white hc hw =>
    rename_i c r t
    intro ln ch hz k k'
    refine JF.turn ?_
    refine JN.call (.head _) ?_
    refine JCc.call (JCc.meth (c_read1 W ((X.cons _).cons _) (by simp at hz; lia) ?_))
    refine ⟨_, rfl, fun _ => ⟨.head _, ?_⟩, fun e => absurd e (by rw [emp_ne]; decide)⟩
    have hd := X.hd (ln + nl c) pb r
    conv in tokB => whnf
    tb_start
    refine iteP (by rw [wh_in c hc]; exact hw) ?_
    tb_start
    exact k _ _ (by rw [nls_cons]; lia)
  | esc _ ih =>
    rename_i c r t t' r' _
    intro ln ch hz k k'
    refine JF.turn ?_
    refine JN.call (.head _) ?_
    refine JCc.call (JCc.meth (c_read1 W ((X.cons _).cons _) (by simp at hz ⊢; lia) ?_))
    refine ⟨_, rfl, fun _ => ⟨.head _, ?_⟩, fun e => absurd e (by rw [emp_ne]; decide)⟩
    have hd := X.hd (ln + nl 92) pb (c :: r)
    conv in tokB => whnf
    tb_start
    refine iteN (by decide +kernel) ?_
    tb_start
    refine iteP (by decide +kernel) ?_
    tb_start
    refine JCc.call (c_read1 W ((X.cons _).cons _) (by simp at hz ⊢; lia) ?_)
    tb_start
    refine JInp.cat (by rw [stS_len]; simp [Str.length] at hz ⊢; lia) ?_
    rw [stS_snoc]
    tb_start
    exact ih _ _ (by simp at hz ⊢; lia) (fun ln' ch' e => k ln' ch' (by rw [nls_cons, nls_cons]; lia)) fun ln' ch' e => k' ln' ch' (by rw [nls_cons, nls_cons]; lia)
  | plain h0 h1 h2 _ ih =>
    rename_i c r t t' r' _
    intro ln ch hz k k'
    refine JF.turn ?_
    refine JN.call (.head _) ?_
    refine JCc.call (JCc.meth (c_read1 W ((X.cons _).cons _) (by simp at hz ⊢; lia) ?_))
    refine ⟨_, rfl, fun _ => ⟨.head _, ?_⟩, fun e => absurd e (by rw [emp_ne]; decide)⟩
    have hd := X.hd (ln + nl c) pb r
    conv in tokB => whnf
    tb_start
    refine iteN (by rw [wh_in c h0]; exact h1) ?_
    tb_start
    refine iteN (by rw [chS_beq c 92 "\\" (by decide +kernel)]; simpa using h2) ?_
    tb_start
    refine JInp.cat (by rw [stS_len]; simp [Str.length] at hz ⊢; lia) ?_
    rw [stS_snoc]
    tb_start
    exact ih _ _ (by simp at hz ⊢; lia) (fun ln' ch' e => k ln' ch' (by rw [nls_cons]; lia)) fun ln' ch' e => k' ln' ch' (by rw [nls_cons]; lia)
  | eof =>
    rename_i t
    intro ln ch hz k k'
    refine JF.turn ?_
    refine JN.call (.head _) ?_
    refine JCc.call (JCc.meth (c_read0 W ((X.cons _).cons _) ?_))
    refine ⟨_, rfl, fun e => absurd e (by decide +kernel), fun _ => ⟨_, .head, ?_⟩⟩
    exact k' _ _ rfl rfl
theorem t_loop (W : Wd B K mg mb) (X : LexAt H d p dh cs sg fdl) {pb : List V} {tp : Pos} (E : EnvIs B W.T.GG env L (scopeOf (inner 11 2)).names [] []) {r t' r' : List Nat} (q : TT r t' r') :
    ∀ ln ch, r.length < 16777214 → (∀ ln' ch', ln' + nls r' = ln + nls r → Ψ (.ret (.str (stS t'))) ((it, tokIt d false) :: (L, .ns (tokFs d it (stS t') ch')) :: H ln' pb r')) →
      (∀ ln' ch', ln' + nls r' = ln + nls r → Ψ .next ((it, tokIt d true) :: (L, .ns (tokFs d it (stS t') ch')) :: H ln' pb r')) →
      JF B (n + 1 + 1 + 1) env ((it, tokIt d false) :: (L, .ns (tokFs d it "" ch)) :: H ln pb r) (.Name "ch" tp) it tokO Ψ := by
  induction q with
  | skip hc hw _ ih =>
    rename_i c r t r' _
    intro ln ch hz k k'
    refine JF.turn ?_
    refine JN.call (.head _) ?_
    refine JCc.call (JCc.meth (c_read1 W ((X.cons _).cons _) (by simp at hz; lia) ?_))
    refine ⟨_, rfl, fun _ => ⟨.head _, ?_⟩, fun e => absurd e (by rw [emp_ne]; decide)⟩
    have hd := X.hd (ln + nl c) pb r
    conv in tokO => whnf
    tb_start
    refine iteP (by rw [wh_in c hc]; exact hw) ?_
    tb_start
    exact ih _ _ (by simp at hz ⊢; lia) (fun ln' ch' e => k ln' ch' (by rw [nls_cons]; lia)) fun ln' ch' e => k' ln' ch' (by rw [nls_cons]; lia)
  | quote q =>
    rename_i r t r'
    intro ln ch hz k k'
    refine JF.turn ?_
    refine JN.call (.head _) ?_
    refine JCc.call (JCc.meth (c_read1 W ((X.cons _).cons _) (by simp at hz; lia) ?_))
    refine ⟨_, rfl, fun _ => ⟨.head _, ?_⟩, fun e => absurd e (by rw [emp_ne]; decide)⟩
    have hd := X.hd (ln + nl 34) pb r
    conv in tokO => whnf
    tb_start
    refine iteN (by decide +kernel) ?_
    tb_start
    refine iteP (by decide +kernel) ?_
    tb_start
    refine JI.call (.head _) ?_
    refine q_loop W X E q _ _ (by simp at hz ⊢; lia) fun ln' ch' e => ?_
    exact k _ _ (by rw [nls_cons]; lia)
  | esc q =>
    rename_i c r t r'
    intro ln ch hz k k'
    refine JF.turn ?_
    refine JN.call (.head _) ?_
    refine JCc.call (JCc.meth (c_read1 W ((X.cons _).cons _) (by simp at hz ⊢; lia) ?_))
    refine ⟨_, rfl, fun _ => ⟨.head _, ?_⟩, fun e => absurd e (by rw [emp_ne]; decide)⟩
    have hd := X.hd (ln + nl 92) pb (c :: r)
    conv in tokO => whnf
    tb_start
    refine iteN (by decide +kernel) ?_
    tb_start
    refine iteN (by decide +kernel) ?_
    tb_start
    refine iteP (by decide +kernel) ?_
    tb_start
    refine JCc.call (c_read1 W ((X.cons _).cons _) (by simp at hz ⊢; lia) ?_)
    tb_start
    refine JInp.cat (by show 0 + 1 ≤ 16777216; lia) ?_
    rw [show ("" : Str) ++ chS c = stS [c] from stS_snoc [] c]
    tb_start
    refine JI.call (.head _) ?_
    refine b_loop W X E q _ _ (by simp at hz ⊢; lia) (fun ln' ch' e => ?_) fun ln' ch' e e' => ?_
    · exact k _ _ (by rw [nls_cons, nls_cons]; lia)
    · subst e'
      tb_start
      refine JF.turn ?_
      refine JN.callEnded (.head _) ?_
      exact k' _ _ (by rw [nls_cons, nls_cons]; lia)
  | bare h0 h1 h2 h3 q =>
    rename_i c r t r'
    intro ln ch hz k k'
    refine JF.turn ?_
    refine JN.call (.head _) ?_
    refine JCc.call (JCc.meth (c_read1 W ((X.cons _).cons _) (by simp at hz ⊢; lia) ?_))
    refine ⟨_, rfl, fun _ => ⟨.head _, ?_⟩, fun e => absurd e (by rw [emp_ne]; decide)⟩
    have hd := X.hd (ln + nl c) pb r
    conv in tokO => whnf
    tb_start
    refine iteN (by rw [wh_in c h0]; exact h1) ?_
    tb_start
    refine iteN (by rw [chS_beq c 34 "\"" (by decide +kernel)]; simpa using h2) ?_
    tb_start
    refine iteN (by rw [chS_beq c 92 "\\" (by decide +kernel)]; simpa using h3) ?_
    tb_start
    refine JInp.cat (by show 0 + 1 ≤ 16777216; lia) ?_
    rw [show ("" : Str) ++ chS c = stS [c] from stS_snoc [] c]
    tb_start
    refine JI.call (.head _) ?_
    refine b_loop W X E q _ _ (by simp at hz ⊢; lia) (fun ln' ch' e => ?_) fun ln' ch' e e' => ?_
    · exact k _ _ (by rw [nls_cons]; lia)
    · subst e'
      tb_start
      refine JF.turn ?_
      refine JN.callEnded (.head _) ?_
      exact k' _ _ (by rw [nls_cons]; lia)
  | eof =>
    intro ln ch hz k k'
    refine JF.turn ?_
    refine JN.call (.head _) ?_
    refine JCc.call (JCc.meth (c_read0 W ((X.cons _).cons _) ?_))
    refine ⟨_, rfl, fun e => absurd e (by decide +kernel), fun _ => ⟨_, .head, ?_⟩⟩
    exact k' _ _ rfl
theorem c_tok (W : Wd B K mg mb) (X : LexAt H d p dh cs sg fdl) {ln : Nat} {r t r' : List Nat} (q : TT r t r') (hz : r.length < 16777214) (h : ∀ ln', ln' + nls r' = ln + nls r → Φ (.str (stS t)) (H ln' [] r')) : JCc B (n + 1 + 1 + 1 + 1) (H ln [] r) (.fn fTok) [.inst 231 d] [] Φ := by
  refine JCc.top W (by kernel_rfl) (by decide +kernel) (by kernel_rfl) ?_
  refine JBind.plain ["self"] (vs1 fun a => by kernel_rfl) rfl ?_
  refine top0 W (by kernel_rfl) [("self", some (.inst 231 d)), ("token", none), ("fiter", none), ("ch", none)] (by kernel_rfl) (fun env L E => ?_)
  conv in (bodyOf _) => whnf
  have hd := X.hd ln [] r
  have hp := X.hp ln [] r
  tb_start
  refine JTru.mref (by (lcg_off)) (by decide) ?_
  refine iteN rfl ?_
  tb_start
  refine JGa.obBound (f := 214) (fd := fRead) W (.inr rfl) (by decide) (by (lcg_off)) (by decide) (by (lcg_off)) rfl ?_
  tb_start
  refine JC.iter2 fun it => ?_
  tb_start
  refine JI.call (.head _) ?_
  refine t_loop W X E q _ _ hz (fun ln' ch' e => ?_) fun ln' ch' e => ?_
  · exact Back.ret (hp'' := H ln' [] r') (by (repeat (first | (with_reducible exact List.Sublist.refl _) | (with_reducible refine List.Sublist.cons_cons _ ?_) | (with_reducible refine List.Sublist.cons _ ?_)))) (h _ e)
  · tb_start
    exact Back.ret (hp'' := H ln' [] r') (by (repeat (first | (with_reducible exact List.Sublist.refl _) | (with_reducible refine List.Sublist.cons_cons _ ?_) | (with_reducible refine List.Sublist.cons _ ?_)))) (h _ e)
theorem c_tokP (W : Wd B K mg mb) (X : LexAt H d p dh cs sg fdl) {ln : Nat} {r : List Nat} {v : V} {pb : List V} (hz : pb.length < 16777214) (h : Φ v (H ln pb r)) : JCc B (n + 1) (H ln (v :: pb) r) (.fn fTok) [.inst 231 d] [] Φ := by
  refine JCc.top W (by kernel_rfl) (by decide +kernel) (by kernel_rfl) ?_
  refine JBind.plain ["self"] (vs1 fun a => by kernel_rfl) rfl ?_
  refine top0 W (by kernel_rfl) [("self", some (.inst 231 d)), ("token", none), ("fiter", none), ("ch", none)] (by kernel_rfl) (fun env L E => ?_)
  conv in (bodyOf _) => whnf
  have hd := X.hd ln (v :: pb) r
  have hp := X.hp ln (v :: pb) r
  tb_start
  refine JTru.mref (by (lcg_off)) (by simp; lia) ?_
  refine iteP rfl ?_
  tb_start
  refine JC.pop0 (.tail (X.up ln (v :: pb) pb r)) (by lia) ?_
  exact Back.ret (hp'' := H ln pb r) (by (repeat (first | (with_reducible exact List.Sublist.refl _) | (with_reducible refine List.Sublist.cons_cons _ ?_) | (with_reducible refine List.Sublist.cons _ ?_)))) h
end
section
variable {B : Base} {n : Nat} {env : Env} {hp hp' : Hp} {Φ : V → Hp → Prop} {Ψ : AF → Hp → Prop} {K : Frag} {mg mb : Str → Option Value}
noncomputable abbrev lexHp (d p dh ph cs sg : Addr) (fdl : FuncData) (ln : Nat) (pb : List V) (r : List Nat) (hp : Hp) : Hp := (p, .list pb) :: (d, .attrs (lexA p dh ln)) :: (ph, .list []) :: (dh, .attrs (holdA ph fdl)) :: (sg, .list (sgs r)) :: (cs, .cell (some (.mref sg))) :: hp
theorem chars_stS (x : List Nat) : chars (stS x) = x.map fun c => .str (chS c) := by simp [chars, stS]
noncomputable abbrev lexQ : Int × Int × Str := (234, 18, "_law_lexer" ++ ".<locals>." ++ "<lambda>")
theorem c_lexer (W : Wd B K mg mb) {x : List Nat} (hx : x.length ≤ 16777210) (U : Upd hp 261 (.tab none) (.tab (some lexQ)) hp')
    (h : ∀ d p dh ph cs sg fdl, (∃ q cl pm c ct, fdl = lamFd q cl pm c ct ∧ CloIs cl lamS.names [("signs", cs)]) → Φ (.inst 231 d) (lexHp d p dh ph cs sg fdl 1 [] x hp')) : JCc B (n + 1 + 1 + 1) hp (.fn fLexer) [.str (stS x)] [] Φ := by
  refine JCc.topc W (by kernel_rfl) (by decide +kernel) ?_
  refine JBind.plain ["text"] (vs1 fun a => by kernel_rfl) rfl ?_
  refine top1 W (by kernel_rfl) ([("text", some (.str (stS x))), ("holder", none)]) (fun L => [("signs", L + 1)]) (fun L => [(L + 1, .cell none)]) (by kernel_rfl) (fun L => by kernel_rfl) (fun L => by kernel_rfl) (fun env L E hcode hqual => ?_)
  conv in (bodyOf _) => whnf
  dsimp only [List.cons_append, List.nil_append]
  tb_start
  refine JC.listStr (by simpa [stS] using by omega) ?_
  tb_start
  refine ⟨NoPyItem.lst, JGi.lstSlM (.lst _) (by decide) (by simp [chars, stS]; omega) fun sg => ?_⟩
  rw [vpick_rev, chars_stS, ← List.map_reverse]
  tb_start
  refine ⟨JK.mk W (.inr rfl), JCc.call (JCc.mk W (.inr rfl) (by (lcg_off)) (by (lcg_off)) fun dh => c_ninit W fun ph => ⟨rfl, ?_⟩)⟩
  tb_start
  obtain ⟨hcd, hP⟩ := W.cd (265, 261) (by decide)
  have U2 : Upd hp 261 (.tab none) (.tab (some (234, 18, env.qual ++ "<lambda>"))) hp' := by rw [hqual]; exact U
  refine JE.lambda W.T rfl E (by kernel_rfl) hcode hcd hP (by rfl) (.inl (.tail (.tail (.tail (.tail (.tail U2)))))) fun cl pm c' ct hcl => ?_
  tb_start
  refine JSa.obNew W (.inr rfl) (by decide) rfl (.tail .head) (Nat.le_of_ble_eq_true rfl) ?_
  tb_start
  refine ⟨JK.mk W (.inr rfl), JCc.call (JCc.mk W (.inr rfl) (by (lcg_off)) (by (lcg_off)) fun d => c_ninit W fun p => ⟨rfl, ?_⟩)⟩
  exact Back.ret ((((((((List.Sublist.refl hp').cons_cons _).cons _).cons_cons _).cons_cons _).cons_cons _).cons_cons _).cons_cons _) (h d p dh ph (L + 1) sg _ ⟨env.qual ++ "<lambda>", cl, pm, c', ct, rfl, hcl⟩)
end
section
variable {B : Base} {n : Nat} {env : Env} {hp hp' : Hp} {Φ : V → Hp → Prop} {Ψ : AF → Hp → Prop} {K : Frag} {mg mb : Str → Option Value}
theorem c_ops (W : Wd B K mg mb) (h : Φ (.lst (opsL.map .str)) hp) : JCc B (n + 1) hp (.fn fOps) [] [] Φ := by
  refine JCc.top W (by kernel_rfl) (by decide +kernel) (by kernel_rfl) ?_
  refine JBind.plain [] (vs0 (by kernel_rfl)) rfl ?_
  refine top0 W (by kernel_rfl) [] (by kernel_rfl) (fun env L E => ?_)
  conv in (bodyOf _) => whnf
  tb_start
  refine JC.split (by decide +kernel) (by decide +kernel) (by decide +kernel) ?_
  rw [show PySem.wordsOf "( ) [ ] : , ; + - * / | & < > = . % { } == != <= >= ~ ^ << >> ** += -= *= /= %= &= |= ^= <<= >>= **= // //= @ @= -> ... := !" = opsL by decide +kernel]
  exact Back.ret (by (repeat (first | (with_reducible exact List.Sublist.refl _) | (with_reducible refine List.Sublist.cons_cons _ ?_) | (with_reducible refine List.Sublist.cons _ ?_)))) h
noncomputable def isTok (p : List Nat) : Bool := (KTD.datumAt (stS p) exD).isSome
noncomputable def cutOk (p : List Nat) : Bool := isTok p || p.length == 1
noncomputable def pieceOf (s : List Nat) : List Nat := if cutOk (s.take 3) then s.take 3 else if cutOk (s.take 2) then s.take 2 else s.take 1
noncomputable def abcdAt (x : Str) : List Nat := Builtin.Str.occurrences "abcd" x 0 (Str.length "abcd") 1
noncomputable def valOf (p : List Nat) : Int := match KTD.datumAt (stS p) exD with
  | some i => i
  | none => match abcdAt (Txt.lower (stS p)) with
    | i :: _ => 256 + (i : Int)
    | [] => 255
inductive Cut : List Nat → List Int → Prop
  | nil : Cut [] []
  | cons {s : List Nat} {vs : List Int} : s ≠ [] → Cut (s.drop (pieceOf s).length) vs → Cut s (valOf (pieceOf s) :: vs)
theorem pieceOf_pre (s : List Nat) : ∃ k, pieceOf s = s.take k ∧ k ≤ 3 ∧ 1 ≤ k := by
  unfold pieceOf
  split
  · exact ⟨3, rfl, by lia, by lia⟩
  · split
    · exact ⟨2, rfl, by lia, by lia⟩
    · exact ⟨1, rfl, by lia, by lia⟩
noncomputable def cutB : List Stmt := whB (nthS (bodyOf (stm 70)) 1)
noncomputable def cutT : Expr := match nthS (bodyOf (stm 70)) 1 with
  | .While t _ _ _ => t
  | _ => .Name "" ⟨0, 0, 0, 0⟩
theorem cut_loop (W : Wd B K mg mb) {env : Env} {L a : Addr} (E : EnvIs B W.T.GG env L (scopeOf (stm 70)).names [] []) {row : List Nat} (hz : row.length < 100000) (hasc : ∀ c ∈ row, c < 128) {s : List Nat} {vs : List Int} (q : Cut s vs) :
    ∀ (k : Nat) (pc : Option V) (done : List Int), row.drop k = s → k + s.length = row.length → done.length ≤ k → (∀ k' pc', Ψ .next ((a, .list ((done ++ vs).map .int)) :: (L, .ns [("row", some (.str (stS row))), ("told", some (.mref a)), ("k", some (.int ((k' : Nat) : Int))), ("piece", pc')]) :: hp)) →
      JW B (n + 1) env ((a, .list (done.map .int)) :: (L, .ns [("row", some (.str (stS row))), ("told", some (.mref a)), ("k", some (.int ((k : Nat) : Int))), ("piece", pc)]) :: hp) cutT cutB Ψ := by
  induction q with
  | nil =>
    intro k pc done hs hk hd h
    refine JW.turn ?_
    conv in cutT => whnf
    tb_start
    refine JC.lenStr (by rw [stS_len]; lia) ?_
    tb_start
    rw [stS_len]
    refine iteN (by simp at hk ⊢; lia) ?_
    have := h k pc
    rwa [List.append_nil] at this
  | cons hne _ ih =>
    rename_i s vs _
    intro k pc done hs hk hd h
    refine JW.turn ?_
    conv in cutT => whnf
    tb_start
    refine JC.lenStr (by rw [stS_len]; lia) ?_
    tb_start
    rw [stS_len]
    have hlen : 0 < s.length := List.length_pos_iff.mpr hne
    refine iteP (by simp; lia) ?_
    conv in cutB => whnf
    tb_start
    obtain ⟨c, s', rfl⟩ : ∃ c s', s = c :: s' := by
      cases s with
      | nil => exact absurd rfl hne
      | cons c s' => exact ⟨c, s', rfl⟩
    refine JE.comp (own' := fun _ => []) (out' := []) (fun C (t : Option V) => [(C, .ns [(".0", none), ("one", t)])]) none E (⟨⟨by kernel_rfl, by decide +kernel, by kernel_rfl⟩, by rfl, fun C => by kernel_rfl, fun C => by kernel_rfl, fun C t => ⟨_, _, .head⟩⟩) ?_
    refine JE.list ?_
    tb_start
    refine ⟨NoPyItem.str, JGi.strSl (by rw [stS_len]; lia) ?_⟩
    tb_start
    refine ⟨NoPyItem.str, JGi.strSl (by rw [stS_len]; lia) ?_⟩
    tb_start
    have hk0 : row[k]? = some c := by
      have := List.getElem?_drop (xs := row) (i := k) (j := 0)
      rw [hs] at this
      simpa using this.symm
    refine ⟨NoPyItem.str, JGi.str (by unfold fitsSsize; simp; lia) (item_at row k c hk0).2 ?_⟩
    rw [(item_at row k c hk0).1]
    have e3 : Txt.slice (stS row) (some (k : Int)) (some ((k : Int) + 3)) = stS ((c :: s').take 3) := by
      have := slice_mid row k (k + 3) (by lia)
      rw [List.drop_take, hs, show k + 3 - k = 3 by lia] at this
      exact this
    have e2 : Txt.slice (stS row) (some (k : Int)) (some ((k : Int) + 2)) = stS ((c :: s').take 2) := by
      have := slice_mid row k (k + 2) (by lia)
      rw [List.drop_take, hs, show k + 2 - k = 2 by lia] at this
      exact this
    rw [e3, e2]
    tb_start
    refine ⟨by show 3 ≤ 16777216; lia, ?_⟩
    refine JI.lst fun it => ?_
    refine CompIn.lst (ls := [(c :: s').take 3, (c :: s').take 2, [c]]) (fun p => .str (stS p)) (fun p => if cutOk p then some (.str (stS p)) else none) (by show 3 < 16777216; lia) (fun C acc env' E' i p t ys hp => ?_) ?_
    · have hpl : p.length ≤ 3 := by
        have := List.mem_of_getElem? hp
        simp only [List.mem_cons, List.not_mem_nil, or_false] at this
        rcases this with rfl | rfl | rfl <;> simp <;> lia
      dsimp only [List.cons_append, List.nil_append]
      tb_start
      refine JCmp.inTab W.T W.tab ?_
      tb_start
      cases q1 : (KTD.datumAt (stS p) exD).isSome with
      | true =>
        refine iteT ?_
        tb_start
        exact ⟨by unfold cutOk isTok; rw [q1]; rfl, _, rfl⟩
      | false =>
        refine iteF ?_
        tb_start
        refine JC.lenStr (by rw [stS_len]; lia) ?_
        tb_start
        rw [stS_len]
        cases q2 : ((p.length : Int) == 1) with
        | true =>
          have q3 : (p.length == 1) = true := by simp at q2 ⊢; lia
          tb_start
          exact ⟨by unfold cutOk isTok; rw [q1, q3]; rfl, _, rfl⟩
        | false =>
          have q3 : (p.length == 1) = false := by simp at q2 ⊢; lia
          tb_start
          exact ⟨by unfold cutOk isTok; rw [q1, q3]; rfl, _, rfl⟩
    · tb_start
      have hf : ([(c :: s').take 3, (c :: s').take 2, [c]].filterMap fun p => if cutOk p then some (V.str (stS p)) else none)[(0 : Int).toNat]? = some (.str (stS (pieceOf (c :: s')))) := by
        have c1 : cutOk [c] = true := by unfold cutOk; simp
        unfold pieceOf
        cases a1 : cutOk ((c :: s').take 3) with
        | true => simp only [List.filterMap_cons, a1, if_true]; rfl
        | false =>
          cases a2 : cutOk ((c :: s').take 2) with
          | true => simp only [List.filterMap_cons, a1, a2, if_true, Bool.false_eq_true, if_false]; rfl
          | false => simp only [List.filterMap_cons, a1, a2, c1, if_true, Bool.false_eq_true, if_false]; rfl
      refine ⟨NoPyItem.lst, JGi.lst (.lst _) (by decide) (by decide) hf ?_⟩
      have hpm : ∀ x ∈ pieceOf (c :: s'), x < 128 := by
        obtain ⟨m, e, _, _⟩ := pieceOf_pre (c :: s')
        rw [e]
        intro x hx
        have := List.mem_of_mem_take hx
        rw [← hs] at this
        exact hasc x (List.mem_of_mem_drop this)
      have hpl : (pieceOf (c :: s')).length ≤ 3 ∧ 1 ≤ (pieceOf (c :: s')).length ∧ (pieceOf (c :: s')).length ≤ (c :: s').length := by
        obtain ⟨m, e, hm, hm1⟩ := pieceOf_pre (c :: s')
        rw [e, List.length_take]
        have : 1 ≤ (c :: s').length := by simp
        lia
      generalize pieceOf (c :: s') = p at *
      tb_start
      refine JCmp.inTab W.T W.tab ?_
      tb_start
      have fin : ∀ v, valOf p = v → JW B (n + 1) env ((a, .list ((done ++ [v]).map .int)) :: (L, .ns [("row", some (.str (stS row))), ("told", some (.mref a)), ("k", some (.int (((k + p.length : Nat)) : Int))), ("piece", some (.str (stS p)))]) :: hp) cutT cutB Ψ := by
        intro v hv
        refine ih (k + p.length) _ (done ++ [v]) (by rw [← List.drop_drop, hs]) (by rw [List.length_drop]; lia) (by simp; lia) fun k' pc' => ?_
        have := h k' pc'
        rw [hv] at this
        rw [List.append_assoc]
        exact this
      have hlow : (Txt.lower (stS p)).length ≤ 16777216 := by
        rw [lower_ascii p hpm, stS_len, List.length_map]; lia
      have hadd : ∀ v, (done.map V.int) ++ [.int v] = (done ++ [v]).map V.int := fun v => by simp
      cases q : KTD.datumAt (stS p) exD with
      | some i =>
        refine iteT ?_
        tb_start
        refine ⟨NoPyItem.tab W.T W.tab, JGi.tab W.T W.tab q ?_⟩
        tb_start
        refine JC.append (by simp; lia) .head ?_
        tb_start
        refine JC.lenStr (by rw [stS_len]; lia) ?_
        tb_start
        rw [stS_len, hadd]
        have := fin i (by unfold valOf; rw [q])
        rw [Int.natCast_add] at this
        exact this
      | none =>
        refine iteF ?_
        tb_start
        refine JC.lower hlow ?_
        tb_start
        cases q2 : abcdAt (Txt.lower (stS p)) with
        | nil =>
          refine iteN (by unfold Txt.contains; rw [show Builtin.Str.occurrences "abcd" (Txt.lower (stS p)) 0 (Str.length "abcd") 1 = [] from q2]; rfl) ?_
          tb_start
          refine JC.append (by simp; lia) .head ?_
          tb_start
          refine JC.lenStr (by rw [stS_len]; lia) ?_
          tb_start
          rw [stS_len, hadd]
          have := fin 255 (by unfold valOf; rw [q, q2])
          rw [Int.natCast_add] at this
          exact this
        | cons i rest =>
          refine iteP (by unfold Txt.contains; rw [show Builtin.Str.occurrences "abcd" (Txt.lower (stS p)) 0 (Str.length "abcd") 1 = i :: rest from q2]; rfl) ?_
          tb_start
          refine JC.lower hlow ?_
          tb_start
          refine JC.index (show Builtin.Str.occurrences "abcd" (Txt.lower (stS p)) 0 (Str.length "abcd") 1 = i :: rest from q2) ?_
          tb_start
          refine JC.append (by simp; lia) .head ?_
          tb_start
          refine JC.lenStr (by rw [stS_len]; lia) ?_
          tb_start
          rw [stS_len, hadd]
          have := fin (256 + (i : Int)) (by unfold valOf; rw [q, q2])
          rw [Int.natCast_add] at this
          exact this
theorem c_cut (W : Wd B K mg mb) {row : List Nat} {vs : List Int} (hz : row.length < 100000) (hasc : ∀ c ∈ row, c < 128) (q : Cut row vs) (h : Φ (.lst (vs.map .int)) hp) : JCc B (n + 1 + 1) hp (.fn fCut) [.str (stS row)] [] Φ := by
  refine JCc.top W (by kernel_rfl) (by decide +kernel) (by kernel_rfl) ?_
  refine JBind.plain ["row"] (vs1 fun a => by kernel_rfl) rfl ?_
  refine top0 W (by kernel_rfl) [("row", some (.str (stS row))), ("told", none), ("k", none), ("piece", none)] (by kernel_rfl) (fun env L E => ?_)
  conv in (bodyOf _) => whnf
  tb_start
  refine J1.assignSwap (names := ["told", "k"]) ?_ (by rfl) (swapped2 E (by kernel_rfl) (by kernel_rfl) (by decide +kernel) (by kernel_rfl) rfl (by kernel_rfl) (by kernel_rfl))
  tb_start
  refine JE.listM ?_
  tb_start
  refine ⟨by decide, fun a => ?_⟩
  tb_start
  refine ⟨by show 2 ≤ 16777216; lia, _, rfl, rfl, ?_⟩
  refine JAs.bind ?_
  tb_start
  refine JAs.bind ?_
  tb_start
  refine JAs.nil ?_
  tb_start
  refine cut_loop W E hz hasc q 0 none [] rfl (by simp) (by simp) fun k' pc' => ?_
  rw [List.nil_append]
  tb_start
  exact Back.freeze (hp'' := hp) (by (repeat (first | (with_reducible exact List.Sublist.refl _) | (with_reducible refine List.Sublist.cons_cons _ ?_) | (with_reducible refine List.Sublist.cons _ ?_)))) h
theorem foldl_snoc {α β : Type} (f : β → α → β) (z : β) (l : List α) (i : Nat) (x : α) (h : l[i]? = some x) : (l.take (i + 1)).foldl f z = f ((l.take i).foldl f z) x := by
  rw [List.take_add_one, h, List.foldl_append]; rfl
theorem get_map {α β : Type} {l : List α} {g : α → β} {i : Nat} {x : β} (h : (l.map g)[i]? = some x) : ∃ a, l[i]? = some a ∧ x = g a := by
  rw [List.getElem?_map] at h
  cases q : l[i]? with
  | none => rw [q] at h; cases h
  | some a => rw [q] at h; cases h; exact ⟨a, rfl, rfl⟩
noncomputable def orL (rows : List Nat) : Nat := rows.foldl (· ||| ·) 0
theorem c_over (W : Wd B K mg mb) {rows : List Nat} (h : Φ (natV (orL rows)) hp) : JCc B (n + 1) hp (.fn fOver) [.lst (rows.map natV)] [] Φ := by
  refine JCc.top W (by kernel_rfl) (by decide +kernel) (by kernel_rfl) ?_
  refine JBind.plain ["rows"] (vs1 fun a => by kernel_rfl) rfl ?_
  refine top0 W (by kernel_rfl) [("rows", some (.lst (rows.map natV))), ("told", none), ("row", none)] (by kernel_rfl) (fun env L E => ?_)
  conv in (bodyOf _) => whnf
  tb_start
  refine JI.lst fun it => ?_
  refine JF.run (I := fun i => [(it, .it (.lst (rows.map natV) i))]) (EE := []) (xs := rows.map natV) Src.lst (fun i r => ∃ x, r = (L, .ns [("rows", some (.lst (rows.map natV))), ("told", some (natV (orL (rows.take i)))), ("row", x)]) :: hp) (fun _ _ _ => trivial) (fun i x r hx hI => ?_) (fun r hI => ?_) _ 0 _ (Nat.zero_add _) ⟨none, rfl⟩
  · obtain ⟨x', rfl⟩ := hI
    obtain ⟨a, ha, rfl⟩ := get_map hx
    dsimp only [List.cons_append, List.nil_append]
    tb_start
    refine ⟨_, rfl, some (natV a), ?_⟩
    unfold orL
    rw [foldl_snoc _ _ _ _ _ ha]
  · obtain ⟨x', rfl⟩ := hI
    dsimp only [List.cons_append, List.nil_append]
    tb_start
    rw [List.length_map, List.take_length]
    exact Back.ret (by (repeat (first | (with_reducible exact List.Sublist.refl _) | (with_reducible refine List.Sublist.cons_cons _ ?_) | (with_reducible refine List.Sublist.cons _ ?_)))) h
end
section
variable {B : Base} {n : Nat} {env : Env} {hp hp' : Hp} {Φ : V → Hp → Prop} {Ψ : AF → Hp → Prop} {K : Frag} {mg mb : Str → Option Value}
theorem glued_nil (ps : List (List Nat)) : Builtin.Str.glued "" (ps.map stS) = stS ps.flatten := by
  have e0 : ("" : Str) = stS [] := by decide +kernel
  have key : ∀ (l : List (List Nat)) (a : List Nat), (l.map stS).foldl (fun acc p => acc ++ ("" : Str).cps ++ p.cps) a.toArray = (a ++ l.flatten).toArray := by
    intro l
    induction l with
    | nil => intro a; simp
    | cons p r ih =>
      intro a
      rw [List.map_cons, List.foldl_cons]
      have : a.toArray ++ ("" : Str).cps ++ (stS p).cps = (a ++ p).toArray := by rw [e0]; simp [stS]
      rw [this, ih]
      simp
  unfold Builtin.Str.glued
  cases ps with
  | nil => rfl
  | cons p r =>
    show (⟨(r.map stS).foldl _ (stS p).cps⟩ : Str) = _
    have := key r p
    rw [show (stS p).cps = p.toArray from rfl, this]
    rfl
noncomputable def esc0 (wh c : Nat) : List Nat := if c == 34 || c == 92 || (wh == 9 || wh == 10) then [92, c] else [c]
noncomputable def esc2 (c : Nat) : List Nat := if c == 32 || c == 9 || c == 13 || c == 10 || c == 92 then [92, c] else [c]
noncomputable def spellF (w : List Nat) (way wh : Nat) : List Nat := if way = 0 then 34 :: ((w.map (esc0 wh)).flatten ++ [34]) else if way = 1 then (w.map fun c => [92, c]).flatten ++ [wh] else (w.map esc2).flatten ++ [wh]
theorem in_esc0 : ∀ c, c < 128 → Txt.contains "\"\\" (chS c) = (c == 34 || c == 92) := by decide +kernel
theorem in_wh0 : ∀ c, c < 128 → Txt.contains "\t\n" (chS c) = (c == 9 || c == 10) := by decide +kernel
theorem in_esc2 : ∀ c, c < 128 → Txt.contains " \t\r\n\\" (chS c) = (c == 32 || c == 9 || c == 13 || c == 10 || c == 92) := by decide +kernel
theorem filterMap_some' {α β : Type} (f : α → β) : ∀ l : List α, (l.filterMap fun x => some (f x)) = l.map f
  | [] => rfl
  | x :: r => by rw [List.filterMap_cons, List.map_cons, filterMap_some' f r]
theorem join_size {ps : List (List Nat)} {k : Nat} (h : ∀ p ∈ ps, p.length ≤ 2) (hk : ps.length ≤ k) : ((ps.map stS).map (·.length)).sum + (ps.map stS).length * ("" : Str).length ≤ 2 * k := by
  have e0 : ("" : Str).length = 0 := by decide +kernel
  rw [e0, Nat.mul_zero, Nat.add_zero]
  have : ∀ l : List (List Nat), (∀ p ∈ l, p.length ≤ 2) → ((l.map stS).map (·.length)).sum ≤ 2 * l.length := by
    intro l
    induction l with
    | nil => intro _; simp
    | cons p r ih =>
      intro h
      have h1 := h p (.head _)
      have h2 := ih fun q hq => h q (.tail _ hq)
      simp only [List.map_cons, List.sum_cons, stS_len, List.length_cons] at h2 ⊢
      lia
  have := this ps h
  lia
theorem bs_app (c : Nat) : (("\\" : Str) ++ chS c) = stS [92, c] := by
  have e0 : ("\\" : Str) = stS [92] := by decide +kernel
  rw [e0]; exact stS_app [92] [c]
theorem q_app (l : List Nat) : (("\"" : Str) ++ stS l) = stS (34 :: l) := by
  have e0 : ("\"" : Str) = stS [34] := by decide +kernel
  rw [e0]; exact stS_app [34] l
theorem app_q (l : List Nat) : (stS (34 :: l) ++ ("\"" : Str)) = stS (34 :: (l ++ [34])) := by
  have e0 : ("\"" : Str) = stS [34] := by decide +kernel
  rw [e0]; exact stS_app (34 :: l) [34]
theorem map_strs (f : Nat → List Nat) (w : List Nat) : ((w.map f).map stS).map V.str = w.map fun c => V.str (stS (f c)) := by simp
theorem flat_size {f : Nat → List Nat} (w : List Nat) (h : ∀ c, (f c).length ≤ 2) {k : Nat} (hk : 2 * w.length ≤ k) : (w.map f).flatten.length ≤ k := by
  have : ∀ l : List Nat, (l.map f).flatten.length ≤ 2 * l.length := by
    intro l
    induction l with
    | nil => simp
    | cons c r ih =>
      have := h c
      simp only [List.map_cons, List.flatten_cons, List.length_append, List.length_cons]
      lia
  have := this w
  lia
theorem c_spell (W : Wd B K mg mb) {w : List Nat} {way wh : Nat} (hw : w.length < 1000) (hasc : ∀ c ∈ w, c < 128) (hway : way < 3) (hwh : wh < 128) (h : Φ (.str (stS (spellF w way wh))) hp) : JCc B (n + 1) hp (.fn fSpell) [.str (stS w), natV way, .str (chS wh)] [] Φ := by
  refine JCc.topc W (by kernel_rfl) (by decide +kernel) ?_
  refine JBind.plain ["word", "way", "white"] (vs3 fun a b c => by kernel_rfl) rfl ?_
  refine top1 W (by kernel_rfl) ([("word", some (.str (stS w))), ("way", some (natV way))]) (fun L => [("white", L + 1)]) (fun L => [(L + 1, .cell (some (.str (chS wh))))]) (by kernel_rfl) (fun L => by kernel_rfl) (fun L => by kernel_rfl) (fun env L E _ _ => ?_)
  conv in (bodyOf _) => whnf
  dsimp only [List.cons_append, List.nil_append]
  have hall : (stS w).cps.all (· < 128) = true := by
    rw [Array.all_eq_true_iff_forall_mem]
    intro c hc
    have := hasc c (by simpa [stS] using hc)
    simpa using this
  have hsz : (stS w).cps.size < 16777216 := by have := stS_len w; unfold Str.length at this; lia
  have hwl : (stS w).cps.toList = w := stS_toList w
  tb_start
  have hcase : way = 0 ∨ way = 1 ∨ way = 2 := by lia
  rcases hcase with rfl | rfl | rfl
  · refine iteP (by decide) ?_
    tb_start
    refine JE.comp (own' := fun _ => []) (out' := [("white", L + 1)]) (fun C (t : Option V) => [(C, .ns [(".0", none), ("one", t)])]) none E (⟨⟨by kernel_rfl, by decide +kernel, by kernel_rfl⟩, by rfl, fun C => by kernel_rfl, fun C => by kernel_rfl, fun C t => ⟨_, _, .head⟩⟩) ?_
    tb_start
    refine JI.str hall fun it => ?_
    refine CompIn.str (fun c => some (.str (stS (esc0 wh c)))) hsz (fun C acc env' E' i c t ys hc => ?_) ?_
    · dsimp only [List.cons_append, List.nil_append]
      have hca : c < 128 := hasc c (by rw [hwl] at hc; exact List.mem_of_getElem? hc)
      tb_start
      rw [in_esc0 c hca]
      cases q1 : (c == 34 || c == 92) with
      | true =>
        tb_start
        refine JBin.cat (by show 1 + 1 ≤ 16777216; lia) ?_
        rw [bs_app]
        exact ⟨by unfold esc0; rw [q1]; rfl, _, rfl⟩
      | false =>
        tb_start
        rw [in_wh0 wh hwh]
        cases q2 : (wh == 9 || wh == 10) with
        | true =>
          tb_start
          refine JBin.cat (by show 1 + 1 ≤ 16777216; lia) ?_
          rw [bs_app]
          exact ⟨by unfold esc0; rw [q1, q2]; rfl, _, rfl⟩
        | false =>
          tb_start
          exact ⟨by unfold esc0; rw [q1, q2]; rfl, _, rfl⟩
    · rw [hwl, filterMap_some', ← map_strs (esc0 wh) w]
      tb_start
      refine JC.join (.lst _) (Nat.le_trans (join_size (k := w.length) (fun p hp => ?_) (by simp)) (by lia)) ?_
      · obtain ⟨c, _, rfl⟩ := List.mem_map.mp hp
        unfold esc0; split <;> simp
      rw [glued_nil]
      have hl : (w.map (esc0 wh)).flatten.length ≤ 2000 := flat_size w (fun c => by unfold esc0; split <;> simp) (by lia)
      refine JBin.cat (by rw [stS_len]; show 1 + _ ≤ 16777216; lia) ?_
      tb_start
      rw [q_app]
      refine JBin.cat (by rw [stS_len, List.length_cons]; show _ + 1 + 1 ≤ 16777216; lia) ?_
      rw [app_q]
      exact Back.ret (by (repeat (first | (with_reducible exact List.Sublist.refl _) | (with_reducible refine List.Sublist.cons_cons _ ?_) | (with_reducible refine List.Sublist.cons _ ?_)))) h
  · refine iteN (by decide) ?_
    tb_start
    refine iteP (by decide) ?_
    tb_start
    refine JE.comp (own' := fun _ => []) (out' := [("white", L + 1)]) (fun C (t : Option V) => [(C, .ns [(".0", none), ("one", t)])]) none E (⟨⟨by kernel_rfl, by decide +kernel, by kernel_rfl⟩, by rfl, fun C => by kernel_rfl, fun C => by kernel_rfl, fun C t => ⟨_, _, .head⟩⟩) ?_
    tb_start
    refine JI.str hall fun it => ?_
    refine CompIn.str (fun c => some (.str (stS [92, c]))) hsz (fun C acc env' E' i c t ys hc => ?_) ?_
    · dsimp only [List.cons_append, List.nil_append]
      tb_start
      refine JBin.cat (by show 1 + 1 ≤ 16777216; lia) ?_
      rw [bs_app]
      first | exact ctEnd | exact ⟨rfl, _, rfl⟩
    · rw [hwl, filterMap_some', ← map_strs (fun c => [92, c]) w]
      tb_start
      refine JC.join (.lst _) (Nat.le_trans (join_size (k := w.length) (fun p hp => ?_) (by simp)) (by lia)) ?_
      · obtain ⟨c, _, rfl⟩ := List.mem_map.mp hp
        simp
      rw [glued_nil]
      have hl : (w.map fun c => [92, c]).flatten.length ≤ 2000 := flat_size w (fun c => by simp) (by lia)
      tb_start
      refine JBin.cat (by rw [stS_len]; show _ + 1 ≤ 16777216; lia) ?_
      rw [stS_snoc]
      exact Back.ret (by (repeat (first | (with_reducible exact List.Sublist.refl _) | (with_reducible refine List.Sublist.cons_cons _ ?_) | (with_reducible refine List.Sublist.cons _ ?_)))) h
  · refine iteN (by decide) ?_
    tb_start
    refine iteN (by decide) ?_
    tb_start
    refine JE.comp (own' := fun _ => []) (out' := [("white", L + 1)]) (fun C (t : Option V) => [(C, .ns [(".0", none), ("one", t)])]) none E (⟨⟨by kernel_rfl, by decide +kernel, by kernel_rfl⟩, by rfl, fun C => by kernel_rfl, fun C => by kernel_rfl, fun C t => ⟨_, _, .head⟩⟩) ?_
    tb_start
    refine JI.str hall fun it => ?_
    refine CompIn.str (fun c => some (.str (stS (esc2 c)))) hsz (fun C acc env' E' i c t ys hc => ?_) ?_
    · dsimp only [List.cons_append, List.nil_append]
      have hca : c < 128 := hasc c (by rw [hwl] at hc; exact List.mem_of_getElem? hc)
      tb_start
      rw [in_esc2 c hca]
      cases q1 : (c == 32 || c == 9 || c == 13 || c == 10 || c == 92) with
      | true =>
        tb_start
        refine JBin.cat (by show 1 + 1 ≤ 16777216; lia) ?_
        rw [bs_app]
        exact ⟨by unfold esc2; rw [q1]; rfl, _, rfl⟩
      | false =>
        tb_start
        exact ⟨by unfold esc2; rw [q1]; rfl, _, rfl⟩
    · rw [hwl, filterMap_some', ← map_strs esc2 w]
      tb_start
      refine JC.join (.lst _) (Nat.le_trans (join_size (k := w.length) (fun p hp => ?_) (by simp)) (by lia)) ?_
      · obtain ⟨c, _, rfl⟩ := List.mem_map.mp hp
        unfold esc2; split <;> simp
      rw [glued_nil]
      have hl : (w.map esc2).flatten.length ≤ 2000 := flat_size w (fun c => by unfold esc2; split <;> simp) (by lia)
      tb_start
      refine JBin.cat (by rw [stS_len]; show _ + 1 ≤ 16777216; lia) ?_
      rw [stS_snoc]
      exact Back.ret (by (repeat (first | (with_reducible exact List.Sublist.refl _) | (with_reducible refine List.Sublist.cons_cons _ ?_) | (with_reducible refine List.Sublist.cons _ ?_)))) h
end
section
variable {B : Base} {n : Nat} {env : Env} {hp hp' : Hp} {Φ : V → Hp → Prop} {Ψ : AF → Hp → Prop} {Υ : Hp → Prop} {K : Frag} {mg mb : Str → Option Value}
theorem JSi.nat {l : Addr} {rows : List Nat} {x y : Nat} (hx : x < rows.length) (hs : rows.length < 1000000) (U : Upd hp l (.list (rows.map natV)) (.list ((rows.set x y).map natV)) hp') (h : Υ hp') : JSi B n hp (.mref l) (natV x) (natV y) Υ := by
  refine JSi.list (xs := rows.map natV) (Int.natCast_nonneg x) (by rw [List.length_map]; lia) (by lia) ?_ h
  rw [Int.toNat_natCast, ← List.map_set]; exact U
theorem JI.compOf {τ α : Type} {G : Globs B} {names : List (Str × NameKind)} {own' : Addr → List (Str × Addr)} {out' : List (Str × Addr)} {T : Addr → τ → Hp} {target elt : Expr} {ifs : List Expr} {F : List V → Hp → Prop} (ls : List α) (g : α → V) (f : α → Option V) {r₀ : Hp} {v : V} (hv : LstOf r₀ v (ls.map g)) (hlen : ls.length < 16777216)
    (turn : ∀ C acc env' e, EnvIs B G env' C names (own' C) out' → ∀ (i : Nat) (a : α) (t : τ) (ys : List V), ls[i]? = some a → CTurn B n env' target ifs elt (g a) (T C t ++ ((acc, .list ys) :: (e :: r₀))) (ctK T C acc ys (e :: r₀) (f a)))
    (fin : F (ls.filterMap f) r₀) : JI B n r₀ v fun it hp₂ => CompIn B n G names own' out' T target ifs elt it hp₂ F := by
  generalize hx : ls.map g = xs at hv
  cases hv with
  | lst =>
    subst hx
    exact JI.lst fun it => CompIn.lst ls g f hlen (fun C acc env' E' i a t ys h => turn C acc env' _ E' i a t ys h) fin
  | mref hm =>
    subst hx
    exact JI.mlst hm fun it => CompIn.mlst ls g f hm hlen (fun C acc env' E' i a t ys h => turn C acc env' _ E' i a t ys h) fin
theorem JI.rngN {k : Nat} {Ω : Addr → Hp → Prop} (hk : k < 1000000) (h : ∀ it, Ω it ((it, .it (.rng 0 k 1)) :: hp)) : JI B n hp (.rng 0 (k : Int) 1) Ω := by
  have e : Builtin.Range.rangeSize 0 (k : Int) 1 = (k : Int) := by
    unfold Builtin.Range.rangeSize
    simp only [show (1 : Int) > 0 by lia, if_true]
    split <;> lia
  refine JI.rng ?_ fun it => ?_
  · unfold Builtin.Range.small
    have hf : ∀ i : Int, -2000000 ≤ i → i ≤ 2000000 → Builtin.Range.rangeFitsLong i = true := fun i h1 h2 => by
      unfold Builtin.Range.rangeFitsLong
      rw [Bool.and_eq_true, decide_eq_true_eq, decide_eq_true_eq]; lia
    rw [hf 0 (by lia) (by lia), hf k (by lia) (by lia), hf 1 (by lia) (by lia), if_pos (by decide), hf (k + (1 - 1)) (by lia) (by lia), Bool.or_true, e, hf k (by lia) (by lia)]
    rfl
  · rw [e]; exact h it
noncomputable abbrev rgK2 (Ψ : AF → Hp → Prop) (it : Addr) (k : Nat) (Inv : Nat → Hp → Prop) (i : Nat) (f : AF) (hp₃ : Hp) : Prop := match f with
      | .next => ∃ r', hp₃ = (it, .it (.rng ((i + 1 : Nat) : Int) (k - (i + 1 : Nat)) 1)) :: r' ∧ Inv (i + 1) r'
      | .cont => ∃ r', hp₃ = (it, .it (.rng ((i + 1 : Nat) : Int) (k - (i + 1 : Nat)) 1)) :: r' ∧ Inv (i + 1) r'
      | .brk => Ψ .next hp₃
      | .ret v => Ψ (.ret v) hp₃
noncomputable abbrev rgK1 (B : Base) (n : Nat) (env : Env) (Ψ : AF → Hp → Prop) (it : Addr) (k : Nat) (Inv : Nat → Hp → Prop) (body : List Stmt) (i : Nat) (hp₂ : Hp) : Prop := JS B n env hp₂ body (rgK2 Ψ it k Inv i)
theorem JF.range {it : Addr} {k : Nat} {target : Expr} {body : List Stmt} (Inv : Nat → Hp → Prop)
    (turn : ∀ i r, i < k → Inv i r → JA B n env ((it, .it (.rng ((i + 1 : Nat) : Int) (k - (i + 1 : Nat)) 1)) :: r) target (natV i) (rgK1 B n env Ψ it k Inv body i))
    (fin : ∀ r, Inv k r → Ψ .next r) {r : Hp} (h0 : Inv 0 r) : JF B n env ((it, .it (.rng 0 k 1)) :: r) target it body Ψ := by
  have hlen : (rngVals 0 k).length = k := by simp [rngVals]
  have := JF.run (B := B) (n := n) (env := env) (Ψ := Ψ) (body := body) (Src.rng (B := B) (n := n) (t := target) (it := it) (a := 0) (k := k)) Inv (fun _ _ _ => trivial) (fun i x r hx hI => ?_) (fun r hr => fin r (hlen ▸ hr)) k 0 r (by rw [hlen]; lia) h0
  · simpa using this
  · obtain ⟨j, hj, rfl⟩ := get_map hx
    have hi : i < k := by
      have := (List.getElem?_eq_some_iff.mp hj).1
      simpa using this
    rw [List.getElem?_range hi] at hj
    cases hj
    have := turn i r hi hI
    simp only [Int.zero_add]
    exact this
theorem CompIn.rng0 {τ : Type} {G : Globs B} {names : List (Str × NameKind)} {own' : Addr → List (Str × Addr)} {out' : List (Str × Addr)} {T : Addr → τ → Hp} {target elt : Expr} {ifs : List Expr} {F : List V → Hp → Prop} {it : Addr} {k : Nat} (f : Nat → Option V) {r₀ : Hp} (hlen : k < 16777216)
    (turn : ∀ C acc env' e, EnvIs B G env' C names (own' C) out' → ∀ (i : Nat) (t : τ) (ys : List V), i < k → CTurn B n env' target ifs elt (natV i) (T C t ++ ((acc, .list ys) :: (e :: r₀))) (ctK T C acc ys (e :: r₀) (f i)))
    (fin : F ((List.range k).filterMap f) r₀) : CompIn B n G names own' out' T target ifs elt it ((it, .it (.rng 0 k 1)) :: r₀) F :=
  CompIn.rng f hlen (fun C acc env' E' i t ys hi => by rw [Int.zero_add]; exact turn C acc env' _ E' i t ys hi) fin
noncomputable def setB (rows : List Nat) (p : Nat × Nat) : List Nat := rows.set p.1 (rows.getD p.1 0 ||| 2 ^ p.2)
noncomputable def nearA (arrows : List (Nat × Nat)) : List Nat := arrows.foldl setB [1, 2, 4, 8]
noncomputable def midS (rows : List Nat) (m : Nat) : List Nat := rows.map fun r => if r.testBit m then r ||| rows.getD m 0 else r
noncomputable def nearF (arrows : List (Nat × Nat)) : List Nat := (List.range 4).foldl midS (nearA arrows)
theorem setB_len (rows : List Nat) (p : Nat × Nat) : (setB rows p).length = rows.length := by simp [setB]
theorem midS_len (rows : List Nat) (m : Nat) : (midS rows m).length = rows.length := by simp [midS]
theorem nearA_len (arrows : List (Nat × Nat)) : (nearA arrows).length = 4 := by
  unfold nearA
  have : ∀ (l : List (Nat × Nat)) (r : List Nat), (l.foldl setB r).length = r.length := by
    intro l
    induction l with
    | nil => intro r; rfl
    | cons p l ih => intro r; rw [List.foldl_cons, ih, setB_len]
  rw [this]; rfl
theorem fold_midS_len (l : List Nat) (r : List Nat) : (l.foldl midS r).length = r.length := by
  induction l generalizing r with
  | nil => rfl
  | cons p l ih => rw [List.foldl_cons, ih, midS_len]
theorem bit_test (r m : Nat) : (((r / 2 ^ m &&& 1 : Nat) : Int) != 0) = r.testBit m := by
  unfold Nat.testBit
  rw [Nat.shiftRight_eq_div_pow, Nat.and_comm]
  rw [Bool.eq_iff_iff, bne_iff_ne, bne_iff_ne]
  lia
noncomputable abbrev arrV (arrows : List (Nat × Nat)) : List V := arrows.map fun p => .tup [natV p.1, natV p.2]
theorem c_near (W : Wd B K mg mb) {arrows : List (Nat × Nat)} (ha : ∀ p ∈ arrows, p.1 < 4 ∧ p.2 < 4) (hz : arrows.length < 1000) (h : Φ (.lst ((nearF arrows).map natV)) hp) : JCc B (n + 1 + 1) hp (.fn fNear) [.lst (arrV arrows)] [] Φ := by
  refine JCc.topc W (by kernel_rfl) (by decide +kernel) ?_
  refine JBind.plain ["arrows"] (vs1 fun a => by kernel_rfl) rfl ?_
  refine top1 W (by kernel_rfl) ([("arrows", some (.lst (arrV arrows))), ("x", none), ("y", none)]) (fun L => [("middle", L + 1 + 1), ("near", L + 1)]) (fun L => [(L + 1 + 1, .cell none), (L + 1, .cell none)]) (by kernel_rfl) (fun L => by kernel_rfl) (fun L => by kernel_rfl) (fun env L E _ _ => ?_)
  conv in (bodyOf _) => whnf
  dsimp only [List.cons_append, List.nil_append]
  tb_start
  refine JE.listM ?_
  tb_start
  refine ⟨by show 4 ≤ 16777216; lia, fun a => ?_⟩
  tb_start
  refine JI.lst fun it => ?_
  refine JF.run (I := fun i => [(it, .it (.lst (arrV arrows) i))]) (EE := []) (xs := arrV arrows) Src.lst (fun i r => ∃ x y, r = (a, .list ((nearA (arrows.take i)).map natV)) :: (L, .ns [("arrows", some (.lst (arrV arrows))), ("x", x), ("y", y)]) :: (L + 1 + 1, .cell none) :: (L + 1, .cell (some (.mref a))) :: hp) (fun _ _ _ => trivial) (fun i x r hx hI => ?_) (fun r hI => ?_) _ 0 _ (Nat.zero_add _) ⟨none, none, rfl⟩
  · obtain ⟨x', y', rfl⟩ := hI
    obtain ⟨p, hp, rfl⟩ := get_map hx
    have hpb := ha p (List.mem_of_getElem? hp)
    have hlen := nearA_len (arrows.take i)
    dsimp only [List.cons_append, List.nil_append]
    tb_start
    refine JGi.nat (.mref (by (lcg_off))) (by lia) (by lia) ?_
    tb_start
    refine JBin.pow2 (by lia) ?_
    tb_start
    refine JSi.nat (rows := nearA (arrows.take i)) (by lia) (by lia) (by (tlg_ne)) ?_
    tb_start
    refine ⟨_, rfl, some (natV p.1), some (natV p.2), ?_⟩
    unfold nearA
    rw [foldl_snoc _ _ _ _ _ hp]
    rfl
  · obtain ⟨x', y', rfl⟩ := hI
    dsimp only [List.cons_append, List.nil_append]
    rw [List.length_map, List.take_length]
    tb_start
    refine JC.range1 ?_
    tb_start
    refine JI.rngN (k := 4) (by lia) fun it2 => ?_
    refine JF.range (k := 4) (fun i r => ∃ v mid, (i = 0 ∧ v = .mref a ∨ v = .lst (((List.range i).foldl midS (nearA arrows)).map natV)) ∧ r = (a, .list ((nearA arrows).map natV)) :: (L, .ns [("arrows", some (.lst (arrV arrows))), ("x", x'), ("y", y')]) :: (L + 1 + 1, .cell mid) :: (L + 1, .cell (some v)) :: hp) (fun i r hi hI => ?_) (fun r hI => ?_) ⟨.mref a, none, .inl ⟨rfl, rfl⟩, rfl⟩
    · obtain ⟨v, mid, hv', rfl⟩ := hI
      have hv : ∀ hq, (a, AObj.list ((nearA arrows).map natV)) ∈ hq → LstOf hq v (((List.range i).foldl midS (nearA arrows)).map natV) := by
        intro hq hm
        rcases hv' with ⟨rfl, rfl⟩ | rfl
        · exact .mref hm
        · exact .lst _
      try dsimp only [List.cons_append, List.nil_append]
      tb_start
      refine J1.assignC E (c := L + 1) (by (lcg_off)) ?_
      refine JE.comp (own' := fun _ => []) (out' := [("middle", L + 1 + 1), ("near", L + 1)]) (fun C (t : Option V) => [(C, .ns [(".0", none), ("row", t)])]) none E (⟨⟨by kernel_rfl, by decide +kernel, by kernel_rfl⟩, by rfl, fun C => by kernel_rfl, fun C => by kernel_rfl, fun C t => ⟨_, _, .head⟩⟩) ?_
      tb_start
      refine JI.compOf ((List.range i).foldl midS (nearA arrows)) natV (fun r => some (natV (if r.testBit i then r ||| ((List.range i).foldl midS (nearA arrows)).getD i 0 else r))) (hv _ (by (lcg_off))) (by rw [fold_midS_len, nearA_len]; lia) (fun C acc env' e E' j row t ys hj => ?_) ?_
      · dsimp only [List.cons_append, List.nil_append]
        tb_start
        rw [bit_test]
        cases q : row.testBit i with
        | true =>
          tb_start
          refine ⟨NoPyItem.nat (hv _ (by (lcg_off))), JGi.nat (hv _ (by (lcg_off))) (by rw [fold_midS_len, nearA_len]; lia) (by rw [fold_midS_len, nearA_len]; lia) ?_⟩
          tb_start
          first | exact ctEnd | exact ⟨rfl, _, rfl⟩
        | false => tb_start; first | exact ctEnd | exact ⟨rfl, _, rfl⟩
      · refine acEnd (by (tlg_ne)) ?_
        tb_start
        refine ⟨_, rfl, _, _, .inr ?_, rfl⟩
        rw [filterMap_some', List.range_succ, List.foldl_append]
        have : ((List.range i).foldl midS (nearA arrows)).map (fun r => natV (if r.testBit i then r ||| ((List.range i).foldl midS (nearA arrows)).getD i 0 else r)) = (midS ((List.range i).foldl midS (nearA arrows)) i).map natV := by
          unfold midS; rw [List.map_map]; rfl
        rw [this]
        rfl
    · obtain ⟨v, mid, hv, rfl⟩ := hI
      rcases hv with ⟨h4, _⟩ | rfl
      · exact absurd h4 (by decide)
      tb_start
      exact Back.ret (by (repeat (first | (with_reducible exact List.Sublist.refl _) | (with_reducible refine List.Sublist.cons_cons _ ?_) | (with_reducible refine List.Sublist.cons _ ?_)))) h
noncomputable def cloF (near : List Nat) (ch : Nat) : Nat := (((List.range 4).filter fun x => near.getD x 0 &&& ch == 0).map fun x => 2 ^ x).sum
noncomputable def imgS (near : List Nat) (ch : Nat) (one : Bool) : Nat := 15 - (if one then ch else cloF near ch)
noncomputable def imgF (near : List Nat) (word : List Bool) (ch : Nat) : Nat := word.foldl (imgS near) ch
noncomputable abbrev bitV (b : Bool) : V := .int (if b then 1 else 0)
theorem cloF_le (near : List Nat) (ch : Nat) : cloF near ch ≤ 15 := by
  unfold cloF
  have : ∀ p : Nat → Bool, (((List.range 4).filter p).map fun x => 2 ^ x).sum ≤ 15 := by
    intro p
    rw [show List.range 4 = [0, 1, 2, 3] from rfl]
    simp only [List.filter_cons, List.filter_nil]
    cases p 0 <;> cases p 1 <;> cases p 2 <;> cases p 3 <;> decide
  exact this _
theorem imgS_le (near : List Nat) (ch : Nat) (one : Bool) : imgS near ch one ≤ 15 := by unfold imgS; lia
theorem is_true (b : Bool) : (Value.bool b == Value.bool true) = b := by cases b <;> rfl
theorem sum_nats (l : List Nat) : (l.map fun (x : Nat) => (x : Int)).sum = ((l.sum : Nat) : Int) := by
  induction l with
  | nil => rfl
  | cons x r ih => rw [List.map_cons, List.sum_cons, List.sum_cons, ih]; push_cast; rfl
theorem filterMap_if {α β : Type} (p : α → Bool) (f : α → β) (l : List α) : (l.filterMap fun x => if p x then some (f x) else none) = (l.filter p).map f := by
  induction l with
  | nil => rfl
  | cons x r ih =>
    rw [List.filterMap_cons, List.filter_cons]
    cases p x
    · exact ih
    · show _ :: _ = _; rw [ih]; rfl
theorem c_image (W : Wd B K mg mb) {near : List Nat} {word : List Bool} {ch : Nat} (hn : near.length = 4) (hc : ch ≤ 15) (hz : word.length < 1000) (h : Φ (natV (imgF near word ch)) hp) : JCc B (n + 1 + 1) hp (.fn fImage) [.lst (near.map natV), .lst (word.map bitV), natV ch] [] Φ := by
  refine JCc.topc W (by kernel_rfl) (by decide +kernel) ?_
  refine JBind.plain ["near", "row", "chosen"] (vs3 fun a b c => by kernel_rfl) rfl ?_
  refine top1 W (by kernel_rfl) ([("row", some (.lst (word.map bitV))), ("one", none)]) (fun L => [("chosen", L + 1 + 1), ("near", L + 1)]) (fun L => [(L + 1 + 1, .cell (some (natV ch))), (L + 1, .cell (some (.lst (near.map natV))))]) (by kernel_rfl) (fun L => by kernel_rfl) (fun L => by kernel_rfl) (fun env L E _ _ => ?_)
  conv in (bodyOf _) => whnf
  dsimp only [List.cons_append, List.nil_append]
  tb_start
  refine JI.lst fun it => ?_
  refine JF.run (I := fun i => [(it, .it (.lst (word.map bitV) i))]) (EE := []) (xs := word.map bitV) Src.lst (fun i r => imgF near (word.take i) ch ≤ 15 ∧ ∃ x, r = (L, .ns [("row", some (.lst (word.map bitV))), ("one", x)]) :: (L + 1 + 1, .cell (some (natV (imgF near (word.take i) ch)))) :: (L + 1, .cell (some (.lst (near.map natV)))) :: hp) (fun _ _ _ => trivial) (fun i x r hx hI => ?_) (fun r hI => ?_) _ 0 _ (Nat.zero_add _) ⟨hc, none, rfl⟩
  · obtain ⟨hle, x', rfl⟩ := hI
    obtain ⟨one, ho, rfl⟩ := get_map hx
    have hnext : imgF near (word.take (i + 1)) ch = imgS near (imgF near (word.take i) ch) one := by
      unfold imgF; rw [foldl_snoc _ _ _ _ _ ho]
    (first | rw [hnext] | (delta rnK1; delta rnK2; dsimp only; rw [hnext]) | (delta rgK1; delta rgK2; dsimp only; rw [hnext]))
    generalize imgF near (word.take i) ch = c at *
    dsimp only [List.cons_append, List.nil_append]
    tb_start
    cases one with
    | true =>
      refine iteP (by decide) ?_
      tb_start
      have e : (15 : Int) - (c : Int) = ((imgS near c true : Nat) : Int) := by unfold imgS; simp; lia
      rw [e]
      exact ⟨_, rfl, imgS_le _ _ _, _, rfl⟩
    | false =>
      refine iteN (by decide) ?_
      tb_start
      refine JE.comp (own' := fun _ => []) (out' := [("chosen", L + 1 + 1), ("near", L + 1)]) (fun C (t : Option V) => [(C, .ns [(".0", none), ("x", t)])]) none E (⟨⟨by kernel_rfl, by decide +kernel, by kernel_rfl⟩, by rfl, fun C => by kernel_rfl, fun C => by kernel_rfl, fun C t => ⟨_, _, .head⟩⟩) ?_
      tb_start
      refine JC.range1 ?_
      tb_start
      refine JI.rngN (k := 4) (by lia) fun it2 => ?_
      refine CompIn.rng0 (k := 4) (fun x => if near.getD x 0 &&& c == 0 then some (natV (2 ^ x)) else none) (by lia) (fun C acc env' e E' j t ys hj => ?_) ?_
      · dsimp only [List.cons_append, List.nil_append]
        tb_start
        tb_start
        refine JCc.call (c_eof W ?_)
        tb_start
        refine JCmp.is rfl rfl rfl ?_
        rw [is_true]
        have eb : (((near.getD j 0 &&& c : Nat) : Int) == 0) = (near.getD j 0 &&& c == 0) := by
          rw [Bool.eq_iff_iff, beq_iff_eq, beq_iff_eq]; lia
        rw [eb]
        tb_start
        cases q : (near.getD j 0 &&& c == 0) with
        | true =>
          tb_start
          refine JBin.pow2 (by lia) ?_
          first | exact ctEnd | exact ⟨rfl, _, rfl⟩
        | false => exact iteF ⟨rfl, _, rfl⟩
      · rw [filterMap_if]
        have e2 : ((List.range 4).filter fun x => near.getD x 0 &&& c == 0).map (fun x => natV (2 ^ x)) = ((((List.range 4).filter fun x => near.getD x 0 &&& c == 0).map fun x => 2 ^ x).map fun x : Nat => (x : Int)).map V.int := by simp
        rw [e2]
        tb_start
        refine JC.sum (.lst _) ?_
        rw [sum_nats]
        tb_start
        have e : (15 : Int) - ((cloF near c : Nat) : Int) = ((imgS near c false : Nat) : Int) := by have := cloF_le near c; unfold imgS; simp; lia
        unfold cloF at e
        rw [e]
        exact ⟨_, rfl, imgS_le _ _ _, _, rfl⟩
  · obtain ⟨hle, x', rfl⟩ := hI
    dsimp only [List.cons_append, List.nil_append]
    rw [List.length_map, List.take_length]
    tb_start
    exact Back.ret (by (repeat (first | (with_reducible exact List.Sublist.refl _) | (with_reducible refine List.Sublist.cons_cons _ ?_) | (with_reducible refine List.Sublist.cons _ ?_)))) h
end
noncomputable def bitAt (near : List Nat) (x y : Nat) : Bool := (near.getD x 0).testBit y
noncomputable def lastF (near : List Nat) : List Nat := (List.range 4).filter fun x => ((List.range 4).filter fun y => bitAt near x y && near.getD y 0 != near.getD x 0).isEmpty
noncomputable def loneF (near : List Nat) : Bool := ((lastF near).filter fun x => near.getD x 0 != 2 ^ x).isEmpty
noncomputable def setLen (ns : List Int) : Nat := (firstMet (fun i => ns.getD i 0) ns.length).length
noncomputable def singleF (near : List Nat) : Bool := ((List.range 4).filter fun x => decide (1 < setLen (((lastF near).filter fun y => bitAt near x y).map fun y => ((near.getD y 0 : Nat) : Int)))).isEmpty
noncomputable def altF (size first : Nat) : List Bool := (List.range size).map fun k => (first + k) % 2 == 1
noncomputable def rowsL : List (List Bool) := [] :: ((List.range 7).map fun s => [altF (s + 1) 0, altF (s + 1) 1]).flatten
noncomputable def countF (near : List Nat) : Nat := if near = [1, 2, 4, 8] then 2 else if (lastF near).length = 4 then 6 else if loneF near || singleF near then 10 else 14
noncomputable def dueF (near : List Nat) : List (List Bool) := if loneF near && singleF near && decide ((lastF near).length < 4) then rowsL.take 8 else rowsL.take (countF near - 1) ++ [rowsL.getD (countF near) []]
noncomputable abbrev rowV (r : List Bool) : V := .lst (r.map bitV)
section
variable {B : Base} {n : Nat} {env : Env} {hp hp' : Hp} {Φ : V → Hp → Prop} {Ψ : AF → Hp → Prop} {Υ : Hp → Prop} {K : Frag} {mg mb : Str → Option Value}
theorem nat_ints (l : List Nat) : l.map natV = (l.map fun x : Nat => (x : Int)).map V.int := by simp
theorem isE {α : Type} [DecidableEq α] (l : List α) : decide (l = []) = l.isEmpty := by cases l <;> simp
theorem JCmp.eqNil {v : V} {ns : List Nat} (hl : LstOf hp v (ns.map natV)) (h : Φ (.bool ns.isEmpty) hp) : JCmp B n hp .Eq v (.lst []) Φ := by
  rw [nat_ints] at hl
  refine JCmp.eqInts hl (.lst (([] : List Int).map V.int)) ?_
  rw [isE]
  have : (ns.map fun x : Nat => (x : Int)).isEmpty = ns.isEmpty := by cases ns <;> rfl
  rw [this]; exact h
theorem natNe (a b : Nat) : ((a : Int) != (b : Int)) = (a != b) := by
  rw [Bool.eq_iff_iff, bne_iff_ne, bne_iff_ne]; lia
theorem JE.emptyL {pos : Pos} (h : Φ (.lst []) hp) : JE B n env hp (.List [] pos) Φ := by
  refine JE.list ?_
  refine JEs.nil ?_
  exact ⟨by decide, h⟩
theorem JCL.mono {e : Expr} {d : Nat} {it acc : Addr} {Υ' : Hp → Prop} (h : JCL B n env hp e d it acc Υ) (k : ∀ hp, Υ hp → Υ' hp) : JCL B n env hp e d it acc Υ' := fun A s R ok S q => h A s R ok S fun hp₁ s₁ S₁ L₁ u => q hp₁ s₁ S₁ L₁ (k _ u)
theorem JE.comp2 {G : Globs B} {L : Addr} {kinds : List (Str × NameKind)} {own out : List (Str × Addr)} {τ : Type} {elt t1 i1 t2 i2 : Expr} {scope : Scope} {pos : Pos} {own' : Addr → List (Str × Addr)} {out' : List (Str × Addr)} (T : Addr → τ → Hp) (t0 : τ) (E : EnvIs B G env L kinds own out) (hc : CompSt B G scope kinds own out T t0 own' out')
    (h : JE B n env hp i1 fun v hp₁ => JI B n hp₁ v fun it hp₂ => (∃ k, (it, AObj.it k) ∈ hp₂ ∧ k.plain) ∧ ∀ C acc env', EnvIs B G env' C scope.names (own' C) out' →
      JCL B n env' (T C t0 ++ ((acc, .list []) :: hp₂)) (.ListComp elt [⟨t1, i1, [], 0⟩, ⟨t2, i2, [], 0⟩] scope pos) 0 it acc fun hp₃ => ∃ t ys r, hp₃ = T C t ++ ((acc, .list ys) :: r) ∧ Φ (.lst ys) r)
    (hs : ∀ x, foldedSetIterable i1 env x = pure x := by intro _; rfl) : JE B n env hp (.ListComp elt [⟨t1, i1, [], 0⟩, ⟨t2, i2, [], 0⟩] scope pos) Φ := by
  refine JE.listComp E hc.ok ?_ hs
  refine h.mono fun v hp₁ h₁ => ?_
  intro A s y ok S r
  refine (h₁ A s y ok S r).mono fun it hp₂ h₂ => ?_
  obtain ⟨hk, h₂⟩ := h₂
  refine ⟨hk, fun C acc EE' => ?_⟩
  rw [compHp_app, hc.start]
  rw [hc.cells, hc.o] at EE'
  refine (h₂ C acc _ EE').mono fun hp₃ h₃ => ?_
  obtain ⟨t, ys, r, rfl, hΦ⟩ := h₃
  obtain ⟨fs, T', D⟩ := hc.del C t
  exact .frz (D.post _) (Del.pre .head T') (List.sublist_append_right T' _) hΦ
noncomputable def dueC : Expr := match nthS (bodyOf (stm 73)) 3 with
  | Stmt.Assign _ (Expr.BinOp _ _ c _) _ => c
  | _ => Expr.Name "" ⟨0, 0, 0, 0⟩
noncomputable def dueE : Expr := match dueC with
  | Expr.ListComp e _ _ _ => e
  | e => e
noncomputable def dueS : Scope := match dueC with
  | Expr.ListComp _ _ s _ => s
  | _ => default
theorem due_elt (W : Wd B K mg mb) {env' : Env} {C a1 a2 : Addr} (E' : EnvIs B W.T.GG env' C dueS.names [("first", C + 1)] [("last", a1), ("near", a2)]) {i f : Nat} (hi : i < 7) (hm : (C, AObj.ns [(".0", none), ("size", some (natV (i + 1)))]) ∈ hp) (hf : (C + 1, AObj.cell (some (natV f))) ∈ hp) (h : Φ (rowV (altF (i + 1) f)) hp) : JE B n env' hp dueE Φ := by
  conv in dueE => whnf
  refine JE.comp (own' := fun _ => []) (out' := [("first", C + 1), ("last", a1), ("near", a2)]) (fun C2 (t : Option V) => [(C2, .ns [(".0", none), ("k", t)])]) none E' (⟨⟨by kernel_rfl, by decide +kernel, by kernel_rfl⟩, by rfl, fun C => by kernel_rfl, fun C => by kernel_rfl, fun C t => ⟨_, _, .head⟩⟩) ?_
  tb_start
  refine JC.range1 ?_
  tb_start
  refine JI.rngN (k := i + 1) (by lia) fun it => ?_
  refine CompIn.rng0 (k := i + 1) (fun k => some (bitV ((f + k) % 2 == 1))) (by lia) (fun C2 acc2 env2 e2 E2 k t2 ys2 hk => ?_) ?_
  · dsimp only [List.cons_append, List.nil_append]
    tb_start
    refine JBin.mod (by decide) ?_
    have e : ((f : Int) + (k : Int)).fmod 2 = if ((f + k) % 2 == 1) = true then 1 else 0 := by
      have := fmod_nat (f + k) 2
      rw [Int.natCast_add] at this
      refine this.trans ?_
      by_cases q : (f + k) % 2 = 1
      · rw [if_pos (by simpa using q)]; lia
      · rw [if_neg (by simpa using q)]; lia
    rw [e]
    first | exact ctEnd | exact ⟨rfl, _, rfl⟩
  · rw [filterMap_some']
    have : (List.range (i + 1)).map (fun k => bitV ((f + k) % 2 == 1)) = (altF (i + 1) f).map bitV := by unfold altF; rw [List.map_map]; rfl
    rw [this]; exact h
theorem firstMet_le (val : Nat → Int) (i : Nat) : (firstMet val i).length ≤ i := by
  have : ∀ (l : List Int) (acc : List Int), (l.foldl step_dedup acc).length ≤ acc.length + l.length := by
    intro l
    induction l with
    | nil => intro acc; simp
    | cons x r ih =>
      intro acc
      rw [List.foldl_cons]
      refine Nat.le_trans (ih _) ?_
      unfold step_dedup
      split <;> simp <;> lia
  have := this ((List.range i).map val) []
  unfold firstMet
  simpa using this
noncomputable def ysF (i : Nat) : List V := ((List.range i).map fun s => [rowV (altF (s + 1) 0), rowV (altF (s + 1) 1)]).flatten
theorem ysF_succ (i : Nat) : ysF (i + 1) = ysF i ++ [rowV (altF (i + 1) 0)] ++ [rowV (altF (i + 1) 1)] := by
  unfold ysF
  rw [List.range_succ, List.map_append, List.flatten_append]
  simp
theorem ysF_len (i : Nat) : (ysF i).length = 2 * i := by
  induction i with
  | zero => rfl
  | succ i ih => rw [ysF_succ]; simp [ih]; lia
theorem due_loop (W : Wd B K mg mb) {env' : Env} {C a1 a2 acc it : Addr} (E' : EnvIs B W.T.GG env' C dueS.names [("first", C + 1)] [("last", a1), ("near", a2)]) {r : Hp} : ∀ (k i : Nat) (t1 t2 : Option V), i + k = 7 → (∀ t1 t2, Υ ((C, .ns [(".0", none), ("size", t1)]) :: (C + 1, .cell t2) :: (acc, .list (ysF 7)) :: r)) →
    JCL B (n + 1) env' ((C, .ns [(".0", none), ("size", t1)]) :: (C + 1, .cell t2) :: (acc, .list (ysF i)) :: (it, .it (.rng ((i + 1 : Nat) : Int) (7 - (i : Int)) 1)) :: r) dueC 0 it acc Υ := by
  intro k
  induction k with
  | zero =>
    intro i t1 t2 hi h
    have : i = 7 := by lia
    subst this
    refine JCL.turn2 ?_
    refine JN.rngEnd (by decide) (.tail (.tail (.tail .head))) ?_
    exact h _ _
  | succ k ih =>
    intro i t1 t2 hi h
    refine JCL.turn2 ?_
    refine JN.rng (by lia) (.tail (.tail (.tail .head))) ?_
    have e1 : ((i + 1 : Nat) : Int) + 1 = ((i + 1 + 1 : Nat) : Int) := by push_cast; lia
    have e2 : 7 - (i : Int) - 1 = 7 - ((i + 1 : Nat) : Int) := by push_cast; lia
    rw [e1, e2]
    tb_start
    refine JE.list ?_
    tb_start
    refine ⟨by decide, ?_⟩
    refine JI.lst fun it2 => ⟨⟨_, .head _, trivial⟩, ?_⟩
    have hl := ysF_len i
    refine JCL.turn1 ?_
    refine JN.lst (x := natV 0) rfl .head ?_
    tb_start
    refine due_elt W E' (f := 0) (i := i) (by lia) (by (lcg_off)) (by (lcg_off)) ?_
    refine ⟨ysF i, _, by (tlg_ne), by lia, ?_⟩
    refine JCL.turn1 ?_
    refine JN.lst (x := natV 1) rfl .head ?_
    tb_start
    refine due_elt W E' (f := 1) (i := i) (by lia) (by (lcg_off)) (by (lcg_off)) ?_
    refine ⟨ysF i ++ [rowV (altF (i + 1) 0)], _, by (tlg_ne), by simp; lia, ?_⟩
    rw [← ysF_succ]
    refine JCL.turn1 ?_
    refine JN.lstEnd rfl .head ?_
    exact ih (i + 1) _ _ (by lia) h
theorem rows_V : (rowsL.map rowV) = rowV [] :: ((List.range 7).map fun s => [rowV (altF (s + 1) 0), rowV (altF (s + 1) 1)]).flatten := by
  unfold rowsL
  rw [List.map_cons, List.map_flatten, List.map_map]; rfl
theorem rowsL_len : rowsL.length = 15 := by decide
noncomputable abbrev dueNs (near : List Nat) (L : Addr) (c : Option V) (hp : Hp) : Hp := (L, .ns [("lone", some (.bool (loneF near))), ("single", some (.bool (singleF near))), ("rows", some (.lst (rowsL.map rowV))), ("count", c)]) :: (L + 1 + 1, .cell (some (.lst ((lastF near).map natV)))) :: (L + 1, .cell (some (.lst (near.map natV)))) :: hp
theorem due_fin (W : Wd B K mg mb) {near : List Nat} {env : Env} {L : Addr} (E : EnvIs B W.T.GG env L (scopeOf (stm 73)).names [("last", L + 1 + 1), ("near", L + 1)] []) {c : Nat} (hc : countF near = c) (h1 : 1 ≤ c) (h2 : c < 15) (hcond : (loneF near && singleF near && decide ((lastF near).length < 4)) = false) (h : Φ (.lst ((dueF near).map rowV)) hp) :
    JS B (n + 1) env (dueNs near L (some (natV c)) hp) ((bodyOf (stm 73)).drop 6) (Back Φ) := by
  conv in (List.drop _ _) => whnf
  have hrl : (rowsL.map rowV).length = 15 := by rw [List.length_map, rowsL_len]
  tb_start
  refine ⟨NoPyItem.lst, JGi.lstSl (.lst _) (by decide) (by rw [hrl]; decide) ?_⟩
  have e1 : (c : Int) - 1 = ((c - 1 : Nat) : Int) := by lia
  rw [e1, vpick_to]
  refine JE.list ?_
  tb_start
  refine ⟨NoPyItem.lst, JGi.lst (x := rowV (rowsL.getD c [])) (.lst _) (Int.natCast_nonneg c) (by lia) ?_ ?_⟩
  · rw [Int.toNat_natCast, List.getElem?_map, List.getD_eq_getElem?_getD, List.getElem?_eq_getElem (by rw [rowsL_len]; exact h2)]; rfl
  tb_start
  refine ⟨by show 1 ≤ 16777216; lia, ?_⟩
  refine JBin.catL (.lst _) (.lst _) (by rw [List.length_take, hrl]; simp; lia) ?_
  have e2 : (rowsL.map rowV).take (c - 1) ++ [rowV (rowsL.getD c [])] = (dueF near).map rowV := by
    unfold dueF
    rw [hcond, hc]
    simp only [Bool.false_eq_true, if_false]
    rw [List.map_append, List.map_take]; rfl
  rw [e2]
  exact Back.ret (by (repeat (first | (with_reducible exact List.Sublist.refl _) | (with_reducible refine List.Sublist.cons_cons _ ?_) | (with_reducible refine List.Sublist.cons _ ?_)))) h
theorem due_tail (W : Wd B K mg mb) {near : List Nat} {env : Env} {L : Addr} (E : EnvIs B W.T.GG env L (scopeOf (stm 73)).names [("last", L + 1 + 1), ("near", L + 1)] []) (hcond : (loneF near && singleF near && decide ((lastF near).length < 4)) = false) (hlen : (lastF near).length ≤ 4) (h : Φ (.lst ((dueF near).map rowV)) hp) :
    JS B (n + 1) env (dueNs near L none hp) ((bodyOf (stm 73)).drop 5) (Back Φ) := by
  conv in (List.drop _ _) => whnf
  tb_start
  refine JE.list ?_
  tb_start
  refine ⟨by decide, ?_⟩
  refine JCmp.eqInts (ns := near.map fun x : Nat => (x : Int)) (ms := [1, 2, 4, 8]) (by rw [← nat_ints]; exact .lst _) (.lst _) ?_
  have e0 : decide ((near.map fun x : Nat => (x : Int)) = [1, 2, 4, 8]) = decide (near = [1, 2, 4, 8]) := by
    rw [Bool.eq_iff_iff, decide_eq_true_eq, decide_eq_true_eq]
    have := List.map_inj_right (f := fun x : Nat => (x : Int)) (fun a b h => Int.ofNat.inj h) (l := near) (l' := [1, 2, 4, 8])
    exact this
  rw [e0]
  tb_start
  by_cases q0 : near = [1, 2, 4, 8]
  · rw [decide_eq_true q0]
    (repeat (first | (with_reducible refine iteT ?_) | (with_reducible refine iteF ?_) | (with_reducible refine JAll.orNil ?_)))
    refine JE.cInt ?_
    refine JA.name ?_
    refine JSt.loc E (by kernel_rfl) (by (tlg_ne)) (by (ktu_offL)) ?_
    exact due_fin W E (c := 2) (by unfold countF; rw [if_pos q0]) (by lia) (by lia) hcond h
  · rw [decide_eq_false q0]
    tb_start
    refine JC.lenLst (.lst _) (by rw [List.length_map]; lia) ?_
    rw [List.length_map]
    tb_start
    by_cases q1 : (lastF near).length = 4
    · refine iteP (by rw [q1]; rfl) ?_
      (repeat (first | (with_reducible refine iteT ?_) | (with_reducible refine iteF ?_) | (with_reducible refine JAll.orNil ?_)))
      refine JE.cInt ?_
      refine JA.name ?_
      refine JSt.loc E (by kernel_rfl) (by (tlg_ne)) (by (ktu_offL)) ?_
      exact due_fin W E (c := 6) (by unfold countF; rw [if_neg q0, if_pos q1]) (by lia) (by lia) hcond h
    · refine iteN (by rw [beq_eq_false_iff_ne]; lia) ?_
      tb_start
      cases q2 : loneF near with
      | true =>
        (repeat (first | (with_reducible refine iteT ?_) | (with_reducible refine iteF ?_) | (with_reducible refine JAll.orNil ?_)))
        refine JE.cInt ?_
        refine JA.name ?_
        refine JSt.loc E (by kernel_rfl) (by (tlg_ne)) (by (ktu_offL)) ?_
        have := due_fin (n := n) W E (c := 10) (by unfold countF; rw [if_neg q0, if_neg q1, q2]; rfl) (by lia) (by lia) hcond h
        exact this
      | false =>
        tb_start
        cases q3 : singleF near with
        | true =>
          (repeat (first | (with_reducible refine iteT ?_) | (with_reducible refine iteF ?_) | (with_reducible refine JAll.orNil ?_)))
          refine JE.cInt ?_
          refine JA.name ?_
          refine JSt.loc E (by kernel_rfl) (by (tlg_ne)) (by (ktu_offL)) ?_
          have := due_fin (n := n) W E (c := 10) (by unfold countF; rw [if_neg q0, if_neg q1, q2, q3]; rfl) (by lia) (by lia) hcond h
          exact this
        | false =>
          (repeat (first | (with_reducible refine iteT ?_) | (with_reducible refine iteF ?_) | (with_reducible refine JAll.orNil ?_)))
          refine JE.cInt ?_
          refine JA.name ?_
          refine JSt.loc E (by kernel_rfl) (by (tlg_ne)) (by (ktu_offL)) ?_
          have := due_fin (n := n) W E (c := 14) (by unfold countF; rw [if_neg q0, if_neg q1, q2, q3]; rfl) (by lia) (by lia) hcond h
          exact this
theorem c_due (W : Wd B K mg mb) {near : List Nat} (hn : near.length = 4) (h : Φ (.lst ((dueF near).map rowV)) hp) : JCc B (n + 1 + 1) hp (.fn fDue) [.lst (near.map natV)] [] Φ := by
  refine JCc.topc W (by kernel_rfl) (by decide +kernel) ?_
  refine JBind.plain ["near"] (vs1 fun a => by kernel_rfl) rfl ?_
  refine top1 W (by kernel_rfl) ([("lone", none), ("single", none), ("rows", none), ("count", none)]) (fun L => [("last", L + 1 + 1), ("near", L + 1)]) (fun L => [(L + 1 + 1, .cell none), (L + 1, .cell (some (.lst (near.map natV))))]) (by kernel_rfl) (fun L => by kernel_rfl) (fun L => by kernel_rfl) (fun env L E _ _ => ?_)
  conv in (bodyOf _) => whnf
  dsimp only [List.cons_append, List.nil_append]
  tb_start
  refine J1.assignC E (c := L + 1 + 1) (by (lcg_off)) ?_
  refine JE.comp (own' := fun C => [("x", C + 1)]) (out' := [("last", L + 1 + 1), ("near", L + 1)]) (fun C (t : Option V) => [(C, .ns [(".0", none)]), (C + 1, .cell t)]) none E (⟨⟨by kernel_rfl, by decide +kernel, by kernel_rfl⟩, by rfl, fun C => by kernel_rfl, fun C => by kernel_rfl, fun C t => ⟨_, _, .head⟩⟩) ?_
  tb_start
  refine JC.range1 ?_
  tb_start
  refine JI.rngN (k := 4) (by lia) fun it => ?_
  refine CompIn.rng0 (k := 4) (fun x => if ((List.range 4).filter fun y => bitAt near x y && near.getD y 0 != near.getD x 0).isEmpty then some (natV x) else none) (by lia) (fun C acc env' e E' x t ys hx => ?_) ?_
  · dsimp only [List.cons_append, List.nil_append]
    tb_start
    refine JE.comp (own' := fun _ => []) (out' := [("x", C + 1), ("last", L + 1 + 1), ("near", L + 1)]) (fun C (t : Option V) => [(C, .ns [(".0", none), ("y", t)])]) none E' (⟨⟨by kernel_rfl, by decide +kernel, by kernel_rfl⟩, by rfl, fun C => by kernel_rfl, fun C => by kernel_rfl, fun C t => ⟨_, _, .head⟩⟩) ?_
    tb_start
    refine JC.range1 ?_
    tb_start
    refine JI.rngN (k := 4) (by lia) fun it2 => ?_
    refine CompIn.rng0 (k := 4) (fun y => if bitAt near x y && near.getD y 0 != near.getD x 0 then some (natV y) else none) (by lia) (fun C2 acc2 env2 e2 E2 y t2 ys2 hy => ?_) ?_
    · dsimp only [List.cons_append, List.nil_append]
      tb_start
      rw [bit_test]
      cases q1 : (near.getD x 0).testBit y with
      | false => tb_start; exact ⟨by unfold bitAt; rw [q1]; rfl, _, rfl⟩
      | true =>
        tb_start
        rw [natNe]
        cases q2 : (near.getD y 0 != near.getD x 0) with
        | false => tb_start; exact ⟨by unfold bitAt; rw [q1]; rfl, _, rfl⟩
        | true => tb_start; exact ⟨by unfold bitAt; rw [q1]; rfl, _, rfl⟩
    · rw [filterMap_if]
      tb_start
      refine JE.emptyL ?_
      refine JCmp.eqNil (.lst _) ?_
      tb_start
      cases q : ((List.range 4).filter fun y => bitAt near x y && near.getD y 0 != near.getD x 0).isEmpty with
      | true => tb_start; first | exact ctEnd | exact ⟨rfl, _, rfl⟩
      | false => tb_start; first | exact ctEnd | exact ⟨rfl, _, rfl⟩
  · rw [filterMap_if]
    have el : ((List.range 4).filter fun x => ((List.range 4).filter fun y => bitAt near x y && near.getD y 0 != near.getD x 0).isEmpty) = lastF near := rfl
    rw [el]
    have hll : ∀ x ∈ lastF near, x < 4 := fun x hx => by
      have := (List.mem_filter.mp hx).1
      simpa using this
    have hlen : (lastF near).length ≤ 4 := Nat.le_trans (List.length_filter_le _ _) (by simp)
    refine acEnd (by (tlg_ne)) ?_
    tb_start
    refine JE.comp (own' := fun _ => []) (out' := [("last", L + 1 + 1), ("near", L + 1)]) (fun C (t : Option V) => [(C, .ns [(".0", none), ("x", t)])]) none E (⟨⟨by kernel_rfl, by decide +kernel, by kernel_rfl⟩, by rfl, fun C => by kernel_rfl, fun C => by kernel_rfl, fun C t => ⟨_, _, .head⟩⟩) ?_
    tb_start
    refine JI.lst fun it2 => ?_
    refine CompIn.lst (lastF near) natV (fun x => if near.getD x 0 != 2 ^ x then some (natV x) else none) (by lia) (fun C acc env' E' i x t ys hx => ?_) ?_
    · have hx4 := hll x (List.mem_of_getElem? hx)
      dsimp only [List.cons_append, List.nil_append]
      tb_start
      refine JBin.pow2 (by lia) ?_
      tb_start
      rw [natNe]
      cases q : (near.getD x 0 != 2 ^ x) with
      | true => tb_start; first | exact ctEnd | exact ⟨rfl, _, rfl⟩
      | false => exact iteF ⟨rfl, _, rfl⟩
    · rw [filterMap_if]
      tb_start
      refine JE.emptyL ?_
      refine JCmp.eqNil (.lst _) ?_
      rw [show ((lastF near).filter fun x => near.getD x 0 != 2 ^ x).isEmpty = loneF near from rfl]
      tb_start
      refine JE.comp (own' := fun C => [("x", C + 1)]) (out' := [("last", L + 1 + 1), ("near", L + 1)]) (fun C (t : Option V) => [(C, .ns [(".0", none)]), (C + 1, .cell t)]) none E (⟨⟨by kernel_rfl, by decide +kernel, by kernel_rfl⟩, by rfl, fun C => by kernel_rfl, fun C => by kernel_rfl, fun C t => ⟨_, _, .head⟩⟩) ?_
      tb_start
      refine JC.range1 ?_
      tb_start
      refine JI.rngN (k := 4) (by lia) fun it3 => ?_
      refine CompIn.rng0 (k := 4) (fun x => if decide (1 < setLen (((lastF near).filter fun y => bitAt near x y).map fun y => ((near.getD y 0 : Nat) : Int))) then some (natV x) else none) (by lia) (fun C acc env' e E' x t ys hx => ?_) ?_
      · dsimp only [List.cons_append, List.nil_append]
        tb_start
        refine JE.comp (own' := fun _ => []) (out' := [("x", C + 1), ("last", L + 1 + 1), ("near", L + 1)]) (fun C (t : Option V) => [(C, .ns [(".0", none), ("y", t)])]) none E' (⟨⟨by kernel_rfl, by decide +kernel, by kernel_rfl⟩, by rfl, fun C => by kernel_rfl, fun C => by kernel_rfl, fun C t => ⟨_, _, .head⟩⟩) ?_
        tb_start
        refine JI.lst fun it4 => ?_
        refine CompIn.lst (lastF near) natV (fun y => if bitAt near x y then some (natV (near.getD y 0)) else none) (by lia) (fun C2 acc2 env2 E2 i y t2 ys2 hy => ?_) ?_
        · have hy4 := hll y (List.mem_of_getElem? hy)
          dsimp only [List.cons_append, List.nil_append]
          tb_start
          rw [bit_test]
          cases q1 : (near.getD x 0).testBit y with
          | false => refine iteF ⟨?_, _, rfl⟩; unfold bitAt; rw [q1]; rfl
          | true => tb_start; exact ⟨by unfold bitAt; rw [q1]; rfl, _, rfl⟩
        · rw [filterMap_if]
          have e5 : ((lastF near).filter fun y => bitAt near x y).map (fun y => natV (near.getD y 0)) = (((lastF near).filter fun y => bitAt near x y).map fun y => ((near.getD y 0 : Nat) : Int)).map V.int := by rw [List.map_map]; rfl
          rw [e5]
          have hsz : (((lastF near).filter fun y => bitAt near x y).map fun y => ((near.getD y 0 : Nat) : Int)).length ≤ 4 := by
            rw [List.length_map]; exact Nat.le_trans (List.length_filter_le _ _) hlen
          tb_start
          refine JC.setInts (.lst _) (by lia) ?_
          tb_start
          refine JC.lenSet ?_ ?_
          · refine Nat.le_trans (firstMet_le _ _) (by lia)
          tb_start
          have e6 : ∀ m : Nat, decide ((1 : Int) < (m : Int)) = decide (1 < m) := fun m => by
            rw [Bool.eq_iff_iff, decide_eq_true_eq, decide_eq_true_eq]; lia
          rw [e6]
          show if decide (1 < setLen (((lastF near).filter fun y => bitAt near x y).map fun y => ((near.getD y 0 : Nat) : Int))) = true then _ else _
          cases q : decide (1 < setLen (((lastF near).filter fun y => bitAt near x y).map fun y => ((near.getD y 0 : Nat) : Int))) with
          | true => tb_start; first | exact ctEnd | exact ⟨rfl, _, rfl⟩
          | false => exact iteF ⟨rfl, _, rfl⟩
      · rw [filterMap_if]
        tb_start
        refine JE.emptyL ?_
        refine JCmp.eqNil (.lst _) ?_
        rw [show ((List.range 4).filter fun x => decide (1 < setLen (((lastF near).filter fun y => bitAt near x y).map fun y => ((near.getD y 0 : Nat) : Int)))).isEmpty = singleF near from rfl]
        tb_start
        refine JE.list ?_
        tb_start
        refine JE.emptyL ?_
        tb_start
        refine ⟨by decide, ?_⟩
        refine JE.comp2 (own' := fun C => [("first", C + 1)]) (out' := [("last", L + 1 + 1), ("near", L + 1)]) (fun C (t : Option V × Option V) => [(C, .ns [(".0", none), ("size", t.1)]), (C + 1, .cell t.2)]) (none, none) E (⟨⟨by kernel_rfl, by decide +kernel, by kernel_rfl⟩, by rfl, fun C => by kernel_rfl, fun C => by kernel_rfl, fun C t => ⟨_, _, .head⟩⟩) ?_
        tb_start
        refine JC.range2 ?_
        tb_start
        refine JI.rng (by decide) fun it5 => ⟨⟨_, .head _, trivial⟩, fun C acc env' E' => ?_⟩
        rw [show Builtin.Range.rangeSize 1 8 1 = 7 by decide]
        refine due_loop W E' 7 0 none none rfl fun t1 t2 => ⟨(t1, t2), _, _, rfl, ?_⟩
        refine JBin.catL (.lst [V.lst []]) (.lst _) (by rw [ysF_len]; decide) ?_
        have er : [V.lst []] ++ ysF 7 = rowsL.map rowV := by rw [rows_V]; rfl
        rw [er]
        have hrl : (rowsL.map rowV).length = 15 := by rw [List.length_map]; decide
        tb_start
        have fin8 : ∀ k : Nat, (rowsL.map rowV).take k = (rowsL.take k).map rowV := fun k => by rw [List.map_take]
        cases q1 : loneF near with
        | false =>
          (repeat (first | (with_reducible refine iteT ?_) | (with_reducible refine iteF ?_) | (with_reducible refine JAll.andNil ?_)))
          refine JS.nil ?_
          have := due_tail (n := n) W E (by rw [q1]; rfl) hlen h
          unfold dueNs at this
          rw [q1] at this
          exact this
        | true =>
          tb_start
          cases q2 : singleF near with
          | false =>
            (repeat (first | (with_reducible refine iteT ?_) | (with_reducible refine iteF ?_) | (with_reducible refine JAll.andNil ?_)))
            refine JS.nil ?_
            have := due_tail (n := n) W E (by rw [q1, q2]; rfl) hlen h
            unfold dueNs at this
            rw [q1, q2] at this
            exact this
          | true =>
            tb_start
            refine JC.lenLst (.lst _) (by rw [List.length_map]; lia) ?_
            rw [List.length_map]
            tb_start
            by_cases q3 : (lastF near).length < 4
            · refine iteP (by rw [decide_eq_true_eq]; lia) ?_
              tb_start
              refine ⟨NoPyItem.lst, JGi.lstSl (.lst _) (by decide) (by rw [hrl]; decide) ?_⟩
              rw [show (8 : Int) = ((8 : Nat) : Int) from rfl, vpick_to, fin8]
              have : dueF near = rowsL.take 8 := by unfold dueF; rw [q1, q2, decide_eq_true q3]; rfl
              rw [this] at h
              exact Back.ret (by (repeat (first | (with_reducible exact List.Sublist.refl _) | (with_reducible refine List.Sublist.cons_cons _ ?_) | (with_reducible refine List.Sublist.cons _ ?_)))) h
            · refine iteN (by rw [decide_eq_false_iff_not]; lia) ?_
              (repeat (first | (with_reducible refine iteT ?_) | (with_reducible refine iteF ?_) | (with_reducible refine JAll.andNil ?_)))
              refine JS.nil ?_
              have := due_tail (n := n) W E (by rw [q1, q2, decide_eq_false q3]; rfl) hlen h
              unfold dueNs at this
              rw [q1, q2] at this
              exact this
end
noncomputable def innD : Stmt := nthS (bodyOf (stm 9)) 0
noncomputable def innI : Stmt := nthS (bodyOf (stm 8)) 1
noncomputable def innFd (s : Stmt) (q : Str) (cl : List (Str × Addr)) (doc pm c ct : Value) : FuncData := fnX "inner" q (paramsOf s) (bodyOf s) (scopeOf s) cl .none .none doc pm none c ct
noncomputable def valD (w : Nat) : List Nat → Nat
  | [] => 0
  | d :: r => d + 2 ^ w * valD w r
theorem valD_app (w : Nat) : ∀ a b : List Nat, valD w (a ++ b) = valD w a + 2 ^ (w * a.length) * valD w b
  | [], b => by simp [valD]
  | d :: a, b => by
    have ih := valD_app w a b
    have e1 : valD w (d :: a) = d + 2 ^ w * valD w a := rfl
    have e2 : valD w (d :: a ++ b) = d + 2 ^ w * valD w (a ++ b) := rfl
    have e3 : 2 ^ (w * (d :: a).length) = 2 ^ w * 2 ^ (w * a.length) := by
      rw [List.length_cons, Nat.mul_add, Nat.mul_one, Nat.pow_add, Nat.mul_comm]
    rw [e2, ih, e1, e3, Nat.mul_add, Nat.mul_assoc, Nat.add_assoc]
theorem valD_lt (w : Nat) : ∀ a : List Nat, (∀ d ∈ a, d < 2 ^ w) → valD w a < 2 ^ (w * a.length)
  | [], _ => by simp [valD]
  | d :: a, h => by
    have h1 := h d (.head _)
    have h2 := valD_lt w a fun x hx => h x (.tail _ hx)
    unfold valD
    rw [List.length_cons, Nat.mul_add, Nat.mul_one, Nat.pow_add, Nat.mul_comm (2 ^ (w * a.length))]
    have h3 : 2 ^ w * (valD w a + 1) ≤ 2 ^ w * 2 ^ (w * a.length) := Nat.mul_le_mul_left _ h2
    rw [Nat.mul_add] at h3
    lia
theorem bits_le {x k : Nat} (h : x < 2 ^ k) : Builtin.Int.intBits (x : Int) ≤ k := by
  unfold Builtin.Int.intBits
  split
  · lia
  · rename_i q
    have hx : x ≠ 0 := by simpa using q
    rw [Int.natAbs_natCast]
    have := (Nat.log2_lt hx).mpr h
    lia
section
variable {B : Base} {n : Nat} {env : Env} {hp hp' : Hp} {Φ : V → Hp → Prop} {Ψ : AF → Hp → Prop} {Υ : Hp → Prop} {K : Frag} {mg mb : Str → Option Value}
theorem JBin.mulN {a b : Nat} (ha : a < 2 ^ 60) (h : Φ (natV (a * b)) hp) : JBin B n hp .Mult (natV a) (natV b) Φ :=
  JBin.mul (IntMulOk.of_left (Nat.le_trans (bits_le ha) (by decide))) (by rw [← Int.natCast_mul]; exact h)
theorem JBin.shlN {a b k : Nat} (ha : a < 2 ^ k) (hb : k + b ≤ 100000) (h : Φ (natV (a * 2 ^ b)) hp) : JBin B n hp .LShift (natV a) (natV b) Φ := by
  refine JBin.shl (Int.natCast_nonneg b) ?_ ?_
  · have := bits_le ha
    lia
  · rw [shl_nat]; exact h
theorem JCc.inn (W : Wd B K mg mb) {s : Stmt} {q : Str} {cl : List (Str × Addr)} {doc pm c ct : Value} {out : List (Str × Addr)} {args : List V} (hok : ((scopeOf s).isCoroutine, (scopeOf s).isGenerator, (scopeOf s).kind) = (false, false, .function)) (hnd : ((scopeOf s).names.map (·.1)).Nodup) (hcell : ((scopeOf s).names.all fun p => p.2 != .cell) = true) (hcl : CloIs cl (scopeOf s).names out)
    (hb : JBind B n hp (innFd s q cl doc pm c ct) args [] fun ws hp₁ => ((ws.all fun x => (scopeOf s).names.lookup x.1 == some .local) = true) ∧ ∃ fs, localsAt (scopeOf s) ws = fs ∧
      ∀ env L, EnvIs B W.T.GG env L (scopeOf s).names [] out → JS B n env ((L, .ns fs) :: hp₁) (bodyOf s) (Back Φ)) : JCc B (n + 1) hp (.fn (innFd s q cl doc pm c ct)) args [] Φ := by
  have F : FnOk (innFd s q cl doc pm c ct) (bodyOf s) := by
    injection hok with h1 h2
    injection h2 with h2 h3
    exact ⟨rfl, h1, h2, h3⟩
  refine JCc.clo F (fun x hx => by simpa using List.all_eq_true.mp hcell x hx) W.T hnd ?_
  intro A s' vs kvs ok S rv rk
  refine (hb A s' vs kvs ok S rv rk).mono fun ws hp₁ h => ?_
  obtain ⟨h1, fs, rfl, h2⟩ := h
  refine ⟨fun x hx => beq_iff_eq.mp (List.all_eq_true.mp h1 x hx), fun L a => ?_⟩
  exact h2 _ L (EnvIs.ofClo W.T (by injection hok with _ h; injection h with _ h) rfl rfl hnd hcl)
theorem c_innD (W : Wd B K mg mb) {q : Str} {cl : List (Str × Addr)} {doc pm c ct : Value} {ci cn cd : Addr} {w : Nat} {ds : List Nat} (hcl : CloIs cl (scopeOf innD).names [("inner", ci), ("n", cn), ("digits", cd)]) (hw : w ≤ 1000) (hlen : ds.length ≤ 5) (hd : ∀ d ∈ ds, d < 2 ^ w) :
    ∀ (f : Nat) (hp : Hp) (l r : Nat) (Φ : V → Hp → Prop), r - l ≤ f → l < r → r ≤ ds.length → (ci, AObj.cell (some (.fn (innFd innD q cl doc pm c ct)))) ∈ hp → (cn, AObj.cell (some (natV w))) ∈ hp → (cd, AObj.cell (some (.lst (ds.map natV)))) ∈ hp → Φ (natV (valD w ((ds.take r).drop l))) hp →
      JCc B (n + f) hp (.fn (innFd innD q cl doc pm c ct)) [natV l, natV r] [] Φ := by
  intro f
  induction f with
  | zero => intro hp l r Φ h1 h2; lia
  | succ f ih =>
    intro hp l r Φ h1 h2 h3 hi hn hdg h
    refine JCc.inn W (by kernel_rfl) (by decide +kernel) (by kernel_rfl) hcl ?_
    refine JBind.plain ["L", "R"] (vs2 fun a b => by kernel_rfl) rfl ?_
    refine ⟨by kernel_rfl, [("L", some (natV l)), ("R", some (natV r)), ("mid", none), ("shift", none)], by kernel_rfl, fun env L E => ?_⟩
    conv in (bodyOf _) => whnf
    tb_start
    have hr60 : r ≤ 5 := by lia
    have hlit : (l : Int) + 1 = ((l + 1 : Nat) : Int) := by push_cast; rfl
    by_cases h4 : l + 1 = r
    · refine iteP (by rw [beq_iff_eq]; lia) ?_
      tb_start
      have e1 : (ds.take r).drop l = [ds.getD l 0] := by
        rw [← h4, List.take_add_one, List.drop_append_of_le_length (by simp; lia), List.drop_eq_nil_of_le (by simp; lia), List.getD_eq_getElem?_getD]
        rw [List.getElem?_eq_getElem (by lia)]
        rfl
      rw [e1] at h
      have e2 : valD w [ds.getD l 0] = ds.getD l 0 := by simp [valD]
      rw [e2] at h
      exact Back.ret (by (repeat (first | (with_reducible exact List.Sublist.refl _) | (with_reducible refine List.Sublist.cons_cons _ ?_) | (with_reducible refine List.Sublist.cons _ ?_)))) h
    · refine iteN (by rw [beq_eq_false_iff_ne]; lia) ?_
      tb_start
      rw [← Int.natCast_add]
      refine JBin.shrN (b := 1) ?_
      have hm1 : l < (l + r) / 2 ^ 1 := by lia
      have hm2 : (l + r) / 2 ^ 1 < r := by lia
      generalize (l + r) / 2 ^ 1 = m at *
      tb_start
      have es : (m : Int) - (l : Int) = ((m - l : Nat) : Int) := by lia
      rw [es]
      refine JBin.mulN (by lia) ?_
      tb_start
      have hsub : ∀ a b : Nat, ∀ x ∈ (ds.take a).drop b, x < 2 ^ w := fun a b x hx => hd x (List.mem_of_mem_take (List.mem_of_mem_drop hx))
      have hlenm : ∀ a b : Nat, a ≤ ds.length → ((ds.take a).drop b).length = a - b := fun a b ha => by simp; lia
      refine JCc.call (ih _ m r _ (by lia) hm2 h3 (by (lcg_off)) (by (lcg_off)) (by (lcg_off)) ?_)
      tb_start
      have hwl : w * (r - m) ≤ 5000 := Nat.le_trans (Nat.mul_le_mul hw (show r - m ≤ 5 by lia)) (by lia)
      have hwm : (m - l) * w ≤ 5000 := Nat.le_trans (Nat.mul_le_mul (show m - l ≤ 5 by lia) hw) (by lia)
      refine JBin.shlN (k := w * (r - m)) (by have := valD_lt w _ (hsub r m); rwa [hlenm r m h3] at this) (by lia) ?_
      tb_start
      refine JCc.call (ih _ l m _ (by lia) hm1 (by lia) (by (lcg_off)) (by (lcg_off)) (by (lcg_off)) ?_)
      tb_start
      rw [← Int.natCast_add]
      have e5 : (ds.take r).drop l = (ds.take m).drop l ++ (ds.take r).drop m := by
        have e6 : ds.take r = ds.take m ++ (ds.take r).drop m := by
          have := List.take_append_drop m (ds.take r)
          rw [List.take_take, Nat.min_eq_left (by lia)] at this
          exact this.symm
        conv => lhs; rw [e6]
        rw [List.drop_append_of_le_length (by simp; lia)]
      rw [e5, valD_app, hlenm m l (by lia)] at h
      have e7 : valD w ((ds.take r).drop m) * 2 ^ ((m - l) * w) + valD w ((ds.take m).drop l) = valD w ((ds.take m).drop l) + 2 ^ (w * (m - l)) * valD w ((ds.take r).drop m) := by
        rw [Nat.mul_comm (m - l) w, Nat.mul_comm (valD w ((ds.take r).drop m)), Nat.add_comm]
      rw [e7]
      exact Back.ret (by (repeat (first | (with_reducible exact List.Sublist.refl _) | (with_reducible refine List.Sublist.cons_cons _ ?_) | (with_reducible refine List.Sublist.cons _ ?_)))) h
noncomputable abbrev tabD : Int × Int × Str := (121, 4, "_digits2int" ++ ".<locals>." ++ "inner")
noncomputable abbrev tabI : Int × Int × Str := (106, 4, "_int2digits" ++ ".<locals>." ++ "inner")
theorem Upd.same' {a : Addr} {o o' : AObj} {hp hp' : Hp} (U : Upd hp a o o' hp') : o = o' → hp' = hp := by
  induction U with
  | head => intro h; rw [h]
  | tail _ ih => intro h; rw [ih h]
theorem Upd.same {a : Addr} {o : AObj} {hp hp' : Hp} (U : Upd hp a o o hp') : hp' = hp := U.same' rfl
theorem TabNow.of {hp hp' : Hp} {P : Addr} {pos : Pos} {qual : Str} {q : Option (Int × Int × Str)} (hq : q = none ∨ q = some ((pos.line : Int), (pos.col : Int), qual)) (U : Upd hp P (.tab q) (.tab (some ((pos.line : Int), (pos.col : Int), qual))) hp') : TabNow hp hp' P pos qual := by
  rcases hq with rfl | rfl
  · exact .inl U
  · exact .inr ⟨U.same, U.mem⟩
theorem qual_in {G : Globs B} {L : Addr} {kinds : List (Str × NameKind)} {own out : List (Str × Addr)} {name x : Str} {c : Addr} (E : EnvIs B G env L kinds own out) (hc : (x, c) ∈ own) : qualnameIn env name x = env.qual ++ name := by
  have k := E.kind (E.ow _ hc).1 (by decide)
  unfold qualnameIn
  rw [k]; rfl
theorem c_d2i (W : Wd B K mg mb) {w : Nat} {ds : List Nat} {q : Option (Int × Int × Str)} (hw : w ≤ 1000) (hlen : ds.length = 5) (hd : ∀ d ∈ ds, d < 2 ^ w) (hq : q = none ∨ q = some tabD) (U : Upd hp 188 (.tab q) (.tab (some tabD)) hp') (h : Φ (natV (valD w ds)) hp') : JCc B (n + 5 + 1) hp (.fn fD2i) [.lst (ds.map natV), natV w] [] Φ := by
  refine JCc.topc W (by kernel_rfl) (by decide +kernel) ?_
  refine JBind.plain ["digits", "n"] (vs2 fun a b => by kernel_rfl) rfl ?_
  refine top1 W (by kernel_rfl) ([]) (fun L => [("inner", L + 1 + 1 + 1), ("n", L + 1 + 1), ("digits", L + 1)]) (fun L => [(L + 1 + 1 + 1, .cell none), (L + 1 + 1, .cell (some (natV w))), (L + 1, .cell (some (.lst (ds.map natV))))]) (by kernel_rfl) (fun L => by kernel_rfl) (fun L => by kernel_rfl) (fun env L E hcode hqual => ?_)
  conv in (bodyOf _) => whnf
  dsimp only [List.cons_append, List.nil_append]
  tb_start
  obtain ⟨hcd, hP⟩ := W.cd (192, 188) (by decide)
  have hqi : qualnameIn env "inner" "inner" = "_digits2int" ++ ".<locals>." ++ "inner" := by rw [qual_in E (c := L + 1 + 1 + 1) (by (lcg_off)), hqual]
  refine J1.def W.T rfl E (by kernel_rfl) hcode hcd hP rfl rfl (by rfl) (TabNow.of (q := q) (by rw [hqi]; exact hq) (by rw [hqi]; exact .tail (.tail (.tail (.tail U))))) fun cl doc pm c' ct hcl => ?_
  refine JSt.cell E (c := L + 1 + 1 + 1) (by (lcg_off)) (.tail .head) ?_
  tb_start
  refine JTru.lst (by rw [List.length_map]; lia) ?_
  have e1 : (!(ds.map natV).isEmpty) = true := by cases ds with
    | nil => cases hlen
    | cons _ _ => rfl
  rw [e1]
  tb_start
  refine JC.lenLst (.lst _) (by rw [List.length_map]; lia) ?_
  rw [List.length_map]
  have ht : (ds.take ds.length).drop 0 = ds := by rw [List.take_length, List.drop_zero]
  tb_start
  refine JCc.call (c_innD (n := n) W hcl hw (by lia) hd 5 _ 0 ds.length _ (by lia) (by lia) (by lia) (.tail _ (.head _)) (.tail _ (.tail _ (.head _))) (.tail _ (.tail _ (.tail _ (.head _)))) ?_)
  rw [ht]
  exact Back.ret (((((List.Sublist.refl hp').cons _).cons _).cons _).cons _) h
end
section
variable {B : Base} {n : Nat} {env : Env} {hp hp' : Hp} {Φ : V → Hp → Prop} {Ψ : AF → Hp → Prop} {Υ : Hp → Prop} {K : Frag} {mg mb : Str → Option Value}
structure ListAt (H : List Nat → Hp) (al : Addr) : Prop where
  u : ∀ xs ys, Upd (H xs) al (.list (xs.map natV)) (.list (ys.map natV)) (H ys)
theorem ListAt.cons {H : List Nat → Hp} {al : Addr} (X : ListAt H al) (e : Addr × AObj) : ListAt (fun xs => e :: H xs) al := ⟨fun xs ys => .tail (X.u xs ys)⟩
theorem valD_split {w k : Nat} {ds : List Nat} (hd : ∀ d ∈ ds, d < 2 ^ w) (hk : k ≤ ds.length) : valD w ds / 2 ^ (k * w) = valD w (ds.drop k) ∧ valD w ds % 2 ^ (k * w) = valD w (ds.take k) := by
  have e := valD_app w (ds.take k) (ds.drop k)
  rw [List.take_append_drop] at e
  have hl : (ds.take k).length = k := by simp; lia
  have hlt := valD_lt w (ds.take k) fun d h => hd d (List.mem_of_mem_take h)
  rw [hl, Nat.mul_comm w k] at hlt e
  rw [e]
  constructor
  · rw [Nat.add_mul_div_left _ _ (Nat.two_pow_pos _), Nat.div_eq_of_lt hlt, Nat.zero_add]
  · rw [Nat.add_mul_mod_self_left, Nat.mod_eq_of_lt hlt]
theorem c_innI (W : Wd B K mg mb) {q : Str} {cl : List (Str × Addr)} {doc pm c ct : Value} {ci cn ca al : Addr} {w : Nat} (hcl : CloIs cl (scopeOf innI).names [("inner", ci), ("a_digits", ca), ("n", cn)]) (hw : w ≤ 1000) :
    ∀ (f : Nat) (H : List Nat → Hp) (l r : Nat) (xs ds : List Nat) (Φ : V → Hp → Prop), ListAt H al → (∀ xs, (ci, AObj.cell (some (.fn (innFd innI q cl doc pm c ct)))) ∈ H xs ∧ (cn, AObj.cell (some (natV w))) ∈ H xs ∧ (ca, AObj.cell (some (.mref al))) ∈ H xs) → r - l ≤ f → l < r → r ≤ xs.length → xs.length ≤ 5 → ds.length = r - l → (∀ d ∈ ds, d < 2 ^ w) →
      Φ .none (H (xs.take l ++ ds ++ xs.drop r)) → JCc B (n + f) (H xs) (.fn (innFd innI q cl doc pm c ct)) [natV (valD w ds), natV l, natV r] [] Φ := by
  intro f
  induction f with
  | zero => intro H l r xs ds Φ hH hm h1 h2; lia
  | succ f ih =>
    intro H l r xs ds Φ hH hm h1 h2 h3 h4 h5 hd h
    refine JCc.inn W (by kernel_rfl) (by decide +kernel) (by kernel_rfl) hcl ?_
    refine JBind.plain ["x", "L", "R"] (vs3 fun a b c => by kernel_rfl) rfl ?_
    refine ⟨by kernel_rfl, [("x", some (natV (valD w ds))), ("L", some (natV l)), ("R", some (natV r)), ("mid", none), ("shift", none), ("upper", none), ("lower", none)], by kernel_rfl, fun env L E => ?_⟩
    obtain ⟨hi, hn, ha⟩ := hm xs
    have hu := hH.u xs
    conv in (bodyOf _) => whnf
    tb_start
    by_cases h6 : l + 1 = r
    · refine iteP (by rw [beq_iff_eq]; lia) ?_
      tb_start
      refine JSi.nat (rows := xs) (by lia) (by lia) (.tail (hu (xs.set l (valD w ds)))) ?_
      tb_start
      have e : xs.take l ++ ds ++ xs.drop r = xs.set l (valD w ds) := by
        match ds, h5 with
        | [], h5 => simp at h5; lia
        | [d], h5 =>
          have e1 : valD w [d] = d := by simp [valD]
          rw [e1, List.set_eq_take_append_cons_drop, if_pos (by lia), h6]
          simp
        | _ :: _ :: _, h5 => simp at h5; lia
      rw [e] at h
      exact Back.ret (hp'' := H (xs.set l (valD w ds))) (by (repeat (first | (with_reducible exact List.Sublist.refl _) | (with_reducible refine List.Sublist.cons_cons _ ?_) | (with_reducible refine List.Sublist.cons _ ?_)))) h
    · refine iteN (by rw [beq_eq_false_iff_ne]; lia) ?_
      tb_start
      rw [← Int.natCast_add]
      refine JBin.shrN (b := 1) ?_
      have hm1 : l < (l + r) / 2 ^ 1 := by lia
      have hm2 : (l + r) / 2 ^ 1 < r := by lia
      generalize (l + r) / 2 ^ 1 = m at *
      tb_start
      have es : (m : Int) - (l : Int) = ((m - l : Nat) : Int) := by lia
      rw [es]
      refine JBin.mulN (by lia) ?_
      tb_start
      obtain ⟨sp1, sp2⟩ := valD_split (k := m - l) hd (by lia)
      have hwm : (m - l) * w ≤ 5000 := Nat.le_trans (Nat.mul_le_mul (show m - l ≤ 5 by lia) hw) (by lia)
      have hwl : w * (ds.drop (m - l)).length ≤ 5000 := Nat.le_trans (Nat.mul_le_mul hw (show (ds.drop (m - l)).length ≤ 5 by simp; lia)) (by lia)
      refine JBin.shlN (k := w * (ds.drop (m - l)).length) (by rw [sp1]; exact valD_lt w _ fun d h => hd d (List.mem_of_mem_drop h)) (by lia) ?_
      refine JBin.bxor ?_
      rw [xor_lo, sp2, sp1]
      tb_start
      refine JCc.call (ih _ l m xs (ds.take (m - l)) _ (hH.cons _) (fun xs => ⟨.tail _ (hm xs).1, .tail _ (hm xs).2.1, .tail _ (hm xs).2.2⟩) (by lia) hm1 (by lia) h4 (by simp; lia) (fun d h => hd d (List.mem_of_mem_take h)) ?_)
      have hi' := (hm (xs.take l ++ ds.take (m - l) ++ xs.drop m)).1
      tb_start
      refine JCc.call (ih _ m r (xs.take l ++ ds.take (m - l) ++ xs.drop m) (ds.drop (m - l)) _ (hH.cons _) (fun xs => ⟨.tail _ (hm xs).1, .tail _ (hm xs).2.1, .tail _ (hm xs).2.2⟩) (by lia) hm2 (by simp; lia) (by simp; lia) (by simp; lia) (fun d h => hd d (List.mem_of_mem_drop h)) ?_)
      have e : (xs.take l ++ ds.take (m - l) ++ xs.drop m).take m ++ ds.drop (m - l) ++ (xs.take l ++ ds.take (m - l) ++ xs.drop m).drop r = xs.take l ++ ds ++ xs.drop r := by
        have hll : (xs.take l ++ ds.take (m - l)).length = m := by simp; lia
        have hdr : (xs.take l ++ ds.take (m - l)).drop r = [] := List.drop_eq_nil_of_le (by rw [hll]; lia)
        have htk : (xs.take l ++ ds.take (m - l) ++ xs.drop m).take m = xs.take l ++ ds.take (m - l) := by
          rw [List.take_append_of_le_length (by rw [hll]; exact Nat.le_refl m), List.take_of_length_le (by rw [hll]; exact Nat.le_refl m)]
        rw [htk, List.drop_append, hdr, hll, List.nil_append, List.drop_drop, show m + (r - m) = r by lia, List.append_assoc (xs.take l), List.take_append_drop]
      rw [e]
      tb_start
      exact Back.next (hp'' := H (xs.take l ++ ds ++ xs.drop r)) (by (repeat (first | (with_reducible exact List.Sublist.refl _) | (with_reducible refine List.Sublist.cons_cons _ ?_) | (with_reducible refine List.Sublist.cons _ ?_)))) h
theorem c_i2d (W : Wd B K mg mb) {w : Nat} {ds : List Nat} {q : Option (Int × Int × Str)} (hw0 : 1 ≤ w) (hw : w ≤ 1000) (hlen : ds.length = 5) (hd : ∀ d ∈ ds, d < 2 ^ w) (htop : 0 < ds.getD 4 0) (hq : q = none ∨ q = some tabI) (U : Upd hp 181 (.tab q) (.tab (some tabI)) hp') (h : Φ (.lst (ds.map natV)) hp') : JCc B (n + 5 + 1) hp (.fn fI2d) [natV (valD w ds), natV w] [] Φ := by
  refine JCc.topc W (by kernel_rfl) (by decide +kernel) ?_
  refine JBind.plain ["a", "n"] (vs2 fun a b => by kernel_rfl) rfl ?_
  refine top1 W (by kernel_rfl) ([("a", some (natV (valD w ds)))]) (fun L => [("inner", L + 1 + 1 + 1), ("a_digits", L + 1 + 1), ("n", L + 1)]) (fun L => [(L + 1 + 1 + 1, .cell none), (L + 1 + 1, .cell none), (L + 1, .cell (some (natV w)))]) (by kernel_rfl) (fun L => by kernel_rfl) (fun L => by kernel_rfl) (fun env L E hcode hqual => ?_)
  conv in (bodyOf _) => whnf
  dsimp only [List.cons_append, List.nil_append]
  have hlt := valD_lt w ds hd
  rw [hlen] at hlt
  have hge : 2 ^ (4 * w) ≤ valD w ds := by
    obtain ⟨sp1, _⟩ := valD_split (k := 4) hd (by lia)
    have e4 : valD w (ds.drop 4) = ds.getD 4 0 := by
      match ds, hlen with
      | [a, b, c, d, e], _ => simp [valD]
    rw [e4] at sp1
    have := Nat.div_mul_le_self (valD w ds) (2 ^ (4 * w))
    rw [sp1] at this
    exact Nat.le_trans (Nat.le_mul_of_pos_left _ htop) this
  have hpos : 0 < valD w ds := Nat.lt_of_lt_of_le (Nat.two_pow_pos _) hge
  have hb1 : Builtin.Int.intBits (valD w ds : Int) ≤ 5 * w := by rw [Nat.mul_comm]; exact bits_le hlt
  have hb2 : 4 * w + 1 ≤ Builtin.Int.intBits (valD w ds : Int) := by
    unfold Builtin.Int.intBits
    rw [if_neg (by simp; lia), Int.natAbs_natCast]
    have := (Nat.le_log2 (by lia)).mpr hge
    lia
  generalize hbv : Builtin.Int.intBits (valD w ds : Int) = bv at hb1 hb2
  tb_start
  refine JE.list ?_
  tb_start
  refine ⟨by decide, ?_⟩
  tb_start
  refine JM.int_bits ?_
  tb_start
  refine JC.bits ?_
  rw [hbv]
  tb_start
  have e1 : (bv : Int) + (w : Int) - 1 = ((bv + w - 1 : Nat) : Int) := by lia
  rw [e1]
  have hdv : (bv + w - 1) / w = 5 := by
    rw [Nat.div_eq_iff (by lia)]
    constructor <;> lia
  refine JBin.fdiv (by lia) ?_ ?_
  · unfold Builtin.divisionGoesByPylong
    have hw2 : w.log2 < 10 := (Nat.log2_lt (by lia)).mpr (by lia)
    simp
    intro h1
    split at h1
    · lia
    · lia
  rw [fdiv_nat, hdv]
  refine JBin.mulLM (a := 5) (.lst [V.int 0]) (by decide) (by decide) (by decide) fun al => ?_
  rw [show (List.replicate (5 : Int).toNat [V.int 0]).flatten = ([0, 0, 0, 0, 0] : List Nat).map natV from rfl]
  tb_start
  obtain ⟨hcd, hP⟩ := W.cd (185, 181) (by decide)
  have hqi : qualnameIn env "inner" "inner" = "_int2digits" ++ ".<locals>." ++ "inner" := by rw [qual_in E (c := L + 1 + 1 + 1) (by (lcg_off)), hqual]
  refine J1.def W.T rfl E (by kernel_rfl) hcode hcd hP rfl rfl (by rfl) (TabNow.of (q := q) (by rw [hqi]; exact hq) (by rw [hqi]; exact .tail (.tail (.tail (.tail (.tail U)))))) fun cl doc pm c' ct hcl => ?_
  refine JSt.cell E (c := L + 1 + 1 + 1) (by (lcg_off)) (.tail (.tail .head)) ?_
  tb_start
  have e2 : ((valD w ds : Int) != 0) = true := by rw [bne_iff_ne]; lia
  rw [e2]
  tb_start
  refine JC.lenLst (.mref (by (lcg_off))) (by decide) ?_
  tb_start
  refine JCc.call (c_innI (n := n) W hcl hw 5 (fun xs => (al, .list (xs.map natV)) :: (L, _) :: (L + 1 + 1 + 1, .cell (some (.fn (innFd innI _ cl doc pm c' ct)))) :: (L + 1 + 1, .cell (some (.mref al))) :: (L + 1, .cell (some (natV w))) :: hp') 0 5 [0, 0, 0, 0, 0] ds _ ⟨fun xs ys => .head⟩ (fun xs => ⟨.tail _ (.tail _ (.head _)), .tail _ (.tail _ (.tail _ (.tail _ (.head _)))), .tail _ (.tail _ (.tail _ (.head _)))⟩) (by lia) (by lia) (by decide) (by decide) (by lia) hd ?_)
  have e3 : ([0, 0, 0, 0, 0] : List Nat).take 0 ++ ds ++ ([0, 0, 0, 0, 0] : List Nat).drop 5 = ds := by simp
  rw [e3]
  tb_start
  exact Back.freeze (hp'' := hp') (((((List.Sublist.refl hp').cons _).cons _).cons _).cons _ |>.cons_cons _) h
end
section
variable {B : Base} {n : Nat} {env : Env} {hp hp' : Hp} {Φ : V → Hp → Prop} {Ψ : AF → Hp → Prop} {Υ : Hp → Prop} {K : Frag} {mg mb : Str → Option Value} {H : Nat → List V → List Nat → Hp} {d p dh cs sg : Addr} {fdl : FuncData}
noncomputable def isLet (c : Nat) : Bool := decide (97 ≤ c ∧ c ≤ 100) || decide (65 ≤ c ∧ c ≤ 68)
noncomputable def itemsA (arr : List (Nat × Nat)) : List (Str × Str) := arr.map fun p => (chS p.1, chS p.2)
noncomputable def outsC (arr : List (Nat × Nat)) (c : Nat) : List Nat := (arr.filter fun p => lowC p.1 == lowC c).map (·.2)
noncomputable def bfsI (toks : List Nat) (o : Nat) : List Nat := if (toks.map lowC).contains (lowC o) then toks else toks ++ [o]
noncomputable def bfsT (arr : List (Nat × Nat)) (toks : List Nat) (t : Nat) : List Nat := match toks[t]? with
  | none => toks
  | some tok => (outsC arr tok).foldl bfsI toks
noncomputable def bfsF (arr : List (Nat × Nat)) (c : Nat) : List Nat := (List.range 4).foldl (bfsT arr) [c]
theorem let_lt {c : Nat} (h : isLet c = true) : c < 128 ∧ 31 < c := by unfold isLet at h; simp at h; lia
theorem low_let {c : Nat} (h : isLet c = true) : 97 ≤ lowC c ∧ lowC c ≤ 100 := by
  unfold isLet at h; simp at h
  unfold lowC
  split <;> rename_i q <;> simp at q <;> lia
theorem low_up {c : Nat} (h : isLet c = true) : lowC (upC c) = lowC c := by
  have : ∀ c, c < 128 → lowC (upC c) = lowC c := by decide +kernel
  exact this c (let_lt h).1
theorem low_ch {c : Nat} (h : c < 128) : Txt.lower (chS c) = chS (lowC c) := lower_ascii [c] (by simpa using h)
theorem up_ch {c : Nat} (h : c < 128) : Txt.upper (chS c) = chS (upC c) := upper_ascii [c] (by simpa using h)
theorem up_lt {c : Nat} (h : c < 128) : upC c < 128 := by unfold upC; split <;> lia
theorem ch_inj {a b : Nat} : (chS a == chS b) = (a == b) := chS_beq' a b
theorem getA (arr : List (Nat × Nat)) (ha : ∀ p ∈ arr, p.1 < 128) {c : Nat} (hc : isLet c = true) : getAllF (itemsA arr) (Txt.upper (chS c)) = (outsC arr c).map chS := by
  have hc' := (let_lt hc).1
  rw [up_ch hc']
  unfold getAllF itemsA outsC
  rw [low_ch (up_lt hc'), low_up hc, List.filter_map, List.map_map, List.map_map]
  have : (arr.filter ((fun p : Str × Str => Txt.lower p.1 == chS (lowC c)) ∘ fun p : Nat × Nat => (chS p.1, chS p.2))) = arr.filter fun p => lowC p.1 == lowC c := by
    apply List.filter_congr
    intro p hp
    show (Txt.lower (chS p.1) == chS (lowC c)) = _
    rw [low_ch (ha p hp), ch_inj]
  rw [this]; rfl
theorem nm_ok {c : Nat} (hc : isLet c = true) : NmOk (Txt.upper (chS c)) := by
  have h := let_lt hc
  have h2 := low_let hc
  rw [up_ch h.1]
  refine ⟨?_, ?_⟩ <;> rw [low_ch (up_lt h.1), low_up hc]
  · refine ⟨by show 1 ≤ 16777216; lia, fun x hx => ?_⟩
    simp at hx; subst hx; lia
  · show 1 ≤ 16777216; lia
theorem items_ok {arr : List (Nat × Nat)} (ha : ∀ p ∈ arr, p.1 < 128) (hz : arr.length < 1000) : ItemsOk (itemsA arr) := by
  refine ⟨by unfold itemsA; rw [List.length_map]; lia, fun p hp => ?_⟩
  obtain ⟨q, hq, rfl⟩ := List.mem_map.mp hp
  rw [low_ch (ha q hq)]
  show 1 ≤ 16777216; lia
noncomputable abbrev lowV (toks : List Nat) : List V := toks.map fun t => .str (chS (lowC t))
noncomputable abbrev tokV (toks : List Nat) : List V := toks.map fun t => .str (chS t)
theorem bfsI_let {toks : List Nat} {o : Nat} (h : ∀ t ∈ toks, isLet t = true) (ho : isLet o = true) : ∀ t ∈ bfsI toks o, isLet t = true := by
  unfold bfsI
  split
  · exact h
  · intro t ht
    rcases List.mem_append.mp ht with ht | ht
    · exact h t ht
    · rw [List.mem_singleton.mp ht]; exact ho
noncomputable abbrev seenNs (d dt : Addr) (nm : Nat) (a1 a2 : Addr) (t o : Option V) : List (Str × Option V) := [("lexer", some (.inst 231 d)), ("arrows", some (.inst 175 dt)), ("name", some (.str (chS nm))), ("seen", some (.mref a1)), ("said", some (.mref a2)), ("turn", t), ("other", o)]
noncomputable def seenB : List Stmt := forB (nthS (bodyOf (stm 75)) 1)
noncomputable def seenO : List Stmt := forB (nthS (ifT (nthS seenB 0)) 0)
theorem seen_in (W : Wd B K mg mb) (X : LexAt H d p dh cs sg fdl) {L a1 a2 dt it : Addr} {nm ln : Nat} {r : List Nat} {turn : Option V} {tp : Pos} {e : Addr × AObj} (E : EnvIs B W.T.GG env L (scopeOf (stm 75)).names [] []) {others : List Nat} (ho : ∀ o ∈ others, isLet o = true) (hlen : others.length < 1000) :
    ∀ (toks done : List Nat) (pb : List Nat) (o : Option V), (∀ t ∈ toks, isLet t = true) → toks.length < 1000 → pb.length < 1000 → (∀ o' toks', toks' = others.foldl bfsI toks → Ψ .next (e :: (a2, .list (List.replicate toks'.length V.none)) :: (a1, .list (lowV toks')) :: (L, .ns (seenNs d dt nm a1 a2 turn o')) :: H ln (tokV (pb ++ toks'.drop toks.length)) r)) →
      JF B (n + 1) env ((it, .it (.lst ((others.map chS).map V.str) 0)) :: e :: (a2, .list (List.replicate toks.length V.none)) :: (a1, .list (lowV toks)) :: (L, .ns (seenNs d dt nm a1 a2 turn o)) :: H ln (tokV pb) r) (.Name "other" tp) it seenO Ψ := by
  intro toks done pb o ht hl hpb h
  have e0 : (others.map chS).map V.str = tokV others := by rw [List.map_map]; rfl
  rw [e0]
  refine JF.run (I := fun i => [(it, .it (.lst (tokV others) i))]) (EE := []) (xs := tokV others) Src.lst (fun i rr => ∃ o' toks', toks' = (others.take i).foldl bfsI toks ∧ (∀ t ∈ toks', isLet t = true) ∧ toks.length ≤ toks'.length ∧ toks'.length ≤ toks.length + i ∧ rr = e :: (a2, .list (List.replicate toks'.length V.none)) :: (a1, .list (lowV toks')) :: (L, .ns (seenNs d dt nm a1 a2 turn o')) :: H ln (tokV (pb ++ toks'.drop toks.length)) r) (fun _ _ _ => trivial) (fun i x rr hx hI => ?_) (fun rr hI => ?_) _ 0 _ (Nat.zero_add _) ⟨o, toks, by simp, ht, Nat.le_refl _, Nat.le_refl _, by simp⟩
  · obtain ⟨o', toks', hf, hlet, h1, h2, rfl⟩ := hI
    obtain ⟨c, hc, rfl⟩ := get_map hx
    have hcl := ho c (List.mem_of_getElem? hc)
    have hc' := (let_lt hcl).1
    have hi : i < others.length := (List.getElem?_eq_some_iff.mp hc).1
    have hnext : (others.take (i + 1)).foldl bfsI toks = bfsI toks' c := by rw [foldl_snoc _ _ _ _ _ hc, ← hf]
    dsimp only [List.cons_append, List.nil_append]
    conv in seenO => whnf
    tb_start
    refine JC.lower (by rw [low_ch hc']; show 1 ≤ 16777216; lia) ?_
    rw [low_ch hc']
    tb_start
    have eL : lowV toks' = (toks'.map fun t => chS (lowC t)).map V.str := by rw [List.map_map]; rfl
    refine JCmp.notInL (ss := toks'.map fun t => chS (lowC t)) (.mref (show (a1, AObj.list ((toks'.map fun t => chS (lowC t)).map V.str)) ∈ _ from by rw [← eL]; (lcg_off))) ?_
    have eC : (toks'.map fun t => chS (lowC t)).any (· == chS (lowC c)) = (toks'.map lowC).contains (lowC c) := by
      rw [List.any_map, List.contains_eq_any_beq, List.any_map]
      congr 1
      funext x
      show (chS (lowC x) == chS (lowC c)) = (lowC c == lowC x)
      rw [ch_inj, Bool.eq_iff_iff, beq_iff_eq, beq_iff_eq]; exact eq_comm
    rw [eC]
    tb_start
    cases q : (toks'.map lowC).contains (lowC c) with
    | true =>
      refine iteN rfl ?_
      tb_start
      exact ⟨_, rfl, _, toks', by rw [hnext]; unfold bfsI; rw [if_pos q], hlet, h1, by lia, rfl⟩
    | false =>
      refine iteP rfl ?_
      tb_start
      refine JC.lower (by rw [low_ch hc']; show 1 ≤ 16777216; lia) ?_
      rw [low_ch hc']
      tb_start
      have hln := ho
      refine JC.append (xs := lowV toks') (by simp [lowV]; lia) (by (tlg_ne)) ?_
      have hd := X.hd ln (tokV (pb ++ toks'.drop toks.length)) r
      tb_start
      refine JCc.call (c_push W (pb := tokV (pb ++ toks'.drop toks.length)) (((((X.cons _).cons _).cons _).cons _).cons _) (by simp [tokV]; lia) ?_)
      tb_start
      refine JC.append (xs := List.replicate toks'.length V.none) (by rw [List.length_replicate]; lia) (by (tlg_ne)) ?_
      tb_start
      have e1 : List.replicate toks'.length V.none ++ [V.none] = List.replicate (toks' ++ [c]).length V.none := by
        rw [List.length_append, List.length_singleton, List.replicate_succ']
      have e2 : lowV toks' ++ [V.str (chS (lowC c))] = lowV (toks' ++ [c]) := by simp [lowV]
      have e3 : tokV (pb ++ toks'.drop toks.length) ++ [V.str (chS c)] = tokV (pb ++ (toks' ++ [c]).drop toks.length) := by
        simp [tokV, List.drop_append_of_le_length h1]
      rw [e1, e2, e3]
      refine ⟨_, rfl, some (.str (chS c)), toks' ++ [c], by rw [hnext]; unfold bfsI; rw [if_neg (by rw [q]; decide)], ?_, by simp; lia, by simp; lia, rfl⟩
      intro t htt
      rcases List.mem_append.mp htt with htt | htt
      · exact hlet t htt
      · rw [List.mem_singleton.mp htt]; exact hcl
  · obtain ⟨o', toks', hf, hlet, h1, h2, rfl⟩ := hI
    rw [List.length_map, List.take_length] at hf
    exact h o' toks' hf
theorem bfsT_let {arr : List (Nat × Nat)} (ha : ∀ p ∈ arr, isLet p.2 = true) {toks : List Nat} (h : ∀ t ∈ toks, isLet t = true) (i : Nat) : ∀ t ∈ bfsT arr toks i, isLet t = true := by
  unfold bfsT
  split
  · exact h
  · have : ∀ (l toks : List Nat), (∀ o ∈ l, isLet o = true) → (∀ t ∈ toks, isLet t = true) → ∀ t ∈ l.foldl bfsI toks, isLet t = true := by
      intro l
      induction l with
      | nil => intro toks _ h; exact h
      | cons o l ih => intro toks ho h; exact ih _ (fun x hx => ho x (.tail _ hx)) (bfsI_let h (ho o (.head _)))
    refine this _ _ (fun o ho => ?_) h
    obtain ⟨p, hp, rfl⟩ := List.mem_map.mp ho
    exact ha p (List.mem_filter.mp hp).1
theorem bfsI_pre (toks : List Nat) (o : Nat) : ∃ s, bfsI toks o = toks ++ s ∧ s.length ≤ 1 := by
  unfold bfsI
  split
  · exact ⟨[], by simp, by simp⟩
  · exact ⟨[o], rfl, by simp⟩
theorem bfs_pre : ∀ (l toks : List Nat), ∃ s, l.foldl bfsI toks = toks ++ s ∧ s.length ≤ l.length
  | [], toks => ⟨[], by simp, by simp⟩
  | o :: l, toks => by
    obtain ⟨s1, e1, l1⟩ := bfsI_pre toks o
    obtain ⟨s2, e2, l2⟩ := bfs_pre l (bfsI toks o)
    exact ⟨s1 ++ s2, by rw [List.foldl_cons, e2, e1, List.append_assoc], by simp; lia⟩
theorem abcd_at : ∀ c, c < 128 → 97 ≤ c → c ≤ 100 → abcdAt (chS c) = [c - 97] := by decide +kernel
theorem c_seen (W : Wd B K mg mb) (X : LexAt H d p dh cs sg fdl) {dt lt : Addr} {arr : List (Nat × Nat)} {nm ln : Nat} {r res : List Nat} (hT : ∀ ln pb r, (dt, AObj.attrs [("_headers", .mref lt)]) ∈ H ln pb r ∧ (lt, AObj.list (tups (itemsA arr))) ∈ H ln pb r) (ha : ∀ p ∈ arr, isLet p.1 = true ∧ isLet p.2 = true) (hz : arr.length < 100) (hnm : 97 ≤ nm ∧ nm ≤ 100)
    (hlen : (bfsF arr nm).length ≤ 4) (hp : res.Perm ((bfsF arr nm).map fun t => lowC t - 97)) (hs : res.Pairwise (· ≤ ·)) (h : Φ (.lst (res.map natV)) (H ln [] r)) : JCc B (n + 1 + 1 + 1) (H ln [] r) (.fn fSeen) [.inst 231 d, .inst 175 dt, .str (chS nm)] [] Φ := by
  refine JCc.top W (by kernel_rfl) (by decide +kernel) (by kernel_rfl) ?_
  refine JBind.plain ["lexer", "arrows", "name"] (vs3 fun a b c => by kernel_rfl) rfl ?_
  refine top0 W (by kernel_rfl) [("lexer", some (.inst 231 d)), ("arrows", some (.inst 175 dt)), ("name", some (.str (chS nm))), ("seen", none), ("said", none), ("turn", none), ("other", none)] (by kernel_rfl) (fun env L E => ?_)
  conv in (bodyOf _) => whnf
  tb_start
  refine J1.assignSwap (names := ["seen", "said"]) ?_ (by rfl) (swapped2 E (by kernel_rfl) (by kernel_rfl) (by decide +kernel) (by kernel_rfl) rfl (by kernel_rfl) (by kernel_rfl))
  tb_start
  refine JE.listM ?_
  tb_start
  refine ⟨by show 1 ≤ 16777216; lia, fun a1 => ?_⟩
  tb_start
  refine JE.listM ?_
  have hd := X.hd ln [] r
  tb_start
  refine JCc.call (c_push W (pb := []) ((X.cons _).cons _) (by decide) ?_)
  tb_start
  refine ⟨by show 1 ≤ 16777216; lia, fun a2 => ?_⟩
  tb_start
  refine ⟨by show 2 ≤ 16777216; lia, _, rfl, rfl, ?_⟩
  refine JAs.bind ?_
  tb_start
  refine JAs.bind ?_
  tb_start
  refine JAs.nil ?_
  tb_start
  refine JC.range1 ?_
  tb_start
  refine JI.rngN (k := 4) (by lia) fun it => ?_
  have hnl : isLet nm = true := by unfold isLet; simp; lia
  have hln : lowC nm = nm := by unfold lowC; split <;> rename_i q <;> simp at q <;> lia
  refine JF.range (k := 4) (fun i rr => ∃ t o, (∀ x ∈ (List.range i).foldl (bfsT arr) [nm], isLet x = true) ∧ ((List.range i).foldl (bfsT arr) [nm]).length ≤ 1 + 100 * i ∧ rr = (a2, .list (List.replicate ((List.range i).foldl (bfsT arr) [nm]).length V.none)) :: (a1, .list (lowV ((List.range i).foldl (bfsT arr) [nm]))) :: (L, .ns (seenNs d dt nm a1 a2 t o)) :: H ln (tokV (((List.range i).foldl (bfsT arr) [nm]).drop i)) r) (fun i rr hi hI => ?_) (fun rr hI => ?_) ⟨none, none, by intro x hx; simp at hx; rw [hx]; exact hnl, by simp, ?_⟩
  · obtain ⟨t, o, hlet, hsz, rfl⟩ := hI
    have hnext : (List.range (i + 1)).foldl (bfsT arr) [nm] = bfsT arr ((List.range i).foldl (bfsT arr) [nm]) i := by rw [List.range_succ, List.foldl_append]; rfl
    have hlet' := bfsT_let (fun p hp => (ha p hp).2) hlet i
    (first | rw [hnext] | (delta rnK1; delta rnK2; dsimp only; rw [hnext]) | (delta rgK1; delta rgK2; dsimp only; rw [hnext]))
    generalize (List.range i).foldl (bfsT arr) [nm] = toks at *
    tb_start
    refine JC.lenLst (.mref (by (lcg_off))) (by simp [lowV]; lia) ?_
    tb_start
    by_cases h5 : i < toks.length
    · obtain ⟨tok, htok⟩ : ∃ tok, toks[i]? = some tok := ⟨toks[i], by simp⟩
      have ed : toks.drop i = tok :: toks.drop (i + 1) := by
        rw [List.drop_eq_getElem_cons h5]
        congr 1
        exact (List.getElem?_eq_some_iff.mp htok).2
      have htl := hlet tok (List.mem_of_getElem? htok)
      have hta := (let_lt htl).1
      have hdt := (hT ln (tokV (toks.drop i)) r).1
      have hd1 := X.hd ln (tokV (toks.drop i)) r
      refine iteP (by rw [decide_eq_true_eq]; simp [lowV]; lia) ?_
      tb_start
      rw [ed]
      refine JCc.call (c_tokP W (pb := tokV (toks.drop (i + 1))) ((((X.cons _).cons _).cons _).cons _) (by simp [tokV]; lia) ?_)
      tb_start
      refine JC.upper (by rw [up_ch hta]; show 1 ≤ 16777216; lia) ?_
      tb_start
      have hdt2 := hT ln (tokV (toks.drop (i + 1))) r
      refine JCc.call (c_getall W (.tail _ (.tail _ (.tail _ (.tail _ hdt2.1)))) (.tail _ (.tail _ (.tail _ (.tail _ hdt2.2)))) (items_ok (fun p hp => (let_lt (ha p hp).1).1) (by lia)) (nm_ok htl) ?_)
      rw [getA arr (fun p hp => (let_lt (ha p hp).1).1) htl]
      tb_start
      refine JI.lst fun it2 => ?_
      have hol : (outsC arr tok).length ≤ arr.length := by unfold outsC; rw [List.length_map]; exact List.length_filter_le _ _
      refine seen_in W X E (others := outsC arr tok) (fun o ho => ?_) (by lia) toks [] (toks.drop (i + 1)) o hlet (by lia) (by simp; lia) fun o' toks' hf => ?_
      · obtain ⟨p, hp, rfl⟩ := List.mem_map.mp ho
        exact (ha p (List.mem_filter.mp hp).1).2
      · have hb : bfsT arr toks i = toks' := by unfold bfsT; rw [htok, hf]
        obtain ⟨s, es, hsl⟩ := bfs_pre (outsC arr tok) toks
        rw [← hf] at es
        rw [hb] at hlet' ⊢
        tb_start
        refine ⟨_, rfl, some (natV i), o', hlet', by rw [es]; simp; lia, ?_⟩
        have : toks.drop (i + 1) ++ toks'.drop toks.length = toks'.drop (i + 1) := by
          rw [es, List.drop_left, List.drop_append_of_le_length (by lia)]
        rw [this]
    · refine iteN (by rw [decide_eq_false_iff_not]; simp [lowV]; lia) ?_
      have hnone : toks[i]? = none := List.getElem?_eq_none (by lia)
      have hb : bfsT arr toks i = toks := by unfold bfsT; rw [hnone]
      rw [hb]
      tb_start
      refine ⟨_, rfl, some (natV i), o, hlet, by lia, ?_⟩
      rw [List.drop_eq_nil_of_le (show toks.length ≤ i by lia), List.drop_eq_nil_of_le (show toks.length ≤ i + 1 by lia)]
  · obtain ⟨t, o, hlet, hsz, rfl⟩ := hI
    have hb : (List.range 4).foldl (bfsT arr) [nm] = bfsF arr nm := rfl
    rw [hb] at hlet ⊢
    have hdn : (bfsF arr nm).drop 4 = [] := List.drop_eq_nil_of_le hlen
    rw [hdn, show tokV [] = [] from rfl]
    generalize bfsF arr nm = toks at *
    tb_start
    refine JE.list ?_
    tb_start
    refine ⟨by decide, ?_⟩
    tb_start
    refine JC.lenLst (.mref (by (lcg_off))) (by simp; lia) ?_
    rw [List.length_replicate]
    refine JBin.mulL (xs := [V.none]) (.lst _) (by lia) (by lia) (by simp; lia) ?_
    have er : (List.replicate ((toks.length : Int).toNat) [V.none]).flatten = List.replicate toks.length V.none := by
      rw [Int.toNat_natCast]
      generalize toks.length = m
      induction m with
      | zero => rfl
      | succ m ih => rw [List.replicate_succ, List.replicate_succ, List.flatten_cons, ih]; rfl
    rw [er]
    refine JCmp.eqSame (xs := List.replicate toks.length V.none) (d := 0) (.mref (by (lcg_off))) (.lst _) ?_ (by lia) ?_
    · rw [List.all_eq_true]
      intro x hx
      rw [(List.mem_replicate.mp hx).2]; rfl
    tb_start
    refine JE.comp (own' := fun _ => []) (out' := []) (fun C (t : Option V) => [(C, .ns [(".0", none), ("one", t)])]) none E (⟨⟨by kernel_rfl, by decide +kernel, by kernel_rfl⟩, by rfl, fun C => by kernel_rfl, fun C => by kernel_rfl, fun C t => ⟨_, _, .head⟩⟩) ?_
    tb_start
    refine JI.mlst (by (lcg_off)) fun it2 => ?_
    refine CompIn.mlst toks (fun t => .str (chS (lowC t))) (fun t => some (natV (lowC t - 97))) (by (lcg_off)) (by lia) (fun C acc env' E' j tok t ys hj => ?_) ?_
    · have htl := low_let (hlet tok (List.mem_of_getElem? hj))
      dsimp only [List.cons_append, List.nil_append]
      tb_start
      refine JC.index (show Builtin.Str.occurrences "abcd" (chS (lowC tok)) 0 (Str.length "abcd") 1 = [lowC tok - 97] from abcd_at _ (by lia) htl.1 htl.2) ?_
      first | exact ctEnd | exact ⟨rfl, _, rfl⟩
    · rw [filterMap_some']
      have ei : toks.map (fun t => natV (lowC t - 97)) = ((toks.map fun t => lowC t - 97).map fun x : Nat => (x : Int)).map V.int := by simp
      rw [ei]
      tb_start
      refine JC.sorted (.lst _) (by simp; lia) fun ns' p1 p2 => ?_
      have e9 : ns' = res.map fun x : Nat => (x : Int) := by
        refine List.Perm.eq_of_pairwise (le := (· ≤ ·)) (fun a b _ _ h1 h2 => Int.le_antisymm h1 h2) p2 ?_ (p1.trans (hp.map _).symm)
        rw [List.pairwise_map]
        exact hs.imp fun h => by lia
      subst e9
      rw [← nat_ints]
      exact Back.ret (by (repeat (first | (with_reducible exact List.Sublist.refl _) | (with_reducible refine List.Sublist.cons_cons _ ?_) | (with_reducible refine List.Sublist.cons _ ?_)))) h
  · simp [lowV, hln]
end
structure Fnd where
  par : Nat
  word : List Bool
  rows : List Nat
  deriving DecidableEq
noncomputable def rows0 : List Nat := [43690, 52428, 61680, 65280]
noncomputable def full5 (rs : List Nat) : List Nat := rs ++ [65535 - rs.getD 0 0]
noncomputable def compl (rs : List Nat) : List Nat := rs.map fun r => 65535 - r
noncomputable def clsF (sees : List (List Nat)) (rs : List Nat) : List Nat := sees.map fun s => orL (s.map fun y => rs.getD y 0)
noncomputable def okR (rs : List Nat) : Bool := rs.length == 4 && rs.all (fun r => decide (r ≤ 65535)) && decide (rs.getD 0 0 < 65535)
noncomputable abbrev DSt := List Fnd × List (List Nat × List Bool)
noncomputable def dstep (par : Nat) (new : List Bool) (made : List Nat) (st : DSt) : Option DSt := match st.1.find? fun e => e.rows == made with
  | some e => if e.word == new then none else some (st.1, st.2 ++ [(made, e.word)])
  | none => some (st.1 ++ [⟨par, new, made⟩], st.2 ++ [(made, new)])
noncomputable def parOf (t : Nat) : Nat := if t % 2 = 0 then 110 else 78
noncomputable def dturn (sees : List (List Nat)) (t : Nat) (st : DSt) : Option DSt := match st.1[t]? with
  | none => some st
  | some e => if okR e.rows && okR (clsF sees e.rows) && okR (compl e.rows) then (dstep (parOf t) (e.word ++ [false]) (clsF sees e.rows) st).bind fun st1 => dstep (parOf t) (e.word ++ [true]) (compl e.rows) st1 else none
noncomputable def drun (sees : List (List Nat)) : Nat → Option DSt
  | 0 => some ([⟨110, [], rows0⟩], [])
  | t + 1 => (drun sees t).bind (dturn sees t)
theorem okR_iff {rs : List Nat} (h : okR rs = true) : rs.length = 4 ∧ (∀ r ∈ rs, r ≤ 65535) ∧ rs.getD 0 0 < 65535 := by
  unfold okR at h
  simp only [Bool.and_eq_true, beq_iff_eq, decide_eq_true_eq, List.all_eq_true] at h
  exact ⟨h.1.1, fun r hr => by simpa using h.1.2 r hr, h.2⟩
theorem full5_len {rs : List Nat} (h : rs.length = 4) : (full5 rs).length = 5 := by simp [full5, h]
theorem full5_lt {rs : List Nat} {w : Nat} (hw : 16 ≤ w) (h : ∀ r ∈ rs, r ≤ 65535) : ∀ d ∈ full5 rs, d < 2 ^ w := by
  have h2 : 2 ^ 16 ≤ 2 ^ w := Nat.pow_le_pow_right (by decide) hw
  intro d hd
  rcases List.mem_append.mp hd with hd | hd
  · have := h d hd; lia
  · rw [List.mem_singleton.mp hd]; lia
theorem valD_inj {w : Nat} : ∀ {a b : List Nat}, a.length = b.length → (∀ d ∈ a, d < 2 ^ w) → (∀ d ∈ b, d < 2 ^ w) → valD w a = valD w b → a = b
  | [], [], _, _, _, _ => rfl
  | x :: a, y :: b, hl, ha, hb, h => by
    have h1 : valD w (x :: a) = x + 2 ^ w * valD w a := rfl
    have h2 : valD w (y :: b) = y + 2 ^ w * valD w b := rfl
    rw [h1, h2] at h
    have hx := ha x (.head _)
    have hy := hb y (.head _)
    have e1 : (x + 2 ^ w * valD w a) % 2 ^ w = x := by rw [Nat.add_mul_mod_self_left, Nat.mod_eq_of_lt hx]
    have e2 : (y + 2 ^ w * valD w b) % 2 ^ w = y := by rw [Nat.add_mul_mod_self_left, Nat.mod_eq_of_lt hy]
    have exy : x = y := by rw [← e1, h, e2]
    subst exy
    have e3 : 2 ^ w * valD w a = 2 ^ w * valD w b := by lia
    have e4 := Nat.eq_of_mul_eq_mul_left (Nat.two_pow_pos w) e3
    rw [valD_inj (Nat.succ.inj hl) (fun d h => ha d (.tail _ h)) (fun d h => hb d (.tail _ h)) e4]
noncomputable def num (w : Nat) (rs : List Nat) : Nat := valD w (full5 rs)
theorem num_inj {w : Nat} {a b : List Nat} (hw : 16 ≤ w) (ha : a.length = 4) (hb : b.length = 4) (la : ∀ r ∈ a, r ≤ 65535) (lb : ∀ r ∈ b, r ≤ 65535) (h : num w a = num w b) : a = b := by
  have := valD_inj (by rw [full5_len ha, full5_len hb]) (full5_lt hw la) (full5_lt hw lb) h
  unfold full5 at this
  exact (List.append_inj this (by rw [ha, hb])).1
theorem compl_val (w : Nat) : ∀ a : List Nat, (∀ r ∈ a, r ≤ 65535) → valD w (a.map fun r => 65535 - r) + valD w a = valD w (a.map fun _ => 65535)
  | [], _ => rfl
  | x :: a, h => by
    have ih := compl_val w a fun r hr => h r (.tail _ hr)
    have hx := h x (.head _)
    show (65535 - x + 2 ^ w * valD w (a.map fun r => 65535 - r)) + (x + 2 ^ w * valD w a) = 65535 + 2 ^ w * valD w (a.map fun _ => 65535)
    rw [← ih, Nat.mul_add]; lia
theorem full5_compl {rs : List Nat} (h : rs.length = 4) (hl : ∀ r ∈ rs, r ≤ 65535) : full5 (compl rs) = (full5 rs).map fun r => 65535 - r := by
  match rs, h with
  | [a, b, c, d], _ =>
    have := hl a (.head _)
    simp [full5, compl]
theorem num_compl {w : Nat} {rs : List Nat} (h : rs.length = 4) (hl : ∀ r ∈ rs, r ≤ 65535) : num w (compl rs) + num w rs = valD w [65535, 65535, 65535, 65535, 65535] := by
  unfold num
  rw [full5_compl h hl]
  have h5 : ∀ r ∈ full5 rs, r ≤ 65535 := by
    intro r hr
    rcases List.mem_append.mp hr with hr | hr
    · exact hl r hr
    · rw [List.mem_singleton.mp hr]; lia
  rw [compl_val w _ h5]
  congr 1
  match rs, h with
  | [a, b, c, d], _ => rfl
theorem num_lt {w : Nat} {rs : List Nat} (hw : 16 ≤ w) (h : rs.length = 4) (hl : ∀ r ∈ rs, r ≤ 65535) : num w rs < 2 ^ (5 * w) := by
  have := valD_lt w (full5 rs) (full5_lt hw hl)
  rwa [full5_len h, Nat.mul_comm] at this
noncomputable def wS (d0 d1 : List Nat) (w : List Bool) : List Nat := (w.map fun b => (if b then d1 else d0) ++ [32]).flatten
theorem wS_snoc (d0 d1 : List Nat) (w : List Bool) (b : Bool) : wS d0 d1 (w ++ [b]) = wS d0 d1 w ++ (if b then d1 else d0) ++ [32] := by
  unfold wS; simp
theorem wS_len {d0 d1 : List Nat} (h0 : d0.length ≤ 3) (h1 : d1.length ≤ 3) : ∀ w : List Bool, (wS d0 d1 w).length ≤ 4 * w.length
  | [] => by simp [wS]
  | b :: w => by
    have ih := wS_len h0 h1 w
    unfold wS at ih ⊢
    rw [List.map_cons, List.flatten_cons, List.length_append, List.length_append, List.length_cons]
    cases b <;> simp at ih ⊢ <;> lia
theorem wS_ok {d0 d1 : List Nat} (h0 : ∀ c ∈ d0, 31 < c ∧ c < 127) (h1 : ∀ c ∈ d1, 31 < c ∧ c < 127) (w : List Bool) : ∀ c ∈ wS d0 d1 w, 31 < c ∧ c < 127 := by
  intro c hc
  unfold wS at hc
  obtain ⟨l, hl, hc⟩ := List.mem_flatten.mp hc
  obtain ⟨b, _, rfl⟩ := List.mem_map.mp hl
  rcases List.mem_append.mp hc with hc | hc
  · cases b
    · exact h0 c hc
    · exact h1 c hc
  · rw [List.mem_singleton.mp hc]; lia
noncomputable def nmS (w par : Nat) (rs : List Nat) : List Nat := par :: digS (num w rs)
theorem nmS_asc {w par : Nat} {rs : List Nat} (hp : par = 110 ∨ par = 78) : ∀ c ∈ nmS w par rs, 31 < c ∧ c < 127 := by
  intro c hc
  rcases List.mem_cons.mp hc with rfl | hc
  · rcases hp with rfl | rfl <;> lia
  · have := digS_dig hc; lia
theorem low_nm {w par : Nat} {rs : List Nat} (hp : par = 110 ∨ par = 78) : Txt.lower (stS (nmS w par rs)) = stS (110 :: digS (num w rs)) := by
  rw [lower_ascii _ fun c hc => by have := nmS_asc hp c hc; lia]
  congr 1
  unfold nmS
  rw [List.map_cons]
  congr 1
  · rcases hp with rfl | rfl <;> rfl
  · have : ∀ l : List Nat, (∀ c ∈ l, 48 ≤ c ∧ c ≤ 57) → l.map lowC = l := by
      intro l
      induction l with
      | nil => intro _; rfl
      | cons c r ih =>
        intro h
        have hc := h c (.head _)
        rw [List.map_cons, ih fun x hx => h x (.tail _ hx)]
        have : lowC c = c := by unfold lowC; rw [if_neg (by simp; lia)]
        rw [this]
    exact this _ fun c hc => digS_dig hc
theorem nmS_len {w par : Nat} {rs : List Nat} (hw : 16 ≤ w) (hw2 : w ≤ 100) (h : rs.length = 4) (hl : ∀ r ∈ rs, r ≤ 65535) : (nmS w par rs).length ≤ 501 := by
  unfold nmS
  rw [List.length_cons]
  have h1 := num_lt hw h hl
  have h2 : 2 ^ (5 * w) ≤ 2 ^ 500 := Nat.pow_le_pow_right (by decide) (by lia)
  have h3 : 2 ^ 500 ≤ 10 ^ 500 := Nat.pow_le_pow_left (by decide) 500
  have := digS_len (m := num w rs) (k := 500) (by decide) (by lia)
  lia
theorem wS_inj {d0 d1 : List Nat} (h0 : 32 ∉ d0) (h1 : 32 ∉ d1) (hne : d0 ≠ d1) : ∀ {a b : List Bool}, wS d0 d1 a = wS d0 d1 b → a = b
  | [], [], _ => rfl
  | [], b :: r, h => by
    unfold wS at h
    simp at h
  | b :: r, [], h => by
    unfold wS at h
    simp at h
  | a :: r, b :: s, h => by
    have key : ∀ (x y : List Nat) (u v : List Nat), 32 ∉ x → 32 ∉ y → x ++ [32] ++ u = y ++ [32] ++ v → x = y ∧ u = v := by
      intro x
      induction x with
      | nil =>
        intro y u v _ hy h
        cases y with
        | nil => simpa using h
        | cons c y => simp at h; exact absurd (h.1 ▸ List.mem_cons_self) hy
      | cons c x ih =>
        intro y u v hx hy h
        cases y with
        | nil => simp at h; exact absurd (h.1 ▸ List.mem_cons_self) hx
        | cons c' y =>
          simp at h
          obtain ⟨rfl, h⟩ := h
          have := ih y u v (fun q => hx (.tail _ q)) (fun q => hy (.tail _ q)) (by simpa using h)
          exact ⟨by rw [this.1], this.2⟩
    have hs : ∀ b : Bool, 32 ∉ (if b then d1 else d0) := by intro b; cases b <;> simpa
    have e1 : wS d0 d1 (a :: r) = (if a then d1 else d0) ++ [32] ++ wS d0 d1 r := by unfold wS; simp
    have e2 : wS d0 d1 (b :: s) = (if b then d1 else d0) ++ [32] ++ wS d0 d1 s := by unfold wS; simp
    rw [e1, e2] at h
    obtain ⟨k1, k2⟩ := key _ _ _ _ (hs a) (hs b) h
    have hab : a = b := by
      cases a <;> cases b <;> simp at k1 ⊢
      · exact hne k1
      · exact hne k1.symm
    rw [hab, wS_inj h0 h1 hne k2]
section
variable (w : Nat) (d0 d1 : List Nat)
noncomputable def fItem (e : Fnd) : Str × Str := (stS (nmS w e.par e.rows), stS (wS d0 d1 e.word))
noncomputable def itemsD (found : List Fnd) : List (Str × Str) := match found with
  | [] => []
  | f :: tl => fItem w d0 d1 f :: (stS (nmS w 78 f.rows), stS d1) :: tl.map (fItem w d0 d1)
noncomputable def fV (e : Fnd) : V := .tup [.str (stS (nmS w e.par e.rows)), .str (stS (wS d0 d1 e.word)), natV (num w e.rows)]
noncomputable def tV (q : List Nat × List Bool) : V := .tup [natV (num w q.1), .str (stS (wS d0 d1 q.2))]
noncomputable def pbV (found : List Fnd) : List V := (found.map fun e => [V.str (stS (wS d0 d1 e.word)), natV (num w e.rows)]).flatten
end
structure FOk (e : Fnd) : Prop where
  par : e.par = 110 ∨ e.par = 78
  len : e.rows.length = 4
  le : ∀ r ∈ e.rows, r ≤ 65535
theorem low_eq {w p q : Nat} {a b : List Nat} (hw : 16 ≤ w) (hp : p = 110 ∨ p = 78) (hq : q = 110 ∨ q = 78) (ha : a.length = 4) (hb : b.length = 4) (la : ∀ r ∈ a, r ≤ 65535) (lb : ∀ r ∈ b, r ≤ 65535) : (Txt.lower (stS (nmS w p a)) == Txt.lower (stS (nmS w q b))) = (a == b) := by
  rw [low_nm hp, low_nm hq, stS_beq, Bool.eq_iff_iff, beq_iff_eq, beq_iff_eq]
  constructor
  · intro h
    injection h with _ h
    exact num_inj hw ha hb la lb (digS_inj h)
  · rintro rfl; rfl
theorem getF_D {w : Nat} {d0 d1 : List Nat} (hw : 16 ≤ w) {found : List Fnd} (hf : ∀ e ∈ found, FOk e) {p : Nat} {made : List Nat} (hp : p = 110 ∨ p = 78) (hm : made.length = 4) (lm : ∀ r ∈ made, r ≤ 65535) :
    getF (itemsD w d0 d1 found) (stS (nmS w p made)) = (found.find? fun e => e.rows == made).map fun e => stS (wS d0 d1 e.word) := by
  have one : ∀ e, FOk e → (Txt.lower (fItem w d0 d1 e).1 == Txt.lower (stS (nmS w p made))) = (e.rows == made) := fun e he => low_eq hw he.par hp he.len hm he.le lm
  have rest : ∀ l : List Fnd, (∀ e ∈ l, FOk e) → ((l.map (fItem w d0 d1)).find? fun q => Txt.lower q.1 == Txt.lower (stS (nmS w p made))).map (·.2) = (l.find? fun e => e.rows == made).map fun e => stS (wS d0 d1 e.word) := by
    intro l
    induction l with
    | nil => intro _; rfl
    | cons e r ih =>
      intro h
      rw [List.map_cons, List.find?_cons, List.find?_cons, one e (h e (.head _))]
      cases e.rows == made
      · exact ih fun x hx => h x (.tail _ hx)
      · rfl
  cases found with
  | nil => rfl
  | cons f tl =>
    have hf0 := hf f (.head _)
    unfold getF itemsD
    rw [List.find?_cons, List.find?_cons, List.find?_cons, one f hf0]
    have e2 : (Txt.lower (stS (nmS w 78 f.rows)) == Txt.lower (stS (nmS w p made))) = (f.rows == made) := low_eq hw (.inr rfl) hp hf0.len hm hf0.le lm
    rw [e2]
    cases f.rows == made
    · exact rest tl fun x hx => hf x (.tail _ hx)
    · rfl
section
variable {B : Base} {n : Nat} {env : Env} {hp hp' : Hp} {Φ : V → Hp → Prop} {Ψ : AF → Hp → Prop} {Υ : Hp → Prop} {K : Frag} {mg mb : Str → Option Value} {d p dh cs sg : Addr} {fdl : FuncData}
noncomputable abbrev QT2 := Option (Int × Int × Str)
structure DeedAt (G : QT2 → QT2 → Nat → List V → List Nat → Hp) (d p dh cs sg : Addr) (fdl : FuncData) : Prop where
  lex : ∀ q1 q2, LexAt (G q1 q2) d p dh cs sg fdl
  u1 : ∀ q1 q2 ln pb r, Upd (G q1 q2 ln pb r) 181 (.tab q1) (.tab (some tabI)) (G (some tabI) q2 ln pb r)
  u2 : ∀ q1 q2 ln pb r, Upd (G q1 q2 ln pb r) 188 (.tab q2) (.tab (some tabD)) (G q1 (some tabD) ln pb r)
theorem DeedAt.cons {G : QT2 → QT2 → Nat → List V → List Nat → Hp} (X : DeedAt G d p dh cs sg fdl) (e : Addr × AObj) : DeedAt (fun q1 q2 ln pb r => e :: G q1 q2 ln pb r) d p dh cs sg fdl where
  lex := fun q1 q2 => (X.lex q1 q2).cons e
  u1 := fun q1 q2 ln pb r => .tail (X.u1 q1 q2 ln pb r)
  u2 := fun q1 q2 ln pb r => .tail (X.u2 q1 q2 ln pb r)
noncomputable def deedL : List Stmt := forB (nthS (bodyOf (stm 77)) 6)
noncomputable def deedI : List Stmt := forB (nthS (ifT (nthS deedL 0)) 5)
noncomputable abbrev dNs (d : Addr) (sees : V) (w : Nat) (deeds : V) (wh fi : Nat) (dt fnd tld : Addr) (turn word number over closed deed made name more : Option V) : List (Str × Option V) :=
  [("lexer", some (.inst 231 d)), ("sees", some sees), ("width", some (natV w)), ("deeds", some deeds), ("whole", some (natV wh)), ("first", some (natV fi)), ("table", some (.inst 175 dt)), ("found", some (.mref fnd)), ("told", some (.mref tld)), ("turn", turn), ("word", word), ("number", number), ("over", over), ("closed", closed), ("deed", deed), ("made", made), ("name", name), ("more", more)]
structure DOk (w : Nat) (d0 d1 : List Nat) : Prop where
  w0 : 16 ≤ w
  w1 : w ≤ 100
  l0 : d0.length ≤ 3
  l1 : d1.length ≤ 3
  c0 : ∀ c ∈ d0, 32 < c ∧ c < 127
  c1 : ∀ c ∈ d1, 32 < c ∧ c < 127
  ne : d0 ≠ d1
theorem nn_at (t : Nat) : Txt.item "nN" ((t % 2 : Nat) : Int) = chS (parOf t) ∧ (Txt.charAt "nN" ((t % 2 : Nat) : Int)).isSome = true := by
  have h : t % 2 = 0 ∨ t % 2 = 1 := by lia
  unfold parOf
  rcases h with h | h <;> rw [h] <;> decide +kernel
theorem itemsD_ok {w : Nat} {d0 d1 : List Nat} (D : DOk w d0 d1) {found : List Fnd} (hf : ∀ e ∈ found, FOk e) (hz : found.length < 100) : ItemsOk (itemsD w d0 d1 found) := by
  have one : ∀ (p : Nat) (e : Fnd), FOk e → (p = 110 ∨ p = 78) → (Txt.lower (stS (nmS w p e.rows))).length ≤ 16777216 := fun p e he hp => by
    rw [low_nm hp, stS_len]
    have := nmS_len (par := 110) D.w0 D.w1 he.len he.le
    unfold nmS at this
    lia
  cases found with
  | nil => exact ⟨by show 0 < 16777215; lia, fun p hp => by unfold itemsD at hp; cases hp⟩
  | cons f tl =>
    refine ⟨by unfold itemsD; simp at hz ⊢; lia, fun p hp => ?_⟩
    unfold itemsD at hp
    rcases List.mem_cons.mp hp with rfl | hp
    · exact one _ f (hf f (.head _)) (hf f (.head _)).par
    · rcases List.mem_cons.mp hp with rfl | hp
      · exact one _ f (hf f (.head _)) (.inr rfl)
      · obtain ⟨e, he, rfl⟩ := List.mem_map.mp hp
        exact one _ e (hf e (.tail _ he)) (hf e (.tail _ he)).par
theorem itemsD_snoc (w : Nat) (d0 d1 : List Nat) {found : List Fnd} (h : found ≠ []) (e : Fnd) : itemsD w d0 d1 found ++ [fItem w d0 d1 e] = itemsD w d0 d1 (found ++ [e]) := by
  cases found with
  | nil => exact absurd rfl h
  | cons f tl => unfold itemsD; simp
theorem ok_txt {l : List Nat} (hl : l.length ≤ 16777216) (h : ∀ c ∈ l, 31 < c ∧ c < 127) : okTxt (stS l) := ⟨by have := stS_len l; unfold Str.length at this; lia, fun c hc => h c (by rwa [stS_toList] at hc)⟩
theorem ch_app (c : Nat) (l : List Nat) : chS c ++ stS l = stS (c :: l) := stS_app [c] l
theorem app_sp (l : List Nat) : stS l ++ (" " : Str) = stS (l ++ [32]) := by
  rw [show (" " : Str) = stS [32] by decide +kernel, stS_app]
theorem num_log {w : Nat} {rs : List Nat} (hw : 16 ≤ w) (hw2 : w ≤ 100) (h : rs.length = 4) (hl : ∀ r ∈ rs, r ≤ 65535) : ((num w rs : Nat) : Int).natAbs.log2 < 1920 := by
  rw [Int.natAbs_natCast]
  have h1 := num_lt hw h hl
  by_cases h0 : num w rs = 0
  · rw [h0]; decide
  · have := (Nat.log2_lt h0).mpr h1
    lia
theorem pbV_snoc (w : Nat) (d0 d1 : List Nat) (e : Fnd) : pbV w d0 d1 [e] = [V.str (stS (wS d0 d1 e.word)), natV (num w e.rows)] := rfl
theorem deed_one (W : Wd B K mg mb) {G : QT2 → QT2 → Nat → List V → List Nat → Hp} (X : DeedAt G d p dh cs sg fdl) {L dt tl fnd tld : Addr} (E : EnvIs B W.T.GG env L (scopeOf (stm 77)).names [("rows", L + 1)] []) {w wh fi t ln : Nat} {d0 d1 : List Nat} (D : DOk w d0 d1) {sees deeds : V} {num' ov cl na mo rv : Option V} {q1 q2 : QT2} {pb : List V} {r : List Nat} {e1 e2 : Addr × AObj}
    {st st' : DSt} {word : List Bool} {b : Bool} {made : List Nat} (hst : dstep (parOf t) (word ++ [b]) made st = some st') (hf : ∀ e ∈ st.1, FOk e) (hz : st.1.length < 100) (hz2 : st.2.length < 100) (hpb : pb.length < 1000) (hwl : word.length < 100) (hm : made.length = 4) (lm : ∀ r ∈ made, r ≤ 65535) (hsf : st.1 ≠ [])
    (h : ∀ na mo, Ψ .next (e1 :: e2 :: (tld, .list (st'.2.map (tV w d0 d1))) :: (fnd, .list (st'.1.map (fV w d0 d1))) :: (tl, .list (tups (itemsD w d0 d1 st'.1))) :: (dt, .attrs [("_headers", .mref tl)]) :: (L, .ns (dNs d sees w deeds wh fi dt fnd tld (some (natV t)) (some (.str (stS (wS d0 d1 word)))) num' ov cl (some (.str (stS (if b then d1 else d0)))) (some (natV (num w made))) na mo)) :: (L + 1, .cell rv) :: G q1 q2 ln (pb ++ pbV w d0 d1 (st'.1.drop st.1.length)) r)) :
    JS B (n + 1 + 1 + 1) env (e1 :: e2 :: (tld, .list (st.2.map (tV w d0 d1))) :: (fnd, .list (st.1.map (fV w d0 d1))) :: (tl, .list (tups (itemsD w d0 d1 st.1))) :: (dt, .attrs [("_headers", .mref tl)]) :: (L, .ns (dNs d sees w deeds wh fi dt fnd tld (some (natV t)) (some (.str (stS (wS d0 d1 word)))) num' ov cl (some (.str (stS (if b then d1 else d0)))) (some (natV (num w made))) na mo)) :: (L + 1, .cell rv) :: G q1 q2 ln pb r) deedI Ψ := by
  conv in deedI => whnf
  tb_start
  refine J1.assignSwap (names := ["name", "more"]) ?_ (by rfl) (swapped2 E (by kernel_rfl) (by kernel_rfl) (by decide +kernel) (by kernel_rfl) rfl (by kernel_rfl) (by kernel_rfl))
  tb_start
  refine JBin.mod (by decide) ?_
  rw [show (t : Int).fmod 2 = ((t % 2 : Nat) : Int) from fmod_nat t 2]
  tb_start
  refine ⟨NoPyItem.str, JGi.str (by unfold fitsSsize; simp; lia) (nn_at t).2 ?_⟩
  rw [(nn_at t).1]
  have hpar : parOf t = 110 ∨ parOf t = 78 := by unfold parOf; split <;> simp
  have hnl := nmS_len (par := parOf t) D.w0 D.w1 hm lm
  have hwl2 := wS_len D.l0 D.l1 (word ++ [b])
  have hwl3 := wS_len D.l0 D.l1 word
  have hdl : (if b then d1 else d0).length ≤ 3 := by cases b; exact D.l0; exact D.l1
  simp only [List.length_append, List.length_singleton] at hwl2
  tb_start
  refine JC.strInt (num_log D.w0 D.w1 hm lm) ?_
  rw [digS_str]
  have hnl' : (digS (num w made)).length ≤ 500 := by unfold nmS at hnl; rw [List.length_cons] at hnl; lia
  refine JBin.cat (by rw [stS_len]; show 1 + _ ≤ 16777216; lia) ?_
  rw [ch_app, show parOf t :: digS (num w made) = nmS w (parOf t) made from rfl]
  tb_start
  refine JBin.cat (by rw [stS_len, stS_len]; lia) ?_
  rw [stS_app]
  tb_start
  refine JBin.cat (by rw [stS_len, List.length_append]; show _ + 1 ≤ 16777216; lia) ?_
  rw [app_sp, ← wS_snoc]
  tb_start
  refine ⟨by show 2 ≤ 16777216; lia, _, rfl, rfl, ?_⟩
  refine JAs.bind ?_
  tb_start
  refine JAs.bind ?_
  tb_start
  refine JAs.nil ?_
  tb_start
  have hio := itemsD_ok D hf hz
  have hlown : Txt.lower (stS (nmS w (parOf t) made)) = stS (110 :: digS (num w made)) := low_nm hpar
  have hnm : NmOk (stS (nmS w (parOf t) made)) := by
    refine ⟨?_, ?_⟩ <;> rw [hlown]
    · refine ok_txt (by rw [List.length_cons]; lia) fun c hc => ?_
      rcases List.mem_cons.mp hc with rfl | hc
      · lia
      · have := digS_dig hc; lia
    · rw [stS_len, List.length_cons]; lia
  have ht1 : okTxt (stS (nmS w (parOf t) made)) := ok_txt (by lia) (nmS_asc hpar)
  have ht2 : okTxt (stS (wS d0 d1 (word ++ [b]))) := ok_txt (by lia) (wS_ok (fun c hc => by have := D.c0 c hc; lia) (fun c hc => by have := D.c1 c hc; lia) _)
  have g := getF_D (d0 := d0) (d1 := d1) D.w0 hf hpar hm lm
  refine JCc.call (c_setd W (by (lcg_off)) (.tail (.tail (.tail (.tail .head)))) hio hnm ht1 ht2 ?_)
  rw [g]
  unfold dstep at hst
  cases hfd : st.1.find? (fun e => e.rows == made) with
  | some e =>
    rw [hfd] at hst
    dsimp only at hst
    have hew : (e.word == word ++ [b]) = false := by
      cases q : e.word == word ++ [b] with
      | false => rfl
      | true => rw [q] at hst; simp at hst
    rw [hew] at hst
    simp only [Bool.false_eq_true, if_false] at hst
    cases hst
    dsimp only [Option.map_some]
    tb_start
    refine ⟨by show 2 ≤ 16777216; lia, ?_⟩
    tb_start
    refine JC.append (xs := st.2.map (tV w d0 d1)) (by rw [List.length_map]; lia) (by (tlg_ne)) ?_
    tb_start
    have ela : st.2.map (tV w d0 d1) ++ [V.tup [natV (num w made), V.str (stS (wS d0 d1 e.word))]] = (st.2 ++ [(made, e.word)]).map (tV w d0 d1) := by rw [List.map_append]; rfl
    rw [ela]
    have hlen : ((st.2 ++ [(made, e.word)]).map (tV w d0 d1)).length = st.2.length + 1 := by simp
    refine ⟨NoPyItem.mref (by (lcg_off)), JGi.lstNeg (x := tV w d0 d1 (made, e.word)) (.mref (by (lcg_off))) (by decide) (by rw [hlen]; lia) (by decide) ?_ ?_⟩
    · rw [hlen, show ((-1 : Int) + ((st.2.length + 1 : Nat) : Int)).toNat = st.2.length by lia, List.map_append, List.getElem?_append_right (by simp)]
      simp
    unfold tV
    tb_start
    refine iteN ?_ ?_
    · rw [stS_beq, beq_eq_false_iff_ne]
      intro q
      have := wS_inj (fun q => by have := (D.c0 _ q).1; lia) (fun q => by have := (D.c1 _ q).1; lia) D.ne q
      rw [this] at hew
      simp at hew
    tb_start
    have := h (some (.str (stS (nmS w (parOf t) made)))) (some (.str (stS (wS d0 d1 (word ++ [b])))))
    dsimp only at this
    rw [List.drop_length, show pbV w d0 d1 [] = [] from rfl, List.append_nil] at this
    exact this
  | none =>
    rw [hfd] at hst
    dsimp only at hst
    cases hst
    dsimp only [Option.map_none]
    tb_start
    refine ⟨by show 2 ≤ 16777216; lia, ?_⟩
    tb_start
    refine JC.append (xs := st.2.map (tV w d0 d1)) (by rw [List.length_map]; lia) (by (tlg_ne)) ?_
    tb_start
    have ela : st.2.map (tV w d0 d1) ++ [V.tup [natV (num w made), V.str (stS (wS d0 d1 (word ++ [b])))]] = (st.2 ++ [(made, word ++ [b])]).map (tV w d0 d1) := by rw [List.map_append]; rfl
    rw [ela]
    have hlen : ((st.2 ++ [(made, word ++ [b])]).map (tV w d0 d1)).length = st.2.length + 1 := by simp
    refine ⟨NoPyItem.mref (by (lcg_off)), JGi.lstNeg (x := tV w d0 d1 (made, word ++ [b])) (.mref (by (lcg_off))) (by decide) (by rw [hlen]; lia) (by decide) ?_ ?_⟩
    · rw [hlen, show ((-1 : Int) + ((st.2.length + 1 : Nat) : Int)).toNat = st.2.length by lia, List.map_append, List.getElem?_append_right (by simp)]
      simp
    unfold tV
    tb_start
    refine iteP (by rw [beq_self_eq_true]) ?_
    tb_start
    refine ⟨by show 3 ≤ 16777216; lia, ?_⟩
    tb_start
    refine JC.append (xs := st.1.map (fV w d0 d1)) (by rw [List.length_map]; lia) (by (tlg_ne)) ?_
    have hd := (X.lex q1 q2).hd ln pb r
    have hd' := (X.lex q1 q2).hd ln (pb ++ [V.str (stS (wS d0 d1 (word ++ [b])))]) r
    tb_start
    refine JCc.call (c_push W ((((((((X.lex q1 q2).cons _).cons _).cons _).cons _).cons _).cons _).cons _ |>.cons _) (by lia) ?_)
    tb_start
    refine JCc.call (c_push W ((((((((X.lex q1 q2).cons _).cons _).cons _).cons _).cons _).cons _).cons _ |>.cons _) (by simp; lia) ?_)
    tb_start
    have := h (some (.str (stS (nmS w (parOf t) made)))) (some (.str (stS (wS d0 d1 (word ++ [b])))))
    dsimp only at this
    have eit := itemsD_snoc w d0 d1 hsf ⟨parOf t, word ++ [b], made⟩
    have efn : st.1.map (fV w d0 d1) ++ [V.tup [V.str (stS (nmS w (parOf t) made)), V.str (stS (wS d0 d1 (word ++ [b]))), natV (num w made)]] = (st.1 ++ [(⟨parOf t, word ++ [b], made⟩ : Fnd)]).map (fV w d0 d1) := by rw [List.map_append]; rfl
    have epb : pb ++ [V.str (stS (wS d0 d1 (word ++ [b])))] ++ [natV (num w made)] = pb ++ pbV w d0 d1 ((st.1 ++ [(⟨parOf t, word ++ [b], made⟩ : Fnd)]).drop st.1.length) := by
      rw [List.drop_left, pbV_snoc, List.append_assoc]; rfl
    rw [← eit, ← efn, ← epb] at this
    exact this
end
theorem drun_pre {sees : List (List Nat)} : ∀ {m t : Nat}, t ≤ m → ∀ {st}, drun sees m = some st → ∃ st', drun sees t = some st'
  | 0, 0, _, st, h => ⟨st, h⟩
  | m + 1, t, ht, st, h => by
    by_cases e : t = m + 1
    · subst e; exact ⟨st, h⟩
    · have h' : (drun sees m).bind (dturn sees m) = some st := h
      cases q : drun sees m with
      | none => rw [q] at h'; cases h'
      | some s => exact drun_pre (Nat.le_of_lt_succ (Nat.lt_of_le_of_ne ht e)) q
structure StOk (i : Nat) (st : DSt) : Prop where
  f : ∀ e ∈ st.1, FOk e ∧ e.word.length ≤ i
  ne : st.1 ≠ []
  l1 : st.1.length ≤ 1 + 2 * i
  l2 : st.2.length ≤ 2 * i
theorem dstep_ok {par i : Nat} {new : List Bool} {made : List Nat} {st st' : DSt} (hp : par = 110 ∨ par = 78) (hm : okR made = true) (hn : new.length ≤ i) (hf : ∀ e ∈ st.1, FOk e ∧ e.word.length ≤ i) (h : dstep par new made st = some st') :
    (∀ e ∈ st'.1, FOk e ∧ e.word.length ≤ i) ∧ st'.1.length ≤ st.1.length + 1 ∧ st'.2.length ≤ st.2.length + 1 ∧ (∃ s, st'.1 = st.1 ++ s) := by
  unfold dstep at h
  cases q : st.1.find? (fun e => e.rows == made) with
  | some e =>
    rw [q] at h
    dsimp only at h
    split at h
    · cases h
    · cases h
      exact ⟨hf, by simp, by simp, [], by simp⟩
  | none =>
    rw [q] at h
    cases h
    refine ⟨fun e he => ?_, by simp, by simp, _, rfl⟩
    rcases List.mem_append.mp he with he | he
    · exact hf e he
    · rw [List.mem_singleton.mp he]
      obtain ⟨h1, h2, _⟩ := okR_iff hm
      exact ⟨⟨hp, h1, h2⟩, hn⟩
theorem parOf_ok (t : Nat) : parOf t = 110 ∨ parOf t = 78 := by unfold parOf; split <;> simp
section
variable {B : Base} {n : Nat} {env : Env} {hp hp' : Hp} {Φ : V → Hp → Prop} {Ψ : AF → Hp → Prop} {Υ : Hp → Prop} {K : Frag} {mg mb : Str → Option Value} {d p dh cs sg : Addr} {fdl : FuncData}
noncomputable abbrev seesV (sees : List (List Nat)) : V := .lst (sees.map fun s => V.lst (s.map natV))
noncomputable abbrev deedsV (d0 d1 : List Nat) : V := .lst [.str (stS d0), .str (stS d1)]
noncomputable abbrev whN (w : Nat) : Nat := valD w [65535, 65535, 65535, 65535, 65535]
theorem turn_one (W : Wd B K mg mb) {G : QT2 → QT2 → Nat → List V → List Nat → Hp} (X : DeedAt G d p dh cs sg fdl) {L dt tl fnd tld : Addr} (E : EnvIs B W.T.GG env L (scopeOf (stm 77)).names [("rows", L + 1)] []) {w t ln : Nat} {d0 d1 : List Nat} (D : DOk w d0 d1) {sees : List (List Nat)} (hs4 : sees.length = 4) (hsee : ∀ s ∈ sees, s.length ≤ 4 ∧ ∀ y ∈ s, y < 4)
    {o1 o2 o3 o4 o5 o6 o7 o8 rv : Option V} {q1 : QT2} (hq1 : q1 = none ∨ q1 = some tabI) {r : List Nat} {e1 : Addr × AObj} {st st' : DSt} (ht : t < 14) (hst : dturn sees t st = some st') (hok : StOk t st) {e : Fnd} (he : st.1[t]? = some e)
    (h : ∀ o1 o2 o3 o4 o5 o6 o7 o8 rv, Ψ .next (e1 :: (tld, .list (st'.2.map (tV w d0 d1))) :: (fnd, .list (st'.1.map (fV w d0 d1))) :: (tl, .list (tups (itemsD w d0 d1 st'.1))) :: (dt, .attrs [("_headers", .mref tl)]) :: (L, .ns (dNs d (seesV sees) w (deedsV d0 d1) (whN w) (num w rows0) dt fnd tld (some (natV t)) o1 o2 o3 o4 o5 o6 o7 o8)) :: (L + 1, .cell rv) :: G (some tabI) (some tabD) ln (pbV w d0 d1 (st'.1.drop (t + 1))) r)) :
    JS B (n + 6) env (e1 :: (tld, .list (st.2.map (tV w d0 d1))) :: (fnd, .list (st.1.map (fV w d0 d1))) :: (tl, .list (tups (itemsD w d0 d1 st.1))) :: (dt, .attrs [("_headers", .mref tl)]) :: (L, .ns (dNs d (seesV sees) w (deedsV d0 d1) (whN w) (num w rows0) dt fnd tld (some (natV t)) o1 o2 o3 o4 o5 o6 o7 o8)) :: (L + 1, .cell rv) :: G q1 (some tabD) ln (pbV w d0 d1 (st.1.drop t)) r) (ifT (nthS deedL 0)) Ψ := by
  obtain ⟨⟨he1, he2⟩, hew⟩ : (FOk e ∧ True) ∧ e.word.length ≤ t := ⟨⟨(hok.f e (List.mem_of_getElem? he)).1, trivial⟩, (hok.f e (List.mem_of_getElem? he)).2⟩
  have htl := (List.getElem?_eq_some_iff.mp he).1
  have ed : st.1.drop t = e :: st.1.drop (t + 1) := by
    rw [List.drop_eq_getElem_cons htl]
    congr 1
    exact (List.getElem?_eq_some_iff.mp he).2
  have epb : pbV w d0 d1 (st.1.drop t) = V.str (stS (wS d0 d1 e.word)) :: natV (num w e.rows) :: pbV w d0 d1 (st.1.drop (t + 1)) := by rw [ed]; rfl
  unfold dturn at hst
  rw [he] at hst
  dsimp only at hst
  split at hst
  case isFalse => cases hst
  rename_i hck
  rw [Bool.and_eq_true, Bool.and_eq_true] at hck
  obtain ⟨⟨k1, k2⟩, k3⟩ := hck
  cases hs1 : dstep (parOf t) (e.word ++ [false]) (clsF sees e.rows) st with
  | none => rw [hs1] at hst; cases hst
  | some st1 =>
  rw [hs1] at hst
  have hs2 : dstep (parOf t) (e.word ++ [true]) (compl e.rows) st1 = some st' := hst
  obtain ⟨r4, rle, rtop⟩ := okR_iff k1
  obtain ⟨c4, cle, _⟩ := okR_iff k2
  obtain ⟨m4, mle, _⟩ := okR_iff k3
  rw [epb]
  have hpbl : (pbV w d0 d1 (st.1.drop (t + 1))).length ≤ 100 := by
    have : ∀ l : List Fnd, (pbV w d0 d1 l).length = 2 * l.length := by
      intro l
      induction l with
      | nil => rfl
      | cons e l ih =>
        have : pbV w d0 d1 (e :: l) = V.str (stS (wS d0 d1 e.word)) :: natV (num w e.rows) :: pbV w d0 d1 l := rfl
        rw [this, List.length_cons, List.length_cons, ih, List.length_cons]; lia
    rw [this]
    have := hok.l1
    simp; lia
  conv in (ifT _) => whnf
  have hd := (X.lex q1 (some tabD)).hd ln (V.str (stS (wS d0 d1 e.word)) :: natV (num w e.rows) :: pbV w d0 d1 (st.1.drop (t + 1))) r
  have hd' := (X.lex q1 (some tabD)).hd ln (natV (num w e.rows) :: pbV w d0 d1 (st.1.drop (t + 1))) r
  tb_start
  refine J1.assignSwap (names := ["word", "number"]) ?_ (by rfl) (swapped2 E (by kernel_rfl) (by kernel_rfl) (by decide +kernel) (by kernel_rfl) rfl (by kernel_rfl) (by kernel_rfl))
  tb_start
  refine JCc.call (c_tokP W (((((((X.lex q1 (some tabD)).cons _).cons _).cons _).cons _).cons _).cons _ |>.cons _) (by simp; lia) ?_)
  tb_start
  refine JCc.call (c_tokP W (((((((X.lex q1 (some tabD)).cons _).cons _).cons _).cons _).cons _).cons _ |>.cons _) (by lia) ?_)
  tb_start
  refine ⟨by show 2 ≤ 16777216; lia, _, rfl, rfl, ?_⟩
  refine JAs.bind ?_
  tb_start
  refine JAs.bind ?_
  tb_start
  refine JAs.nil ?_
  tb_start
  refine JCc.call (c_i2d (n := n) W (ds := full5 e.rows) (by have := D.w0; lia) (by have := D.w1; lia) (full5_len r4) (full5_lt D.w0 rle) ?_ hq1 (.tail (.tail (.tail (.tail (.tail (.tail (.tail (X.u1 q1 (some tabD) ln _ r)))))))) ?_)
  · match hr : e.rows, r4 with
    | [a, b, c, d'], _ => rw [hr] at rtop; simp at rtop; simp [full5]; lia
  tb_start
  refine ⟨NoPyItem.lst, JGi.lstSl (.lst _) (by decide) (by rw [List.length_map, full5_len r4]; decide) ?_⟩
  rw [show (4 : Int) = ((4 : Nat) : Int) from rfl, vpick_from]
  refine JE.list ?_
  tb_start
  refine ⟨NoPyItem.lst, JGi.nat (x := 0) (.lst _) (by rw [full5_len r4]; decide) (by rw [full5_len r4]; decide) ?_⟩
  tb_start
  refine ⟨by show 1 ≤ 16777216; lia, ?_⟩
  have e50 : (full5 e.rows).getD 0 0 = e.rows.getD 0 0 := by
    match hr : e.rows, r4 with
    | [a, b, c, d'], _ => rfl
  rw [e50]
  have e5d : ((full5 e.rows).map natV).drop 4 = ([((65535 - e.rows.getD 0 0 : Nat) : Int)]).map V.int := by
    match hr : e.rows, r4 with
    | [a, b, c, d'], _ => rfl
  have e5e : (65535 : Int) - ((e.rows.getD 0 0 : Nat) : Int) = ((65535 - e.rows.getD 0 0 : Nat) : Int) := by lia
  rw [e5d, e5e]
  refine JCmp.neInts (ns := [((65535 - e.rows.getD 0 0 : Nat) : Int)]) (ms := [((65535 - e.rows.getD 0 0 : Nat) : Int)]) (.lst _) (.lst _) ?_
  rw [decide_eq_true rfl]
  tb_start
  refine iteN rfl ?_
  tb_start
  refine J1.comp (own' := fun _ => []) (out' := [("rows", L + 1)]) (fun C (t : Option V) => [(C, .ns [(".0", none), ("seen", t)])]) none E (⟨⟨by kernel_rfl, by decide +kernel, by kernel_rfl⟩, by rfl, fun C => by kernel_rfl, fun C => by kernel_rfl, fun C t => ⟨_, _, .head⟩⟩) (by kernel_rfl) (by kernel_rfl) ?_
  tb_start
  refine JI.lst fun it => ?_
  refine CompIn.lst sees (fun s => .lst (s.map natV)) (fun s => some (natV (orL (s.map fun y => e.rows.getD y 0)))) (by lia) (fun C acc env' E' i s t' ys hs => ?_) ?_
  · obtain ⟨hsl, hsy⟩ := hsee s (List.mem_of_getElem? hs)
    dsimp only [List.cons_append, List.nil_append]
    tb_start
    refine JE.comp (own' := fun _ => []) (out' := [("rows", L + 1)]) (fun C (t : Option V) => [(C, .ns [(".0", none), ("y", t)])]) none E' (⟨⟨by kernel_rfl, by decide +kernel, by kernel_rfl⟩, by rfl, fun C => by kernel_rfl, fun C => by kernel_rfl, fun C t => ⟨_, _, .head⟩⟩) ?_
    tb_start
    refine JI.lst fun it2 => ?_
    refine CompIn.lst s natV (fun y => some (natV (e.rows.getD y 0))) (by lia) (fun C2 acc2 env2 E2 i2 y t2 ys2 hy => ?_) ?_
    · have hy4 := hsy y (List.mem_of_getElem? hy)
      dsimp only [List.cons_append, List.nil_append]
      tb_start
      refine ⟨NoPyItem.lst, JGi.nat (.lst _) (by rw [full5_len r4]; lia) (by rw [full5_len r4]; decide) ?_⟩
      have : (full5 e.rows).getD y 0 = e.rows.getD y 0 := by
        unfold full5
        rw [List.getD_eq_getElem?_getD, List.getElem?_append_left (by lia), List.getD_eq_getElem?_getD]
      rw [this]
      first | exact ctEnd | exact ⟨rfl, _, rfl⟩
    · rw [filterMap_some']
      tb_start
      have e7 : s.map (fun y => natV (e.rows.getD y 0)) = (s.map fun y => e.rows.getD y 0).map natV := by rw [List.map_map]; rfl
      rw [e7]
      refine JCc.call (c_over W ?_)
      first | exact ctEnd | exact ⟨rfl, _, rfl⟩
  · rw [filterMap_some']
    have e8 : sees.map (fun s => natV (orL (s.map fun y => e.rows.getD y 0))) = (clsF sees e.rows).map natV := by unfold clsF; rw [List.map_map]; rfl
    rw [e8]
    refine nsEnd (by (tlg_ne)) (by (ktu_offL)) ?_
    tb_start
    refine JE.list ?_
    tb_start
    refine ⟨NoPyItem.lst, JGi.nat (x := 0) (.lst _) (by rw [c4]; decide) (by rw [c4]; decide) ?_⟩
    tb_start
    refine ⟨by show 1 ≤ 16777216; lia, ?_⟩
    have c0le : (clsF sees e.rows).getD 0 0 ≤ 65535 := by
      match hr : clsF sees e.rows, c4 with
      | [a, b, c, d'], _ => exact cle a (by rw [hr]; exact .head _)
    have e5f : (65535 : Int) - (((clsF sees e.rows).getD 0 0 : Nat) : Int) = ((65535 - (clsF sees e.rows).getD 0 0 : Nat) : Int) := by lia
    rw [e5f]
    refine JBin.catL (.lst _) (.lst _) (by rw [List.length_map, c4]; show 4 + 1 ≤ 16777216; lia) ?_
    have e9 : (clsF sees e.rows).map natV ++ [natV (65535 - (clsF sees e.rows).getD 0 0)] = (full5 (clsF sees e.rows)).map natV := by unfold full5; rw [List.map_append]; rfl
    rw [e9]
    tb_start
    refine JCc.call (c_d2i (n := n) W (q := some tabD) (by have := D.w1; lia) (full5_len c4) (full5_lt D.w0 cle) (.inr rfl) (.tail (.tail (.tail (.tail (.tail (.tail (.tail (X.u2 (some tabI) (some tabD) ln _ r)))))))) ?_)
    rw [show valD w (full5 (clsF sees e.rows)) = num w (clsF sees e.rows) from rfl]
    tb_start
    refine JE.list ?_
    tb_start
    refine ⟨NoPyItem.lst, JGi.lst (x := .str (stS d0)) (.lst _) (by decide) (by decide) rfl ?_⟩
    tb_start
    refine ⟨by show 2 ≤ 16777216; lia, ?_⟩
    tb_start
    refine ⟨NoPyItem.lst, JGi.lst (x := .str (stS d1)) (.lst _) (by decide) (by decide) rfl ?_⟩
    tb_start
    have ecp : ((whN w : Nat) : Int) - ((num w e.rows : Nat) : Int) = ((num w (compl e.rows) : Nat) : Int) := by
      have := num_compl (w := w) r4 rle
      unfold whN
      lia
    rw [ecp]
    refine ⟨by show 2 ≤ 16777216; lia, ?_⟩
    tb_start
    refine ⟨by show 2 ≤ 16777216; lia, ?_⟩
    refine JI.lst fun it3 => ?_
    have hok1 := dstep_ok (i := t + 1) (parOf_ok t) k2 (by simp; lia) (fun e he => ⟨(hok.f e he).1, by have := (hok.f e he).2; lia⟩) hs1
    have hok2 := dstep_ok (i := t + 1) (parOf_ok t) k3 (by simp; lia) hok1.1 hs2
    obtain ⟨g1, g2, g3, s1, g4⟩ := hok1
    obtain ⟨g1', g2', g3', s2, g4'⟩ := hok2
    have hl1 := hok.l1
    have hl2 := hok.l2
    have pbA : ∀ a b : List Fnd, pbV w d0 d1 (a ++ b) = pbV w d0 d1 a ++ pbV w d0 d1 b := fun a b => by unfold pbV; rw [List.map_append, List.flatten_append]
    have pbL : ∀ l : List Fnd, (pbV w d0 d1 l).length = 2 * l.length := by
      intro l
      induction l with
      | nil => rfl
      | cons e l ih =>
        have : pbV w d0 d1 (e :: l) = V.str (stS (wS d0 d1 e.word)) :: natV (num w e.rows) :: pbV w d0 d1 l := rfl
        rw [this, List.length_cons, List.length_cons, ih, List.length_cons]; lia
    refine JF.turn ?_
    refine JN.lst (x := .tup [.str (stS d0), natV (num w (clsF sees e.rows))]) rfl .head ?_
    refine JA.tuple ?_ (by rfl) (by rfl)
    refine JAs.consE (by rfl) (JA.name ?_)
    refine JSt.loc E (by kernel_rfl) (by (tlg_ne)) (by (ktu_offL)) ?_
    refine JAs.consE (by rfl) (JA.name ?_)
    refine JSt.loc E (by kernel_rfl) (by (tlg_ne)) (by (ktu_offL)) ?_
    refine JAs.nilE ?_
    refine deed_one W X E D (b := false) hs1 (fun e he => (hok.f e he).1) (by lia) (by lia) (by lia) (by lia) c4 cle hok.ne fun na mo => ?_
    refine JF.turn ?_
    refine JN.lst (x := .tup [.str (stS d1), natV (num w (compl e.rows))]) rfl .head ?_
    refine JA.tuple ?_ (by rfl) (by rfl)
    refine JAs.consE (by rfl) (JA.name ?_)
    refine JSt.loc E (by kernel_rfl) (by (tlg_ne)) (by (ktu_offL)) ?_
    refine JAs.consE (by rfl) (JA.name ?_)
    refine JSt.loc E (by kernel_rfl) (by (tlg_ne)) (by (ktu_offL)) ?_
    refine JAs.nilE ?_
    refine deed_one W X E D (b := true) hs2 (fun e he => (g1 e he).1) (by lia) (by lia) (by simp only [List.length_append, pbL, List.length_drop]; lia) (by lia) m4 mle (by rw [g4]; intro q; exact hok.ne (List.append_eq_nil_iff.mp q).1) fun na mo => ?_
    refine JF.turn ?_
    refine JN.lstEnd rfl .head ?_
    tb_start
    have epf : pbV w d0 d1 (st.1.drop (t + 1)) ++ pbV w d0 d1 (st1.1.drop st.1.length) ++ pbV w d0 d1 (st'.1.drop st1.1.length) = pbV w d0 d1 (st'.1.drop (t + 1)) := by
      rw [g4', List.drop_left, g4, List.drop_left, ← pbA, ← pbA, List.append_assoc, List.append_assoc, List.drop_append_of_le_length (by lia)]
    rw [epf]
    exact h _ _ _ _ _ _ _ _ _
theorem dturn_ok {sees : List (List Nat)} {t : Nat} {st st' : DSt} (h : dturn sees t st = some st') (hok : StOk t st) : StOk (t + 1) st' := by
  unfold dturn at h
  cases he : st.1[t]? with
  | none =>
    rw [he] at h
    cases h
    exact ⟨fun e he => ⟨(hok.f e he).1, by have := (hok.f e he).2; lia⟩, hok.ne, by have := hok.l1; lia, by have := hok.l2; lia⟩
  | some e =>
    rw [he] at h
    dsimp only at h
    split at h
    case isFalse => cases h
    rename_i hck
    rw [Bool.and_eq_true, Bool.and_eq_true] at hck
    obtain ⟨⟨k1, k2⟩, k3⟩ := hck
    have hew := (hok.f e (List.mem_of_getElem? he)).2
    cases hs1 : dstep (parOf t) (e.word ++ [false]) (clsF sees e.rows) st with
    | none => rw [hs1] at h; cases h
    | some st1 =>
      rw [hs1] at h
      have hs2 : dstep (parOf t) (e.word ++ [true]) (compl e.rows) st1 = some st' := h
      obtain ⟨g1, g2, g3, s1, g4⟩ := dstep_ok (i := t + 1) (parOf_ok t) k2 (by simp; lia) (fun e he => ⟨(hok.f e he).1, by have := (hok.f e he).2; lia⟩) hs1
      obtain ⟨g1', g2', g3', s2, g4'⟩ := dstep_ok (i := t + 1) (parOf_ok t) k3 (by simp; lia) g1 hs2
      have hl1 := hok.l1
      have hl2 := hok.l2
      refine ⟨g1', ?_, by lia, by lia⟩
      rw [g4', g4]
      intro q
      exact hok.ne (List.append_eq_nil_iff.mp (List.append_eq_nil_iff.mp q).1).1
theorem stOk0 : StOk 0 ([⟨110, [], rows0⟩], []) := ⟨fun e he => by rw [List.mem_singleton.mp he]; exact ⟨⟨.inl rfl, rfl, by decide⟩, Nat.le_refl _⟩, by simp, by simp, by simp⟩
theorem c_deeds (W : Wd B K mg mb) {G : QT2 → QT2 → Nat → List V → List Nat → Hp} (X : DeedAt G d p dh cs sg fdl) {w ln : Nat} {d0 d1 : List Nat} (D : DOk w d0 d1) {sees : List (List Nat)} (hs4 : sees.length = 4) (hsee : ∀ s ∈ sees, s.length ≤ 4 ∧ ∀ y ∈ s, y < 4)
    {r : List Nat} {st : DSt} (hrun : drun sees 14 = some st) (hl14 : st.1.length ≤ 14)
    (h : ∀ fnd tld q1, Φ (.tup [.lst (tups (itemsD w d0 d1 st.1)), .mref fnd, .mref tld]) ((tld, .list (st.2.map (tV w d0 d1))) :: (fnd, .list (st.1.map (fV w d0 d1))) :: G q1 (some tabD) ln [] r)) :
    JCc B (n + 6 + 1) (G none none ln [] r) (.fn fDeeds) [.inst 231 d, seesV sees, natV w, deedsV d0 d1] [] Φ := by
  refine JCc.topc W (by kernel_rfl) (by decide +kernel) ?_
  refine JBind.plain ["lexer", "sees", "width", "deeds"] (vs4 fun a b c d => by kernel_rfl) rfl ?_
  refine top1 W (by kernel_rfl) ([("lexer", some (.inst 231 d)), ("sees", some (seesV sees)), ("width", some (natV w)), ("deeds", some (deedsV d0 d1)), ("whole", none), ("first", none), ("table", none), ("found", none), ("told", none), ("turn", none), ("word", none), ("number", none), ("over", none), ("closed", none), ("deed", none), ("made", none), ("name", none), ("more", none)]) (fun L => [("rows", L + 1)]) (fun L => [(L + 1, .cell none)]) (by kernel_rfl) (fun L => by kernel_rfl) (fun L => by kernel_rfl) (fun env L E _ _ => ?_)
  conv in (bodyOf _) => whnf
  dsimp only [List.cons_append, List.nil_append]
  have hw0 := D.w0
  have hw1 := D.w1
  tb_start
  refine J1.assignSwap (names := ["whole", "first"]) ?_ (by rfl) (swapped2 E (by kernel_rfl) (by kernel_rfl) (by decide +kernel) (by kernel_rfl) rfl (by kernel_rfl) (by kernel_rfl))
  tb_start
  refine JE.list ?_
  tb_start
  refine ⟨by decide, ?_⟩
  tb_start
  refine JBin.mulL (.lst [V.int 65535]) (by decide) (by decide) (by decide) ?_
  rw [show (List.replicate (5 : Int).toNat [V.int 65535]).flatten = ([65535, 65535, 65535, 65535, 65535] : List Nat).map natV from rfl]
  tb_start
  have hw2 : 2 ^ 16 ≤ 2 ^ w := Nat.pow_le_pow_right (by decide) hw0
  refine JCc.call (c_d2i (n := n) W (q := none) (by lia) rfl (by intro x hx; simp at hx; lia) (.inl rfl) (.tail (.tail (X.u2 none none ln [] r))) ?_)
  tb_start
  refine JE.list ?_
  tb_start
  refine ⟨by decide, ?_⟩
  tb_start
  have r0le : ∀ x ∈ rows0, x ≤ 65535 := by decide
  refine JCc.call (c_d2i (n := n) W (ds := full5 rows0) (q := some tabD) (by lia) rfl (full5_lt hw0 r0le) (.inr rfl) (.tail (.tail (X.u2 none (some tabD) ln [] r))) ?_)
  rw [show valD w (full5 rows0) = num w rows0 from rfl]
  tb_start
  refine ⟨by show 2 ≤ 16777216; lia, _, rfl, rfl, ?_⟩
  refine JAs.bind ?_
  tb_start
  refine JAs.bind ?_
  tb_start
  refine JAs.nil ?_
  tb_start
  refine J1.assignSwap (names := ["table", "found", "told"]) ?_ (by rfl) (swapped3 E (by kernel_rfl) (by kernel_rfl) (by kernel_rfl) (by decide +kernel) (by kernel_rfl) rfl (by kernel_rfl) (by kernel_rfl))
  tb_start
  refine ⟨JK.mk W (.inl rfl), JCc.call (JCc.mk W (.inl rfl) (by (lcg_off)) (by (lcg_off)) fun dt => c_hinit (hp' := fun l => (dt, .attrs [("_headers", .mref l)]) :: _) W (fun l => .head) fun tl => ⟨rfl, ?_⟩)⟩
  tb_start
  refine JE.listM ?_
  tb_start
  have hnl := nmS_len (w := w) (par := 110) hw0 hw1 (rs := rows0) rfl r0le
  have hnl' : (digS (num w rows0)).length ≤ 500 := by unfold nmS at hnl; rw [List.length_cons] at hnl; lia
  refine JC.strInt (num_log hw0 hw1 (rs := rows0) rfl r0le) ?_
  rw [digS_str]
  refine JBin.cat (by rw [stS_len]; show 1 + _ ≤ 16777216; lia) ?_
  rw [show (("n" : Str) ++ stS (digS (num w rows0))) = stS (nmS w 110 rows0) by rw [show ("n" : Str) = stS [110] by decide +kernel, stS_app]; rfl]
  tb_start
  refine ⟨by show 3 ≤ 16777216; lia, ?_⟩
  tb_start
  refine ⟨by show 1 ≤ 16777216; lia, fun fnd => ?_⟩
  tb_start
  refine JE.listM ?_
  tb_start
  refine ⟨by decide, fun tld => ?_⟩
  tb_start
  refine ⟨by show 3 ≤ 16777216; lia, _, rfl, rfl, ?_⟩
  refine JAs.bind ?_
  tb_start
  refine JAs.bind ?_
  tb_start
  refine JAs.bind ?_
  tb_start
  refine JAs.nil ?_
  tb_start
  refine JC.strInt (num_log hw0 hw1 (rs := rows0) rfl r0le) ?_
  rw [digS_str]
  refine JBin.cat (by rw [stS_len]; show 1 + _ ≤ 16777216; lia) ?_
  rw [show (("n" : Str) ++ stS (digS (num w rows0))) = stS (nmS w 110 rows0) by rw [show ("n" : Str) = stS [110] by decide +kernel, stS_app]; rfl]
  tb_start
  have e0 : ("" : Str) = stS [] := by decide +kernel
  have hdl1 := D.l1
  rw [e0]
  refine JCc.call (c_addh (items := []) (hp' := (tld, .list []) :: (fnd, .list [V.tup [V.str (stS (nmS w 110 rows0)), V.str (stS []), natV (num w rows0)]]) :: (tl, .list (tups [(stS (nmS w 110 rows0), stS [])])) :: _) W (by (lcg_off)) (.tail (.tail .head)) ⟨by decide, fun p hp => by cases hp⟩ (ok_txt (by lia) (nmS_asc (.inl rfl))) (ok_txt (by decide) (by intro c hc; cases hc)) (by rw [stS_len]; decide) ?_)
  tb_start
  refine JC.strInt (num_log hw0 hw1 (rs := rows0) rfl r0le) ?_
  rw [digS_str]
  refine JBin.cat (by rw [stS_len]; show 1 + _ ≤ 16777216; lia) ?_
  rw [show (("N" : Str) ++ stS (digS (num w rows0))) = stS (nmS w 78 rows0) by rw [show ("N" : Str) = stS [78] by decide +kernel, stS_app]; rfl]
  tb_start
  refine ⟨NoPyItem.lst, JGi.lst (x := .str (stS d1)) (.lst _) (by decide) (by decide) rfl ?_⟩
  tb_start
  have hio : ItemsOk [(stS (nmS w 110 rows0), stS [])] := by
    refine ⟨by show 1 < 16777215; lia, fun p hp => ?_⟩
    rw [List.mem_singleton.mp hp]
    show (Txt.lower (stS (nmS w 110 rows0))).length ≤ 16777216
    rw [low_nm (.inl rfl), stS_len, List.length_cons]; lia
  refine JCc.call (c_addh (items := [(stS (nmS w 110 rows0), stS [])]) (hp' := (tld, .list []) :: (fnd, .list [V.tup [V.str (stS (nmS w 110 rows0)), V.str (stS []), natV (num w rows0)]]) :: (tl, .list (tups (itemsD w d0 d1 [⟨110, [], rows0⟩]))) :: _) W (by (lcg_off)) (.tail (.tail .head)) hio (ok_txt (by unfold nmS; rw [List.length_cons]; lia) (nmS_asc (.inr rfl))) (ok_txt (by lia) (fun c hc => by have := D.c1 c hc; lia)) (by rw [stS_len]; lia) ?_)
  have hd := (X.lex none (some tabD)).hd ln [] r
  have hd' := (X.lex none (some tabD)).hd ln ([] ++ [V.str (stS [])]) r
  tb_start
  refine JCc.call (c_push W (pb := []) ((((((X.lex none (some tabD)).cons _).cons _).cons _).cons _).cons _ |>.cons _) (by decide) ?_)
  tb_start
  refine JCc.call (c_push W (pb := [] ++ [V.str (stS [])]) ((((((X.lex none (some tabD)).cons _).cons _).cons _).cons _).cons _ |>.cons _) (by show 1 < 16777215; lia) ?_)
  tb_start
  refine JC.range1 ?_
  tb_start
  refine JI.rngN (k := 14) (by lia) fun it => ?_
  refine JF.range (k := 14) (fun i rr => ∃ sti q1 tv o1 o2 o3 o4 o5 o6 o7 o8 rv, drun sees i = some sti ∧ StOk i sti ∧ (q1 = none ∨ q1 = some tabI) ∧ rr = (tld, .list (sti.2.map (tV w d0 d1))) :: (fnd, .list (sti.1.map (fV w d0 d1))) :: (tl, .list (tups (itemsD w d0 d1 sti.1))) :: (dt, .attrs [("_headers", .mref tl)]) :: (L, .ns (dNs d (seesV sees) w (deedsV d0 d1) (whN w) (num w rows0) dt fnd tld tv o1 o2 o3 o4 o5 o6 o7 o8)) :: (L + 1, .cell rv) :: G q1 (some tabD) ln (pbV w d0 d1 (sti.1.drop i)) r) (fun i rr hi hI => ?_) (fun rr hI => ?_) ⟨([⟨110, [], rows0⟩], []), none, none, none, none, none, none, none, none, none, none, none, rfl, stOk0, .inl rfl, rfl⟩
  · obtain ⟨sti, q1, tv, o1, o2, o3, o4, o5, o6, o7, o8, rv, hri, hok, hq, rfl⟩ := hI
    obtain ⟨st', hr'⟩ := drun_pre (show i + 1 ≤ 14 by lia) hrun
    have hdt : dturn sees i sti = some st' := by
      have : (drun sees i).bind (dturn sees i) = some st' := hr'
      rwa [hri] at this
    have hok' := dturn_ok hdt hok
    have hl1 := hok.l1
    tb_start
    refine JC.lenLst (.mref (by (lcg_off))) (by rw [List.length_map]; lia) ?_
    rw [List.length_map]
    tb_start
    by_cases h5 : i < sti.1.length
    · obtain ⟨e, he⟩ : ∃ e, sti.1[i]? = some e := ⟨sti.1[i], by simp⟩
      refine iteP (by rw [decide_eq_true_eq]; lia) ?_
      refine turn_one W X E D hs4 hsee hq hi hdt hok he fun p1 p2 p3 p4 p5 p6 p7 p8 p9 => ?_
      tb_start
      exact ⟨_, rfl, st', some tabI, _, _, _, _, _, _, _, _, _, _, hr', hok', .inr rfl, rfl⟩
    · refine iteN (by rw [decide_eq_false_iff_not]; lia) ?_
      have hnone : sti.1[i]? = none := List.getElem?_eq_none (by lia)
      have : st' = sti := by
        unfold dturn at hdt
        rw [hnone] at hdt
        cases hdt; rfl
      subst this
      tb_start
      refine ⟨_, rfl, st', q1, some (natV i), o1, o2, o3, o4, o5, o6, o7, o8, rv, hr', hok', hq, ?_⟩
      rw [List.drop_eq_nil_of_le (show st'.1.length ≤ i by lia), List.drop_eq_nil_of_le (show st'.1.length ≤ i + 1 by lia)]
  · obtain ⟨sti, q1, tv, o1, o2, o3, o4, o5, o6, o7, o8, rv, hri, hok, hq, rfl⟩ := hI
    rw [hrun] at hri
    cases hri
    rw [List.drop_eq_nil_of_le hl14, show pbV w d0 d1 [] = [] from rfl]
    have hio2 := itemsD_ok D (fun e he => (hok.f e he).1) (by have := hok.l1; lia)
    have hil := hio2.len
    have htl : (tups (itemsD w d0 d1 st.1)).length = (itemsD w d0 d1 st.1).length := by simp [tups]
    tb_start
    refine JCc.call (c_items W (by (lcg_off)) (by (lcg_off)) hio2 fun a => ?_)
    rw [vpick_all]
    tb_start
    refine ⟨by show 2 ≤ 16777216; lia, ?_⟩
    tb_start
    refine JC.append (xs := tups (itemsD w d0 d1 st.1)) (by lia) (by (tlg_ne)) ?_
    tb_start
    refine JCc.call (c_itemsF W (by (lcg_off)) (by (lcg_off)) hio2 ?_)
    rw [vpick_all]
    tb_start
    refine ⟨by show 3 ≤ 16777216; lia, ?_⟩
    exact Back.ret (hp'' := (tld, .list (st.2.map (tV w d0 d1))) :: (fnd, .list (st.1.map (fV w d0 d1))) :: G q1 (some tabD) ln [] r) (by (repeat (first | (with_reducible exact List.Sublist.refl _) | (with_reducible refine List.Sublist.cons_cons _ ?_) | (with_reducible refine List.Sublist.cons _ ?_)))) (h fnd tld q1)
end
theorem zipVals_map {α β : Type} (f : α → V) (g : β → V) : ∀ (a : List α) (b : List β), zipVals (a.map f) (b.map g) = (a.zip b).map fun p => V.tup [f p.1, g p.2]
  | [], _ => by cases ‹List β› <;> rfl
  | x :: a, [] => rfl
  | x :: a, y :: b => by
    show V.tup [f x, g y] :: zipVals (a.map f) (b.map g) = _
    rw [zipVals_map f g a b]; rfl
noncomputable def vpickG {α : Type} (xs : List α) (lo hi st : Option Int) : List α := (sliceRange (sliceBounds lo hi st xs.length).1 (sliceBounds lo hi st xs.length).2.1 (sliceBounds lo hi st xs.length).2.2).filterMap (xs[·]?)
theorem vpick_mapE {α : Type} (g : α → V) (ns : List α) (lo hi st : Option Int) : vpick (ns.map g) lo hi st = (vpickG ns lo hi st).map g := by
  unfold vpick vpickG
  rw [List.length_map, List.map_filterMap]
  congr 1
  funext i
  simp
noncomputable def opC (p : Nat) : List Nat := (opsL.getD p "").cps.toList
noncomputable def endC (x : Nat) (b : Bool) : Nat := if b then 65 + x else 97 + x
noncomputable def endsL (arr : List (Nat × Nat)) (way : List Nat) : List (Nat × Nat) := (arr.zip way.tail).map fun p => (endC p.1.1 (p.2 / 12 % 2 != 0), endC p.1.2 (p.2 / 24 != 0))
noncomputable abbrev endV (p : Nat × Nat) : V := .lst [.str (chS p.1), .str (chS p.2)]
structure LawIn (arr : List (Nat × Nat)) (pla : List Nat) (lk wd dw : Nat) (way : List Nat) : Prop where
  a5 : arr.length = 5
  a4 : ∀ p ∈ arr, p.1 < 4 ∧ p.2 < 4
  p3 : ∃ p0 p1 p2, pla = [p0, p1, p2] ∧ p0 < 48 ∧ p1 < 48 ∧ p2 < 48 ∧ p1 ≠ p2
  lk : lk ∈ [32, 34, 92, 9, 10, 35]
  w0 : 16 ≤ wd
  w1 : wd ≤ 55
  dw : dw < 16
  y6 : way.length = 6
  y48 : ∀ y ∈ way, y < 48
noncomputable abbrev lawOwn (cs ce pl ma lo wi dr en le ne ta fo nu : Addr) : List (Str × Addr) := [("numbers", nu), ("found", fo), ("table", ta), ("near", ne), ("lexer", le), ("ends", en), ("drawn", dr), ("width", wi), ("look", lo), ("marks", ma), ("places", pl), ("cells", ce), ("script", cs)]
noncomputable abbrev lawC (cs ce pl ma lo wi dr en le ne ta fo nu : Addr) (v1 v2 v3 v4 v5 v6 v7 v8 v9 v10 v11 v12 v13 : Option V) (rest : Hp) : Hp :=
  (nu, .cell v13) :: (fo, .cell v12) :: (ta, .cell v11) :: (ne, .cell v10) :: (le, .cell v9) :: (en, .cell v8) :: (dr, .cell v7) :: (wi, .cell v6) :: (lo, .cell v5) :: (ma, .cell v4) :: (pl, .cell v3) :: (ce, .cell v2) :: (cs, .cell v1) :: rest
noncomputable abbrev lawN (arrows ways words text read symbols due said heads sees items told rows line images : Option V) : List (Str × Option V) :=
  [("arrows", arrows), ("ways", ways), ("words", words), ("text", text), ("read", read), ("symbols", symbols), ("due", due), ("said", said), ("heads", heads), ("sees", sees), ("items", items), ("told", told), ("rows", rows), ("line", line), ("images", images)]
theorem noPy {a : Int} {b : Nat} (hb : b < 2 ^ 60) : Builtin.divisionGoesByPylong a (b : Int) = false := by
  unfold Builtin.divisionGoesByPylong
  have : (if ((b : Int) == 0) = true then 0 else (b : Int).natAbs.log2 / 30 + 1) ≤ 3 := by
    split
    · lia
    · rename_i q
      have h0 : b ≠ 0 := by intro e; subst e; simp at q
      have := (Nat.log2_lt h0).mpr hb
      rw [Int.natAbs_natCast]; lia
  rw [Bool.and_eq_false_iff]
  left
  rw [decide_eq_false_iff_not]
  exact Nat.not_lt.mpr (Nat.le_trans this (by decide))
theorem look_at : ∀ r : Nat, r < 6 → Txt.item " \"\\\t\n#" (r : Int) = chS ([32, 34, 92, 9, 10, 35].getD r 0) ∧ (Txt.charAt " \"\\\t\n#" (r : Int)).isSome = true := by decide +kernel
theorem abcd_item : ∀ x : Nat, x < 4 → Txt.item "abcd" (x : Int) = chS (97 + x) ∧ (Txt.charAt "abcd" (x : Int)).isSome = true := by decide +kernel
theorem up_abcd : ∀ x, x < 4 → upC (97 + x) = 65 + x := by decide
theorem bit12 : ∀ y : Nat, y < 48 → (((y : Int).fdiv ((12 : Nat) : Int)).fmod ((2 : Nat) : Int)).toNat = y / 12 % 2 := by decide +kernel
theorem bit24 : ∀ y : Nat, y < 48 → ((y : Int).fdiv ((24 : Nat) : Int)) = ((y / 24 : Nat) : Int) := by decide +kernel
theorem natNe0 (a : Nat) : ((a : Int) != 0) = (a != 0) := natNe a 0
theorem fits_small {x : Nat} (h : x < 1000000) : fitsSsize (x : Int) = true := by unfold fitsSsize; simp; lia
section
variable {B : Base} {n : Nat} {env : Env} {hp hp' : Hp} {Φ : V → Hp → Prop} {Ψ : AF → Hp → Prop} {Υ : Hp → Prop} {K : Frag} {mg mb : Str → Option Value} {L cs ce pl ma lo wi dr en le ne ta fo nu : Addr}
theorem JBin.divN {a : Int} {b : Nat} (hb : 0 < b) (hb2 : b < 2 ^ 60) (h : Φ (.int (a.fdiv (b : Int))) hp) : JBin B n hp .FloorDiv (.int a) (natV b) Φ := JBin.fdiv (by lia) (noPy hb2) h
theorem JBin.modN {a : Int} {b : Nat} (hb : 0 < b) (h : Φ (natV (a.fmod (b : Int)).toNat) hp) : JBin B n hp .Mod (.int a) (natV b) Φ := by
  refine JBin.mod (by lia) ?_
  obtain ⟨r, e, _⟩ := fmod_pos a b hb
  rw [e] at h ⊢
  rw [Int.toNat_natCast] at h
  exact h
theorem JBin.powN {a b : Nat} (ha : a < 2 ^ 60) (hb : b < 1000) (h : Φ (natV (a ^ b)) hp) : JBin B n hp .Pow (natV a) (natV b) Φ := by
  refine JBin.pow (Int.natCast_nonneg b) ?_ ?_
  · have := bits_le ha
    have h1 : (Builtin.Int.intBits (a : Int) : Int) * (b : Int) ≤ 60 * 1000 := Int.mul_le_mul (by lia) (by lia) (by lia) (by lia)
    have h2 : (2 : Int) ^ 27 = 134217728 := by decide
    lia
  · rw [Int.toNat_natCast, ← Int.natCast_pow]; exact h
theorem fm_lt (a : Int) {b : Nat} (hb : 0 < b) : (a.fmod (b : Int)).toNat < b := by
  obtain ⟨r, e, h⟩ := fmod_pos a b hb
  rw [e, Int.toNat_natCast]; exact h
theorem Src.zipE {α : Type} {elts : List Expr} {x1} {tp : Pos} {z TO TI i1 i2 : Addr} {xs ys : List V} {ls : List α} {g : α → V} (hne : i1 ≠ i2) (hle : xs.length ≤ ys.length) (hz : zipVals xs ys = ls.map g) :
    Src B n (.Tuple elts x1 tp) z (fun i => [(z, .it (.zip TI TO i1 i2)), (TO, .it .pair), (i1, .it (.lst xs i)), (i2, .it (.lst ys i))]) [] (fun _ => True) (ls.map g) := hz ▸ Src.zip hne hle
set_option maxHeartbeats 1000000 in
theorem law_a (W : Wd B K mg mb) (E : EnvIs B W.T.GG env L (scopeOf (stm 78)).names (lawOwn cs ce pl ma lo wi dr en le ne ta fo nu) []) {ns : List Int} (hns : ns.length ≤ 63)
    (h : ∀ cells arr pla lk wd dw way, LawIn arr pla lk wd dw way → JS B (n + 1) env ((L, .ns (lawN (some (.lst (arrV arr))) (some (.lst (way.map natV))) none none none none none none none none none none none none none)) :: lawC cs ce pl ma lo wi dr en le ne ta fo nu (some (.lst (ns.map .int))) (some cells) (some (.lst (pla.map natV))) (some (.lst (pla.map fun p => .str (stS (opC p))))) (some (.str (chS lk))) (some (natV wd)) (some (natV dw)) (some (.lst ((endsL arr way).map endV))) none none none none none hp) ((bodyOf (stm 78)).drop 7) Ψ) :
    JS B (n + 1) env ((L, .ns (lawN none none none none none none none none none none none none none none none)) :: lawC cs ce pl ma lo wi dr en le ne ta fo nu (some (.lst (ns.map .int))) none none none none none none none none none none none none hp) (bodyOf (stm 78)) Ψ := by
  conv in (bodyOf _) => whnf
  tb_start
  refine J1.assignC E (c := ce) (by (lcg_off)) ?_
  refine JE.comp (own' := fun _ => []) (out' := lawOwn cs ce pl ma lo wi dr en le ne ta fo nu) (fun C (t : Option V × Option V) => [(C, .ns [(".0", none), ("k", t.1), ("first", t.2)])]) (none, none) E (⟨⟨by kernel_rfl, by decide +kernel, by kernel_rfl⟩, by rfl, fun C => by kernel_rfl, fun C => by kernel_rfl, fun C t => ⟨_, _, .head⟩⟩) ?_
  tb_start
  refine JE.list ?_
  tb_start
  refine ⟨by decide, ?_⟩
  tb_start
  refine JC.enumerate rfl fun e it hne => ?_
  refine JI.self (.head _) trivial ?_
  refine CompIn.const (I := fun i => [(e, .it (.enum it i)), (it, .it (.lst [.int 701205, .int 415004, .int 3836725536] i))]) (EE := [(e, .it (.enum it 3))]) (Q := fun _ => True) [((0 : Nat), (701205 : Int)), (1, 415004), (2, 3836725536)] (fun p => .tup [natV p.1, .int p.2]) (fun p => some (.int (p.2 + (vpickG ns (some (p.1 : Int)) none (some 3)).sum))) (Src.enum hne) trivial ⟨_, .head _, trivial⟩ (by decide) (fun C acc env' E' i p t ys hp => ?_) ?_
  · dsimp only [List.cons_append, List.nil_append]
    tb_start
    refine ⟨NoPyItem.lst, JGi.lstSl (.lst _) (by decide) (by rw [List.length_map]; lia) ?_⟩
    rw [vpick_mapE]
    tb_start
    refine JC.sum (.lst _) ?_
    tb_start
    first | exact ctEnd (τ := Option V × Option V) (t := (_, _)) | exact ⟨rfl, (_, _), rfl⟩
  rw [show ([((0 : Nat), (701205 : Int)), (1, 415004), (2, 3836725536)].filterMap fun p => some (V.int (p.2 + (vpickG ns (some (p.1 : Int)) none (some 3)).sum))) = [.int (701205 + (vpickG ns (some ((0 : Nat) : Int)) none (some 3)).sum), .int (415004 + (vpickG ns (some ((1 : Nat) : Int)) none (some 3)).sum), .int (3836725536 + (vpickG ns (some ((2 : Nat) : Int)) none (some 3)).sum)] from rfl]
  generalize 701205 + (vpickG ns (some ((0 : Nat) : Int)) none (some 3)).sum = c0
  generalize 415004 + (vpickG ns (some ((1 : Nat) : Int)) none (some 3)).sum = c1
  generalize 3836725536 + (vpickG ns (some ((2 : Nat) : Int)) none (some 3)).sum = c2
  refine acEnd (by (tlg_ne)) ?_
  have p16 : ∀ k, k < 5 → (16 : Nat) ^ k < 2 ^ 60 := by decide
  have p48 : ∀ k, k < 6 → (48 : Nat) ^ k < 2 ^ 60 := by decide
  tb_start
  refine J1.comp (own' := fun _ => []) (out' := lawOwn cs ce pl ma lo wi dr en le ne ta fo nu) (fun C (t : Option V) => [(C, .ns [(".0", none), ("k", t)])]) none E (⟨⟨by kernel_rfl, by decide +kernel, by kernel_rfl⟩, by rfl, fun C => by kernel_rfl, fun C => by kernel_rfl, fun C t => ⟨_, _, .head⟩⟩) (by kernel_rfl) (by kernel_rfl) ?_
  tb_start
  refine JC.range1 ?_
  tb_start
  refine JI.rngN (k := 5) (by lia) fun it => ?_
  refine CompIn.rng0 (k := 5) (fun k => some (.tup [natV ((c0.fdiv ((16 ^ k : Nat) : Int)).fmod ((4 : Nat) : Int)).toNat, natV (((c0.fdiv ((16 ^ k : Nat) : Int)).fdiv ((4 : Nat) : Int)).fmod ((4 : Nat) : Int)).toNat])) (by lia) (fun C acc env' e E' k t ys hk => ?_) ?_
  · have hpk := p16 k hk
    have hpos : 0 < (16 : Nat) ^ k := Nat.pow_pos (by decide)
    dsimp only [List.cons_append, List.nil_append]
    tb_start
    refine ⟨NoPyItem.lst, JGi.lst (x := .int c0) (.lst _) (by decide) (by decide) rfl ?_⟩
    tb_start
    refine JBin.powN (a := 16) (by decide) (by lia) ?_
    refine JBin.divN hpos hpk ?_
    tb_start
    refine JBin.modN (b := 4) (by decide) ?_
    tb_start
    refine ⟨NoPyItem.lst, JGi.lst (x := .int c0) (.lst _) (by decide) (by decide) rfl ?_⟩
    tb_start
    refine JBin.powN (a := 16) (by decide) (by lia) ?_
    refine JBin.divN hpos hpk ?_
    tb_start
    refine JBin.divN (b := 4) (by decide) (by decide) ?_
    tb_start
    refine JBin.modN (b := 4) (by decide) ?_
    tb_start
    refine ⟨by show 2 ≤ 16777216; lia, ?_⟩
    first | exact ctEnd | exact ⟨rfl, _, rfl⟩
  rw [filterMap_some']
  have earr : (List.range 5).map (fun k => V.tup [natV ((c0.fdiv ((16 ^ k : Nat) : Int)).fmod ((4 : Nat) : Int)).toNat, natV (((c0.fdiv ((16 ^ k : Nat) : Int)).fdiv ((4 : Nat) : Int)).fmod ((4 : Nat) : Int)).toNat]) = arrV ((List.range 5).map fun k => (((c0.fdiv ((16 ^ k : Nat) : Int)).fmod ((4 : Nat) : Int)).toNat, (((c0.fdiv ((16 ^ k : Nat) : Int)).fdiv ((4 : Nat) : Int)).fmod ((4 : Nat) : Int)).toNat)) := by
    unfold arrV; rw [List.map_map]; rfl
  have ha5 : ((List.range 5).map fun k => (((c0.fdiv ((16 ^ k : Nat) : Int)).fmod ((4 : Nat) : Int)).toNat, (((c0.fdiv ((16 ^ k : Nat) : Int)).fdiv ((4 : Nat) : Int)).fmod ((4 : Nat) : Int)).toNat)).length = 5 := by simp
  have ha4 : ∀ p ∈ ((List.range 5).map fun k => (((c0.fdiv ((16 ^ k : Nat) : Int)).fmod ((4 : Nat) : Int)).toNat, (((c0.fdiv ((16 ^ k : Nat) : Int)).fdiv ((4 : Nat) : Int)).fmod ((4 : Nat) : Int)).toNat)), p.1 < 4 ∧ p.2 < 4 := by
    intro p hp
    obtain ⟨k, _, rfl⟩ := List.mem_map.mp hp
    exact ⟨fm_lt _ (by decide), fm_lt _ (by decide)⟩
  rw [earr]
  generalize (List.range 5).map (fun k => (((c0.fdiv ((16 ^ k : Nat) : Int)).fmod ((4 : Nat) : Int)).toNat, (((c0.fdiv ((16 ^ k : Nat) : Int)).fdiv ((4 : Nat) : Int)).fmod ((4 : Nat) : Int)).toNat)) = arr at ha5 ha4 ⊢
  refine nsEnd (by (tlg_ne)) (by (ktu_offL)) ?_
  tb_start
  refine J1.assignC E (c := pl) (by (lcg_off)) ?_
  refine JE.comp (own' := fun _ => []) (out' := lawOwn cs ce pl ma lo wi dr en le ne ta fo nu) (fun C (t : Option V) => [(C, .ns [(".0", none), ("step", t)])]) none E (⟨⟨by kernel_rfl, by decide +kernel, by kernel_rfl⟩, by rfl, fun C => by kernel_rfl, fun C => by kernel_rfl, fun C t => ⟨_, _, .head⟩⟩) ?_
  tb_start
  refine JC.range1 ?_
  tb_start
  refine JI.rngN (k := 3) (by lia) fun it => ?_
  have hs4 : ((c1.fdiv ((48 : Nat) : Int)).fmod ((4 : Nat) : Int)).toNat < 4 := fm_lt _ (by decide)
  refine CompIn.rng0 (k := 3) (fun k => some (natV ((c1 + ((k * [1, 5, 7, 11].getD ((c1.fdiv ((48 : Nat) : Int)).fmod ((4 : Nat) : Int)).toNat 0 : Nat) : Int)).fmod ((48 : Nat) : Int)).toNat)) (by lia) (fun C acc env' e E' k t ys hk => ?_) ?_
  · dsimp only [List.cons_append, List.nil_append]
    tb_start
    refine ⟨NoPyItem.lst, JGi.lst (x := .int c1) (.lst _) (by decide) (by decide) rfl ?_⟩
    tb_start
    refine JE.list ?_
    tb_start
    refine ⟨by decide, ?_⟩
    tb_start
    refine ⟨NoPyItem.lst, JGi.lst (x := .int c1) (.lst _) (by decide) (by decide) rfl ?_⟩
    tb_start
    refine JBin.divN (b := 48) (by decide) (by decide) ?_
    tb_start
    refine JBin.modN (b := 4) (by decide) ?_
    refine ⟨NoPyItem.lst, JGi.nat (rows := [1, 5, 7, 11]) (.lst _) hs4 (by decide) ?_⟩
    refine JBin.mulN (by lia) ?_
    tb_start
    refine JBin.modN (b := 48) (by decide) ?_
    first | exact ctEnd | exact ⟨rfl, _, rfl⟩
  rw [filterMap_some']
  have epl : (List.range 3).map (fun k => natV ((c1 + ((k * [1, 5, 7, 11].getD ((c1.fdiv ((48 : Nat) : Int)).fmod ((4 : Nat) : Int)).toNat 0 : Nat) : Int)).fmod ((48 : Nat) : Int)).toNat) = ((List.range 3).map fun k => ((c1 + ((k * [1, 5, 7, 11].getD ((c1.fdiv ((48 : Nat) : Int)).fmod ((4 : Nat) : Int)).toNat 0 : Nat) : Int)).fmod ((48 : Nat) : Int)).toNat).map natV := by rw [List.map_map]; rfl
  have hpl : ∃ p0 p1 p2, ((List.range 3).map fun k => ((c1 + ((k * [1, 5, 7, 11].getD ((c1.fdiv ((48 : Nat) : Int)).fmod ((4 : Nat) : Int)).toNat 0 : Nat) : Int)).fmod ((48 : Nat) : Int)).toNat) = [p0, p1, p2] ∧ p0 < 48 ∧ p1 < 48 ∧ p2 < 48 ∧ p1 ≠ p2 := by
    refine ⟨_, _, _, rfl, fm_lt _ (by decide), fm_lt _ (by decide), fm_lt _ (by decide), ?_⟩
    generalize ((c1.fdiv ((48 : Nat) : Int)).fmod ((4 : Nat) : Int)).toNat = s at hs4
    have : s = 0 ∨ s = 1 ∨ s = 2 ∨ s = 3 := by lia
    intro q
    dsimp only at q
    rw [Int.fmod_eq_emod_of_nonneg _ (by lia), Int.fmod_eq_emod_of_nonneg _ (by lia)] at q
    rcases this with rfl | rfl | rfl | rfl <;> simp at q <;> lia
  rw [epl]
  generalize (List.range 3).map (fun k => ((c1 + ((k * [1, 5, 7, 11].getD ((c1.fdiv ((48 : Nat) : Int)).fmod ((4 : Nat) : Int)).toNat 0 : Nat) : Int)).fmod ((48 : Nat) : Int)).toNat) = pla at hpl ⊢
  refine acEnd (by (tlg_ne)) ?_
  tb_start
  refine J1.assignC E (c := ma) (by (lcg_off)) ?_
  refine JE.comp (own' := fun _ => []) (out' := lawOwn cs ce pl ma lo wi dr en le ne ta fo nu) (fun C (t : Option V) => [(C, .ns [(".0", none), ("place", t)])]) none E (⟨⟨by kernel_rfl, by decide +kernel, by kernel_rfl⟩, by rfl, fun C => by kernel_rfl, fun C => by kernel_rfl, fun C t => ⟨_, _, .head⟩⟩) ?_
  tb_start
  have hplt : ∀ p ∈ pla, p < 48 := by
    obtain ⟨p0, p1, p2, rfl, h0, h1, h2, _⟩ := hpl
    intro p hp
    simp at hp
    rcases hp with rfl | rfl | rfl <;> assumption
  have hpll : pla.length = 3 := by obtain ⟨p0, p1, p2, rfl, _⟩ := hpl; rfl
  refine JI.lst fun it => ?_
  refine CompIn.lst pla natV (fun p => some (.str (stS (opC p)))) (by lia) (fun C acc env' E' i p t ys hp => ?_) ?_
  · have hp48 := hplt p (List.mem_of_getElem? hp)
    dsimp only [List.cons_append, List.nil_append]
    tb_start
    refine JCc.call (c_ops W ?_)
    tb_start
    refine ⟨NoPyItem.lst, JGi.lst (x := .str (stS (opC p))) (.lst _) (Int.natCast_nonneg p) (by lia) ?_ ⟨rfl, _, rfl⟩⟩
    have ho : p < opsL.length := by rw [show opsL.length = 48 by decide]; exact hp48
    rw [Int.toNat_natCast, List.getElem?_map, List.getElem?_eq_getElem ho]
    unfold opC
    rw [stS_of, List.getD_eq_getElem?_getD, List.getElem?_eq_getElem ho]; rfl
  rw [filterMap_some']
  refine acEnd (by (tlg_ne)) ?_
  tb_start
  refine J1.assign ?_ (by rfl) (swapped_none (x := "look") (c := lo) E (by (lcg_off)) (by (lcg_off))) (by rfl)
  tb_start
  refine ⟨NoPyItem.lst, JGi.lst (x := .int c1) (.lst _) (by decide) (by decide) rfl ?_⟩
  tb_start
  refine JBin.divN (b := 192) (by decide) (by decide) ?_
  tb_start
  refine JBin.modN (b := 6) (by decide) ?_
  have hr6 : ((c1.fdiv ((192 : Nat) : Int)).fmod ((6 : Nat) : Int)).toNat < 6 := fm_lt _ (by decide)
  refine ⟨NoPyItem.str, JGi.str (fits_small (by lia)) (look_at _ hr6).2 ?_⟩
  rw [(look_at _ hr6).1]
  tb_start
  refine ⟨NoPyItem.lst, JGi.lst (x := .int c1) (.lst _) (by decide) (by decide) rfl ?_⟩
  tb_start
  refine JBin.divN (b := 1152) (by decide) (by decide) ?_
  tb_start
  refine JBin.modN (b := 40) (by decide) ?_
  tb_start
  refine ⟨NoPyItem.lst, JGi.lst (x := .int c1) (.lst _) (by decide) (by decide) rfl ?_⟩
  tb_start
  refine JBin.divN (b := 46080) (by decide) (by decide) ?_
  tb_start
  refine JBin.modN (b := 16) (by decide) ?_
  have hr40 : ((c1.fdiv ((1152 : Nat) : Int)).fmod ((40 : Nat) : Int)).toNat < 40 := fm_lt _ (by decide)
  have hr16 : ((c1.fdiv ((46080 : Nat) : Int)).fmod ((16 : Nat) : Int)).toNat < 16 := fm_lt _ (by decide)
  rw [show (16 : Int) + ((((c1.fdiv ((1152 : Nat) : Int)).fmod ((40 : Nat) : Int)).toNat : Nat) : Int) = ((16 + ((c1.fdiv ((1152 : Nat) : Int)).fmod ((40 : Nat) : Int)).toNat : Nat) : Int) by push_cast; rfl]
  generalize ((c1.fdiv ((192 : Nat) : Int)).fmod ((6 : Nat) : Int)).toNat = r6 at hr6 ⊢
  generalize ((c1.fdiv ((1152 : Nat) : Int)).fmod ((40 : Nat) : Int)).toNat = r40 at hr40 ⊢
  generalize ((c1.fdiv ((46080 : Nat) : Int)).fmod ((16 : Nat) : Int)).toNat = r16 at hr16 ⊢
  tb_start
  refine ⟨by show 3 ≤ 16777216; lia, ?_⟩
  tb_start
  refine J1.comp (own' := fun _ => []) (out' := lawOwn cs ce pl ma lo wi dr en le ne ta fo nu) (fun C (t : Option V) => [(C, .ns [(".0", none), ("k", t)])]) none E (⟨⟨by kernel_rfl, by decide +kernel, by kernel_rfl⟩, by rfl, fun C => by kernel_rfl, fun C => by kernel_rfl, fun C t => ⟨_, _, .head⟩⟩) (by kernel_rfl) (by kernel_rfl) ?_
  tb_start
  refine JC.range1 ?_
  tb_start
  refine JI.rngN (k := 6) (by lia) fun it => ?_
  refine CompIn.rng0 (k := 6) (fun k => some (natV ((c2.fdiv ((48 ^ k : Nat) : Int)).fmod ((48 : Nat) : Int)).toNat)) (by lia) (fun C acc env' e E' k t ys hk => ?_) ?_
  · have hpk := p48 k hk
    have hpos : 0 < (48 : Nat) ^ k := Nat.pow_pos (by decide)
    dsimp only [List.cons_append, List.nil_append]
    tb_start
    refine ⟨NoPyItem.lst, JGi.lst (x := .int c2) (.lst _) (by decide) (by decide) rfl ?_⟩
    tb_start
    refine JBin.powN (a := 48) (by decide) (by lia) ?_
    refine JBin.divN hpos hpk ?_
    tb_start
    refine JBin.modN (b := 48) (by decide) ?_
    first | exact ctEnd | exact ⟨rfl, _, rfl⟩
  rw [filterMap_some']
  have ewy : (List.range 6).map (fun k => natV ((c2.fdiv ((48 ^ k : Nat) : Int)).fmod ((48 : Nat) : Int)).toNat) = ((List.range 6).map fun k => ((c2.fdiv ((48 ^ k : Nat) : Int)).fmod ((48 : Nat) : Int)).toNat).map natV := by rw [List.map_map]; rfl
  have hy6 : ((List.range 6).map fun k => ((c2.fdiv ((48 ^ k : Nat) : Int)).fmod ((48 : Nat) : Int)).toNat).length = 6 := by simp
  have hy48 : ∀ y ∈ ((List.range 6).map fun k => ((c2.fdiv ((48 ^ k : Nat) : Int)).fmod ((48 : Nat) : Int)).toNat), y < 48 := by
    intro y hy
    obtain ⟨k, _, rfl⟩ := List.mem_map.mp hy
    exact fm_lt _ (by decide)
  rw [ewy]
  generalize (List.range 6).map (fun k => ((c2.fdiv ((48 ^ k : Nat) : Int)).fmod ((48 : Nat) : Int)).toNat) = way at hy6 hy48 ⊢
  refine nsEnd (by (tlg_ne)) (by (ktu_offL)) ?_
  tb_start
  refine J1.assignC E (c := en) (by (lcg_off)) ?_
  refine JE.comp (own' := fun _ => []) (out' := lawOwn cs ce pl ma lo wi dr en le ne ta fo nu) (fun C (t : Option V × Option V × Option V) => [(C, .ns [(".0", none), ("x", t.1), ("y", t.2.1), ("way", t.2.2)])]) (none, none, none) E (⟨⟨by kernel_rfl, by decide +kernel, by kernel_rfl⟩, by rfl, fun C => by kernel_rfl, fun C => by kernel_rfl, fun C t => ⟨_, _, .head⟩⟩) ?_
  tb_start
  refine ⟨NoPyItem.lst, JGi.lstSl (.lst _) (by decide) (by rw [List.length_map]; lia) ?_⟩
  rw [show vpick (way.map natV) (some 1) none none = (way.map natV).drop 1 from vpick_from _ 1, ← List.map_drop]
  tb_start
  refine JC.zip2 fun z TO TI i1 i2 hne => ?_
  refine JI.self (.head _) trivial ?_
  have hzv : zipVals (arrV arr) ((way.drop 1).map natV) = (arr.zip (way.drop 1)).map fun p => V.tup [.tup [natV p.1.1, natV p.1.2], natV p.2] := zipVals_map _ _ _ _
  refine CompIn.const (I := fun i => [(z, .it (.zip TI TO i1 i2)), (TO, .it .pair), (i1, .it (.lst (arrV arr) i)), (i2, .it (.lst ((way.drop 1).map natV) i))]) (EE := []) (Q := fun _ => True) (arr.zip (way.drop 1)) (fun p => V.tup [.tup [natV p.1.1, natV p.1.2], natV p.2]) (fun p => some (endV (endC p.1.1 (p.2 / 12 % 2 != 0), endC p.1.2 (p.2 / 24 != 0)))) (Src.zipE hne (by unfold arrV; simp; lia) hzv) trivial ⟨_, .head _, trivial⟩ (by simp; lia) (fun C acc env' E' i p t ys hp => ?_) ?_
  · have hmem := List.mem_of_getElem? hp
    have hpa := ha4 p.1 (List.of_mem_zip hmem).1
    have hpw := hy48 p.2 (List.mem_of_mem_drop (List.of_mem_zip hmem).2)
    dsimp only [List.cons_append, List.nil_append]
    tb_start
    refine JE.list ?_
    tb_start
    refine JBin.divN (b := 12) (by decide) (by decide) ?_
    tb_start
    refine JBin.modN (b := 2) (by decide) ?_
    tb_start
    rw [bit12 _ hpw, natNe0]
    have up : ∀ x, x < 4 → Txt.upper (chS (97 + x)) = chS (65 + x) := fun x hx => by rw [up_ch (by lia), up_abcd x hx]
    cases hb1 : (p.2 / 12 % 2 != 0) with
    | false =>
      refine iteF ?_
      tb_start
      refine ⟨NoPyItem.str, JGi.str (fits_small (by lia)) (abcd_item _ hpa.1).2 ?_⟩
      rw [(abcd_item _ hpa.1).1]
      tb_start
      refine JBin.divN (b := 24) (by decide) (by decide) ?_
      tb_start
      rw [bit24 _ hpw, natNe0]
      cases hb2 : (p.2 / 24 != 0) with
      | false =>
        refine iteF ?_
        tb_start
        refine ⟨NoPyItem.str, JGi.str (fits_small (by lia)) (abcd_item _ hpa.2).2 ?_⟩
        rw [(abcd_item _ hpa.2).1]
        tb_start
        refine ⟨by show 2 ≤ 16777216; lia, ?_⟩
        first | exact ctEnd (τ := Option V × Option V × Option V) (t := (some (natV p.1.1), some (natV p.1.2), some (natV p.2))) | exact ⟨rfl, (some (natV p.1.1), some (natV p.1.2), some (natV p.2)), rfl⟩
      | true =>
        refine iteT ?_
        tb_start
        refine ⟨NoPyItem.str, JGi.str (fits_small (by lia)) (abcd_item _ hpa.2).2 ?_⟩
        rw [(abcd_item _ hpa.2).1]
        tb_start
        refine JC.upper (by rw [up _ hpa.2]; show 1 ≤ 16777216; lia) ?_
        rw [up _ hpa.2]
        tb_start
        refine ⟨by show 2 ≤ 16777216; lia, ?_⟩
        first | exact ctEnd (τ := Option V × Option V × Option V) (t := (some (natV p.1.1), some (natV p.1.2), some (natV p.2))) | exact ⟨rfl, (some (natV p.1.1), some (natV p.1.2), some (natV p.2)), rfl⟩
    | true =>
      refine iteT ?_
      tb_start
      refine ⟨NoPyItem.str, JGi.str (fits_small (by lia)) (abcd_item _ hpa.1).2 ?_⟩
      rw [(abcd_item _ hpa.1).1]
      tb_start
      refine JC.upper (by rw [up _ hpa.1]; show 1 ≤ 16777216; lia) ?_
      rw [up _ hpa.1]
      tb_start
      refine JBin.divN (b := 24) (by decide) (by decide) ?_
      tb_start
      rw [bit24 _ hpw, natNe0]
      cases hb2 : (p.2 / 24 != 0) with
      | false =>
        refine iteF ?_
        tb_start
        refine ⟨NoPyItem.str, JGi.str (fits_small (by lia)) (abcd_item _ hpa.2).2 ?_⟩
        rw [(abcd_item _ hpa.2).1]
        tb_start
        refine ⟨by show 2 ≤ 16777216; lia, ?_⟩
        first | exact ctEnd (τ := Option V × Option V × Option V) (t := (some (natV p.1.1), some (natV p.1.2), some (natV p.2))) | exact ⟨rfl, (some (natV p.1.1), some (natV p.1.2), some (natV p.2)), rfl⟩
      | true =>
        refine iteT ?_
        tb_start
        refine ⟨NoPyItem.str, JGi.str (fits_small (by lia)) (abcd_item _ hpa.2).2 ?_⟩
        rw [(abcd_item _ hpa.2).1]
        tb_start
        refine JC.upper (by rw [up _ hpa.2]; show 1 ≤ 16777216; lia) ?_
        rw [up _ hpa.2]
        tb_start
        refine ⟨by show 2 ≤ 16777216; lia, ?_⟩
        first | exact ctEnd (τ := Option V × Option V × Option V) (t := (some (natV p.1.1), some (natV p.1.2), some (natV p.2))) | exact ⟨rfl, (some (natV p.1.1), some (natV p.1.2), some (natV p.2)), rfl⟩
  rw [filterMap_some']
  refine acEnd (by (tlg_ne)) ?_
  have := h (.lst [.int c0, .int c1, .int c2]) arr pla ([32, 34, 92, 9, 10, 35].getD r6 0) (16 + r40) r16 way ⟨ha5, ha4, hpl, ?_, by lia, by lia, hr16, hy6, hy48⟩
  · unfold endsL at this
    rw [List.map_map, ← List.drop_one] at this
    exact this
  · have := (by decide : ∀ r, r < 6 → [32, 34, 92, 9, 10, 35].getD r 0 ∈ [32, 34, 92, 9, 10, 35]) r6 hr6
    exact this
end
noncomputable def wordsL (p0 p1 p2 lk : Nat) (es : List (Nat × Nat)) : List (List Nat) := (opC p1 ++ [lk] ++ opC p2) :: es.map fun e => [e.1] ++ opC p0 ++ [lk] ++ [e.2]
noncomputable def whiteC (y : Nat) : Nat := [32, 9, 13, 10].getD (y / 3 % 4) 0
noncomputable def textL (ws : List (List Nat)) (way : List Nat) : List Nat := ((ws.zip way).map fun p => spellF p.1 (p.2 % 3) (whiteC p.2)).flatten
noncomputable def tailL : List Nat := [10, 32, 9, 13, 92, 34, 35, 32, 35]
theorem chL (c : Nat) : (chS c).length = 1 := rfl
theorem ch_st (c : Nat) : chS c = stS [c] := rfl
theorem opC_ok : ∀ p, p < 48 → (opC p).length ≤ 3 ∧ (∀ c ∈ opC p, 32 < c ∧ c < 127) ∧ opC p ≠ [] := by decide +kernel
theorem opC_inj : ∀ p, p < 48 → ∀ q, q < 48 → opC p = opC q → p = q := by decide +kernel
theorem white_at : ∀ r : Nat, r < 4 → Txt.item " \t\r\n" (r : Int) = chS ([32, 9, 13, 10].getD r 0) ∧ (Txt.charAt " \t\r\n" (r : Int)).isSome = true := by decide +kernel
theorem bit3 : ∀ y : Nat, y < 48 → (((y : Int).fdiv ((3 : Nat) : Int)).fmod ((4 : Nat) : Int)).toNat = y / 3 % 4 := by decide +kernel
theorem mod3 : ∀ y : Nat, y < 48 → ((y : Int).fmod ((3 : Nat) : Int)).toNat = y % 3 := by decide +kernel
theorem white_lt (y : Nat) : whiteC y < 128 := by
  have : ∀ r, r < 4 → [32, 9, 13, 10].getD r 0 < 128 := by decide
  exact this _ (by lia)
theorem tail_eq : ("\n \t\r\\\"# #" : Str) = stS tailL := by decide +kernel
theorem spell_len (w : List Nat) (y wh : Nat) : (spellF w y wh).length ≤ 2 * w.length + 2 := by
  have h0 := flat_size (f := esc0 wh) w (fun c => by unfold esc0; split <;> simp) (Nat.le_refl _)
  have h2 := flat_size (f := esc2) w (fun c => by unfold esc2; split <;> simp) (Nat.le_refl _)
  have h1 := flat_size (f := fun c => [92, c]) w (fun c => by simp) (Nat.le_refl _)
  unfold spellF
  split
  · simp only [List.length_cons, List.length_append, List.length_nil]; lia
  · split
    · simp only [List.length_cons, List.length_append, List.length_nil]; lia
    · simp only [List.length_cons, List.length_append, List.length_nil]; lia
theorem sum_le {α : Type} {f : α → Nat} {k : Nat} : ∀ {l : List α}, (∀ x ∈ l, f x ≤ k) → (l.map f).sum ≤ k * l.length
  | [], _ => by simp
  | x :: l, h => by
    have h1 := h x (.head _)
    have h2 := sum_le (l := l) (fun y hy => h y (.tail _ hy))
    simp only [List.map_cons, List.sum_cons, List.length_cons, Nat.mul_succ]; lia
theorem flatten_len {α β : Type} {f : α → List β} {k : Nat} {l : List α} (h : ∀ x ∈ l, (f x).length ≤ k) : ((l.map f).flatten).length ≤ k * l.length := by
  rw [List.length_flatten, List.map_map]
  exact sum_le h
theorem words_ok {p0 p1 p2 lk : Nat} {es : List (Nat × Nat)} (h0 : p0 < 48) (h1 : p1 < 48) (h2 : p2 < 48) (hl : lk < 128) (he : ∀ e ∈ es, e.1 < 128 ∧ e.2 < 128) : ∀ w ∈ wordsL p0 p1 p2 lk es, w.length ≤ 7 ∧ ∀ c ∈ w, c < 128 := by
  have o0 := opC_ok p0 h0
  have o1 := opC_ok p1 h1
  have o2 := opC_ok p2 h2
  intro w hw
  rcases List.mem_cons.mp hw with rfl | hw
  · refine ⟨by simp only [List.length_append, List.length_cons, List.length_nil]; lia, fun c hc => ?_⟩
    simp only [List.mem_append, List.mem_singleton] at hc
    rcases hc with (hc | hc) | hc
    · have := (o1.2.1 c hc).2; lia
    · lia
    · have := (o2.2.1 c hc).2; lia
  · obtain ⟨e, hm, rfl⟩ := List.mem_map.mp hw
    refine ⟨by simp only [List.length_append, List.length_cons, List.length_nil]; lia, fun c hc => ?_⟩
    have := he e hm
    simp only [List.mem_append, List.mem_singleton] at hc
    rcases hc with ((hc | hc) | hc) | hc
    · lia
    · have := (o0.2.1 c hc).2; lia
    · lia
    · lia
theorem endC_ok {x : Nat} (h : x < 4) (b : Bool) : isLet (endC x b) = true ∧ endC x b < 128 ∧ lowC (endC x b) = 97 + x := by
  have : ∀ x, x < 4 → ∀ b, isLet (endC x b) = true ∧ endC x b < 128 ∧ lowC (endC x b) = 97 + x := by decide
  exact this x h b
theorem ends_ok {arr : List (Nat × Nat)} {way : List Nat} (h : ∀ p ∈ arr, p.1 < 4 ∧ p.2 < 4) : ∀ e ∈ endsL arr way, (isLet e.1 = true ∧ isLet e.2 = true) ∧ e.1 < 128 ∧ e.2 < 128 := by
  intro e he
  unfold endsL at he
  obtain ⟨p, hp, rfl⟩ := List.mem_map.mp he
  have := h p.1 (List.of_mem_zip hp).1
  exact ⟨⟨(endC_ok this.1 _).1, (endC_ok this.2 _).1⟩, (endC_ok this.1 _).2.1, (endC_ok this.2 _).2.1⟩
theorem ends_len {arr : List (Nat × Nat)} {way : List Nat} (h : arr.length = 5) (h' : way.length = 6) : (endsL arr way).length = 5 := by simp [endsL, h, h']
section
variable {B : Base} {n : Nat} {env : Env} {hp hp' : Hp} {Φ : V → Hp → Prop} {Ψ : AF → Hp → Prop} {Υ : Hp → Prop} {K : Frag} {mg mb : Str → Option Value} {L cs ce pl ma lo wi dr en le ne ta fo nu : Addr}
structure LV where
  ns : List Int
  cells : V
  arr : List (Nat × Nat)
  p0 : Nat
  p1 : Nat
  p2 : Nat
  lk : Nat
  wd : Nat
  dw : Nat
  way : List Nat
noncomputable def LV.ends (v : LV) : List (Nat × Nat) := endsL v.arr v.way
noncomputable def LV.words (v : LV) : List (List Nat) := wordsL v.p0 v.p1 v.p2 v.lk v.ends
noncomputable def LV.text (v : LV) : List Nat := textL v.words v.way
noncomputable def LV.wordsV (v : LV) : V := .lst (v.words.map fun w => .str (stS w))
noncomputable abbrev lawC2 (cs ce pl ma lo wi dr en le ne ta fo nu : Addr) (v : LV) (v9 v10 v11 v12 v13 : Option V) (rest : Hp) : Hp :=
  lawC cs ce pl ma lo wi dr en le ne ta fo nu (some (.lst (v.ns.map .int))) (some v.cells) (some (.lst ([v.p0, v.p1, v.p2].map natV))) (some (.lst ([v.p0, v.p1, v.p2].map fun p => .str (stS (opC p))))) (some (.str (chS v.lk))) (some (natV v.wd)) (some (natV v.dw)) (some (.lst (v.ends.map endV))) v9 v10 v11 v12 v13 rest
structure LOk (v : LV) : Prop where
  i : LawIn v.arr [v.p0, v.p1, v.p2] v.lk v.wd v.dw v.way
  h0 : v.p0 < 48
  h1 : v.p1 < 48
  h2 : v.p2 < 48
  ne : v.p1 ≠ v.p2
noncomputable abbrev lawN2 (v : LV) (words text read symbols due said heads sees items told rows line images : Option V) : List (Str × Option V) :=
  lawN (some (.lst (arrV v.arr))) (some (.lst (v.way.map natV))) words text read symbols due said heads sees items told rows line images
theorem LOk.lk (O : LOk v) : v.lk < 128 := by
  have := O.i.lk
  simp at this
  lia
theorem law_b (W : Wd B K mg mb) (E : EnvIs B W.T.GG env L (scopeOf (stm 78)).names (lawOwn cs ce pl ma lo wi dr en le ne ta fo nu) []) {v : LV} (O : LOk v)
    (U : Upd hp 261 (.tab none) (.tab (some lexQ)) hp')
    (h : ∀ d p dh ph cs' sg fdl, (∃ q cl pm c ct, fdl = lamFd q cl pm c ct ∧ CloIs cl lamS.names [("signs", cs')]) →
      JS B (n + 1 + 1 + 1) env (lexHp d p dh ph cs' sg fdl 1 [] (v.text ++ tailL) ((L, .ns (lawN2 v (some v.wordsV) (some (.str (stS v.text))) none none none none none none none none none none none)) :: lawC2 cs ce pl ma lo wi dr en le ne ta fo nu v (some (.inst 231 d)) none none none none hp')) ((bodyOf (stm 78)).drop 10) Ψ) :
    JS B (n + 1 + 1 + 1) env ((L, .ns (lawN2 v none none none none none none none none none none none none none)) :: lawC2 cs ce pl ma lo wi dr en le ne ta fo nu v none none none none none hp) ((bodyOf (stm 78)).drop 7) Ψ := by
  have o0 := opC_ok v.p0 O.h0
  have o1 := opC_ok v.p1 O.h1
  have o2 := opC_ok v.p2 O.h2
  have he := ends_ok (way := v.way) O.i.a4
  have hel : v.ends.length = 5 := ends_len O.i.a5 O.i.y6
  have hlk := O.lk
  conv in (List.drop _ _) => whnf
  tb_start
  refine JE.list ?_
  tb_start
  refine ⟨NoPyItem.lst, JGi.lst (x := .str (stS (opC v.p1))) (.lst _) (by decide) (by decide) rfl ?_⟩
  tb_start
  refine JBin.cat (by rw [stS_len]; show _ + 1 ≤ _; lia) ?_
  rw [show stS (opC v.p1) ++ chS v.lk = stS (opC v.p1 ++ [v.lk]) from stS_app _ [v.lk]]
  tb_start
  refine ⟨NoPyItem.lst, JGi.lst (x := .str (stS (opC v.p2))) (.lst _) (by decide) (by decide) rfl ?_⟩
  tb_start
  refine JBin.cat (by rw [stS_len, stS_len]; simp only [List.length_append, List.length_cons, List.length_nil]; lia) ?_
  rw [stS_app]
  tb_start
  refine ⟨by show 1 ≤ 16777216; lia, ?_⟩
  tb_start
  refine JE.comp (own' := fun _ => []) (out' := lawOwn cs ce pl ma lo wi dr en le ne ta fo nu) (fun C (t : Option V × Option V) => [(C, .ns [(".0", none), ("one", t.1), ("other", t.2)])]) (none, none) E (⟨⟨by kernel_rfl, by decide +kernel, by kernel_rfl⟩, by rfl, fun C => by kernel_rfl, fun C => by kernel_rfl, fun C t => ⟨_, _, .head⟩⟩) ?_
  tb_start
  refine JI.lst fun it => ?_
  refine CompIn.lst v.ends endV (fun e => some (.str (stS ([e.1] ++ opC v.p0 ++ [v.lk] ++ [e.2])))) (by lia) (fun C acc env' E' i p t ys hp => ?_) ?_
  · dsimp only [List.cons_append, List.nil_append]
    tb_start
    have hm := he p (List.mem_of_getElem? hp)
    refine ⟨NoPyItem.lst, JGi.lst (x := .str (stS (opC v.p0))) (.lst _) (by decide) (by decide) rfl ?_⟩
    refine JBin.cat (by rw [chL, stS_len]; lia) ?_
    rw [ch_st p.1, stS_app]
    tb_start
    refine JBin.cat (by rw [chL, stS_len]; simp only [List.length_append, List.length_cons, List.length_nil]; lia) ?_
    rw [ch_st v.lk, stS_app]
    tb_start
    refine JBin.cat (by rw [chL, stS_len]; simp only [List.length_append, List.length_cons, List.length_nil]; lia) ?_
    rw [ch_st p.2, stS_app]
    first | exact ctEnd (τ := Option V × Option V) (t := (some (.str (chS p.1)), some (.str (chS p.2)))) | exact ⟨rfl, (some (.str (chS p.1)), some (.str (chS p.2))), rfl⟩
  rw [filterMap_some']
  refine JBin.catL (.lst _) (.lst _) (by rw [List.length_map]; show 1 + _ ≤ _; lia) ?_
  have ewv : V.lst ([V.str (stS (opC v.p1 ++ [v.lk] ++ opC v.p2))] ++ v.ends.map fun e => V.str (stS ([e.1] ++ opC v.p0 ++ [v.lk] ++ [e.2]))) = v.wordsV := by
    unfold LV.wordsV LV.words wordsL
    rw [List.map_cons, List.map_map]; rfl
  rw [ewv]
  tb_start
  refine JE.comp (own' := fun _ => []) (out' := lawOwn cs ce pl ma lo wi dr en le ne ta fo nu) (fun C (t : Option V × Option V) => [(C, .ns [(".0", none), ("word", t.1), ("way", t.2)])]) (none, none) E (⟨⟨by kernel_rfl, by decide +kernel, by kernel_rfl⟩, by rfl, fun C => by kernel_rfl, fun C => by kernel_rfl, fun C t => ⟨_, _, .head⟩⟩) ?_
  tb_start
  have hwl : v.words.length = 6 := by show (_ :: _).length = 6; rw [List.length_cons, List.length_map, hel]
  have hwo := words_ok O.h0 O.h1 O.h2 hlk (fun e hm => (he e hm).2)
  have hy6 := O.i.y6
  have hzv : zipVals (v.words.map fun w => V.str (stS w)) (v.way.map natV) = (v.words.zip v.way).map fun p => V.tup [.str (stS p.1), natV p.2] := zipVals_map _ _ _ _
  refine JC.zip2 fun z TO TI i1 i2 hne => ?_
  refine JI.self (.head _) trivial ?_
  refine CompIn.const (I := fun i => [(z, .it (.zip TI TO i1 i2)), (TO, .it .pair), (i1, .it (.lst (v.words.map fun w => V.str (stS w)) i)), (i2, .it (.lst (v.way.map natV) i))]) (EE := []) (Q := fun _ => True) (v.words.zip v.way) (fun p => V.tup [.str (stS p.1), natV p.2]) (fun p => some (.str (stS (spellF p.1 (p.2 % 3) (whiteC p.2))))) (Src.zipE hne (by rw [List.length_map, List.length_map]; lia) hzv) trivial ⟨_, .head _, trivial⟩ (by rw [List.length_zip]; lia) (fun C acc env' E' i p t ys hp => ?_) ?_
  · have hmem := List.mem_of_getElem? hp
    have hpa := hwo p.1 (List.of_mem_zip hmem).1
    have hpw := O.i.y48 p.2 (List.of_mem_zip hmem).2
    dsimp only [List.cons_append, List.nil_append]
    tb_start
    refine JBin.modN (b := 3) (by decide) ?_
    rw [mod3 _ hpw]
    tb_start
    refine JBin.divN (b := 3) (by decide) (by decide) ?_
    tb_start
    refine JBin.modN (b := 4) (by decide) ?_
    rw [bit3 _ hpw]
    have hr : p.2 / 3 % 4 < 4 := by lia
    refine ⟨NoPyItem.str, JGi.str (fits_small (by lia)) (white_at _ hr).2 ?_⟩
    rw [(white_at _ hr).1]
    tb_start
    refine JCc.call (c_spell W (by lia) hpa.2 (by lia) (white_lt p.2) ?_)
    first | exact ctEnd (τ := Option V × Option V) (t := (some (.str (stS p.1)), some (natV p.2))) | exact ⟨rfl, (some (.str (stS p.1)), some (natV p.2)), rfl⟩
  rw [filterMap_some']
  have etx : ((v.words.zip v.way).map fun p => V.str (stS (spellF p.1 (p.2 % 3) (whiteC p.2)))) = (((v.words.zip v.way).map fun p => spellF p.1 (p.2 % 3) (whiteC p.2)).map stS).map V.str := by rw [List.map_map, List.map_map]; rfl
  have hlen : ∀ x ∈ v.words.zip v.way, (spellF x.1 (x.2 % 3) (whiteC x.2)).length ≤ 16 := fun x hx => by
    have := spell_len x.1 (x.2 % 3) (whiteC x.2)
    have := (hwo x.1 (List.of_mem_zip hx).1).1
    lia
  have hzl : (v.words.zip v.way).length = 6 := by rw [List.length_zip]; lia
  have htl : v.text.length ≤ 96 := by
    have := flatten_len hlen
    rw [hzl] at this
    exact this
  tb_start
  rw [etx]
  refine JC.join (ss := ((v.words.zip v.way).map fun p => spellF p.1 (p.2 % 3) (whiteC p.2)).map stS) (.lst _) ?_ ?_
  · rw [show ("" : Str).length = 0 by decide +kernel, Nat.mul_zero, Nat.add_zero, List.map_map, List.map_map]
    refine Nat.le_trans (sum_le (k := 16) fun x hx => ?_) ?_
    · show (stS _).length ≤ 16
      rw [stS_len]; exact hlen x hx
    · lia
  rw [glued_nil]
  rw [show stS ((v.words.zip v.way).map fun p => spellF p.1 (p.2 % 3) (whiteC p.2)).flatten = stS v.text from rfl]
  tb_start
  refine JBin.cat (by rw [stS_len, tail_eq, stS_len]; show _ + 9 ≤ _; lia) ?_
  rw [tail_eq, stS_app]
  tb_start
  refine JCc.call (c_lexer W (by rw [List.length_append]; show _ + 9 ≤ _; lia) (by repeat (first | exact U | apply Upd.tail)) fun d p dh ph cs' sg fdl hcl => ?_)
  tb_rel
  tb_rel
  exact h d p dh ph cs' sg fdl hcl
end
inductive Reads : List Nat → List (List Nat) → List Nat → Prop
  | nil {r : List Nat} : Reads r [] r
  | cons {r t r' r'' : List Nat} {ts : List (List Nat)} : TT r t r' → Reads r' ts r'' → Reads r (t :: ts) r''
theorem read_q (wh : Nat) (rest : List Nat) : ∀ (w t : List Nat), QT ((w.map (esc0 wh)).flatten ++ 34 :: rest) t (t ++ w) rest
  | [], t => by rw [List.append_nil]; exact .close
  | c :: w, t => by
    have ih := read_q wh rest w (t ++ [c])
    rw [show t ++ c :: w = t ++ [c] ++ w by simp]
    rw [List.map_cons, List.flatten_cons]
    unfold esc0
    split
    · exact .esc ih
    · rename_i q
      simp at q
      exact .plain (by intro e; exact q.1.1 e) (by intro e; exact q.1.2 e) ih
theorem read_b1 {wh : Nat} {rest : List Nat} (hl : wh < 128) (hw : isWh wh = true) : ∀ (w t : List Nat), BT ((w.map fun c => [92, c]).flatten ++ wh :: rest) t (t ++ w) rest
  | [], t => by rw [List.append_nil]; exact .white hl hw
  | c :: w, t => by
    have ih := read_b1 (rest := rest) hl hw w (t ++ [c])
    rw [show t ++ c :: w = t ++ [c] ++ w by simp]
    exact .esc ih
theorem read_b2 {wh : Nat} {rest : List Nat} (hl : wh < 128) (hw : isWh wh = true) : ∀ (w t : List Nat), (∀ c ∈ w, c < 128) → BT ((w.map esc2).flatten ++ wh :: rest) t (t ++ w) rest
  | [], t, _ => by rw [List.append_nil]; exact .white hl hw
  | c :: w, t, h => by
    have ih := read_b2 (rest := rest) hl hw w (t ++ [c]) fun x hx => h x (.tail _ hx)
    rw [show t ++ c :: w = t ++ [c] ++ w by simp]
    rw [List.map_cons, List.flatten_cons]
    unfold esc2
    split
    · exact .esc ih
    · rename_i q
      simp at q
      refine .plain (h c (.head _)) ?_ (by intro e; exact q.2 e) ih
      unfold isWh
      simp
      lia
theorem read_word {w : List Nat} {y wh : Nat} {rest : List Nat} (hwh : wh < 128) (hw : isWh wh = true) (ha : ∀ c ∈ w, c < 128) (hne : w ≠ []) (h34 : w.head? ≠ some 34) (hsp : isWh (w.headD 0) = false) (h92 : w.headD 0 ≠ 92) : TT (spellF w y wh ++ rest) w rest := by
  unfold spellF
  split
  · rw [List.cons_append, List.append_assoc]
    exact .quote (read_q wh rest w [])
  · cases w with
    | nil => exact absurd rfl hne
    | cons c w =>
      split
      · rw [List.append_assoc, List.singleton_append]
        exact .esc (read_b1 hwh hw w [c])
      · rw [List.append_assoc, List.singleton_append]
        have hc : isWh c = false := hsp
        have hc9 : c ≠ 92 := h92
        have h3 : c ≠ 34 := fun e => h34 (by rw [e]; rfl)
        have e2 : esc2 c = [c] := by
          unfold esc2
          unfold isWh at hc
          simp at hc
          rw [if_neg]
          simp
          lia
        rw [List.map_cons, List.flatten_cons, e2]
        exact .bare (ha c (.head _)) hc h3 hc9 (read_b2 hwh hw w [c] fun x hx => ha x (.tail _ hx))
theorem white_wh (y : Nat) : isWh (whiteC y) = true := by
  have : ∀ r, r < 4 → isWh ([32, 9, 13, 10].getD r 0) = true := by decide
  exact this _ (by lia)
noncomputable def firstOk (w : List Nat) : Prop := w ≠ [] ∧ w.head? ≠ some 34 ∧ isWh (w.headD 0) = false ∧ w.headD 0 ≠ 92
theorem reads_text (tl : List Nat) : ∀ (ws : List (List Nat)) (way : List Nat), ws.length ≤ way.length → (∀ w ∈ ws, (∀ c ∈ w, c < 128) ∧ firstOk w) → Reads (textL ws way ++ tl) ws tl
  | [], way, _, _ => .nil
  | w :: ws, [], h, _ => by simp at h
  | w :: ws, y :: way, h, hw => by
    have ih := reads_text tl ws way (by simpa using h) fun x hx => hw x (.tail _ hx)
    obtain ⟨a, f1, f2, f3, f4⟩ := hw w (.head _)
    have : textL (w :: ws) (y :: way) ++ tl = spellF w (y % 3) (whiteC y) ++ (textL ws way ++ tl) := by
      unfold textL
      rw [List.zip_cons_cons, List.map_cons, List.flatten_cons, List.append_assoc]
    rw [this]
    exact .cons (read_word (white_lt y) (white_wh y) a f1 f2 f3 f4) ih
theorem op_first : ∀ p, p < 48 → (opC p).head? ≠ some 34 ∧ isWh ((opC p).headD 0) = false ∧ (opC p).headD 0 ≠ 92 := by decide +kernel
theorem let_first {c : Nat} (h : isLet c = true) : c ≠ 34 ∧ isWh c = false ∧ c ≠ 92 := by
  unfold isLet at h
  unfold isWh
  simp at h ⊢
  lia
theorem words_first {p0 p1 p2 lk : Nat} {es : List (Nat × Nat)} (h1 : p1 < 48) (he : ∀ e ∈ es, isLet e.1 = true) : ∀ w ∈ wordsL p0 p1 p2 lk es, firstOk w := by
  intro w hw
  rcases List.mem_cons.mp hw with rfl | hw
  · have o := op_first p1 h1
    have ne := (opC_ok p1 h1).2.2
    cases e : opC p1 with
    | nil => exact absurd e ne
    | cons a l => rw [e] at o; exact ⟨by simp, o⟩
  · obtain ⟨e, hm, rfl⟩ := List.mem_map.mp hw
    have := let_first (he e hm)
    refine ⟨by simp, ?_, this.2.1, this.2.2⟩
    intro q
    exact this.1 (Option.some.inj q)
theorem tail_1 : TT tailL [34, 35] [35] := by
  unfold tailL
  refine .skip (by decide) (by decide) (.skip (by decide) (by decide) (.skip (by decide) (by decide) (.skip (by decide) (by decide) (.esc ?_))))
  exact .plain (by decide) (by decide) (by decide) (.white (by decide) (by decide))
theorem tail_2 : TT [35] [35] [] := .bare (by decide) (by decide) (by decide) (by decide) .eof
theorem tail_3 : TT [] [] [] := .eof
theorem nls_app (a b : List Nat) : nls (a ++ b) = nls a + nls b := by simp [nls]
theorem nls_count (a : List Nat) : nls a = a.count 10 := by
  induction a with
  | nil => rfl
  | cons c a ih =>
    rw [nls_cons, ih, List.count_cons]
    unfold nl
    by_cases h : c = 10 <;> simp [h] <;> lia
noncomputable def badC (c : Nat) : Bool := [32, 34, 92, 9, 10, 35].contains c || isLet c
theorem keys_ok : ∀ k ∈ exD, k.1.cps.toList.all (fun c => !badC c) = true := by decide +kernel
theorem not_tok {p : List Nat} {c : Nat} (hc : c ∈ p) (hb : badC c = true) : isTok p = false := by
  unfold isTok
  rw [KTD.isSome_datumAt]
  have : ∀ D : List (Str × Int), (∀ k ∈ D, k.1.cps.toList.all (fun c => !badC c) = true) → KTD.inKeys (stS p) D = false := by
    intro D
    induction D with
    | nil => intro _; rfl
    | cons k D ih =>
      intro h
      show (decide (stS p = k.1) || KTD.inKeys (stS p) D) = false
      rw [ih fun x hx => h x (.tail _ hx), Bool.or_false, decide_eq_false_iff_not]
      intro q
      have := h k (.head _)
      rw [← q, stS_toList] at this
      have := List.all_eq_true.mp this c hc
      rw [hb] at this; cases this
  exact this exD keys_ok
theorem tok_op : ∀ p, p < 48 → isTok (opC p) = true ∧ valOf (opC p) = 7 + (p : Int) := by decide +kernel
theorem piece_op {p : Nat} (hp : p < 48) {c : Nat} (hb : badC c = true) (r : List Nat) : pieceOf (opC p ++ c :: r) = opC p := by
  have o := opC_ok p hp
  have t := (tok_op p hp).1
  generalize opC p = w at o t
  have cut : ∀ s : List Nat, c ∈ s → 2 ≤ s.length → cutOk s = false := by
    intro s h hl
    unfold cutOk
    rw [not_tok h hb, Bool.false_or, beq_eq_false_iff_ne]
    lia
  unfold pieceOf
  obtain ⟨l, _, ne⟩ := o
  match w, l, ne with
  | [], _, ne => exact absurd rfl ne
  | [a], _, _ =>
    have h2 : cutOk [a, c] = false := cut _ (by simp) (by simp)
    have h3 : cutOk (([a] ++ c :: r).take 3) = false := cut _ (by simp) (by simp)
    rw [h3, show ([a] ++ c :: r).take 2 = [a, c] from rfl, h2]; rfl
  | [a, b], _, _ =>
    have h3 : cutOk [a, b, c] = false := cut _ (by simp) (by simp)
    rw [show ([a, b] ++ c :: r).take 3 = [a, b, c] from rfl, h3, show ([a, b] ++ c :: r).take 2 = [a, b] from rfl]
    unfold cutOk; rw [t]; rfl
  | [a, b, d], _, _ =>
    rw [show ([a, b, d] ++ c :: r).take 3 = [a, b, d] from rfl]
    unfold cutOk; rw [t]; rfl
  | _ :: _ :: _ :: _ :: _, l, _ => simp at l
theorem piece_opE {p : Nat} (hp : p < 48) : pieceOf (opC p) = opC p := by
  have : ∀ p, p < 48 → pieceOf (opC p) = opC p := by decide +kernel
  exact this p hp
theorem piece_bad {c : Nat} (hb : badC c = true) (r : List Nat) : pieceOf (c :: r) = [c] := by
  have cut : ∀ s : List Nat, c ∈ s → 2 ≤ s.length → cutOk s = false := by
    intro s h hl
    unfold cutOk
    rw [not_tok h hb, Bool.false_or, beq_eq_false_iff_ne]
    lia
  unfold pieceOf
  match r with
  | [] => simp
  | [a] =>
    rw [show [c, a].take 3 = [c, a] from rfl, show [c, a].take 2 = [c, a] from rfl, cut [c, a] (by simp) (by simp)]; rfl
  | a :: b :: r =>
    rw [show (c :: a :: b :: r).take 3 = [c, a, b] from rfl, show (c :: a :: b :: r).take 2 = [c, a] from rfl, cut [c, a, b] (by simp) (by simp), cut [c, a] (by simp) (by simp)]; rfl
theorem val_look : ∀ c ∈ [32, 34, 92, 9, 10, 35], valOf [c] = 255 := by decide +kernel
theorem val_let : ∀ x, x < 4 → ∀ b, valOf [endC x b] = 256 + (x : Int) := by decide +kernel
theorem bad_look {c : Nat} (h : c ∈ [32, 34, 92, 9, 10, 35]) : badC c = true := by unfold badC; rw [List.contains_iff_mem.mpr h]; rfl
theorem bad_let {c : Nat} (h : isLet c = true) : badC c = true := by unfold badC; rw [h, Bool.or_true]
theorem drop_app (a b : List Nat) : (a ++ b).drop a.length = b := List.drop_left
theorem cut_first {p1 p2 lk : Nat} (h1 : p1 < 48) (h2 : p2 < 48) (hl : lk ∈ [32, 34, 92, 9, 10, 35]) : Cut (opC p1 ++ [lk] ++ opC p2) [7 + (p1 : Int), 255, 7 + (p2 : Int)] := by
  have b := bad_look hl
  have n1 := (opC_ok p1 h1).2.2
  have n2 := (opC_ok p2 h2).2.2
  have c3 : Cut (opC p2) [7 + (p2 : Int)] := by
    have := Cut.cons n2 (vs := []) (by rw [piece_opE h2, List.drop_length]; exact .nil)
    rwa [piece_opE h2, (tok_op p2 h2).2] at this
  have c2 : Cut (lk :: opC p2) [255, 7 + (p2 : Int)] := by
    have := Cut.cons (s := lk :: opC p2) (by simp) (vs := [7 + (p2 : Int)]) (by rw [piece_bad b]; exact c3)
    rwa [piece_bad b, val_look lk hl] at this
  rw [List.append_assoc, List.singleton_append]
  have := Cut.cons (s := opC p1 ++ lk :: opC p2) (by simp) (vs := [255, 7 + (p2 : Int)]) (by rw [piece_op h1 b, drop_app]; exact c2)
  rwa [piece_op h1 b, (tok_op p1 h1).2] at this
theorem cut_next {x y p0 lk : Nat} {b1 b2 : Bool} (hx : x < 4) (hy : y < 4) (h0 : p0 < 48) (hl : lk ∈ [32, 34, 92, 9, 10, 35]) : Cut ([endC x b1] ++ opC p0 ++ [lk] ++ [endC y b2]) [256 + (x : Int), 7 + (p0 : Int), 255, 256 + (y : Int)] := by
  have b := bad_look hl
  have bx := bad_let (endC_ok hx b1).1
  have b4 := bad_let (endC_ok hy b2).1
  have c4 : Cut [endC y b2] [256 + (y : Int)] := by
    have := Cut.cons (s := [endC y b2]) (by simp) (vs := []) (by rw [piece_bad b4]; exact .nil)
    rwa [piece_bad b4, val_let y hy] at this
  have c3 : Cut [lk, endC y b2] [255, 256 + (y : Int)] := by
    have := Cut.cons (s := [lk, endC y b2]) (by simp) (vs := [256 + (y : Int)]) (by rw [piece_bad b]; exact c4)
    rwa [piece_bad b, val_look lk hl] at this
  have c2 : Cut (opC p0 ++ [lk, endC y b2]) [7 + (p0 : Int), 255, 256 + (y : Int)] := by
    have := Cut.cons (s := opC p0 ++ [lk, endC y b2]) (by simp) (vs := [255, 256 + (y : Int)]) (by rw [piece_op h0 b, drop_app]; exact c3)
    rwa [piece_op h0 b, (tok_op p0 h0).2] at this
  have e : [endC x b1] ++ opC p0 ++ [lk] ++ [endC y b2] = endC x b1 :: (opC p0 ++ [lk, endC y b2]) := by simp
  rw [e]
  have := Cut.cons (s := endC x b1 :: (opC p0 ++ [lk, endC y b2])) (by simp) (vs := [7 + (p0 : Int), 255, 256 + (y : Int)]) (by rw [piece_bad bx]; exact c2)
  rwa [piece_bad bx, val_let x hx] at this
noncomputable def LV.due (v : LV) : List (List Int) := [7 + (v.p1 : Int), 255, 7 + (v.p2 : Int)] :: v.arr.map fun p => [256 + (p.1 : Int), 7 + (v.p0 : Int), 255, 256 + (p.2 : Int)]
noncomputable def LV.pairs (v : LV) : List (List Nat × List Int) := (opC v.p1 ++ [v.lk] ++ opC v.p2, [7 + (v.p1 : Int), 255, 7 + (v.p2 : Int)]) :: (v.arr.zip v.way.tail).map fun p => ([endC p.1.1 (p.2 / 12 % 2 != 0)] ++ opC v.p0 ++ [v.lk] ++ [endC p.1.2 (p.2 / 24 != 0)], [256 + (p.1.1 : Int), 7 + (v.p0 : Int), 255, 256 + (p.1.2 : Int)])
theorem LV.pairs1 (v : LV) : v.pairs.map (·.1) = v.words := by
  unfold LV.pairs LV.words wordsL LV.ends endsL
  rw [List.map_cons, List.map_map, List.map_map]; rfl
theorem LV.pairs2 {v : LV} (O : LOk v) : v.pairs.map (·.2) = v.due := by
  have hz : v.arr.length ≤ v.way.tail.length := by have := O.i.a5; have := O.i.y6; simp; lia
  have e : v.arr = (v.arr.zip v.way.tail).map Prod.fst := (List.map_fst_zip hz).symm
  unfold LV.pairs LV.due
  conv => rhs; rw [e]
  rw [List.map_cons, List.map_map, List.map_map]; rfl
theorem LV.pairs3 {v : LV} (O : LOk v) : ∀ p ∈ v.pairs, Cut p.1 p.2 := by
  intro p hp
  rcases List.mem_cons.mp hp with rfl | hp
  · exact cut_first O.h1 O.h2 O.i.lk
  · obtain ⟨q, hm, rfl⟩ := List.mem_map.mp hp
    have := O.i.a4 q.1 (List.of_mem_zip hm).1
    exact cut_next this.1 this.2 O.h0 O.i.lk
theorem LV.reads {v : LV} (O : LOk v) : Reads (v.text ++ tailL) v.words tailL := by
  have he := ends_ok (way := v.way) O.i.a4
  have hel : v.ends.length = 5 := ends_len O.i.a5 O.i.y6
  refine reads_text tailL v.words v.way ?_ fun w hw => ⟨(words_ok O.h0 O.h1 O.h2 O.lk (fun e hm => (he e hm).2) w hw).2, words_first O.h1 (fun e hm => (he e hm).1.1) w hw⟩
  have := O.i.y6
  show (_ :: _).length ≤ _
  rw [List.length_cons, List.length_map]; lia
theorem LV.words_len {v : LV} (O : LOk v) : v.words.length = 6 := by
  have := ends_len O.i.a5 O.i.y6
  show (_ :: _).length = 6
  rw [List.length_cons, List.length_map]
  unfold LV.ends; lia
theorem LV.words_ok {v : LV} (O : LOk v) : ∀ w ∈ v.words, w.length ≤ 7 ∧ ∀ c ∈ w, c < 128 :=
  Mine.words_ok O.h0 O.h1 O.h2 O.lk (fun e hm => (ends_ok (way := v.way) O.i.a4 e hm).2)
theorem LV.text_len {v : LV} (O : LOk v) : v.text.length ≤ 96 := by
  have hlen : ∀ x ∈ v.words.zip v.way, (spellF x.1 (x.2 % 3) (whiteC x.2)).length ≤ 16 := fun x hx => by
    have := spell_len x.1 (x.2 % 3) (whiteC x.2)
    have := (v.words_ok O x.1 (List.of_mem_zip hx).1).1
    lia
  have := flatten_len hlen
  have hzl : (v.words.zip v.way).length = 6 := by have := LV.words_len O; have := O.i.y6; rw [List.length_zip]; lia
  rw [hzl] at this
  exact this
theorem QT.len {r t t' r' : List Nat} (q : QT r t t' r') : r'.length ≤ r.length := by
  induction q with
  | close => simp
  | esc _ ih => simp only [List.length_cons]; lia
  | plain _ _ _ ih => simp only [List.length_cons]; lia
theorem BT.len {r t t' r' : List Nat} (q : BT r t t' r') : r'.length ≤ r.length := by
  induction q with
  | white _ _ => simp
  | esc _ ih => simp only [List.length_cons]; lia
  | plain _ _ _ _ ih => simp only [List.length_cons]; lia
  | eof => simp
theorem TT.len {r t r' : List Nat} (q : TT r t r') : r'.length ≤ r.length := by
  induction q with
  | skip _ _ _ ih => simp only [List.length_cons]; lia
  | quote h => have := h.len; simp only [List.length_cons]; lia
  | esc h => have := h.len; simp only [List.length_cons]; lia
  | bare _ _ _ _ h => have := h.len; simp only [List.length_cons]; lia
  | eof => simp
theorem Reads.inv {r t r'' : List Nat} {ts : List (List Nat)} (q : Reads r (t :: ts) r'') : ∃ r', TT r t r' ∧ Reads r' ts r'' := by
  cases q with
  | cons a b => exact ⟨_, a, b⟩
theorem Reads.inv0 {r r'' : List Nat} (q : Reads r [] r'') : r = r'' := by cases q; rfl
section
variable {τ : Type} {B : Base} {n : Nat} {G : Globs B} {it : Addr} {I : Nat → Hp} {EE : Hp} {Q : Hp → Prop} {names : List (Str × NameKind)} {own' : Addr → List (Str × Addr)} {out' : List (Str × Addr)} {T : Addr → τ → Hp} {target elt : Expr} {ifs : List Expr} {F : List V → Hp → Prop}
end
section
variable {B : Base} {n : Nat} {env : Env} {hp hp' : Hp} {Φ : V → Hp → Prop} {Ψ : AF → Hp → Prop} {Υ : Hp → Prop} {K : Frag} {mg mb : Str → Option Value} {L cs ce pl ma lo wi dr en le ne ta fo nu d p dh ph cs' sg : Addr} {fdl : FuncData}
theorem lexHpAt (hcl : ∃ q cl pm c ct, fdl = lamFd q cl pm c ct ∧ CloIs cl lamS.names [("signs", cs')]) (hp : Hp) : LexAt (fun ln pb r => lexHp d p dh ph cs' sg fdl ln pb r hp) d p dh cs' sg fdl where
  hd := fun ln pb r => by (lcg_off)
  hp := fun ln pb r => by (lcg_off)
  hh := fun ln pb r => ⟨ph, by (lcg_off)⟩
  hc := fun ln pb r => by (lcg_off)
  hs := fun ln pb r => by (lcg_off)
  ud := fun ln ln' pb r => by (tlg_ne)
  up := fun ln pb pb' r => by (tlg_ne)
  us := fun ln pb r r' => by (tlg_ne)
  fd := hcl
noncomputable def LV.symV (v : LV) : V := .lst (v.due.map fun q => V.lst (q.map .int))
theorem law_c (W : Wd B K mg mb) (E : EnvIs B W.T.GG env L (scopeOf (stm 78)).names (lawOwn cs ce pl ma lo wi dr en le ne ta fo nu) []) {v : LV} (O : LOk v)
    (hcl : ∃ q cl pm c ct, fdl = lamFd q cl pm c ct ∧ CloIs cl lamS.names [("signs", cs')])
    (h : ∀ ln, ln + nls tailL = 1 + nls (v.text ++ tailL) →
      JS B (n + 6) env (lexHp d p dh ph cs' sg fdl ln [] tailL ((L, .ns (lawN2 v (some v.wordsV) (some (.str (stS v.text))) (some v.wordsV) (some v.symV) (some v.symV) none none none none none none none none)) :: lawC2 cs ce pl ma lo wi dr en le ne ta fo nu v (some (.inst 231 d)) none none none none hp)) ((bodyOf (stm 78)).drop 13) Ψ) :
    JS B (n + 6) env (lexHp d p dh ph cs' sg fdl 1 [] (v.text ++ tailL) ((L, .ns (lawN2 v (some v.wordsV) (some (.str (stS v.text))) none none none none none none none none none none none)) :: lawC2 cs ce pl ma lo wi dr en le ne ta fo nu v (some (.inst 231 d)) none none none none hp)) ((bodyOf (stm 78)).drop 10) Ψ := by
  conv in (List.drop _ _) => whnf
  tb_start
  refine J1.comp (own' := fun _ => []) (out' := lawOwn cs ce pl ma lo wi dr en le ne ta fo nu) (fun C (t : Option V) => [(C, .ns [(".0", none), ("word", t)])]) none E (⟨⟨by kernel_rfl, by decide +kernel, by kernel_rfl⟩, by rfl, fun C => by kernel_rfl, fun C => by kernel_rfl, fun C t => ⟨_, _, .head⟩⟩) (by kernel_rfl) (by kernel_rfl) ?_
  tb_start
  refine JI.lst fun it => ?_
  have hwl := LV.words_len O
  refine CompIn.var (I := fun i => [(it, .it (.lst (v.words.map fun w => V.str (stS w)) i))]) v.words (fun w => .str (stS w)) (fun w => some (.str (stS w))) (fun i r => ∃ ln rr, Reads rr (v.words.drop i) tailL ∧ rr.length ≤ 200 ∧ ln + nls rr = 1 + nls (v.text ++ tailL) ∧ r = lexHp d p dh ph cs' sg fdl ln [] rr ((L, .ns (lawN2 v (some v.wordsV) (some (.str (stS v.text))) none none none none none none none none none none none)) :: lawC2 cs ce pl ma lo wi dr en le ne ta fo nu v (some (.inst 231 d)) none none none none hp)) (Q := fun _ => True) Src.lst (fun _ _ _ => trivial) ⟨1, _, LV.reads O, ?_, rfl, rfl⟩ ⟨_, .head _, trivial⟩ (by lia) (fun C acc env' E' i w t ys r hw hJ => ?_) fun r hJ => ?_
  · have := LV.text_len O
    rw [List.length_append]; show _ + 9 ≤ _; lia
  · obtain ⟨ln, rr, hR, hl, hn, rfl⟩ := hJ
    have hi := (List.getElem?_eq_some_iff.mp hw).1
    have ew : v.words.drop i = w :: v.words.drop (i + 1) := by
      rw [List.drop_eq_getElem_cons hi, (List.getElem?_eq_some_iff.mp hw).2]
    rw [ew] at hR
    obtain ⟨r1, hT, hR1⟩ := hR.inv
    dsimp only [List.cons_append, List.nil_append]
    tb_start
    refine JCc.call (c_tok (n := n + 2) W ((((lexHpAt hcl _).cons _).cons _).cons _) hT (by lia) fun ln' hn' => ?_)
    exact ⟨rfl, some (.str (stS w)), _, ⟨ln', r1, hR1, by have := hT.len; lia, by lia, rfl⟩, rfl⟩
  obtain ⟨ln, rr, hR, hl, hn, rfl⟩ := hJ
  rw [List.drop_length] at hR
  obtain rfl := hR.inv0
  rw [filterMap_some']
  refine nsEnd (by (tlg_ne)) (by (ktu_offL)) ?_
  have hd := (lexHpAt (d := d) (p := p) (dh := dh) (ph := ph) (sg := sg) hcl ([] : Hp))
  tb_start
  refine J1.comp (own' := fun _ => []) (out' := lawOwn cs ce pl ma lo wi dr en le ne ta fo nu) (fun C (t : Option V) => [(C, .ns [(".0", none), ("word", t)])]) none E (⟨⟨by kernel_rfl, by decide +kernel, by kernel_rfl⟩, by rfl, fun C => by kernel_rfl, fun C => by kernel_rfl, fun C t => ⟨_, _, .head⟩⟩) (by kernel_rfl) (by kernel_rfl) ?_
  tb_start
  refine JI.lst fun it => ?_
  have e1 : (v.words.map fun w => V.str (stS w)) = v.pairs.map fun q => V.str (stS q.1) := by rw [← LV.pairs1 v, List.map_map]; rfl
  have e2 : v.symV = V.lst (v.pairs.map fun q => V.lst (q.2.map .int)) := by unfold LV.symV; rw [← LV.pairs2 O, List.map_map]; rfl
  rw [e1]
  refine CompIn.lst v.pairs (fun q => V.str (stS q.1)) (fun q => some (V.lst (q.2.map .int))) (by have := congrArg List.length (LV.pairs1 v); rw [List.length_map] at this; lia) (fun C acc env' E' i q t ys hq => ?_) ?_
  · have hm := List.mem_of_getElem? hq
    have hc := LV.pairs3 O q hm
    have hwo := v.words_ok O q.1 (by rw [← LV.pairs1 v]; exact List.mem_map_of_mem hm)
    dsimp only [List.cons_append, List.nil_append]
    tb_start
    refine JCc.call (c_cut W (by lia) hwo.2 hc ?_)
    first | exact ctEnd (τ := Option V) (t := some (V.str (stS q.1))) | exact ⟨rfl, some (V.str (stS q.1)), rfl⟩
  delta nsK
  rw [filterMap_some', ← e2]
  rw [← e1]
  refine ⟨_, _, _, by (tlg_ne), by (ktu_offL), ?_⟩
  tb_start
  refine JE.list ?_
  tb_start
  refine JE.list ?_
  tb_start
  refine ⟨NoPyItem.lst, JGi.lst (x := natV v.p1) (.lst _) (by decide) (by decide) rfl ?_⟩
  tb_start
  refine ⟨NoPyItem.lst, JGi.lst (x := natV v.p2) (.lst _) (by decide) (by decide) rfl ?_⟩
  tb_start
  refine ⟨by show 3 ≤ 16777216; lia, ?_⟩
  tb_start
  refine ⟨by show 1 ≤ 16777216; lia, ?_⟩
  tb_start
  refine JE.comp (own' := fun _ => []) (out' := lawOwn cs ce pl ma lo wi dr en le ne ta fo nu) (fun C (t : Option V × Option V) => [(C, .ns [(".0", none), ("x", t.1), ("y", t.2)])]) (none, none) E (⟨⟨by kernel_rfl, by decide +kernel, by kernel_rfl⟩, by rfl, fun C => by kernel_rfl, fun C => by kernel_rfl, fun C t => ⟨_, _, .head⟩⟩) ?_
  tb_start
  have ha5 := O.i.a5
  refine JI.lst fun it => ?_
  refine CompIn.lst v.arr (fun p => V.tup [natV p.1, natV p.2]) (fun p => some (V.lst ([256 + (p.1 : Int), 7 + (v.p0 : Int), 255, 256 + (p.2 : Int)].map .int))) (by lia) (fun C acc env' E' i q t ys hq => ?_) ?_
  · dsimp only [List.cons_append, List.nil_append]
    tb_start
    refine JE.list ?_
    tb_start
    refine ⟨NoPyItem.lst, JGi.lst (x := natV v.p0) (.lst _) (by decide) (by decide) rfl ?_⟩
    tb_start
    refine ⟨by show 4 ≤ 16777216; lia, ?_⟩
    first | exact ctEnd (τ := Option V × Option V) (t := (some (natV q.1), some (natV q.2))) | exact ⟨rfl, (some (natV q.1), some (natV q.2)), rfl⟩
  rw [filterMap_some']
  refine JBin.catL (.lst _) (.lst _) (by rw [List.length_map]; show 1 + _ ≤ _; lia) ?_
  have ed : V.lst ([V.lst [V.int (7 + (v.p1 : Int)), V.int 255, V.int (7 + (v.p2 : Int))]] ++ v.arr.map fun p => V.lst ([256 + (p.1 : Int), 7 + (v.p0 : Int), 255, 256 + (p.2 : Int)].map .int)) = v.symV := by
    unfold LV.symV LV.due
    rw [List.map_cons, List.map_map]; rfl
  rw [ed]
  tb_rel
  tb_rel
  exact h ln hn
end
theorem all_map {α : Type} {f : α → V} {d : Nat} (l : List α) (h : ∀ x, plainV d (f x) = true) : (l.map f).all (plainV d) = true := by
  rw [List.all_map, List.all_eq_true]; intro x _; exact h x
theorem plain_str (s : Str) : plainV 1 (.str s) = true := rfl
theorem plain_int (d : Nat) (i : Int) : plainV d (.int i) = true := by cases d <;> rfl
theorem plain_ints (q : List Int) : plainV 1 (.lst (q.map .int)) = true := all_map q fun x => plain_int 0 x
theorem due_non (v : LV) (h1 : v.p1 < 48) (h2 : v.p2 < 48) (h0 : v.p0 < 48) : v.due.map (fun q => q.filter fun i => decide (256 ≤ i)) = [] :: (v.due.drop 1).map fun q => q.take 1 ++ q.drop 3 := by
  unfold LV.due
  rw [List.map_cons, List.drop_one, List.tail_cons, List.map_map, List.map_map]
  congr 1
  · rw [List.filter_cons_of_neg (by simp; lia), List.filter_cons_of_neg (by simp), List.filter_cons_of_neg (by simp; lia), List.filter_nil]
  · refine List.map_congr_left fun p hp => ?_
    show List.filter (fun i => decide (256 ≤ i)) [256 + (p.1 : Int), 7 + (v.p0 : Int), 255, 256 + (p.2 : Int)] = [256 + (p.1 : Int), 256 + (p.2 : Int)]
    rw [List.filter_cons_of_pos (by simp; lia), List.filter_cons_of_neg (by simp; lia), List.filter_cons_of_neg (by simp), List.filter_cons_of_pos (by simp; lia), List.filter_nil]
theorem due_ter (v : LV) (h1 : v.p1 < 48) (h2 : v.p2 < 48) (h0 : v.p0 < 48) : v.due.map (fun q => q.filter fun i => decide (i < 256)) = v.due.take 1 ++ (v.due.drop 1).map fun q => (q.take 3).drop 1 := by
  unfold LV.due
  rw [List.map_cons, List.drop_one, List.tail_cons, List.map_map, List.map_map]
  show _ :: _ = _ :: _
  congr 1
  · rw [List.filter_cons_of_pos (by simp; lia), List.filter_cons_of_pos (by simp), List.filter_cons_of_pos (by simp; lia), List.filter_nil]
  · refine List.map_congr_left fun p hp => ?_
    show List.filter (fun i => decide (i < 256)) [256 + (p.1 : Int), 7 + (v.p0 : Int), 255, 256 + (p.2 : Int)] = [7 + (v.p0 : Int), 255]
    rw [List.filter_cons_of_neg (by simp; lia), List.filter_cons_of_pos (by simp; lia), List.filter_cons_of_pos (by simp), List.filter_cons_of_neg (by simp; lia), List.filter_nil]
theorem due_len {v : LV} (O : LOk v) : v.due.length = 6 ∧ ∀ q ∈ v.due, q.length ≤ 4 := by
  unfold LV.due
  refine ⟨by rw [List.length_cons, List.length_map, O.i.a5], fun q hq => ?_⟩
  rcases List.mem_cons.mp hq with rfl | hq
  · simp
  · obtain ⟨p, _, rfl⟩ := List.mem_map.mp hq
    simp
section
variable {B : Base} {n : Nat} {env : Env} {hp hp' : Hp} {Φ : V → Hp → Prop} {Ψ : AF → Hp → Prop} {Υ : Hp → Prop} {K : Frag} {mg mb : Str → Option Value} {L cs ce pl ma lo wi dr en le ne ta fo nu d p dh ph cs' sg : Addr} {fdl : FuncData}
theorem law_d (W : Wd B K mg mb) (E : EnvIs B W.T.GG env L (scopeOf (stm 78)).names (lawOwn cs ce pl ma lo wi dr en le ne ta fo nu) []) {v : LV} (O : LOk v) {ln : Nat}
    (h : JS B (n + 6) env (lexHp d p dh ph cs' sg fdl ln [] tailL ((L, .ns (lawN2 v (some v.wordsV) (some (.str (stS v.text))) (some v.wordsV) (some v.symV) (some v.symV) none none none none none none none none)) :: lawC2 cs ce pl ma lo wi dr en le ne ta fo nu v (some (.inst 231 d)) none none none none hp)) ((bodyOf (stm 78)).drop 16) Ψ) :
    JS B (n + 6) env (lexHp d p dh ph cs' sg fdl ln [] tailL ((L, .ns (lawN2 v (some v.wordsV) (some (.str (stS v.text))) (some v.wordsV) (some v.symV) (some v.symV) none none none none none none none none)) :: lawC2 cs ce pl ma lo wi dr en le ne ta fo nu v (some (.inst 231 d)) none none none none hp)) ((bodyOf (stm 78)).drop 13) Ψ := by
  conv in (List.drop 13 _) => whnf
  tb_start
  refine JCmp.neSame (d := 1) (.lst _) (.lst _) (all_map _ fun w => plain_str _) (by decide) ?_
  tb_start
  refine JCmp.neSame (d := 1) (.lst _) (.lst _) (all_map _ fun w => plain_ints _) (by decide) ?_
  tb_start
  have hdl := due_len O
  refine JE.comp (own' := fun _ => []) (out' := lawOwn cs ce pl ma lo wi dr en le ne ta fo nu) (fun C (t : Option V) => [(C, .ns [(".0", none), ("row", t)])]) none E (⟨⟨by kernel_rfl, by decide +kernel, by kernel_rfl⟩, by rfl, fun C => by kernel_rfl, fun C => by kernel_rfl, fun C t => ⟨_, _, .head⟩⟩) ?_
  tb_start
  refine JI.lst fun it => ?_
  refine CompIn.lst v.due (fun q => V.lst (q.map .int)) (fun q => some (V.lst ((q.filter fun i => decide (256 ≤ i)).map .int))) (by lia) (fun C acc env' E' i q t ys hq => ?_) ?_
  · have hql := hdl.2 q (List.mem_of_getElem? hq)
    dsimp only [List.cons_append, List.nil_append]
    tb_start
    refine JE.comp (own' := fun _ => []) (out' := lawOwn cs ce pl ma lo wi dr en le ne ta fo nu) (fun C (t : Option V) => [(C, .ns [(".0", none), ("one", t)])]) none E' (⟨⟨by kernel_rfl, by decide +kernel, by kernel_rfl⟩, by rfl, fun C => by kernel_rfl, fun C => by kernel_rfl, fun C t => ⟨_, _, .head⟩⟩) ?_
    tb_start
    refine JI.lst fun it2 => ?_
    refine CompIn.lst q V.int (fun i => if decide (256 ≤ i) then some (V.int i) else none) (by lia) (fun C2 acc2 env2 E2 j x t2 ys2 hx => ?_) ?_
    · dsimp only [List.cons_append, List.nil_append]
      tb_start
      refine JCc.call (c_nont W ?_)
      tb_start
      refine JCmp.is rfl rfl rfl ?_
      rw [is_true]
      tb_start
      cases e : decide (256 ≤ x) with
      | true =>
        refine iteT ?_
        tb_start
        first | exact ctEnd (τ := Option V) (t := some (V.int x)) | exact ⟨rfl, some (V.int x), rfl⟩
      | false => exact iteF ⟨rfl, some (V.int x), rfl⟩
    rw [filterMap_if]
    first | exact ctEnd (τ := Option V) (t := some (V.lst (q.map .int))) | exact ⟨rfl, some (V.lst (q.map .int)), rfl⟩
  rw [filterMap_some']
  tb_start
  refine JE.list ?_
  tb_start
  refine JE.list ?_
  tb_start
  refine ⟨by show 0 ≤ 16777216; lia, ?_⟩
  tb_start
  refine ⟨by show 1 ≤ 16777216; lia, ?_⟩
  tb_start
  refine JE.comp (own' := fun _ => []) (out' := lawOwn cs ce pl ma lo wi dr en le ne ta fo nu) (fun C (t : Option V) => [(C, .ns [(".0", none), ("row", t)])]) none E (⟨⟨by kernel_rfl, by decide +kernel, by kernel_rfl⟩, by rfl, fun C => by kernel_rfl, fun C => by kernel_rfl, fun C t => ⟨_, _, .head⟩⟩) ?_
  tb_start
  refine ⟨NoPyItem.lst, JGi.lstSl (.lst _) (by decide) (by rw [List.length_map]; lia) ?_⟩
  rw [show vpick (v.due.map fun q => V.lst (q.map .int)) (some 1) none none = (v.due.map fun q => V.lst (q.map .int)).drop 1 from vpick_from _ 1, ← List.map_drop]
  refine JI.lst fun it => ?_
  refine CompIn.lst (v.due.drop 1) (fun q => V.lst (q.map .int)) (fun q => some (V.lst ((q.take 1 ++ q.drop 3).map .int))) (by rw [List.length_drop]; lia) (fun C acc env' E' i q t ys hq => ?_) ?_
  · have hql := hdl.2 q (List.mem_of_mem_drop (List.mem_of_getElem? hq))
    dsimp only [List.cons_append, List.nil_append]
    tb_start
    refine ⟨NoPyItem.lst, JGi.lstSl (.lst _) (by decide) (by rw [List.length_map]; lia) ?_⟩
    rw [show vpick (q.map V.int) none (some 1) none = (q.map V.int).take 1 from vpick_to _ 1]
    tb_start
    refine ⟨NoPyItem.lst, JGi.lstSl (.lst _) (by decide) (by rw [List.length_map]; lia) ?_⟩
    rw [show vpick (q.map V.int) (some 3) none none = (q.map V.int).drop 3 from vpick_from _ 3]
    refine JBin.catL (.lst _) (.lst _) (by rw [List.length_take, List.length_drop, List.length_map]; lia) ?_
    rw [← List.map_take, ← List.map_drop, ← List.map_append]
    first | exact ctEnd (τ := Option V) (t := some (V.lst (q.map .int))) | exact ⟨rfl, some (V.lst (q.map .int)), rfl⟩
  rw [filterMap_some']
  refine JBin.catL (.lst _) (.lst _) (by rw [List.length_map, List.length_drop]; show 1 + _ ≤ _; lia) ?_
  have en1 : (v.due.map fun q => V.lst ((q.filter fun i => decide (256 ≤ i)).map .int)) = [V.lst []] ++ (v.due.drop 1).map fun q => V.lst ((q.take 1 ++ q.drop 3).map .int) := by
    have := congrArg (List.map fun q : List Int => V.lst (q.map .int)) (due_non v O.h1 O.h2 O.h0)
    rw [List.map_map, List.map_cons, List.map_map] at this
    exact this
  rw [← en1]
  refine JCmp.neSame (d := 1) (.lst _) (.lst _) (all_map _ fun w => plain_ints _) (by decide) ?_
  tb_start
  refine JE.comp (own' := fun _ => []) (out' := lawOwn cs ce pl ma lo wi dr en le ne ta fo nu) (fun C (t : Option V) => [(C, .ns [(".0", none), ("row", t)])]) none E (⟨⟨by kernel_rfl, by decide +kernel, by kernel_rfl⟩, by rfl, fun C => by kernel_rfl, fun C => by kernel_rfl, fun C t => ⟨_, _, .head⟩⟩) ?_
  tb_start
  refine JI.lst fun it => ?_
  refine CompIn.lst v.due (fun q => V.lst (q.map .int)) (fun q => some (V.lst ((q.filter fun i => decide (i < 256)).map .int))) (by lia) (fun C acc env' E' i q t ys hq => ?_) ?_
  · have hql := hdl.2 q (List.mem_of_getElem? hq)
    dsimp only [List.cons_append, List.nil_append]
    tb_start
    refine JE.comp (own' := fun _ => []) (out' := lawOwn cs ce pl ma lo wi dr en le ne ta fo nu) (fun C (t : Option V) => [(C, .ns [(".0", none), ("one", t)])]) none E' (⟨⟨by kernel_rfl, by decide +kernel, by kernel_rfl⟩, by rfl, fun C => by kernel_rfl, fun C => by kernel_rfl, fun C t => ⟨_, _, .head⟩⟩) ?_
    tb_start
    refine JI.lst fun it2 => ?_
    refine CompIn.lst q V.int (fun i => if decide (i < 256) then some (V.int i) else none) (by lia) (fun C2 acc2 env2 E2 j x t2 ys2 hx => ?_) ?_
    · dsimp only [List.cons_append, List.nil_append]
      tb_start
      refine JCc.call (c_term W ?_)
      tb_start
      refine JCmp.is rfl rfl rfl ?_
      rw [is_true]
      tb_start
      cases e : decide (x < 256) with
      | true =>
        refine iteT ?_
        tb_start
        first | exact ctEnd (τ := Option V) (t := some (V.int x)) | exact ⟨rfl, some (V.int x), rfl⟩
      | false => exact iteF ⟨rfl, some (V.int x), rfl⟩
    rw [filterMap_if]
    first | exact ctEnd (τ := Option V) (t := some (V.lst (q.map .int))) | exact ⟨rfl, some (V.lst (q.map .int)), rfl⟩
  rw [filterMap_some']
  tb_start
  refine ⟨NoPyItem.lst, JGi.lstSl (.lst _) (by decide) (by rw [List.length_map]; lia) ?_⟩
  rw [show vpick (v.due.map fun q => V.lst (q.map .int)) none (some 1) none = (v.due.map fun q => V.lst (q.map .int)).take 1 from vpick_to _ 1, ← List.map_take]
  tb_start
  refine JE.comp (own' := fun _ => []) (out' := lawOwn cs ce pl ma lo wi dr en le ne ta fo nu) (fun C (t : Option V) => [(C, .ns [(".0", none), ("row", t)])]) none E (⟨⟨by kernel_rfl, by decide +kernel, by kernel_rfl⟩, by rfl, fun C => by kernel_rfl, fun C => by kernel_rfl, fun C t => ⟨_, _, .head⟩⟩) ?_
  tb_start
  refine ⟨NoPyItem.lst, JGi.lstSl (.lst _) (by decide) (by rw [List.length_map]; lia) ?_⟩
  rw [show vpick (v.due.map fun q => V.lst (q.map .int)) (some 1) none none = (v.due.map fun q => V.lst (q.map .int)).drop 1 from vpick_from _ 1, ← List.map_drop]
  refine JI.lst fun it => ?_
  refine CompIn.lst (v.due.drop 1) (fun q => V.lst (q.map .int)) (fun q => some (V.lst (((q.take 3).drop 1).map .int))) (by rw [List.length_drop]; lia) (fun C acc env' E' i q t ys hq => ?_) ?_
  · have hql := hdl.2 q (List.mem_of_mem_drop (List.mem_of_getElem? hq))
    dsimp only [List.cons_append, List.nil_append]
    tb_start
    refine ⟨NoPyItem.lst, JGi.lstSl (.lst _) (by decide) (by rw [List.length_map]; lia) ?_⟩
    rw [show vpick (q.map V.int) (some 1) (some 3) none = ((q.map V.int).take 3).drop 1 from vpick_mid _ 1 3, ← List.map_take, ← List.map_drop]
    first | exact ctEnd (τ := Option V) (t := some (V.lst (q.map .int))) | exact ⟨rfl, some (V.lst (q.map .int)), rfl⟩
  rw [filterMap_some']
  refine JBin.catL (.lst _) (.lst _) (by rw [List.length_map, List.length_map, List.length_drop, List.length_take]; lia) ?_
  have en2 : (v.due.map fun q => V.lst ((q.filter fun i => decide (i < 256)).map .int)) = (v.due.take 1).map (fun q => V.lst (q.map .int)) ++ (v.due.drop 1).map fun q => V.lst (((q.take 3).drop 1).map .int) := by
    have := congrArg (List.map fun q : List Int => V.lst (q.map .int)) (due_ter v O.h1 O.h2 O.h0)
    rw [List.map_map, List.map_append, List.map_map] at this
    exact this
  rw [← en2]
  refine JCmp.neSame (d := 1) (.lst _) (.lst _) (all_map _ fun w => plain_ints _) (by decide) ?_
  tb_rel
  tb_rel
  tb_rel
  exact h
end
theorem item_last (l : List Nat) (c : Nat) : Txt.item (stS (l ++ [c])) (-1) = chS c ∧ (Txt.charAt (stS (l ++ [c])) (-1)).isSome = true := by
  have e : Txt.charAt (stS (l ++ [c])) (-1) = some c := by
    unfold Txt.charAt seqIndex?
    simp only [show ((-1 : Int) < 0) by lia, if_true, stS_len, List.length_append, List.length_singleton]
    rw [if_pos (by simp; lia)]
    rw [show ((-1 : Int) + ((l.length + 1 : Nat) : Int)).toNat = l.length by lia]
    simp [stS]
  unfold Txt.item
  rw [e]; exact ⟨rfl, rfl⟩
theorem getA' (arr : List (Nat × Nat)) (ha : ∀ p ∈ arr, p.1 < 128) {x : Nat} (hx : x < 4) : getAllF (itemsA arr) (chS (65 + x)) = (outsC arr (97 + x)).map chS := by
  have := getA arr ha (c := 97 + x) (by unfold isLet; simp; lia)
  rwa [up_ch (by lia), up_abcd x hx] at this
theorem nm_ok' {x : Nat} (hx : x < 4) : NmOk (chS (65 + x)) := by
  have := nm_ok (c := 97 + x) (by unfold isLet; simp; lia)
  rwa [up_ch (by lia), up_abcd x hx] at this
section
variable {B : Base} {n : Nat} {env : Env} {hp hp' : Hp} {Φ : V → Hp → Prop} {Ψ : AF → Hp → Prop} {Υ : Hp → Prop} {K : Frag} {mg mb : Str → Option Value} {L cs ce pl ma lo wi dr en le ne ta fo nu d p dh ph cs' sg : Addr} {fdl : FuncData}
noncomputable def LV.nearV (v : LV) : V := .lst ((nearF v.arr).map natV)
noncomputable def LV.headsV (v : LV) : V := .lst ([97, 98, 99, 100].map fun c => V.lst ((outsC v.ends c).map fun c => V.str (chS c)))
noncomputable abbrev nextW (v : LV) (e : Nat × Nat) : List Nat := [e.1] ++ opC v.p0 ++ [v.lk] ++ [e.2]
theorem law_e (W : Wd B K mg mb) (E : EnvIs B W.T.GG env L (scopeOf (stm 78)).names (lawOwn cs ce pl ma lo wi dr en le ne ta fo nu) []) {v : LV} (O : LOk v) {ln : Nat} 
    (h : ∀ lt dt, JS B (n + 6) env ((lt, .list (tups (itemsA v.ends))) :: (dt, .attrs [("_headers", .mref lt)]) :: lexHp d p dh ph cs' sg fdl ln [] tailL ((L, .ns (lawN2 v (some v.wordsV) (some (.str (stS v.text))) (some v.wordsV) (some v.symV) (some v.symV) (some (.lst [])) (some v.headsV) none none none none none none)) :: lawC2 cs ce pl ma lo wi dr en le ne ta fo nu v (some (.inst 231 d)) (some v.nearV) (some (.inst 175 dt)) none none hp)) ((bodyOf (stm 78)).drop 20) Ψ) :
    JS B (n + 6) env (lexHp d p dh ph cs' sg fdl ln [] tailL ((L, .ns (lawN2 v (some v.wordsV) (some (.str (stS v.text))) (some v.wordsV) (some v.symV) (some v.symV) none none none none none none none none)) :: lawC2 cs ce pl ma lo wi dr en le ne ta fo nu v (some (.inst 231 d)) none none none none hp)) ((bodyOf (stm 78)).drop 16) Ψ := by
  have hel : v.ends.length = 5 := ends_len O.i.a5 O.i.y6
  have he : ∀ e ∈ v.ends, (isLet e.1 = true ∧ isLet e.2 = true) ∧ e.1 < 128 ∧ e.2 < 128 := ends_ok (way := v.way) O.i.a4
  have o0 := opC_ok v.p0 O.h0
  conv in (List.drop 16 _) => whnf
  tb_rel
  refine J1.assign ?_ (by rfl) (swapped_none (x := "near") (c := ne) E (by (lcg_off)) (by (lcg_off))) (by rfl)
  tb_start
  refine JCc.call (c_near W O.i.a4 (by rw [O.i.a5]; lia) ?_)
  tb_start
  refine ⟨JK.mk W (.inl rfl), JCc.call (JCc.mk W (.inl rfl) (by (lcg_off)) (by (lcg_off)) fun dt => c_hinit (hp' := fun l => (dt, .attrs [("_headers", .mref l)]) :: _) W (fun l => .head) fun lt => ⟨rfl, ?_⟩)⟩
  tb_start
  refine ⟨by show 2 ≤ 16777216; lia, ?_⟩
  tb_start
  refine J1.comp (own' := fun _ => []) (out' := lawOwn cs ce pl ma lo wi dr en le ne ta fo nu) (fun C (t : Option V) => [(C, .ns [(".0", none), ("one", t)])]) none E (⟨⟨by kernel_rfl, by decide +kernel, by kernel_rfl⟩, by rfl, fun C => by kernel_rfl, fun C => by kernel_rfl, fun C t => ⟨_, _, .head⟩⟩) (by kernel_rfl) (by kernel_rfl) ?_
  refine JE.comp (own' := fun _ => []) (out' := lawOwn cs ce pl ma lo wi dr en le ne ta fo nu) (fun C (t : Option V) => [(C, .ns [(".0", none), ("word", t)])]) none E (⟨⟨by kernel_rfl, by decide +kernel, by kernel_rfl⟩, by rfl, fun C => by kernel_rfl, fun C => by kernel_rfl, fun C t => ⟨_, _, .head⟩⟩) ?_
  tb_start
  have hwl := LV.words_len O
  have edr : vpick (v.words.map fun w => V.str (stS w)) (some 1) none none = v.ends.map fun e => V.str (stS (nextW v e)) := by
    rw [show vpick (v.words.map fun w => V.str (stS w)) (some 1) none none = (v.words.map fun w => V.str (stS w)).drop 1 from vpick_from _ 1, ← List.map_drop]
    show (List.map _ (List.map _ _)) = _
    rw [List.map_map]; rfl
  refine ⟨NoPyItem.lst, JGi.lstSl (.lst _) (by decide) (by rw [List.length_map]; lia) ?_⟩
  rw [edr]
  refine JI.lst fun it => ?_
  refine CompIn.var (I := fun i => [(it, .it (.lst (v.ends.map fun e => V.str (stS (nextW v e))) i))]) v.ends (fun e => V.str (stS (nextW v e))) (fun _ => some V.none) (fun i r => r = (lt, .list (tups (itemsA (v.ends.take i)))) :: (dt, .attrs [("_headers", .mref lt)]) :: lexHp d p dh ph cs' sg fdl ln [] tailL ((L, .ns (lawN2 v (some v.wordsV) (some (.str (stS v.text))) (some v.wordsV) (some v.symV) (some v.symV) none none none none none none none none)) :: lawC2 cs ce pl ma lo wi dr en le ne ta fo nu v (some (.inst 231 d)) (some v.nearV) (some (.inst 175 dt)) none none hp)) (Q := fun _ => True) Src.lst (fun _ _ _ => trivial) rfl ⟨_, .head _, trivial⟩ (by lia) (fun C acc env' E' i e t ys r hi hJ => ?_) fun r hJ => ?_
  · subst hJ
    have hm := he e (List.mem_of_getElem? hi)
    dsimp only [List.cons_append, List.nil_append]
    tb_start
    have i0 := item_at (nextW v e) 0 e.1 rfl
    have i1 := item_last ([e.1] ++ opC v.p0 ++ [v.lk]) e.2
    refine ⟨NoPyItem.str, JGi.str (by decide) i0.2 ?_⟩
    rw [show Txt.item (stS (nextW v e)) 0 = chS e.1 from i0.1]
    tb_start
    refine ⟨NoPyItem.str, JGi.str (by decide) i1.2 ?_⟩
    rw [show Txt.item (stS (nextW v e)) (-1) = chS e.2 from i1.1]
    tb_start
    have ok1 : okTxt (chS e.1) := ok_txt (l := [e.1]) (by simp) (by have := hm.1.1; unfold isLet at this; simp at this ⊢; lia)
    have ok2 : okTxt (chS e.2) := ok_txt (l := [e.2]) (by simp) (by have := hm.1.2; unfold isLet at this; simp at this ⊢; lia)
    refine JCc.call (c_addh W (l := lt) (items := itemsA (v.ends.take i)) (by (lcg_off)) (by (tlg_ne)) (items_ok (fun q hq => (he q (List.mem_of_mem_take hq)).2.1) (by rw [List.length_take]; lia)) ok1 ok2 (by show 1 < 16777000; lia) ?_)
    have ets : itemsA (v.ends.take i) ++ [(chS e.1, chS e.2)] = itemsA (v.ends.take (i + 1)) := by
      rw [List.take_add_one, hi]; simp [itemsA]
    rw [ets]
    exact ⟨rfl, some (V.str (stS (nextW v e))), _, rfl, rfl⟩
  subst hJ
  rw [filterMap_some', List.take_length]
  refine JI.lst fun it => ?_
  refine CompIn.lst v.ends (fun _ => V.none) (fun _ => none) (by lia) (fun C acc env' E' i e t ys hi => ?_) ?_
  · dsimp only [List.cons_append, List.nil_append]
    tb_start
    first | exact ctEnd (τ := Option V) (t := some V.none) | exact ⟨rfl, some V.none, rfl⟩
  have e0 : (v.ends.filterMap fun _ => (none : Option V)) = [] := by simp
  rw [e0]
  refine nsEnd (by (tlg_ne)) (by (ktu_offL)) ?_
  tb_start
  refine J1.comp (own' := fun C => [("name", C + 1)]) (out' := lawOwn cs ce pl ma lo wi dr en le ne ta fo nu) (fun C (t : Option V) => [(C, .ns [(".0", none)]), (C + 1, .cell t)]) none E (⟨⟨by kernel_rfl, by decide +kernel, by kernel_rfl⟩, by rfl, fun C => by kernel_rfl, fun C => by kernel_rfl, fun C t => ⟨_, _, .head⟩⟩) (by kernel_rfl) (by kernel_rfl) ?_
  tb_start
  refine JI.str (by decide +kernel) fun it => ?_
  have ecs : ("abcd" : Str).cps.toList = [97, 98, 99, 100] := by decide +kernel
  refine CompIn.str (x := "abcd") (fun c => some (V.lst ((outsC v.ends c).map fun c => V.str (chS c)))) (by decide +kernel) (fun C acc env' E' i c t ys hi => ?_) ?_
  · rw [ecs] at hi
    have hc : c < 128 ∧ lowC c = c := by
      have := List.mem_of_getElem? hi
      simp at this
      rcases this with rfl | rfl | rfl | rfl <;> decide
    dsimp only [List.cons_append, List.nil_append]
    tb_start
    refine JE.comp (own' := fun _ => []) (out' := ("name", C + 1) :: lawOwn cs ce pl ma lo wi dr en le ne ta fo nu) (fun C (t : Option V × Option V) => [(C, .ns [(".0", none), ("one", t.1), ("two", t.2)])]) (none, none) E' (⟨⟨by kernel_rfl, by decide +kernel, by kernel_rfl⟩, by rfl, fun C => by kernel_rfl, fun C => by kernel_rfl, fun C t => ⟨_, _, .head⟩⟩) ?_
    tb_start
    refine JI.lst fun it2 => ?_
    refine CompIn.lst v.ends endV (fun e => if lowC e.1 == lowC c then some (V.str (chS e.2)) else none) (by lia) (fun C2 acc2 env2 E2 j e t2 ys2 hj => ?_) ?_
    · have hm := he e (List.mem_of_getElem? hj)
      dsimp only [List.cons_append, List.nil_append]
      tb_start
      refine JC.lower (by rw [low_ch hm.2.1]; show 1 ≤ 16777216; lia) ?_
      rw [low_ch hm.2.1]
      tb_start
      rw [show (chS (lowC e.1) == (⟨#[c]⟩ : Str)) = (lowC e.1 == lowC c) by rw [chS_beq', hc.2]]
      cases q : (lowC e.1 == lowC c) with
      | true =>
        refine iteT ?_
        tb_start
        first | exact ctEnd (τ := Option V × Option V) (t := (some (.str (chS e.1)), some (.str (chS e.2)))) | exact ⟨rfl, (some (.str (chS e.1)), some (.str (chS e.2))), rfl⟩
      | false => exact iteF ⟨rfl, (some (.str (chS e.1)), some (.str (chS e.2))), rfl⟩
    rw [filterMap_if]
    have eo : ((v.ends.filter fun e => lowC e.1 == lowC c).map fun e => V.str (chS e.2)) = (outsC v.ends c).map fun c => V.str (chS c) := by
      unfold outsC; rw [List.map_map]; rfl
    rw [eo]
    first | exact ctEnd (τ := Option V) (t := some (.str (chS c))) | exact ⟨rfl, some (.str (chS c)), rfl⟩
  rw [ecs, filterMap_some']
  refine nsEnd (by (tlg_ne)) (by (ktu_offL)) ?_
  tb_start
  refine JE.list ?_
  tb_start
  refine ⟨by show 0 ≤ 16777216; lia, ?_⟩
  refine JCmp.neSame (d := 1) (xs := []) (.lst _) (.lst _) rfl (by decide) ?_
  tb_start
  refine JE.comp (own' := fun _ => []) (out' := lawOwn cs ce pl ma lo wi dr en le ne ta fo nu) (fun C (t : Option V) => [(C, .ns [(".0", none), ("name", t)])]) none E (⟨⟨by kernel_rfl, by decide +kernel, by kernel_rfl⟩, by rfl, fun C => by kernel_rfl, fun C => by kernel_rfl, fun C t => ⟨_, _, .head⟩⟩) ?_
  tb_start
  refine JI.str (by decide +kernel) fun it => ?_
  have ecs2 : ("ABCD" : Str).cps.toList = [65, 66, 67, 68] := by decide +kernel
  refine CompIn.str (x := "ABCD") (fun c => some (V.lst ((outsC v.ends (c + 32)).map fun c => V.str (chS c)))) (by decide +kernel) (fun C acc env' E' i c t ys hi => ?_) ?_
  · rw [ecs2] at hi
    obtain ⟨x, hx, rfl⟩ : ∃ x, x < 4 ∧ c = 65 + x := by
      have := List.mem_of_getElem? hi
      simp at this
      exact ⟨c - 65, by lia, by lia⟩
    dsimp only [List.cons_append, List.nil_append]
    tb_start
    have hho : (outsC v.ends (97 + x)).length ≤ v.ends.length := by unfold outsC; rw [List.length_map]; exact List.length_filter_le _ _
    refine JCc.call (c_getall W (l := lt) (items := itemsA v.ends) (by (lcg_off)) (by (lcg_off)) (items_ok (fun q hq => (he q hq).2.1) (by lia)) (nm_ok' hx) ?_)
    rw [show getAllF (itemsA v.ends) ⟨#[65 + x]⟩ = _ from getA' v.ends (fun q hq => (he q hq).2.1) hx, List.map_map]
    rw [show 97 + x = 65 + x + 32 by lia]
    first | exact ctEnd (τ := Option V) (t := some (.str (chS (65 + x)))) | exact ⟨rfl, some (.str (chS (65 + x))), rfl⟩
  rw [ecs2, filterMap_some']
  have eh : ([65, 66, 67, 68].map fun c => V.lst ((outsC v.ends (c + 32)).map fun c => V.str (chS c))) = [97, 98, 99, 100].map fun c => V.lst ((outsC v.ends c).map fun c => V.str (chS c)) := rfl
  rw [eh]
  tb_start
  refine JCmp.neSame (d := 1) (.lst _) (.lst _) (all_map _ fun c => all_map _ fun x => rfl) (by decide) ?_
  tb_rel
  tb_rel
  tb_rel
  tb_rel
  tb_rel
  exact h lt dt
end
theorem nearF_len (arr : List (Nat × Nat)) : (nearF arr).length = 4 := by
  unfold nearF
  have : ∀ (l : List Nat) (r : List Nat), (l.foldl midS r).length = r.length := by
    intro l
    induction l with
    | nil => intro r; rfl
    | cons x l ih => intro r; rw [List.foldl_cons, ih, midS_len]
  rw [this, nearA_len]
noncomputable def bitsL (row : Nat) : List Nat := (List.range 4).filter fun y => row.testBit y
noncomputable def LV.seesL (v : LV) : List (List Nat) := (nearF v.arr).map bitsL
structure Seen (v : LV) : Prop where
  b : ∀ x, x < 4 → (bfsF v.ends (97 + x)).length ≤ 4 ∧ (bitsL ((nearF v.arr).getD x 0)).Perm ((bfsF v.ends (97 + x)).map fun t => lowC t - 97)
theorem bits_sorted (row : Nat) : (bitsL row).Pairwise (· ≤ ·) := by
  unfold bitsL
  refine List.Pairwise.sublist List.filter_sublist ?_
  decide
section
variable {B : Base} {n : Nat} {env : Env} {hp hp' : Hp} {Φ : V → Hp → Prop} {Ψ : AF → Hp → Prop} {Υ : Hp → Prop} {K : Frag} {mg mb : Str → Option Value} {L cs ce pl ma lo wi dr en le ne ta fo nu d p dh ph cs' sg : Addr} {fdl : FuncData}
theorem law_f (W : Wd B K mg mb) (E : EnvIs B W.T.GG env L (scopeOf (stm 78)).names (lawOwn cs ce pl ma lo wi dr en le ne ta fo nu) []) {v : LV} (O : LOk v) (S : Seen v) {ln : Nat} {lt dt : Addr}
    (hcl : ∃ q cl pm c ct, fdl = lamFd q cl pm c ct ∧ CloIs cl lamS.names [("signs", cs')])
    (h : JS B (n + 6) env ((lt, .list (tups (itemsA v.ends))) :: (dt, .attrs [("_headers", .mref lt)]) :: lexHp d p dh ph cs' sg fdl ln [] tailL ((L, .ns (lawN2 v (some v.wordsV) (some (.str (stS v.text))) (some v.wordsV) (some v.symV) (some v.symV) (some (.lst [])) (some v.headsV) (some (seesV v.seesL)) none none none none none)) :: lawC2 cs ce pl ma lo wi dr en le ne ta fo nu v (some (.inst 231 d)) (some v.nearV) (some (.inst 175 dt)) none none hp)) ((bodyOf (stm 78)).drop 22) Ψ) :
    JS B (n + 6) env ((lt, .list (tups (itemsA v.ends))) :: (dt, .attrs [("_headers", .mref lt)]) :: lexHp d p dh ph cs' sg fdl ln [] tailL ((L, .ns (lawN2 v (some v.wordsV) (some (.str (stS v.text))) (some v.wordsV) (some v.symV) (some v.symV) (some (.lst [])) (some v.headsV) none none none none none none)) :: lawC2 cs ce pl ma lo wi dr en le ne ta fo nu v (some (.inst 231 d)) (some v.nearV) (some (.inst 175 dt)) none none hp)) ((bodyOf (stm 78)).drop 20) Ψ := by
  have hel : v.ends.length = 5 := ends_len O.i.a5 O.i.y6
  have he : ∀ e ∈ v.ends, (isLet e.1 = true ∧ isLet e.2 = true) ∧ e.1 < 128 ∧ e.2 < 128 := ends_ok (way := v.way) O.i.a4
  have hnl : (nearF v.arr).length = 4 := nearF_len _
  conv in (List.drop 20 _) => whnf
  tb_start
  refine J1.comp (own' := fun _ => []) (out' := lawOwn cs ce pl ma lo wi dr en le ne ta fo nu) (fun C (t : Option V) => [(C, .ns [(".0", none), ("name", t)])]) none E (⟨⟨by kernel_rfl, by decide +kernel, by kernel_rfl⟩, by rfl, fun C => by kernel_rfl, fun C => by kernel_rfl, fun C t => ⟨_, _, .head⟩⟩) (by kernel_rfl) (by kernel_rfl) ?_
  tb_start
  refine JI.str (by decide +kernel) fun it => ?_
  have ecs : ("abcd" : Str).cps.toList = [97, 98, 99, 100] := by decide +kernel
  refine CompIn.str (x := "abcd") (fun c => some (V.lst ((bitsL ((nearF v.arr).getD (c - 97) 0)).map natV))) (by decide +kernel) (fun C acc env' E' i c t ys hi => ?_) ?_
  · rw [ecs] at hi
    obtain ⟨x, hx, rfl⟩ : ∃ x, x < 4 ∧ c = 97 + x := by
      have := List.mem_of_getElem? hi
      simp at this
      exact ⟨c - 97, by lia, by lia⟩
    obtain ⟨b1, b2⟩ := S.b x hx
    dsimp only [List.cons_append, List.nil_append]
    tb_start
    refine JCc.call (c_seen W (H := fun ln pb r => _ :: _ :: _ :: (lt, .list (tups (itemsA v.ends))) :: (dt, .attrs [("_headers", .mref lt)]) :: lexHp d p dh ph cs' sg fdl ln pb r _) ((((((lexHpAt hcl _).cons _).cons _).cons _).cons _).cons _) (dt := dt) (lt := lt) (arr := v.ends) (fun ln pb r => ⟨by (lcg_off), by (lcg_off)⟩) (fun q hq => (he q hq).1) (by lia) (nm := 97 + x) (by lia) b1 b2 (bits_sorted _) ?_)
    rw [show 97 + x - 97 = x by lia]
    first | exact ctEnd (τ := Option V) (t := some (.str (chS (97 + x)))) | exact ⟨rfl, some (.str (chS (97 + x))), rfl⟩
  rw [ecs, filterMap_some']
  have es : ([97, 98, 99, 100].map fun c => V.lst ((bitsL ((nearF v.arr).getD (c - 97) 0)).map natV)) = v.seesL.map fun s => V.lst (s.map natV) := by
    have hn := hnl
    unfold LV.seesL
    rw [List.map_map]
    generalize nearF v.arr = nr at hn
    match nr, hn with
    | [a, b, c, d], _ => rfl
  rw [es]
  refine nsEnd (by (tlg_ne)) (by (ktu_offL)) ?_
  tb_start
  refine JE.comp (own' := fun C => [("row", C + 1)]) (out' := lawOwn cs ce pl ma lo wi dr en le ne ta fo nu) (fun C (t : Option V) => [(C, .ns [(".0", none)]), (C + 1, .cell t)]) none E (⟨⟨by kernel_rfl, by decide +kernel, by kernel_rfl⟩, by rfl, fun C => by kernel_rfl, fun C => by kernel_rfl, fun C t => ⟨_, _, .head⟩⟩) ?_
  tb_start
  refine JI.lst fun it => ?_
  refine CompIn.lst (nearF v.arr) natV (fun row => some (V.lst ((bitsL row).map natV))) (by lia) (fun C acc env' E' i row t ys hi => ?_) ?_
  · dsimp only [List.cons_append, List.nil_append]
    tb_start
    refine JE.comp (own' := fun _ => []) (out' := ("row", C + 1) :: lawOwn cs ce pl ma lo wi dr en le ne ta fo nu) (fun C (t : Option V) => [(C, .ns [(".0", none), ("y", t)])]) none E' (⟨⟨by kernel_rfl, by decide +kernel, by kernel_rfl⟩, by rfl, fun C => by kernel_rfl, fun C => by kernel_rfl, fun C t => ⟨_, _, .head⟩⟩) ?_
    tb_start
    refine JC.range1 ?_
    tb_start
    refine JI.rngN (k := 4) (by lia) fun it => ?_
    refine CompIn.rng0 (k := 4) (fun y => if row.testBit y then some (natV y) else none) (by lia) (fun C acc env' e E' k t ys hk => ?_) ?_
    · dsimp only [List.cons_append, List.nil_append]
      tb_start
      rw [bit_test]
      cases q : row.testBit k with
      | true =>
        refine iteT ?_
        tb_start
        first | exact ctEnd (τ := Option V) (t := some (natV k)) | exact ⟨rfl, some (natV k), rfl⟩
      | false => exact iteF ⟨rfl, some (natV k), rfl⟩
    rw [filterMap_if]
    first | exact ctEnd (τ := Option V) (t := some (natV row)) | exact ⟨rfl, some (natV row), rfl⟩
  rw [filterMap_some']
  have es2 : ((nearF v.arr).map fun row => V.lst ((bitsL row).map natV)) = v.seesL.map fun s => V.lst (s.map natV) := by
    unfold LV.seesL
    rw [List.map_map]; rfl
  rw [es2]
  refine JCmp.neSame (d := 1) (.lst _) (.lst _) (all_map _ fun c => all_map _ fun x => rfl) (by decide) ?_
  tb_rel
  tb_rel
  tb_rel
  exact h
end
noncomputable abbrev tabsH (q1 q2 : QT2) : Hp := [(181, .tab q1), (188, .tab q2), (261, .tab (some lexQ))]
structure Deeds (v : LV) (st : DSt) : Prop where
  run : drun v.seesL 14 = some st
  l14 : st.1.length ≤ 14
  l14' : st.2.length ≤ 28
  ok : ∀ e ∈ st.1, FOk e ∧ e.word.length ≤ 14
noncomputable abbrev LV.itemsV (v : LV) (st : DSt) : V := .lst (tups (itemsD v.wd (opC v.p1) (opC v.p2) st.1))
noncomputable abbrev LV.foundL (v : LV) (st : DSt) : List V := st.1.map (fV v.wd (opC v.p1) (opC v.p2))
noncomputable abbrev LV.toldL (v : LV) (st : DSt) : List V := st.2.map (tV v.wd (opC v.p1) (opC v.p2))
noncomputable def LV.rowsV (v : LV) : V := .lst ((dueF (nearF v.arr)).map rowV)
noncomputable def LV.numsV (v : LV) (st : DSt) : V := .lst (st.1.map fun e => natV (num v.wd e.rows))
noncomputable def LV.imgsV (v : LV) : V := .lst ((dueF (nearF v.arr)).map fun r => natV (imgF (nearF v.arr) r v.dw))
theorem due_small (near : List Nat) : (dueF near).length ≤ 15 ∧ ∀ r ∈ dueF near, r.length ≤ 8 := by
  have hr : rowsL.length = 15 ∧ ∀ r ∈ rowsL, r.length ≤ 8 := by decide
  unfold dueF
  split
  · exact ⟨by rw [List.length_take]; lia, fun r h => hr.2 r (List.mem_of_mem_take h)⟩
  · have hc : countF near ≤ 14 := by unfold countF; split; lia; split; lia; split <;> lia
    refine ⟨by rw [List.length_append, List.length_take, List.length_singleton]; lia, fun r h => ?_⟩
    rcases List.mem_append.mp h with h | h
    · exact hr.2 r (List.mem_of_mem_take h)
    · rw [List.mem_singleton] at h
      subst h
      rw [List.getD_eq_getElem?_getD, List.getElem?_eq_getElem (by lia)]
      exact hr.2 _ (List.getElem_mem _)
theorem bits_ok (row : Nat) : (bitsL row).length ≤ 4 ∧ ∀ y ∈ bitsL row, y < 4 := by
  unfold bitsL
  exact ⟨Nat.le_trans (List.length_filter_le _ _) (by simp), fun y h => by have := List.mem_filter.mp h; simpa using this.1⟩
section
variable {B : Base} {n : Nat} {env : Env} {hp hp' : Hp} {Φ : V → Hp → Prop} {Ψ : AF → Hp → Prop} {Υ : Hp → Prop} {K : Frag} {mg mb : Str → Option Value} {L cs ce pl ma lo wi dr en le ne ta fo nu d p dh ph cs' sg : Addr} {fdl : FuncData}
theorem lawDeed (hcl : ∃ q cl pm c ct, fdl = lamFd q cl pm c ct ∧ CloIs cl lamS.names [("signs", cs')]) (ns : AObj) (v : LV) (v9 v10 v11 v12 v13 : Option V) :
    DeedAt (fun q1 q2 ln pb r => lexHp d p dh ph cs' sg fdl ln pb r ((L, ns) :: lawC2 cs ce pl ma lo wi dr en le ne ta fo nu v v9 v10 v11 v12 v13 (tabsH q1 q2))) d p dh cs' sg fdl where
  lex := fun q1 q2 => lexHpAt hcl _
  u1 := fun q1 q2 ln pb r => by (tlg_ne)
  u2 := fun q1 q2 ln pb r => by (tlg_ne)
theorem law_g (W : Wd B K mg mb) (E : EnvIs B W.T.GG env L (scopeOf (stm 78)).names (lawOwn cs ce pl ma lo wi dr en le ne ta fo nu) []) {v : LV} (O : LOk v) {st : DSt} (D : Deeds v st) {ln : Nat} {lt dt : Addr}
    (hcl : ∃ q cl pm c ct, fdl = lamFd q cl pm c ct ∧ CloIs cl lamS.names [("signs", cs')])
    (h : ∀ fnd tld q1, JS B (n + 7) env ((tld, .list (v.toldL st)) :: (fnd, .list (v.foundL st)) :: (lt, .list (tups (itemsA v.ends))) :: (dt, .attrs [("_headers", .mref lt)]) :: lexHp d p dh ph cs' sg fdl ln [] tailL ((L, .ns (lawN2 v (some v.wordsV) (some (.str (stS v.text))) (some v.wordsV) (some v.symV) (some v.symV) (some (.lst [])) (some v.headsV) (some (seesV v.seesL)) (some (v.itemsV st)) (some (.mref tld)) (some v.rowsV) (some (natV ln)) (some v.imgsV))) :: lawC2 cs ce pl ma lo wi dr en le ne ta fo nu v (some (.inst 231 d)) (some v.nearV) (some (.inst 175 dt)) (some (.mref fnd)) (some (v.numsV st)) (tabsH q1 (some tabD)))) ((bodyOf (stm 78)).drop 25) Ψ) :
    JS B (n + 7) env ((lt, .list (tups (itemsA v.ends))) :: (dt, .attrs [("_headers", .mref lt)]) :: lexHp d p dh ph cs' sg fdl ln [] tailL ((L, .ns (lawN2 v (some v.wordsV) (some (.str (stS v.text))) (some v.wordsV) (some v.symV) (some v.symV) (some (.lst [])) (some v.headsV) (some (seesV v.seesL)) none none none none none)) :: lawC2 cs ce pl ma lo wi dr en le ne ta fo nu v (some (.inst 231 d)) (some v.nearV) (some (.inst 175 dt)) none none (tabsH none none))) ((bodyOf (stm 78)).drop 22) Ψ := by
  have hnl : (nearF v.arr).length = 4 := nearF_len _
  have o1 := opC_ok v.p1 O.h1
  have o2 := opC_ok v.p2 O.h2
  have DK : DOk v.wd (opC v.p1) (opC v.p2) := ⟨O.i.w0, by have := O.i.w1; lia, o1.1, o2.1, o1.2.1, o2.2.1, fun q => O.ne (opC_inj _ O.h1 _ O.h2 q)⟩
  conv in (List.drop 22 _) => whnf
  tb_start
  refine ⟨NoPyItem.lst, JGi.lstSl (.lst _) (by decide) (by rw [List.length_map]; show 3 ≤ _; lia) ?_⟩
  rw [show vpick ([v.p0, v.p1, v.p2].map fun p => V.str (stS (opC p))) (some 1) none none = [.str (stS (opC v.p1)), .str (stS (opC v.p2))] from vpick_from _ 1]
  tb_start
  refine JCc.call (c_deeds W (G := fun q1 q2 ln pb r => (lt, .list (tups (itemsA v.ends))) :: (dt, .attrs [("_headers", .mref lt)]) :: lexHp d p dh ph cs' sg fdl ln pb r ((L, _) :: lawC2 cs ce pl ma lo wi dr en le ne ta fo nu v _ _ _ _ _ (tabsH q1 q2))) (((lawDeed hcl _ v _ _ _ _ _).cons _).cons _) DK (by show (List.map _ _).length = 4; rw [List.length_map, hnl]) ?_ D.run D.l14 fun fnd tld q1 => ?_)
  · intro s hs
    obtain ⟨row, _, rfl⟩ := List.mem_map.mp hs
    exact bits_ok row
  tb_start
  refine J1.assign ?_ (by rfl) (swapped_none (x := "numbers") (c := nu) E (by (lcg_off)) (by (lcg_off))) (by rfl)
  tb_start
  refine JCc.call (c_due W hnl ?_)
  tb_start
  refine JE.comp (own' := fun _ => []) (out' := lawOwn cs ce pl ma lo wi dr en le ne ta fo nu) (fun C (t : Option V × Option V × Option V) => [(C, .ns [(".0", none), ("name", t.1), ("word", t.2.1), ("number", t.2.2)])]) (none, none, none) E (⟨⟨by kernel_rfl, by decide +kernel, by kernel_rfl⟩, by rfl, fun C => by kernel_rfl, fun C => by kernel_rfl, fun C t => ⟨_, _, .head⟩⟩) ?_
  tb_start
  refine JI.compOf st.1 (fV v.wd (opC v.p1) (opC v.p2)) (fun e => some (natV (num v.wd e.rows))) (.mref (by (lcg_off))) (by have := D.l14; lia) (fun C acc env' e E' i q t ys hi => ?_) ?_
  · dsimp only [List.cons_append, List.nil_append]
    unfold fV
    tb_start
    first | exact ctEnd (τ := Option V × Option V × Option V) (t := (some (.str (stS (nmS v.wd q.par q.rows))), some (.str (stS (wS (opC v.p1) (opC v.p2) q.word))), some (natV (num v.wd q.rows)))) | exact ⟨rfl, (some (.str (stS (nmS v.wd q.par q.rows))), some (.str (stS (wS (opC v.p1) (opC v.p2) q.word))), some (natV (num v.wd q.rows))), rfl⟩
  rw [filterMap_some']
  tb_start
  refine ⟨by show 3 ≤ 16777216; lia, ?_⟩
  tb_start
  refine J1.comp (own' := fun _ => []) (out' := lawOwn cs ce pl ma lo wi dr en le ne ta fo nu) (fun C (t : Option V) => [(C, .ns [(".0", none), ("row", t)])]) none E (⟨⟨by kernel_rfl, by decide +kernel, by kernel_rfl⟩, by rfl, fun C => by kernel_rfl, fun C => by kernel_rfl, fun C t => ⟨_, _, .head⟩⟩) (by kernel_rfl) (by kernel_rfl) ?_
  tb_start
  have hds := due_small (nearF v.arr)
  refine JI.lst fun it => ?_
  refine CompIn.lst (dueF (nearF v.arr)) rowV (fun r => some (natV (imgF (nearF v.arr) r v.dw))) (by lia) (fun C acc env' E' i r t ys hi => ?_) ?_
  · have hr := hds.2 r (List.mem_of_getElem? hi)
    dsimp only [List.cons_append, List.nil_append]
    tb_start
    refine JCc.call (c_image W hnl (by have := O.i.dw; lia) (by lia) ?_)
    first | exact ctEnd (τ := Option V) (t := some (rowV r)) | exact ⟨rfl, some (rowV r), rfl⟩
  rw [filterMap_some']
  refine nsEnd (by (tlg_ne)) (by (ktu_offL)) ?_
  exact h fnd tld q1
end
structure FinN (near : List Nat) (st : DSt) : Prop where
  words : st.1.map (·.word) = dueF near
  head : ∃ tl, st.1 = ⟨110, [], rows0⟩ :: tl
  told : ∀ q ∈ st.2, ∃ (k : Nat) (e : Fnd), st.1[k]? = some e ∧ e.rows = q.1 ∧ e.word = q.2
  nodup : (st.1.map (·.rows)).Nodup
  bits : ∀ e ∈ st.1, ∀ x, x < 4 → ∀ s, s < 16 → (e.rows.getD x 0).testBit s = (imgF near e.word s).testBit x
theorem noPy2 {a : Int} {b : Nat} (hb : b < 2 ^ 1000) : Builtin.divisionGoesByPylong a (b : Int) = false := by
  unfold Builtin.divisionGoesByPylong
  have : (if ((b : Int) == 0) = true then 0 else (b : Int).natAbs.log2 / 30 + 1) ≤ 300 := by
    split
    · lia
    · rename_i q
      have h0 : b ≠ 0 := by intro e; subst e; simp at q
      have := (Nat.log2_lt h0).mpr hb
      rw [Int.natAbs_natCast]; lia
  rw [Bool.and_eq_false_iff]
  left
  rw [decide_eq_false_iff_not]
  exact Nat.not_lt.mpr this
theorem up_digit : ∀ c, 48 ≤ c → c < 58 → upC c = c := by
  intro c h1 h2
  have : ∀ c, c < 58 → 48 ≤ c → upC c = c := by decide
  exact this c h2 h1
theorem up_nm {w : Nat} {rs : List Nat} : Txt.upper (stS (nmS w 110 rs)) = stS (nmS w 78 rs) := by
  rw [upper_ascii _ fun c hc => by have := nmS_asc (w := w) (rs := rs) (.inl rfl) c hc; lia]
  unfold nmS
  rw [List.map_cons, List.map_congr_left (g := id) fun c hc => by have := digS_dig hc; exact up_digit c this.1 (by lia), List.map_id]
  rfl
theorem valD_bit {w : Nat} : ∀ {ds : List Nat} {x s : Nat}, (∀ d ∈ ds, d < 2 ^ w) → s < w → (valD w ds).testBit (w * x + s) = (ds.getD x 0).testBit s
  | [], x, s, _, _ => by simp [valD]
  | d :: ds, 0, s, h, hs => by
    have := Nat.testBit_two_pow_mul_add (valD w ds) (h d (.head _)) s
    rw [if_pos hs] at this
    rw [Nat.mul_zero, Nat.zero_add, List.getD_cons_zero, ← this]
    congr 1
    exact Nat.add_comm _ _
  | d :: ds, x + 1, s, h, hs => by
    have := Nat.testBit_two_pow_mul_add (valD w ds) (h d (.head _)) (w * (x + 1) + s)
    rw [if_neg (by rw [Nat.mul_succ]; lia), show w * (x + 1) + s - w = w * x + s by rw [Nat.mul_succ]; lia] at this
    rw [List.getD_cons_succ, ← valD_bit (fun y hy => h y (.tail _ hy)) hs, ← this]
    congr 1
    exact Nat.add_comm _ _
theorem num_bit {w x s : Nat} {rs : List Nat} (hw : 16 ≤ w) (hr : rs.length = 4) (hl : ∀ r ∈ rs, r ≤ 65535) (hx : x < 4) (hs : s < 16) : num w rs / 2 ^ (w * x + s) % 2 = ((rs.getD x 0).testBit s).toNat := by
  rw [← Nat.toNat_testBit]
  unfold num
  rw [valD_bit (full5_lt hw hl) (by lia)]
  unfold full5
  rw [List.getD_eq_getElem?_getD, List.getElem?_append_left (by lia), ← List.getD_eq_getElem?_getD]
theorem found_at {w : Nat} (hw : 16 ≤ w) {st : DSt} (ok : ∀ e ∈ st.1, FOk e ∧ e.word.length ≤ 14) (nd : (st.1.map (·.rows)).Nodup) {k : Nat} {e : Fnd} (he : st.1[k]? = some e) :
    (st.1.map fun e => ((num w e.rows : Nat) : Int)).idxOf ((num w e.rows : Nat) : Int) = k ∧ ((num w e.rows : Nat) : Int) ∈ st.1.map fun e => ((num w e.rows : Nat) : Int) := by
  obtain ⟨hk, hke⟩ := List.getElem?_eq_some_iff.mp he
  have hm : ((num w e.rows : Nat) : Int) ∈ st.1.map fun e => ((num w e.rows : Nat) : Int) := List.mem_map.mpr ⟨e, hke ▸ List.getElem_mem hk, rfl⟩
  refine ⟨?_, hm⟩
  have hj := List.idxOf_lt_length_iff.mpr hm
  have hg := List.getElem_idxOf hj
  generalize (st.1.map fun e => ((num w e.rows : Nat) : Int)).idxOf ((num w e.rows : Nat) : Int) = j at hj hg
  rw [List.length_map] at hj
  rw [List.getElem_map] at hg
  have h1 := ok _ (List.getElem_mem hj)
  have h2 := ok e (hke ▸ List.getElem_mem hk)
  have hr := num_inj hw h1.1.len h2.1.len h1.1.le h2.1.le (by exact_mod_cast hg)
  have : (st.1.map (·.rows))[j]'(by rw [List.length_map]; exact hj) = (st.1.map (·.rows))[k]'(by rw [List.length_map]; exact hk) := by
    rw [List.getElem_map, List.getElem_map, hke]; exact hr
  rcases Nat.lt_trichotomy j k with q | q | q
  · exact absurd this (List.pairwise_iff_getElem.mp nd j k _ _ q)
  · exact q
  · exact absurd this.symm (List.pairwise_iff_getElem.mp nd k j _ _ q)
theorem is_notF (b : Bool) : (!(Value.bool b == Value.bool false)) = b := by cases b <;> rfl
theorem first_only {w : Nat} (hw : 16 ≤ w) {e0 : Fnd} : ∀ {tl : List Fnd}, (∀ e ∈ e0 :: tl, FOk e) → (∀ e ∈ tl, e.rows ≠ e0.rows) → ((e0 :: tl).filter fun e => (((num w e0.rows : Nat) : Int) - ((num w e.rows : Nat) : Int) == 0)) = [e0] := by
  intro tl ok nd
  rw [List.filter_cons_of_pos (by simp), List.filter_eq_nil_iff.mpr]
  intro e he q
  have h1 := ok e (.tail _ he)
  have h0 := ok e0 (.head _)
  rw [beq_iff_eq] at q
  exact nd e he (num_inj hw h1.len h0.len h1.le h0.le (by lia))
section
variable {B : Base} {n : Nat} {env : Env} {hp hp' : Hp} {Φ : V → Hp → Prop} {Ψ : AF → Hp → Prop} {Υ : Hp → Prop} {K : Frag} {mg mb : Str → Option Value} {L cs ce pl ma lo wi dr en le ne ta fo nu d p dh ph cs' sg : Addr} {fdl : FuncData}
set_option maxHeartbeats 1000000 in
theorem law_h (W : Wd B K mg mb) (E : EnvIs B W.T.GG env L (scopeOf (stm 78)).names (lawOwn cs ce pl ma lo wi dr en le ne ta fo nu) []) {v : LV} (O : LOk v) {st : DSt} (D : Deeds v st) (F : FinN (nearF v.arr) st) {ln : Nat} {lt dt fnd tld : Addr} {q1 : QT2}
    (hcl : ∃ q cl pm c ct, fdl = lamFd q cl pm c ct ∧ CloIs cl lamS.names [("signs", cs')])
    (hln : ln + nls tailL = 1 + nls (v.text ++ tailL))
    (h : ∀ hp'', (∃ q1 q2, (tabsH q1 q2).Sublist hp'') → Ψ (.ret (.bool true)) hp'') :
    JS B (n + 7) env ((tld, .list (v.toldL st)) :: (fnd, .list (v.foundL st)) :: (lt, .list (tups (itemsA v.ends))) :: (dt, .attrs [("_headers", .mref lt)]) :: lexHp d p dh ph cs' sg fdl ln [] tailL ((L, .ns (lawN2 v (some v.wordsV) (some (.str (stS v.text))) (some v.wordsV) (some v.symV) (some v.symV) (some (.lst [])) (some v.headsV) (some (seesV v.seesL)) (some (v.itemsV st)) (some (.mref tld)) (some v.rowsV) (some (natV ln)) (some v.imgsV))) :: lawC2 cs ce pl ma lo wi dr en le ne ta fo nu v (some (.inst 231 d)) (some v.nearV) (some (.inst 175 dt)) (some (.mref fnd)) (some (v.numsV st)) (tabsH q1 (some tabD)))) ((bodyOf (stm 78)).drop 25) Ψ := by
  have hnl : (nearF v.arr).length = 4 := nearF_len _
  have o1 := opC_ok v.p1 O.h1
  have o2 := opC_ok v.p2 O.h2
  have hl14 := D.l14
  have hds := due_small (nearF v.arr)
  conv in (List.drop 25 _) => whnf
  tb_start
  refine JE.and ?_
  tb_start
  refine JE.comp (own' := fun _ => []) (out' := lawOwn cs ce pl ma lo wi dr en le ne ta fo nu) (fun C (t : Option V × Option V × Option V) => [(C, .ns [(".0", none), ("name", t.1), ("word", t.2.1), ("number", t.2.2)])]) (none, none, none) E (⟨⟨by kernel_rfl, by decide +kernel, by kernel_rfl⟩, by rfl, fun C => by kernel_rfl, fun C => by kernel_rfl, fun C t => ⟨_, _, .head⟩⟩) ?_
  tb_start
  refine JI.compOf st.1 (fV v.wd (opC v.p1) (opC v.p2)) (fun e => some (.str (stS (wS (opC v.p1) (opC v.p2) e.word)))) (.mref (by (lcg_off))) (by lia) (fun C acc env' e E' i q t ys hi => ?_) ?_
  · dsimp only [List.cons_append, List.nil_append]
    unfold fV
    tb_start
    first | exact ctEnd (τ := Option V × Option V × Option V) (t := (some (.str (stS (nmS v.wd q.par q.rows))), some (.str (stS (wS (opC v.p1) (opC v.p2) q.word))), some (natV (num v.wd q.rows)))) | exact ⟨rfl, (some (.str (stS (nmS v.wd q.par q.rows))), some (.str (stS (wS (opC v.p1) (opC v.p2) q.word))), some (natV (num v.wd q.rows))), rfl⟩
  rw [filterMap_some']
  tb_start
  refine JE.comp (own' := fun _ => []) (out' := lawOwn cs ce pl ma lo wi dr en le ne ta fo nu) (fun C (t : Option V) => [(C, .ns [(".0", none), ("row", t)])]) none E (⟨⟨by kernel_rfl, by decide +kernel, by kernel_rfl⟩, by rfl, fun C => by kernel_rfl, fun C => by kernel_rfl, fun C t => ⟨_, _, .head⟩⟩) ?_
  tb_start
  refine JI.lst fun it => ?_
  refine CompIn.lst (dueF (nearF v.arr)) rowV (fun r => some (.str (stS (wS (opC v.p1) (opC v.p2) r)))) (by lia) (fun C acc env' E' i r t ys hi => ?_) ?_
  · have hr := hds.2 r (List.mem_of_getElem? hi)
    dsimp only [List.cons_append, List.nil_append]
    tb_start
    refine JE.comp (own' := fun _ => []) (out' := lawOwn cs ce pl ma lo wi dr en le ne ta fo nu) (fun C (t : Option V) => [(C, .ns [(".0", none), ("one", t)])]) none E' (⟨⟨by kernel_rfl, by decide +kernel, by kernel_rfl⟩, by rfl, fun C => by kernel_rfl, fun C => by kernel_rfl, fun C t => ⟨_, _, .head⟩⟩) ?_
    tb_start
    refine JI.lst fun it2 => ?_
    refine CompIn.lst r bitV (fun b => some (.str (stS ((if b then opC v.p2 else opC v.p1) ++ [32])))) (by lia) (fun C2 acc2 env2 E2 j b t2 ys2 hj => ?_) ?_
    · dsimp only [List.cons_append, List.nil_append]
      tb_start
      refine ⟨NoPyItem.lst, JGi.lst (x := .str (stS (if b then opC v.p2 else opC v.p1))) (.lst _) (by cases b <;> decide) (by cases b <;> decide) (by cases b <;> rfl) ?_⟩
      tb_start
      refine JBin.cat (by rw [stS_len]; show _ + 1 ≤ _; split <;> lia) ?_
      rw [app_sp]
      first | exact ctEnd (τ := Option V) (t := some (bitV b)) | exact ⟨rfl, some (bitV b), rfl⟩
    rw [filterMap_some']
    tb_start
    have er : (r.map fun b => V.str (stS ((if b then opC v.p2 else opC v.p1) ++ [32]))) = ((r.map fun b => (if b then opC v.p2 else opC v.p1) ++ [32]).map stS).map V.str := by rw [List.map_map, List.map_map]; rfl
    rw [er]
    refine JC.join (ss := (r.map fun b => (if b then opC v.p2 else opC v.p1) ++ [32]).map stS) (.lst _) ?_ ?_
    · rw [show ("" : Str).length = 0 by decide +kernel, Nat.mul_zero, Nat.add_zero, List.map_map, List.map_map]
      refine Nat.le_trans (sum_le (k := 4) fun b hb => ?_) ?_
      · show (stS _).length ≤ 4
        rw [stS_len, List.length_append, List.length_singleton]; split <;> lia
      · lia
    rw [glued_nil]
    first | exact ctEnd (τ := Option V) (t := some (rowV r)) | exact ⟨rfl, some (rowV r), rfl⟩
  rw [filterMap_some']
  have ew : (st.1.map fun e => V.str (stS (wS (opC v.p1) (opC v.p2) e.word))) = (dueF (nearF v.arr)).map fun r => V.str (stS (wS (opC v.p1) (opC v.p2) r)) := by rw [← F.words, List.map_map]; rfl
  rw [ew]
  tb_start
  refine JCmp.eqSame (d := 1) (.lst _) (.lst _) (all_map _ fun c => rfl) (by decide) ?_
  tb_start
  refine JE.and ?_
  tb_start
  obtain ⟨tl, hst⟩ := F.head
  have hf0 : (v.foundL st)[0]? = some (fV v.wd (opC v.p1) (opC v.p2) ⟨110, [], rows0⟩) := by show (List.map _ _)[0]? = _; rw [hst]; rfl
  have hfk := D.ok
  refine JE.list ?_
  tb_start
  refine ⟨NoPyItem.lstOf (.mref (by (lcg_off))), JGi.lst (x := fV v.wd (opC v.p1) (opC v.p2) ⟨110, [], rows0⟩) (.mref (by (lcg_off))) (by decide) (by decide) hf0 ?_⟩
  unfold fV
  tb_start
  refine ⟨NoPyItem.tup, JGi.tup2 ?_⟩
  tb_start
  refine ⟨NoPyItem.lstOf (.mref (by (lcg_off))), JGi.lst (x := fV v.wd (opC v.p1) (opC v.p2) ⟨110, [], rows0⟩) (.mref (by (lcg_off))) (by decide) (by decide) hf0 ?_⟩
  unfold fV
  tb_start
  have hw0 := O.i.w0
  have hw1 := O.i.w1
  have hnm := nmS_len (w := v.wd) (par := 78) hw0 (by lia) (rs := rows0) rfl (by decide)
  refine JC.upper (by rw [up_nm, stS_len]; lia) ?_
  rw [up_nm]
  tb_start
  refine ⟨NoPyItem.lst, JGi.lst (x := .str (stS (opC v.p2))) (.lst _) (by decide) (by decide) rfl ?_⟩
  tb_start
  refine ⟨by show 2 ≤ 16777216; lia, ?_⟩
  tb_start
  refine ⟨by show 2 ≤ 16777216; lia, ?_⟩
  tb_start
  refine JE.comp (own' := fun _ => []) (out' := lawOwn cs ce pl ma lo wi dr en le ne ta fo nu) (fun C (t : Option V) => [(C, .ns [(".0", none), ("one", t)])]) none E (⟨⟨by kernel_rfl, by decide +kernel, by kernel_rfl⟩, by rfl, fun C => by kernel_rfl, fun C => by kernel_rfl, fun C t => ⟨_, _, .head⟩⟩) ?_
  tb_start
  refine ⟨NoPyItem.lstOf (.mref (by (lcg_off))), JGi.lstSl (.mref (by (lcg_off))) (by decide) (by show (List.map _ _).length ≤ _; rw [List.length_map]; lia) ?_⟩
  rw [show vpick (v.foundL st) (some 1) none none = (v.foundL st).drop 1 from vpick_from _ 1, ← List.map_drop]
  refine JI.lst fun it => ?_
  refine CompIn.lst (st.1.drop 1) (fV v.wd (opC v.p1) (opC v.p2)) (fun e => some (.tup [.str (fItem v.wd (opC v.p1) (opC v.p2) e).1, .str (fItem v.wd (opC v.p1) (opC v.p2) e).2])) (by rw [List.length_drop]; lia) (fun C acc env' E' i e t ys hi => ?_) ?_
  · dsimp only [List.cons_append, List.nil_append]
    tb_start
    refine ⟨NoPyItem.tup, JGi.tup2 ?_⟩
    first | exact ctEnd (τ := Option V) (t := some (fV v.wd (opC v.p1) (opC v.p2) e)) | exact ⟨rfl, some (fV v.wd (opC v.p1) (opC v.p2) e), rfl⟩
  rw [filterMap_some']
  refine JBin.catL (.lst _) (.lst _) (by rw [List.length_map, List.length_drop]; show 2 + _ ≤ _; lia) ?_
  have eit : [V.tup [.str (stS (nmS v.wd 110 rows0)), .str (stS (wS (opC v.p1) (opC v.p2) []))], V.tup [.str (stS (nmS v.wd 78 rows0)), .str (stS (opC v.p2))]] ++ ((st.1.drop 1).map fun e => V.tup [.str (fItem v.wd (opC v.p1) (opC v.p2) e).1, .str (fItem v.wd (opC v.p1) (opC v.p2) e).2]) = tups (itemsD v.wd (opC v.p1) (opC v.p2) st.1) := by
    rw [hst]
    unfold itemsD tups
    rw [List.map_cons, List.map_cons, List.map_map]; rfl
  rw [eit]
  refine JCmp.eqSame (d := 1) (.lst _) (.lst _) (all_map _ fun c => rfl) (by decide) ?_
  tb_start
  refine JE.and ?_
  tb_start
  have hok := D.ok
  have h28 := D.l14'
  have hnu : v.numsV st = V.lst ((st.1.map fun e => ((num v.wd e.rows : Nat) : Int)).map V.int) := by unfold LV.numsV; rw [List.map_map]; rfl
  refine JE.comp (own' := fun _ => []) (out' := lawOwn cs ce pl ma lo wi dr en le ne ta fo nu) (fun C (t : Option V × Option V) => [(C, .ns [(".0", none), ("made", t.1), ("answer", t.2)])]) (none, none) E (⟨⟨by kernel_rfl, by decide +kernel, by kernel_rfl⟩, by rfl, fun C => by kernel_rfl, fun C => by kernel_rfl, fun C t => ⟨_, _, .head⟩⟩) ?_
  tb_start
  refine JI.compOf st.2 (tV v.wd (opC v.p1) (opC v.p2)) (fun q => some (.str (stS (wS (opC v.p1) (opC v.p2) q.2)))) (.mref (by (lcg_off))) (by lia) (fun C acc env' e E' i q t ys hi => ?_) ?_
  · dsimp only [List.cons_append, List.nil_append]
    unfold tV
    tb_start
    first | exact ctEnd (τ := Option V × Option V) (t := (some (natV (num v.wd q.1)), some (.str (stS (wS (opC v.p1) (opC v.p2) q.2))))) | exact ⟨rfl, (some (natV (num v.wd q.1)), some (.str (stS (wS (opC v.p1) (opC v.p2) q.2)))), rfl⟩
  rw [filterMap_some']
  tb_start
  refine JE.comp (own' := fun _ => []) (out' := lawOwn cs ce pl ma lo wi dr en le ne ta fo nu) (fun C (t : Option V × Option V) => [(C, .ns [(".0", none), ("made", t.1), ("answer", t.2)])]) (none, none) E (⟨⟨by kernel_rfl, by decide +kernel, by kernel_rfl⟩, by rfl, fun C => by kernel_rfl, fun C => by kernel_rfl, fun C t => ⟨_, _, .head⟩⟩) ?_
  tb_start
  refine JI.compOf st.2 (tV v.wd (opC v.p1) (opC v.p2)) (fun q => some (.str (stS (wS (opC v.p1) (opC v.p2) q.2)))) (.mref (by (lcg_off))) (by lia) (fun C acc env' e E' i q t ys hi => ?_) ?_
  · obtain ⟨k, e1, hk, hr1, hw1'⟩ := F.told q (List.mem_of_getElem? hi)
    obtain ⟨hx, hm⟩ := found_at (w := v.wd) O.i.w0 hok F.nodup hk
    rw [hr1] at hx hm
    have hkl := (List.getElem?_eq_some_iff.mp hk).1
    dsimp only [List.cons_append, List.nil_append]
    unfold tV
    tb_start
    rw [hnu]
    tb_start
    refine JC.indexL (.lst _) (by rw [List.length_map]; lia) hm ?_
    rw [hx]
    refine ⟨NoPyItem.lstOf (.mref (by (lcg_off))), JGi.lst (x := fV v.wd (opC v.p1) (opC v.p2) e1) (.mref (by (lcg_off))) (by lia) (by lia) (by rw [Int.toNat_natCast]; show (List.map _ _)[k]? = _; rw [List.getElem?_map, hk]; rfl) ?_⟩
    unfold fV
    tb_start
    rw [hw1']
    first | exact ctEnd (τ := Option V × Option V) (t := (some (natV (num v.wd q.1)), some (.str (stS (wS (opC v.p1) (opC v.p2) q.2))))) | exact ⟨rfl, (some (natV (num v.wd q.1)), some (.str (stS (wS (opC v.p1) (opC v.p2) q.2)))), rfl⟩
  rw [filterMap_some']
  refine JCmp.eqSame (d := 1) (.lst _) (.lst _) (all_map _ fun c => rfl) (by decide) ?_
  tb_start
  refine JE.and ?_
  tb_start
  have hmem0 : ∀ e ∈ tl, e.rows ≠ rows0 := by
    have := F.nodup
    rw [hst, List.map_cons, List.nodup_cons] at this
    intro e he q
    exact this.1 (List.mem_map.mpr ⟨e, he, q⟩)
  have hfil := first_only (w := v.wd) O.i.w0 (e0 := ⟨110, [], rows0⟩) (tl := tl) (fun e he => (hok e (hst ▸ he)).1) hmem0
  have hn0 : (v.numsV st) = V.lst (st.1.map fun e => natV (num v.wd e.rows)) := rfl
  refine JE.comp (own' := fun _ => []) (out' := lawOwn cs ce pl ma lo wi dr en le ne ta fo nu) (fun C (t : Option V) => [(C, .ns [(".0", none), ("one", t)])]) none E (⟨⟨by kernel_rfl, by decide +kernel, by kernel_rfl⟩, by rfl, fun C => by kernel_rfl, fun C => by kernel_rfl, fun C t => ⟨_, _, .head⟩⟩) ?_
  tb_start
  refine JI.lst fun it => ?_
  refine CompIn.lst st.1 (fun e => natV (num v.wd e.rows)) (fun e => if (((num v.wd rows0 : Nat) : Int) - ((num v.wd e.rows : Nat) : Int) == 0) then some (natV (num v.wd e.rows)) else none) (by lia) (fun C acc env' E' i e t ys hi => ?_) ?_
  · dsimp only [List.cons_append, List.nil_append]
    tb_start
    refine ⟨NoPyItem.lst, JGi.lst (x := natV (num v.wd rows0)) (.lst _) (by decide) (by decide) (by show (List.map _ _)[0]? = _; rw [hst]; rfl) ?_⟩
    tb_start
    refine JCc.call (c_eof W ?_)
    tb_start
    refine JCmp.isNot rfl rfl rfl ?_
    rw [is_notF]
    tb_start
    cases q : (((num v.wd rows0 : Nat) : Int) - ((num v.wd e.rows : Nat) : Int) == 0) with
    | true =>
      refine iteT ?_
      tb_start
      first | exact ctEnd (τ := Option V) (t := some (natV (num v.wd e.rows))) | exact ⟨rfl, some (natV (num v.wd e.rows)), rfl⟩
    | false => exact iteF ⟨rfl, some (natV (num v.wd e.rows)), rfl⟩
  rw [filterMap_if, hst, hfil]
  tb_start
  refine ⟨NoPyItem.lst, JGi.lstSl (.lst _) (by decide) (by show (List.map _ _).length ≤ _; rw [List.length_map]; lia) ?_⟩
  rw [show vpick (st.1.map fun e => natV (num v.wd e.rows)) none (some 1) none = (st.1.map fun e => natV (num v.wd e.rows)).take 1 from vpick_to _ 1, hst]
  refine JCmp.eqSame (d := 1) (xs := [natV (num v.wd rows0)]) (.lst _) (.lst _) (all_map (f := fun rs => natV (num v.wd rs)) [rows0] fun c => rfl) (by decide) ?_
  tb_start
  refine JE.and ?_
  tb_start
  refine JE.comp (own' := fun C => [("number", C + 1)]) (out' := lawOwn cs ce pl ma lo wi dr en le ne ta fo nu) (fun C (t : Option V) => [(C, .ns [(".0", none)]), (C + 1, .cell t)]) none E (⟨⟨by kernel_rfl, by decide +kernel, by kernel_rfl⟩, by rfl, fun C => by kernel_rfl, fun C => by kernel_rfl, fun C t => ⟨_, _, .head⟩⟩) ?_
  tb_start
  refine JI.lst fun it => ?_
  refine CompIn.lst st.1 (fun e => natV (num v.wd e.rows)) (fun e => some (V.lst ((List.range 4).map fun x => natV (num v.wd e.rows / 2 ^ (v.wd * x + v.dw) % 2)))) (by lia) (fun C acc env' E' i e t ys hi => ?_) ?_
  · dsimp only [List.cons_append, List.nil_append]
    tb_start
    refine JE.comp (own' := fun _ => []) (out' := ("number", C + 1) :: lawOwn cs ce pl ma lo wi dr en le ne ta fo nu) (fun C (t : Option V) => [(C, .ns [(".0", none), ("x", t)])]) none E' (⟨⟨by kernel_rfl, by decide +kernel, by kernel_rfl⟩, by rfl, fun C => by kernel_rfl, fun C => by kernel_rfl, fun C t => ⟨_, _, .head⟩⟩) ?_
    tb_start
    refine JC.range1 ?_
    tb_start
    refine JI.rngN (k := 4) (by lia) fun it => ?_
    refine CompIn.rng0 (k := 4) (fun x => some (natV (num v.wd e.rows / 2 ^ (v.wd * x + v.dw) % 2))) (by lia) (fun C acc env' e1 E' x t ys hx => ?_) ?_
    · have hdw := O.i.dw
      have hm : v.wd * x ≤ 55 * 3 := Nat.mul_le_mul hw1 (by lia)
      have hlt : 2 ^ (v.wd * x + v.dw) < 2 ^ 1000 := Nat.pow_lt_pow_right (by decide) (by lia)
      have hpos : 0 < 2 ^ (v.wd * x + v.dw) := Nat.pow_pos (by decide)
      dsimp only [List.cons_append, List.nil_append]
      tb_start
      refine JBin.mulN (by lia) ?_
      tb_start
      rw [show ((v.wd * x : Nat) : Int) + ((v.dw : Nat) : Int) = ((v.wd * x + v.dw : Nat) : Int) from rfl]
      refine JBin.powN (a := 2) (by decide) (by lia) ?_
      refine JBin.fdiv (by lia) (noPy2 hlt) ?_
      rw [fdiv_nat]
      tb_start
      refine JBin.modN (b := 2) (by decide) ?_
      rw [fmod_nat, Int.toNat_natCast]
      first | exact ctEnd (τ := Option V) (t := some (natV x)) | exact ⟨rfl, some (natV x), rfl⟩
    rw [filterMap_some']
    first | exact ctEnd (τ := Option V) (t := some (natV (num v.wd e.rows))) | exact ⟨rfl, some (natV (num v.wd e.rows)), rfl⟩
  rw [filterMap_some']
  tb_start
  refine JE.comp (own' := fun C => [("image", C + 1)]) (out' := lawOwn cs ce pl ma lo wi dr en le ne ta fo nu) (fun C (t : Option V) => [(C, .ns [(".0", none)]), (C + 1, .cell t)]) none E (⟨⟨by kernel_rfl, by decide +kernel, by kernel_rfl⟩, by rfl, fun C => by kernel_rfl, fun C => by kernel_rfl, fun C t => ⟨_, _, .head⟩⟩) ?_
  tb_start
  refine JI.lst fun it => ?_
  refine CompIn.lst (dueF (nearF v.arr)) (fun r => natV (imgF (nearF v.arr) r v.dw)) (fun r => some (V.lst ((List.range 4).map fun x => natV (imgF (nearF v.arr) r v.dw / 2 ^ x % 2)))) (by lia) (fun C acc env' E' i r t ys hi => ?_) ?_
  · dsimp only [List.cons_append, List.nil_append]
    tb_start
    refine JE.comp (own' := fun _ => []) (out' := ("image", C + 1) :: lawOwn cs ce pl ma lo wi dr en le ne ta fo nu) (fun C (t : Option V) => [(C, .ns [(".0", none), ("x", t)])]) none E' (⟨⟨by kernel_rfl, by decide +kernel, by kernel_rfl⟩, by rfl, fun C => by kernel_rfl, fun C => by kernel_rfl, fun C t => ⟨_, _, .head⟩⟩) ?_
    tb_start
    refine JC.range1 ?_
    tb_start
    refine JI.rngN (k := 4) (by lia) fun it => ?_
    refine CompIn.rng0 (k := 4) (fun x => some (natV (imgF (nearF v.arr) r v.dw / 2 ^ x % 2))) (by lia) (fun C acc env' e1 E' x t ys hx => ?_) ?_
    · have hpos : 0 < 2 ^ x := Nat.pow_pos (by decide)
      have hlt : 2 ^ x < 2 ^ 1000 := Nat.pow_lt_pow_right (by decide) (by lia)
      dsimp only [List.cons_append, List.nil_append]
      tb_start
      refine JBin.powN (a := 2) (by decide) (by lia) ?_
      refine JBin.fdiv (by lia) (noPy2 hlt) ?_
      rw [fdiv_nat]
      tb_start
      refine JBin.modN (b := 2) (by decide) ?_
      rw [fmod_nat, Int.toNat_natCast]
      first | exact ctEnd (τ := Option V) (t := some (natV x)) | exact ⟨rfl, some (natV x), rfl⟩
    rw [filterMap_some']
    first | exact ctEnd (τ := Option V) (t := some (natV (imgF (nearF v.arr) r v.dw))) | exact ⟨rfl, some (natV (imgF (nearF v.arr) r v.dw)), rfl⟩
  rw [filterMap_some']
  have eb : (st.1.map fun e => V.lst ((List.range 4).map fun x => natV (num v.wd e.rows / 2 ^ (v.wd * x + v.dw) % 2))) = (dueF (nearF v.arr)).map fun r => V.lst ((List.range 4).map fun x => natV (imgF (nearF v.arr) r v.dw / 2 ^ x % 2)) := by
    rw [← F.words, List.map_map]
    refine List.map_congr_left fun e he => ?_
    have hke := (hok e he).1
    show V.lst _ = V.lst _
    congr 1
    refine List.map_congr_left fun x hx => ?_
    have hx4 : x < 4 := by simpa using hx
    rw [num_bit O.i.w0 hke.len hke.le hx4 O.i.dw, F.bits e he x hx4 v.dw O.i.dw, Nat.toNat_testBit]
  rw [eb]
  refine JCmp.eqSame (d := 2) (.lst _) (.lst _) (all_map _ fun c => all_map _ fun x => rfl) (by decide) ?_
  tb_start
  refine JE.and ?_
  tb_start
  have hcnt : Txt.count (stS v.text) "\n" = ((nls v.text : Nat) : Int) := by
    rw [show ("\n" : Str) = stS [10] by decide +kernel, count_one, nls_count]
  have hn1 : nls tailL = 1 := by decide
  have hn2 : nls [35] = 0 := by decide
  have hn3 : nls [] = 0 := by decide
  rw [nls_app, hn1] at hln
  refine JE.list ?_
  tb_start
  refine JCc.call (c_tok (n := n + 3) W (((((lexHpAt hcl _).cons _).cons _).cons _).cons _) tail_1 (by decide) fun ln1 hl1 => ?_)
  tb_start
  refine JCc.call (c_tok (n := n + 3) W (((((lexHpAt hcl _).cons _).cons _).cons _).cons _) tail_2 (by decide) fun ln2 hl2 => ?_)
  tb_start
  refine JCc.call (c_tok (n := n + 3) W (((((lexHpAt hcl _).cons _).cons _).cons _).cons _) tail_3 (by decide) fun ln3 hl3 => ?_)
  rw [hn1, hn2] at hl1
  rw [hn2, hn3] at hl2
  tb_start
  refine ⟨by show 4 ≤ 16777216; lia, ?_⟩
  tb_start
  refine JE.list ?_
  tb_start
  refine JC.count ?_
  rw [hcnt]
  tb_start
  refine ⟨by show 4 ≤ 16777216; lia, ?_⟩
  have e6 : [V.int (1 + ((nls v.text : Nat) : Int)), V.str "\"#", V.str "#", V.str ""] = [natV ln, V.str (stS [34, 35]), V.str (stS [35]), V.str (stS [])] := by
    rw [show (1 + ((nls v.text : Nat) : Int)) = ((ln : Nat) : Int) by lia, show ("\"#" : Str) = stS [34, 35] by decide +kernel, show ("#" : Str) = stS [35] by decide +kernel, show ("" : Str) = stS [] by decide +kernel]
  rw [e6]
  refine JCmp.eqSame (d := 1) (xs := [natV ln, V.str (stS [34, 35]), V.str (stS [35]), V.str (stS [])]) (.lst _) (.lst _) (by simp [plainV]) (by decide) ?_
  tb_start
  refine JC.count ?_
  rw [hcnt]
  tb_start
  rw [show (((ln3 : Nat) : Int) == 2 + ((nls v.text : Nat) : Int)) = true by rw [beq_iff_eq]; lia]
  exact h _ ⟨q1, some tabD, by (repeat (first | (with_reducible exact List.Sublist.refl _) | (with_reducible refine List.Sublist.cons_cons _ ?_) | (with_reducible refine List.Sublist.cons _ ?_)))⟩
end
noncomputable def refl4 (t : List Nat) : Bool := t.length == 4 && t.all (fun r => decide (r < 16)) && (List.range 4).all fun x => (t.getD x 0).testBit x
noncomputable def isPre (t : List Nat) : Bool := (List.range 4).all fun x => (List.range 4).all fun y => !(t.getD x 0).testBit y || (t.getD x 0 ||| t.getD y 0) == t.getD x 0
noncomputable def eFold (t : List Nat) : List Nat := (List.range 4).foldl midS t
noncomputable def okF (e : Fnd) : Bool := (e.par == 110 || e.par == 78) && e.rows.length == 4 && e.rows.all (fun r => decide (r ≤ 65535)) && decide (e.word.length ≤ 14)
noncomputable def okHead (l : List Fnd) : Bool := match l with
  | e :: _ => e.par == 110 && e.word == [] && e.rows == rows0
  | [] => false
noncomputable def nodupB : List (List Nat) → Bool
  | [] => true
  | x :: l => l.all (fun y => !(y == x)) && nodupB l
noncomputable def okSt (near : List Nat) (st : DSt) : Bool := decide (st.1.length ≤ 14) && decide (st.2.length ≤ 28) && (st.1.map (·.word)) == dueF near && okHead st.1 && (st.2.all fun q => st.1.any fun e => e.rows == q.1 && e.word == q.2) && nodupB (st.1.map (·.rows)) && st.1.all okF
noncomputable def okNear (near : List Nat) : Bool := match drun (near.map bitsL) 14 with
  | none => false
  | some st => okSt near st
noncomputable def allT (p : List Nat → Bool) : Bool := [1, 3, 5, 7, 9, 11, 13, 15].all fun a => [2, 3, 6, 7, 10, 11, 14, 15].all fun b => [4, 5, 6, 7, 12, 13, 14, 15].all fun c => [8, 9, 10, 11, 12, 13, 14, 15].all fun d => p [a, b, c, d]
theorem allT_of {p : List Nat → Bool} (h : allT p = true) {t : List Nat} (ht : refl4 t = true) : p t = true := by
  unfold refl4 at ht
  simp only [Bool.and_eq_true, beq_iff_eq] at ht
  obtain ⟨⟨hl, h16⟩, hb⟩ := ht
  match t, hl with
  | [a, b, c, d], _ =>
    simp only [List.all_cons, List.all_nil, Bool.and_true, Bool.and_eq_true, decide_eq_true_eq] at h16
    have hb0 := List.all_eq_true.mp hb 0 (by simp)
    have hb1 := List.all_eq_true.mp hb 1 (by simp)
    have hb2 := List.all_eq_true.mp hb 2 (by simp)
    have hb3 := List.all_eq_true.mp hb 3 (by simp)
    have ma : ∀ a, a < 16 → a.testBit 0 = true → a ∈ [1, 3, 5, 7, 9, 11, 13, 15] := by decide
    have mb : ∀ a, a < 16 → a.testBit 1 = true → a ∈ [2, 3, 6, 7, 10, 11, 14, 15] := by decide
    have mc : ∀ a, a < 16 → a.testBit 2 = true → a ∈ [4, 5, 6, 7, 12, 13, 14, 15] := by decide
    have md : ∀ a, a < 16 → a.testBit 3 = true → a ∈ [8, 9, 10, 11, 12, 13, 14, 15] := by decide
    unfold allT at h
    exact List.all_eq_true.mp (List.all_eq_true.mp (List.all_eq_true.mp (List.all_eq_true.mp h a (ma a h16.1 hb0)) b (mb b h16.2.1 hb1)) c (mc c h16.2.2.1 hb2)) d (md d h16.2.2.2 hb3)
noncomputable def tbR (r m : Nat) : Bool := Nat.beq (Nat.land (Nat.shiftRight r m) 1) 1
noncomputable def mdR (r q m : Nat) : Nat := bif tbR r m then Nat.lor r q else r
noncomputable def leR (x y i : Nat) : Bool := bif tbR x i then Nat.beq (Nat.lor x y) x else true
noncomputable def preR (a b c d : Nat) : Bool := leR a b 1 && (leR a c 2 && (leR a d 3 && (leR b a 0 && (leR b c 2 && (leR b d 3 && (leR c a 0 && (leR c b 1 && (leR c d 3 && (leR d a 0 && (leR d b 1 && leR d c 2))))))))))
noncomputable def r3 (a b c d : Nat) : Bool := preR (mdR a d 3) (mdR b d 3) (mdR c d 3) (mdR d d 3)
noncomputable def r2 (a b c d : Nat) : Bool := r3 (mdR a c 2) (mdR b c 2) (mdR c c 2) (mdR d c 2)
noncomputable def r1 (a b c d : Nat) : Bool := r2 (mdR a b 1) (mdR b b 1) (mdR c b 1) (mdR d b 1)
noncomputable def r0 (a b c d : Nat) : Bool := r1 (mdR a a 0) (mdR b a 0) (mdR c a 0) (mdR d a 0)
theorem tbR_eq (r m : Nat) : tbR r m = r.testBit m := by
  unfold tbR Nat.testBit
  show Nat.beq ((r >>> m) &&& 1) 1 = _
  rw [Nat.and_comm]
  have h : 1 &&& (r >>> m) = 0 ∨ 1 &&& (r >>> m) = 1 := by rw [Nat.and_comm, Nat.and_one_is_mod]; lia
  rcases h with h | h <;> rw [h] <;> rfl
theorem leR_eq (x y i : Nat) : leR x y i = (!x.testBit i || (x ||| y) == x) := by
  unfold leR
  rw [tbR_eq]
  cases x.testBit i
  · rfl
  · show Nat.beq (x ||| y) x = _
    rw [Bool.eq_iff_iff, Nat.beq_eq]
    simp
theorem preR_eq (a b c d : Nat) : isPre [a, b, c, d] = preR a b c d := by
  unfold isPre preR
  simp only [leR_eq]
  rw [show List.range 4 = [0, 1, 2, 3] from rfl]
  simp only [List.all_cons, List.all_nil, List.getD_cons_zero, List.getD_cons_succ, Nat.or_self, beq_self_eq_true, Bool.or_true, Bool.true_and, Bool.and_true, Bool.and_assoc]
theorem mdR_eq (r q m : Nat) : mdR r q m = if r.testBit m then r ||| q else r := by
  unfold mdR
  rw [tbR_eq]
  cases r.testBit m <;> rfl
theorem midS_eq (a b c d m : Nat) : midS [a, b, c, d] m = [mdR a ([a, b, c, d].getD m 0) m, mdR b ([a, b, c, d].getD m 0) m, mdR c ([a, b, c, d].getD m 0) m, mdR d ([a, b, c, d].getD m 0) m] := by
  simp only [mdR_eq]; rfl
theorem r0_eq (a b c d : Nat) : isPre (eFold [a, b, c, d]) = r0 a b c d := by
  have e : eFold [a, b, c, d] = midS (midS (midS (midS [a, b, c, d] 0) 1) 2) 3 := rfl
  rw [e, midS_eq, midS_eq, midS_eq, midS_eq, preR_eq]
  rfl
theorem midS_refl {t : List Nat} {m : Nat} (h : refl4 t = true) (hm : m < 4) : refl4 (midS t m) = true := by
  unfold refl4 at h ⊢
  simp only [Bool.and_eq_true, beq_iff_eq] at h ⊢
  obtain ⟨⟨hl, h16⟩, hb⟩ := h
  have h16' : ∀ r ∈ t, r < 2 ^ 4 := fun r hr => by simpa using List.all_eq_true.mp h16 r hr
  have hg : t.getD m 0 < 2 ^ 4 := by rw [List.getD_eq_getElem?_getD, List.getElem?_eq_getElem (by lia)]; exact h16' _ (List.getElem_mem _)
  refine ⟨⟨by rw [midS_len, hl], ?_⟩, ?_⟩
  · rw [List.all_eq_true]
    intro r hr
    obtain ⟨q, hq, rfl⟩ := List.mem_map.mp hr
    rw [decide_eq_true_eq]
    split
    · exact Nat.or_lt_two_pow (h16' q hq) hg
    · exact h16' q hq
  · rw [List.all_eq_true] at hb ⊢
    intro x hx
    have := hb x hx
    have hx4 : x < 4 := by simpa using hx
    unfold midS
    rw [List.getD_eq_getElem?_getD, List.getElem?_map, List.getElem?_eq_getElem (by lia), Option.map_some, Option.getD_some]
    rw [List.getD_eq_getElem?_getD, List.getElem?_eq_getElem (by lia), Option.getD_some] at this
    split
    · rw [Nat.testBit_or, this, Bool.true_or]
    · exact this
theorem eFold_refl {t : List Nat} (h : refl4 t = true) : refl4 (eFold t) = true :=
  midS_refl (midS_refl (midS_refl (midS_refl h (by decide : (0 : Nat) < 4)) (by decide : (1 : Nat) < 4)) (by decide : (2 : Nat) < 4)) (by decide : (3 : Nat) < 4)
noncomputable def pA (t : List Nat) : Bool := match t with
  | [a, b, c, d] => r0 a b c d
  | _ => true
noncomputable def pB (t : List Nat) : Bool := match t with
  | [a, b, c, d] => bif preR a b c d then okNear [a, b, c, d] else true
  | _ => true
theorem cA : allT pA = true := by decide +kernel
noncomputable def allCD (p : List Nat → Bool) (a b : Nat) : Bool := [4, 5, 6, 7, 12, 13, 14, 15].all fun c => [8, 9, 10, 11, 12, 13, 14, 15].all fun d => p [a, b, c, d]
noncomputable def allB (a : Nat) : Bool := [2, 3, 6, 7, 10, 11, 14, 15].all fun b => allCD pB a b
theorem cB1x2 : allCD pB 1 2 = true := by decide +kernel
theorem cB1x3 : allCD pB 1 3 = true := by decide +kernel
theorem cB1x6 : allCD pB 1 6 = true := by decide +kernel
theorem cB1x7 : allCD pB 1 7 = true := by decide +kernel
theorem cB1x10 : allCD pB 1 10 = true := by decide +kernel
theorem cB1x11 : allCD pB 1 11 = true := by decide +kernel
theorem cB1x14 : allCD pB 1 14 = true := by decide +kernel
theorem cB1x15 : allCD pB 1 15 = true := by decide +kernel
theorem cB3x2 : allCD pB 3 2 = true := by decide +kernel
theorem cB3x3 : allCD pB 3 3 = true := by decide +kernel
theorem cB3x6 : allCD pB 3 6 = true := by decide +kernel
theorem cB3x7 : allCD pB 3 7 = true := by decide +kernel
theorem cB3x10 : allCD pB 3 10 = true := by decide +kernel
theorem cB3x11 : allCD pB 3 11 = true := by decide +kernel
theorem cB3x14 : allCD pB 3 14 = true := by decide +kernel
theorem cB3x15 : allCD pB 3 15 = true := by decide +kernel
theorem cB5x2 : allCD pB 5 2 = true := by decide +kernel
theorem cB5x3 : allCD pB 5 3 = true := by decide +kernel
theorem cB5x6 : allCD pB 5 6 = true := by decide +kernel
theorem cB5x7 : allCD pB 5 7 = true := by decide +kernel
theorem cB5x10 : allCD pB 5 10 = true := by decide +kernel
theorem cB5x11 : allCD pB 5 11 = true := by decide +kernel
theorem cB5x14 : allCD pB 5 14 = true := by decide +kernel
theorem cB5x15 : allCD pB 5 15 = true := by decide +kernel
theorem cB7x2 : allCD pB 7 2 = true := by decide +kernel
theorem cB7x3 : allCD pB 7 3 = true := by decide +kernel
theorem cB7x6 : allCD pB 7 6 = true := by decide +kernel
theorem cB7x7 : allCD pB 7 7 = true := by decide +kernel
theorem cB7x10 : allCD pB 7 10 = true := by decide +kernel
theorem cB7x11 : allCD pB 7 11 = true := by decide +kernel
theorem cB7x14 : allCD pB 7 14 = true := by decide +kernel
theorem cB7x15 : allCD pB 7 15 = true := by decide +kernel
theorem cB9x2 : allCD pB 9 2 = true := by decide +kernel
theorem cB9x3 : allCD pB 9 3 = true := by decide +kernel
theorem cB9x6 : allCD pB 9 6 = true := by decide +kernel
theorem cB9x7 : allCD pB 9 7 = true := by decide +kernel
theorem cB9x10 : allCD pB 9 10 = true := by decide +kernel
theorem cB9x11 : allCD pB 9 11 = true := by decide +kernel
theorem cB9x14 : allCD pB 9 14 = true := by decide +kernel
theorem cB9x15 : allCD pB 9 15 = true := by decide +kernel
theorem cB11x2 : allCD pB 11 2 = true := by decide +kernel
theorem cB11x3 : allCD pB 11 3 = true := by decide +kernel
theorem cB11x6 : allCD pB 11 6 = true := by decide +kernel
theorem cB11x7 : allCD pB 11 7 = true := by decide +kernel
theorem cB11x10 : allCD pB 11 10 = true := by decide +kernel
theorem cB11x11 : allCD pB 11 11 = true := by decide +kernel
theorem cB11x14 : allCD pB 11 14 = true := by decide +kernel
theorem cB11x15 : allCD pB 11 15 = true := by decide +kernel
theorem cB13x2 : allCD pB 13 2 = true := by decide +kernel
theorem cB13x3 : allCD pB 13 3 = true := by decide +kernel
theorem cB13x6 : allCD pB 13 6 = true := by decide +kernel
theorem cB13x7 : allCD pB 13 7 = true := by decide +kernel
theorem cB13x10 : allCD pB 13 10 = true := by decide +kernel
theorem cB13x11 : allCD pB 13 11 = true := by decide +kernel
theorem cB13x14 : allCD pB 13 14 = true := by decide +kernel
theorem cB13x15 : allCD pB 13 15 = true := by decide +kernel
theorem cB15x2 : allCD pB 15 2 = true := by decide +kernel
theorem cB15x3 : allCD pB 15 3 = true := by decide +kernel
theorem cB15x6 : allCD pB 15 6 = true := by decide +kernel
theorem cB15x7 : allCD pB 15 7 = true := by decide +kernel
theorem cB15x10 : allCD pB 15 10 = true := by decide +kernel
theorem cB15x11 : allCD pB 15 11 = true := by decide +kernel
theorem cB15x14 : allCD pB 15 14 = true := by decide +kernel
theorem cB15x15 : allCD pB 15 15 = true := by decide +kernel
theorem cB1 : allB 1 = true := by unfold allB; simp only [List.all_cons, List.all_nil, cB1x2, cB1x3, cB1x6, cB1x7, cB1x10, cB1x11, cB1x14, cB1x15, Bool.and_self]
theorem cB3 : allB 3 = true := by unfold allB; simp only [List.all_cons, List.all_nil, cB3x2, cB3x3, cB3x6, cB3x7, cB3x10, cB3x11, cB3x14, cB3x15, Bool.and_self]
theorem cB5 : allB 5 = true := by unfold allB; simp only [List.all_cons, List.all_nil, cB5x2, cB5x3, cB5x6, cB5x7, cB5x10, cB5x11, cB5x14, cB5x15, Bool.and_self]
theorem cB7 : allB 7 = true := by unfold allB; simp only [List.all_cons, List.all_nil, cB7x2, cB7x3, cB7x6, cB7x7, cB7x10, cB7x11, cB7x14, cB7x15, Bool.and_self]
theorem cB9 : allB 9 = true := by unfold allB; simp only [List.all_cons, List.all_nil, cB9x2, cB9x3, cB9x6, cB9x7, cB9x10, cB9x11, cB9x14, cB9x15, Bool.and_self]
theorem cB11 : allB 11 = true := by unfold allB; simp only [List.all_cons, List.all_nil, cB11x2, cB11x3, cB11x6, cB11x7, cB11x10, cB11x11, cB11x14, cB11x15, Bool.and_self]
theorem cB13 : allB 13 = true := by unfold allB; simp only [List.all_cons, List.all_nil, cB13x2, cB13x3, cB13x6, cB13x7, cB13x10, cB13x11, cB13x14, cB13x15, Bool.and_self]
theorem cB15 : allB 15 = true := by unfold allB; simp only [List.all_cons, List.all_nil, cB15x2, cB15x3, cB15x6, cB15x7, cB15x10, cB15x11, cB15x14, cB15x15, Bool.and_self]
theorem cB : allT pB = true := by
  show ([1, 3, 5, 7, 9, 11, 13, 15].all allB) = true
  simp only [List.all_cons, List.all_nil, cB1, cB3, cB5, cB7, cB9, cB11, cB13, cB15, Bool.and_self]
theorem chkA {t : List Nat} (h : refl4 t = true) : refl4 (eFold t) = true ∧ isPre (eFold t) = true := by
  refine ⟨eFold_refl h, ?_⟩
  have a := allT_of cA h
  have hl : t.length = 4 := by unfold refl4 at h; simp only [Bool.and_eq_true, beq_iff_eq] at h; exact h.1.1
  match t, hl with
  | [a, b, c, d], _ => rw [r0_eq]; exact ‹pA [a, b, c, d] = true›
theorem chkB {t : List Nat} (h : refl4 t = true) (hp : isPre t = true) : okNear t = true := by
  have b := allT_of cB h
  have hl : t.length = 4 := by unfold refl4 at h; simp only [Bool.and_eq_true, beq_iff_eq] at h; exact h.1.1
  match t, hl with
  | [a, b, c, d], _ =>
    have b' : pB [a, b, c, d] = true := ‹_›
    unfold pB at b'
    dsimp only at b'
    rw [preR_eq] at hp
    rw [hp] at b'
    exact b'
theorem setB_refl {t : List Nat} {p : Nat × Nat} (h : refl4 t = true) (h1 : p.1 < 4) (h2 : p.2 < 4) : refl4 (setB t p) = true := by
  unfold refl4 at h ⊢
  simp only [Bool.and_eq_true, beq_iff_eq] at h ⊢
  obtain ⟨⟨hl, h16⟩, hb⟩ := h
  have h16' : ∀ r ∈ t, r < 2 ^ 4 := fun r hr => by simpa using List.all_eq_true.mp h16 r hr
  have hg : t.getD p.1 0 < 2 ^ 4 := by rw [List.getD_eq_getElem?_getD, List.getElem?_eq_getElem (by lia)]; exact h16' _ (List.getElem_mem _)
  have hnew : t.getD p.1 0 ||| 2 ^ p.2 < 2 ^ 4 := Nat.or_lt_two_pow hg (Nat.pow_lt_pow_right (by decide) h2)
  refine ⟨⟨by rw [setB_len, hl], ?_⟩, ?_⟩
  · rw [List.all_eq_true]
    intro r hr
    unfold setB at hr
    rw [decide_eq_true_eq]
    rcases List.mem_or_eq_of_mem_set hr with hr | rfl
    · exact h16' r hr
    · exact hnew
  · rw [List.all_eq_true] at hb ⊢
    intro x hx
    have := hb x hx
    have hx4 : x < 4 := by simpa using hx
    unfold setB
    by_cases e : p.1 = x
    · subst e
      rw [List.getD_eq_getElem?_getD, List.getElem?_set_self (by lia), Option.getD_some, Nat.testBit_or, this, Bool.true_or]
    · rw [List.getD_eq_getElem?_getD, List.getElem?_set_ne e, ← List.getD_eq_getElem?_getD]; exact this
theorem nearA_refl {arr : List (Nat × Nat)} (h : ∀ p ∈ arr, p.1 < 4 ∧ p.2 < 4) : refl4 (nearA arr) = true := by
  unfold nearA
  have : ∀ (l : List (Nat × Nat)) (t : List Nat), (∀ p ∈ l, p.1 < 4 ∧ p.2 < 4) → refl4 t = true → refl4 (l.foldl setB t) = true := by
    intro l
    induction l with
    | nil => intro t _ ht; exact ht
    | cons p l ih =>
      intro t hl ht
      rw [List.foldl_cons]
      exact ih _ (fun q hq => hl q (.tail _ hq)) (setB_refl ht (hl p (.head _)).1 (hl p (.head _)).2)
  exact this arr _ h (by decide)
theorem near_ok {arr : List (Nat × Nat)} (h : ∀ p ∈ arr, p.1 < 4 ∧ p.2 < 4) : refl4 (nearF arr) = true ∧ isPre (nearF arr) = true ∧ okNear (nearF arr) = true := by
  have a := chkA (nearA_refl h)
  exact ⟨a.1, a.2, chkB a.1 a.2⟩
noncomputable def SimR (near : List Nat) (word : List Bool) (rows : List Nat) : Prop := ∀ x, x < 4 → ∀ s, s < 16 → (rows.getD x 0).testBit s = (imgF near word s).testBit x
theorem sim0 (near : List Nat) : SimR near [] rows0 := by
  have : ∀ x, x < 4 → ∀ s, s < 16 → (rows0.getD x 0).testBit s = s.testBit x := by decide
  exact this
theorem imgF_le (near : List Nat) : ∀ (w : List Bool) (s : Nat), s ≤ 15 → imgF near w s ≤ 15 := by
  intro w
  induction w with
  | nil => intro s h; exact h
  | cons b w ih => intro s h; exact ih _ (imgS_le _ _ _)
theorem imgF_snoc (near : List Nat) (w : List Bool) (b : Bool) (s : Nat) : imgF near (w ++ [b]) s = imgS near (imgF near w s) b := by
  unfold imgF; rw [List.foldl_append]; rfl
theorem compl_bit {r s : Nat} (h : r ≤ 65535) (hs : s < 16) : (65535 - r).testBit s = !r.testBit s := by
  have := Nat.testBit_two_pow_sub_succ (x := r) (n := 16) (by lia) s
  rw [show 2 ^ 16 - (r + 1) = 65535 - r by lia] at this
  rw [this, decide_eq_true hs, Bool.true_and]
theorem compl_bit4 {r s : Nat} (h : r ≤ 15) (hs : s < 4) : (15 - r).testBit s = !r.testBit s := by
  have := Nat.testBit_two_pow_sub_succ (x := r) (n := 4) (by lia) s
  rw [show 2 ^ 4 - (r + 1) = 15 - r by lia] at this
  rw [this, decide_eq_true hs, Bool.true_and]
theorem sim_compl {near : List Nat} {w : List Bool} {rows : List Nat} (h : SimR near w rows) (hl : rows.length = 4) (hr : ∀ r ∈ rows, r ≤ 65535) : SimR near (w ++ [true]) (compl rows) := by
  intro x hx s hs
  have hg : (compl rows).getD x 0 = 65535 - rows.getD x 0 := by
    unfold compl
    rw [List.getD_eq_getElem?_getD, List.getD_eq_getElem?_getD, List.getElem?_map, List.getElem?_eq_getElem (by lia)]; rfl
  have hm : rows.getD x 0 ≤ 65535 := by rw [List.getD_eq_getElem?_getD, List.getElem?_eq_getElem (by lia)]; exact hr _ (List.getElem_mem _)
  rw [hg, compl_bit hm hs, imgF_snoc]
  unfold imgS
  rw [if_pos rfl, compl_bit4 (imgF_le _ _ _ (by lia)) hx, h x hx s hs]
theorem orL_bit (l : List Nat) (s : Nat) : (orL l).testBit s = l.any (·.testBit s) := by
  unfold orL
  have : ∀ (l : List Nat) (a : Nat), (l.foldl (· ||| ·) a).testBit s = (a.testBit s || l.any (·.testBit s)) := by
    intro l
    induction l with
    | nil => intro a; simp
    | cons x l ih => intro a; rw [List.foldl_cons, ih, Nat.testBit_or, List.any_cons, Bool.or_assoc]
  rw [this]; simp
theorem pow_bit4 : ∀ a b c d : Bool, ∀ x, x < 4 → ((((List.range 4).filter fun i => [a, b, c, d].getD i false).map fun x => 2 ^ x).sum).testBit x = [a, b, c, d].getD x false := by decide
theorem four (p : Nat → Bool) : ∀ x, x < 4 → p x = [p 0, p 1, p 2, p 3].getD x false
  | 0, _ => rfl
  | 1, _ => rfl
  | 2, _ => rfl
  | 3, _ => rfl
  | _ + 4, h => absurd h (by simp)
theorem pow_bit (p : Nat → Bool) {x : Nat} (hx : x < 4) : ((((List.range 4).filter p).map fun x => 2 ^ x).sum).testBit x = p x := by
  rw [List.filter_congr fun y hy => four p y (List.mem_range.mp hy), pow_bit4 _ _ _ _ x hx]
  exact (four p x hx).symm
theorem and_any : ∀ a, a < 16 → ∀ b, b < 16 → (a &&& b == 0) = !((List.range 4).any fun y => a.testBit y && b.testBit y) := by decide
theorem any_filter {α : Type} (p q : α → Bool) (l : List α) : (l.filter p).any q = l.any fun x => p x && q x := by
  induction l with
  | nil => rfl
  | cons x l ih =>
    rw [List.filter_cons, List.any_cons, ← ih]
    cases p x <;> simp
theorem sim_cls {near : List Nat} {w : List Bool} {rows : List Nat} (h : SimR near w rows) (hn : near.length = 4) (h16 : ∀ r ∈ near, r < 16) : SimR near (w ++ [false]) (clsF (near.map bitsL) rows) := by
  intro x hx s hs
  have hg : (clsF (near.map bitsL) rows).getD x 0 = orL ((bitsL (near.getD x 0)).map fun y => rows.getD y 0) := by
    unfold clsF
    rw [List.map_map, List.getD_eq_getElem?_getD, List.getD_eq_getElem?_getD, List.getElem?_map, List.getElem?_eq_getElem (by lia)]; rfl
  have hm : near.getD x 0 < 16 := by rw [List.getD_eq_getElem?_getD, List.getElem?_eq_getElem (by lia)]; exact h16 _ (List.getElem_mem _)
  have hf : imgF near w s ≤ 15 := imgF_le _ _ _ (by lia)
  rw [hg, orL_bit, imgF_snoc, List.any_map]
  unfold imgS
  rw [if_neg (by decide), compl_bit4 (cloF_le _ _) hx]
  unfold cloF
  rw [pow_bit _ hx, and_any _ hm _ (by lia), Bool.not_not]
  unfold bitsL
  rw [any_filter]
  have : ∀ l : List Nat, (∀ y ∈ l, y < 4) → (l.any fun y => (near.getD x 0).testBit y && ((fun y => y.testBit s) ∘ fun y => rows.getD y 0) y) = l.any fun y => (near.getD x 0).testBit y && (imgF near w s).testBit y := by
    intro l
    induction l with
    | nil => intro _; rfl
    | cons y l ih =>
      intro hy
      rw [List.any_cons, List.any_cons, ih fun z hz => hy z (.tail _ hz)]
      show (_ && (rows.getD y 0).testBit s || _) = _
      rw [h y (hy y (.head _)) s hs]
  exact this _ (fun y hy => by simpa using hy)
theorem dstep_sim {near : List Nat} {par : Nat} {new : List Bool} {made : List Nat} {st st' : DSt} (h : SimR near new made) (hs : ∀ e ∈ st.1, SimR near e.word e.rows) (hst : dstep par new made st = some st') : ∀ e ∈ st'.1, SimR near e.word e.rows := by
  unfold dstep at hst
  split at hst
  · split at hst
    · cases hst
    · cases hst; exact hs
  · cases hst
    intro e he
    rcases List.mem_append.mp he with he | he
    · exact hs e he
    · rw [List.mem_singleton] at he; subst he; exact h
theorem drun_sim {near : List Nat} (hn : near.length = 4) (h16 : ∀ r ∈ near, r < 16) : ∀ (t : Nat) {st : DSt}, drun (near.map bitsL) t = some st → ∀ e ∈ st.1, SimR near e.word e.rows
  | 0, st, h => by
    cases h
    intro e he
    rw [List.mem_singleton] at he; subst he; exact sim0 near
  | t + 1, st, h => by
    unfold drun at h
    obtain ⟨st1, h1, h2⟩ := Option.bind_eq_some_iff.mp h
    have ih := drun_sim hn h16 t h1
    unfold dturn at h2
    split at h2
    · cases h2; exact ih
    · rename_i e he
      split at h2
      · rename_i q
        simp only [Bool.and_eq_true] at q
        have hee := ih e (List.mem_of_getElem? he)
        obtain ⟨k1, k2, _⟩ := okR_iff q.1.1
        obtain ⟨st2, h3, h4⟩ := Option.bind_eq_some_iff.mp h2
        exact dstep_sim (sim_compl hee k1 k2) (dstep_sim (sim_cls hee hn h16) ih h3) h4
      · cases h2
theorem nodupB_of : ∀ {l : List (List Nat)}, nodupB l = true → l.Nodup
  | [], _ => List.nodup_nil
  | x :: l, h => by
    unfold nodupB at h
    rw [Bool.and_eq_true] at h
    refine List.nodup_cons.mpr ⟨fun hm => ?_, nodupB_of h.2⟩
    have := List.all_eq_true.mp h.1 x hm
    simp at this
theorem deeds_of {near : List Nat} (hr : refl4 near = true) (h : okNear near = true) : ∃ st, drun (near.map bitsL) 14 = some st ∧ st.1.length ≤ 14 ∧ st.2.length ≤ 28 ∧ (∀ e ∈ st.1, FOk e ∧ e.word.length ≤ 14) ∧ FinN near st := by
  unfold refl4 at hr
  simp only [Bool.and_eq_true, beq_iff_eq] at hr
  unfold okNear at h
  split at h
  · cases h
  · rename_i st hst
    unfold okSt at h
    simp only [Bool.and_eq_true, decide_eq_true_eq, beq_iff_eq] at h
    obtain ⟨⟨⟨⟨⟨⟨h14, h28⟩, hw⟩, hh⟩, ht⟩, hnd⟩, hf⟩ := h
    refine ⟨st, hst, h14, h28, fun e he => ?_, hw, ?_, fun q hq => ?_, nodupB_of hnd, ?_⟩
    · have := List.all_eq_true.mp hf e he
      unfold okF at this
      simp only [Bool.and_eq_true, Bool.or_eq_true, decide_eq_true_eq, beq_iff_eq] at this
      obtain ⟨⟨⟨a, b⟩, c⟩, d⟩ := this
      exact ⟨⟨a, b, fun r hr => by simpa using List.all_eq_true.mp c r hr⟩, d⟩
    · unfold okHead at hh
      split at hh
      · rename_i e tl q
        simp only [Bool.and_eq_true, beq_iff_eq] at hh
        obtain ⟨⟨a, b⟩, c⟩ := hh
        refine ⟨tl, ?_⟩
        rw [q]
        congr 1
        cases e
        simp only at a b c
        subst a b c; rfl
      · cases hh
    · have := List.all_eq_true.mp ht q hq
      obtain ⟨e, he, h2⟩ := List.any_eq_true.mp this
      simp only [Bool.and_eq_true, beq_iff_eq] at h2
      obtain ⟨k, hk, hke⟩ := List.getElem_of_mem he
      exact ⟨k, e, by rw [List.getElem?_eq_getElem hk, hke], h2.1, h2.2⟩
    · exact drun_sim hr.1.1 (fun r hr' => by simpa using List.all_eq_true.mp hr.1.2 r hr') 14 hst
noncomputable def pt (c : Nat) : Nat := lowC c - 97
theorem pt_lt {c : Nat} (h : isLet c = true) : pt c < 4 ∧ lowC c = 97 + pt c := by have := low_let h; unfold pt; lia
theorem nodup_len : ∀ (n : Nat) {l : List Nat}, l.Nodup → (∀ x ∈ l, x < n) → l.length ≤ n
  | 0, l, _, h => by
    cases l with
    | nil => simp
    | cons x l => exact absurd (h x (.head _)) (by lia)
  | n + 1, l, hd, h => by
    have h1 : (l.erase n).length ≤ n := nodup_len n (hd.erase n) fun x hx => by
      have := (List.Nodup.mem_erase_iff hd).mp hx
      have := h x this.2
      lia
    rw [List.length_erase] at h1
    split at h1 <;> lia
noncomputable def SubM (M : Nat → Prop) (t : List Nat) : Prop := ∀ y, y < 4 → M y → ∀ z, (t.getD y 0).testBit z = true → M z
theorem setB_sub {M : Nat → Prop} {t : List Nat} {p : Nat × Nat} (h : SubM M t) (hp : M p.1 → M p.2) (hl : t.length = 4) : SubM M (setB t p) := by
  intro y hy hM z hz
  unfold setB at hz
  by_cases e : p.1 = y
  · subst e
    rw [List.getD_eq_getElem?_getD, List.getElem?_set_self (by lia), Option.getD_some, Nat.testBit_or, Bool.or_eq_true] at hz
    rcases hz with hz | hz
    · exact h _ hy hM z hz
    · rw [Nat.testBit_two_pow, decide_eq_true_eq] at hz
      subst hz; exact hp hM
  · rw [List.getD_eq_getElem?_getD, List.getElem?_set_ne e, ← List.getD_eq_getElem?_getD] at hz
    exact h y hy hM z hz
theorem midS_get (t : List Nat) (m : Nat) {y : Nat} (hy : y < t.length) : (midS t m).getD y 0 = if (t.getD y 0).testBit m then t.getD y 0 ||| t.getD m 0 else t.getD y 0 := by
  unfold midS
  rw [List.getD_eq_getElem?_getD, List.getElem?_map, List.getElem?_eq_getElem hy, Option.map_some, Option.getD_some, List.getD_eq_getElem?_getD (l := t) (i := y), List.getElem?_eq_getElem hy, Option.getD_some]
theorem midS_sub {M : Nat → Prop} {t : List Nat} {m : Nat} (h : SubM M t) (hm : m < 4) (hl : t.length = 4) : SubM M (midS t m) := by
  intro y hy hM z hz
  rw [midS_get t m (by lia)] at hz
  split at hz
  · rename_i q
    rw [Nat.testBit_or, Bool.or_eq_true] at hz
    rcases hz with hz | hz
    · exact h y hy hM z hz
    · exact h m hm (h y hy hM m q) z hz
  · exact h y hy hM z hz
theorem near_sub {M : Nat → Prop} {arr : List (Nat × Nat)} (h : ∀ p ∈ arr, M p.1 → M p.2) : SubM M (nearF arr) := by
  have h1 : ∀ (l : List (Nat × Nat)) (t : List Nat), (∀ p ∈ l, M p.1 → M p.2) → t.length = 4 → SubM M t → SubM M (l.foldl setB t) := by
    intro l
    induction l with
    | nil => intro t _ _ ht; exact ht
    | cons p l ih =>
      intro t hl h4 ht
      exact ih _ (fun q hq => hl q (.tail _ hq)) (by rw [setB_len, h4]) (setB_sub ht (hl p (.head _)) h4)
  have h2 : ∀ (l : List Nat) (t : List Nat), (∀ m ∈ l, m < 4) → t.length = 4 → SubM M t → SubM M (l.foldl midS t) := by
    intro l
    induction l with
    | nil => intro t _ _ ht; exact ht
    | cons p l ih =>
      intro t hl h4 ht
      exact ih _ (fun q hq => hl q (.tail _ hq)) (by rw [midS_len, h4]) (midS_sub ht (hl p (.head _)) h4)
  unfold nearF
  refine h2 _ _ (fun m hm => by simpa using hm) (nearA_len _) (h1 _ _ h rfl ?_)
  intro y hy hM z hz
  have : y = 0 ∨ y = 1 ∨ y = 2 ∨ y = 3 := by lia
  have e : ([1, 2, 4, 8] : List Nat).getD y 0 = 2 ^ y := by rcases this with rfl | rfl | rfl | rfl <;> rfl
  rw [e, Nat.testBit_two_pow, decide_eq_true_eq] at hz
  subst hz; exact hM
theorem near_has {arr : List (Nat × Nat)} (h4 : ∀ p ∈ arr, p.1 < 4 ∧ p.2 < 4) {p : Nat × Nat} (hp : p ∈ arr) : ((nearF arr).getD p.1 0).testBit p.2 = true := by
  have s1 : ∀ (t : List Nat) (q : Nat × Nat), t.length = 4 → q.1 < 4 → ∀ y z, (t.getD y 0).testBit z = true → ((setB t q).getD y 0).testBit z = true := by
    intro t q hl hq y z hz
    unfold setB
    by_cases e : q.1 = y
    · subst e
      rw [List.getD_eq_getElem?_getD, List.getElem?_set_self (by lia), Option.getD_some, Nat.testBit_or, hz, Bool.true_or]
    · rw [List.getD_eq_getElem?_getD, List.getElem?_set_ne e, ← List.getD_eq_getElem?_getD]; exact hz
  have h1 : ∀ (l : List (Nat × Nat)) (t : List Nat), t.length = 4 → (∀ p ∈ l, p.1 < 4 ∧ p.2 < 4) → ∀ y z, ((t.getD y 0).testBit z = true ∨ (y, z) ∈ l) → ((l.foldl setB t).getD y 0).testBit z = true := by
    intro l
    induction l with
    | nil => intro t _ _ y z h; exact h.resolve_right (by simp)
    | cons q l ih =>
      intro t hl hq y z h
      refine ih _ (by rw [setB_len, hl]) (fun q' h' => hq q' (.tail _ h')) y z ?_
      rcases h with h | h
      · exact .inl (s1 t q hl (hq q (.head _)).1 y z h)
      · rcases List.mem_cons.mp h with e | h
        · left
          subst e
          unfold setB
          rw [List.getD_eq_getElem?_getD, List.getElem?_set_self (by have := (hq _ (.head _)).1; simp only at this; lia), Option.getD_some, Nat.testBit_or, Nat.testBit_two_pow]
          simp
        · exact .inr h
  have h2 : ∀ (l : List Nat) (t : List Nat), t.length = 4 → ∀ y, y < 4 → ∀ z, (t.getD y 0).testBit z = true → ((l.foldl midS t).getD y 0).testBit z = true := by
    intro l
    induction l with
    | nil => intro t _ y _ z h; exact h
    | cons m l ih =>
      intro t hl y hy z h
      refine ih _ (by rw [midS_len, hl]) y hy z ?_
      rw [midS_get t m (by lia)]
      split
      · rw [Nat.testBit_or, h, Bool.true_or]
      · exact h
  unfold nearF
  exact h2 _ _ (nearA_len _) _ (h4 p hp).1 _ (h1 arr _ rfl h4 p.1 p.2 (.inr hp))
theorem pre_tr {t : List Nat} (h : isPre t = true) {x y : Nat} (hx : x < 4) (hy : y < 4) (hxy : (t.getD x 0).testBit y = true) {z : Nat} (hz : (t.getD y 0).testBit z = true) : (t.getD x 0).testBit z = true := by
  unfold isPre at h
  have := List.all_eq_true.mp (List.all_eq_true.mp h x (by simpa using hx)) y (by simpa using hy)
  rw [hxy] at this
  simp only [Bool.not_true, Bool.false_or, beq_iff_eq] at this
  rw [← this, Nat.testBit_or, hz, Bool.or_true]
structure BInv (R : Nat → Prop) (toks : List Nat) : Prop where
  lt : ∀ t ∈ toks, isLet t = true
  nd : (toks.map lowC).Nodup
  r : ∀ t ∈ toks, R (pt t)
theorem bfsI_inv {R : Nat → Prop} : ∀ (l : List Nat) {toks : List Nat}, BInv R toks → (∀ o ∈ l, isLet o = true ∧ R (pt o)) → BInv R (l.foldl bfsI toks) ∧ (∃ ex, l.foldl bfsI toks = toks ++ ex) ∧ ∀ o ∈ l, lowC o ∈ (l.foldl bfsI toks).map lowC
  | [], toks, h, _ => ⟨h, ⟨[], by simp⟩, fun o ho => by cases ho⟩
  | o :: l, toks, h, hl => by
    have step : BInv R (bfsI toks o) ∧ (∃ ex, bfsI toks o = toks ++ ex) ∧ lowC o ∈ (bfsI toks o).map lowC := by
      unfold bfsI
      split
      · rename_i q
        exact ⟨h, ⟨[], by simp⟩, by simpa using q⟩
      · rename_i q
        refine ⟨⟨fun t ht => ?_, ?_, fun t ht => ?_⟩, ⟨[o], rfl⟩, by simp⟩
        · rcases List.mem_append.mp ht with ht | ht
          · exact h.lt t ht
          · rw [List.mem_singleton] at ht; subst ht; exact (hl _ (.head _)).1
        · rw [List.map_append, List.map_singleton]
          refine List.nodup_append.mpr ⟨h.nd, by simp, fun a ha b hb e => ?_⟩
          rw [List.mem_singleton] at hb
          subst hb e
          exact q (by simpa using ha)
        · rcases List.mem_append.mp ht with ht | ht
          · exact h.r t ht
          · rw [List.mem_singleton] at ht; subst ht; exact (hl _ (.head _)).2
    obtain ⟨s1, ⟨e1, s2⟩, s3⟩ := step
    obtain ⟨a, ⟨e2, b⟩, c⟩ := bfsI_inv l s1 fun o' h' => hl o' (.tail _ h')
    rw [List.foldl_cons]
    refine ⟨a, ⟨e1 ++ e2, by rw [b, s2, List.append_assoc]⟩, fun o' h' => ?_⟩
    rcases List.mem_cons.mp h' with rfl | h'
    · rw [b, List.map_append]; exact List.mem_append_left _ s3
    · exact c o' h'
theorem bfs_go {R : Nat → Prop} {en : List (Nat × Nat)} (hR : ∀ c, isLet c = true → R (pt c) → ∀ o ∈ outsC en c, isLet o = true ∧ R (pt o)) {c : Nat} (hc : isLet c = true) (hr : R (pt c)) :
    ∀ k, BInv R ((List.range k).foldl (bfsT en) [c]) ∧ (∃ ex, (List.range k).foldl (bfsT en) [c] = c :: ex) ∧ ∀ (i : Nat) (tok : Nat), i < k → ((List.range k).foldl (bfsT en) [c])[i]? = some tok → ∀ o ∈ outsC en tok, lowC o ∈ ((List.range k).foldl (bfsT en) [c]).map lowC
  | 0 => ⟨⟨fun t ht => by rw [show (List.range 0).foldl (bfsT en) [c] = [c] from rfl, List.mem_singleton] at ht; subst ht; exact hc, by simp, fun t ht => by rw [show (List.range 0).foldl (bfsT en) [c] = [c] from rfl, List.mem_singleton] at ht; subst ht; exact hr⟩, ⟨[], rfl⟩, fun i tok h => by lia⟩
  | k + 1 => by
    obtain ⟨a, ⟨ex, b⟩, d⟩ := bfs_go hR hc hr k
    rw [List.range_succ, List.foldl_append, List.foldl_cons, List.foldl_nil]
    generalize (List.range k).foldl (bfsT en) [c] = T at a b d
    unfold bfsT
    cases q : T[k]? with
    | none =>
      refine ⟨a, ⟨ex, b⟩, fun i tok hi ht => ?_⟩
      have : i < k := by
        rcases Nat.lt_or_ge i k with h | h
        · exact h
        · have : i = k := by lia
          subst this; rw [q] at ht; cases ht
      exact d i tok this ht
    | some tk =>
      have htm := List.mem_of_getElem? q
      obtain ⟨a', ⟨e', b'⟩, c'⟩ := bfsI_inv (outsC en tk) a (hR tk (a.lt _ htm) (a.r _ htm))
      dsimp only
      refine ⟨a', ⟨ex ++ e', by rw [b', b]; rfl⟩, fun i tok hi ht => ?_⟩
      have hk := (List.getElem?_eq_some_iff.mp q).1
      rw [b', List.getElem?_append_left (by lia)] at ht
      rcases Nat.lt_or_ge i k with h | h
      · intro o ho
        rw [b', List.map_append]
        exact List.mem_append_left _ (d i tok h ht o ho)
      · have : i = k := by lia
        subst this
        rw [q] at ht; cases ht
        exact c'
theorem outs_of {v : LV} (O : LOk v) {c o : Nat} (h : o ∈ outsC v.ends c) : isLet o = true ∧ ∃ p ∈ v.arr, pt c = p.1 ∧ pt o = p.2 := by
  unfold outsC at h
  obtain ⟨e, he, rfl⟩ := List.mem_map.mp h
  obtain ⟨hm, hq⟩ := List.mem_filter.mp he
  rw [beq_iff_eq] at hq
  unfold LV.ends endsL at hm
  obtain ⟨p, hp, rfl⟩ := List.mem_map.mp hm
  have h4 := O.i.a4 p.1 (List.of_mem_zip hp).1
  refine ⟨(endC_ok h4.2 _).1, p.1, (List.of_mem_zip hp).1, ?_, ?_⟩
  · unfold pt
    rw [← hq, (endC_ok h4.1 _).2.2]; lia
  · unfold pt
    rw [(endC_ok h4.2 _).2.2]; lia
theorem outs_has {v : LV} (O : LOk v) {c : Nat} (hc : isLet c = true) {p : Nat × Nat} (hp : p ∈ v.arr) (h : pt c = p.1) : ∃ o ∈ outsC v.ends c, pt o = p.2 := by
  have hz : v.arr.length ≤ v.way.tail.length := by have := O.i.a5; have := O.i.y6; simp; lia
  have e : v.arr = (v.arr.zip v.way.tail).map Prod.fst := (List.map_fst_zip hz).symm
  rw [e] at hp
  obtain ⟨q, hq, rfl⟩ := List.mem_map.mp hp
  have h4 := O.i.a4 q.1 (List.of_mem_zip hq).1
  refine ⟨endC q.1.2 (q.2 / 24 != 0), ?_, ?_⟩
  · unfold outsC
    refine List.mem_map.mpr ⟨(endC q.1.1 (q.2 / 12 % 2 != 0), endC q.1.2 (q.2 / 24 != 0)), List.mem_filter.mpr ⟨?_, ?_⟩, rfl⟩
    · unfold LV.ends endsL
      exact List.mem_map.mpr ⟨q, hq, rfl⟩
    · rw [beq_iff_eq, (endC_ok h4.1 _).2.2, (pt_lt hc).2, h]
  · unfold pt
    rw [(endC_ok h4.2 _).2.2]; lia
theorem LV.seen {v : LV} (O : LOk v) : Seen v := by
  refine ⟨fun x hx => ?_⟩
  obtain ⟨hrf, hpr, _⟩ := near_ok O.i.a4
  have hc : isLet (97 + x) = true := by unfold isLet; simp; lia
  have hpc : pt (97 + x) = x := by
    have : ∀ x, x < 4 → pt (97 + x) = x := by decide
    exact this x hx
  have hxx : ((nearF v.arr).getD x 0).testBit x = true := by
    unfold refl4 at hrf
    simp only [Bool.and_eq_true] at hrf
    exact List.all_eq_true.mp hrf.2 x (by simpa using hx)
  obtain ⟨a, ⟨ex, b⟩, d⟩ := bfs_go (R := fun z => ((nearF v.arr).getD x 0).testBit z = true) (en := v.ends) (fun c hc hr o ho => by
    obtain ⟨h1, p, hp, h2, h3⟩ := outs_of O ho
    refine ⟨h1, pre_tr hpr hx (pt_lt hc).1 hr ?_⟩
    rw [h2, h3]
    exact near_has O.i.a4 hp) hc (by rw [hpc]; exact hxx) 4
  change BInv _ (bfsF v.ends (97 + x)) at a
  change bfsF v.ends (97 + x) = _ at b
  change ∀ (i : Nat) (tok : Nat), i < 4 → (bfsF v.ends (97 + x))[i]? = some tok → ∀ o ∈ outsC v.ends tok, lowC o ∈ (bfsF v.ends (97 + x)).map lowC at d
  generalize bfsF v.ends (97 + x) = T at a b d
  have hnd : (T.map pt).Nodup := by
    have : T.map lowC = (T.map pt).map (97 + ·) := by
      rw [List.map_map]
      exact List.map_congr_left fun t ht => (pt_lt (a.lt t ht)).2
    have h := a.nd
    rw [this] at h
    exact List.Pairwise.of_map _ (fun a b (h : 97 + a ≠ 97 + b) e => h (by rw [e])) h
  have hlt : ∀ z ∈ T.map pt, z < 4 := fun z hz => by
    obtain ⟨t, ht, rfl⟩ := List.mem_map.mp hz
    exact (pt_lt (a.lt t ht)).1
  have hlen : T.length ≤ 4 := by have := nodup_len 4 hnd hlt; rwa [List.length_map] at this
  refine ⟨hlen, ?_⟩
  have hsub : SubM (fun z => z ∈ T.map pt) (nearF v.arr) := near_sub fun p hp hM => by
    obtain ⟨t, ht, he⟩ := List.mem_map.mp hM
    obtain ⟨o, ho, hpo⟩ := outs_has O (a.lt t ht) hp he
    obtain ⟨i, hi, hie⟩ := List.getElem_of_mem ht
    have := d i t (by lia) (by rw [List.getElem?_eq_getElem hi, hie]) o ho
    obtain ⟨t2, ht2, he2⟩ := List.mem_map.mp this
    rw [← hpo]
    refine List.mem_map.mpr ⟨t2, ht2, ?_⟩
    unfold pt; rw [he2]
  have hbn : (bitsL ((nearF v.arr).getD x 0)).Nodup := List.Nodup.sublist List.filter_sublist List.nodup_range
  refine (List.perm_ext_iff_of_nodup hbn hnd).mpr fun z => ?_
  unfold bitsL
  rw [List.mem_filter]
  constructor
  · rintro ⟨_, hz⟩
    refine hsub x hx ?_ z hz
    rw [b]
    exact List.mem_map.mpr ⟨97 + x, .head _, hpc⟩
  · intro hz
    refine ⟨by simpa using hlt z hz, ?_⟩
    obtain ⟨t, ht, rfl⟩ := List.mem_map.mp hz
    exact a.r t ht
section
variable {B : Base} {n : Nat} {env : Env} {Φ : V → Hp → Prop} {K : Frag} {mg mb : Str → Option Value}
noncomputable abbrev topH : Hp := [(181, .tab none), (188, .tab none), (261, .tab none)]
theorem c_law (W : Wd B K mg mb) {ns : List Int} (hns : ns.length ≤ 63) (h : ∀ q1 q2, Φ (.bool true) (tabsH q1 q2)) : JCc B (n + 7 + 1) topH (.fn fLaw) [.lst (ns.map .int)] [] Φ := by
  refine JCc.topc W (by kernel_rfl) (by decide +kernel) ?_
  refine JBind.plain ["script"] (vs1 fun a => by kernel_rfl) rfl ?_
  refine top1 W (by kernel_rfl) (lawN none none none none none none none none none none none none none none none) (fun L => lawOwn (L + 1) (L + 2) (L + 3) (L + 4) (L + 5) (L + 6) (L + 7) (L + 8) (L + 9) (L + 10) (L + 11) (L + 12) (L + 13)) (fun L => lawC (L + 1) (L + 2) (L + 3) (L + 4) (L + 5) (L + 6) (L + 7) (L + 8) (L + 9) (L + 10) (L + 11) (L + 12) (L + 13) (some (.lst (ns.map .int))) none none none none none none none none none none none none []) (by kernel_rfl) (fun L => by kernel_rfl) (fun L => by kernel_rfl) (fun env L E _ _ => ?_)
  refine law_a (n := n + 6) (hp := topH) W E hns fun cells arr pla lk wd dw way I => ?_
  obtain ⟨p0, p1, p2, rfl, h0, h1, h2, hne⟩ := I.p3
  have O : LOk ⟨ns, cells, arr, p0, p1, p2, lk, wd, dw, way⟩ := ⟨I, h0, h1, h2, hne⟩
  generalize hv : (⟨ns, cells, arr, p0, p1, p2, lk, wd, dw, way⟩ : LV) = v at O
  have U : Upd topH 261 (.tab none) (.tab (some lexQ)) (tabsH none none) := .tail (.tail .head)
  obtain ⟨hrf, hpr, hok⟩ := near_ok O.i.a4
  obtain ⟨st, r1, r2, r3, r4, F⟩ := deeds_of hrf hok
  have D : Deeds v st := ⟨r1, r2, r3, r4⟩
  have key := law_b (n := n + 4) (Ψ := Back Φ) (hp := topH) W E O U fun d p dh ph cs' sg fdl hcl => ?_
  · subst hv
    exact key
  refine law_c (n := n + 1) W E O hcl fun ln hln => ?_
  refine law_d (n := n + 1) W E O ?_
  refine law_e (n := n + 1) W E O fun lt dt => ?_
  refine law_f (n := n + 1) W E O (LV.seen O) hcl ?_
  refine law_g (n := n) W E O D hcl fun fnd tld q1 => ?_
  refine law_h (n := n) W E O D F hcl hln fun hp'' ⟨q1, q2, hsub⟩ => ?_
  exact Back.ret (hp'' := tabsH q1 q2) hsub (h q1 q2)
end
section
variable {K : Frag} {mg mb : Str → Option Value}
noncomputable abbrev topB (prog : Program) (w : World) (s : Shared) : Base := ⟨prog, w, s.heap, [181, 188, 261], s.os, s.drawn⟩
theorem tri {α : Type} {a b c : α} {P : α → Prop} (h1 : P a) (h2 : P b) (h3 : P c) : ∀ x ∈ [a, b, c], P x := List.forall_mem_cons.mpr ⟨h1, List.forall_mem_cons.mpr ⟨h2, List.forall_mem_cons.mpr ⟨h3, fun _ h => nomatch h⟩⟩⟩
theorem law_run {prog : Program} {w : World} {s : Shared} (W : Wd (topB prog w s) K mg mb) (hg : s.gens = #[]) {vs : List Value} {ns : List Int} (hL : s.heap.get? 321 = some { cls := .type "list", data := .seq vs.toArray }) (hi : IntsAre vs ns) (hlen : ns.length ≤ 63) :
    wpAny (model prog w) callerA (call (.ref 320) [.ref 321]) (fun v s' => v = .bool true ∧ OldK s.heap s'.heap ∧ s'.os = s.os ∧ s'.gens = #[]) (fun _ _ => False) s := by
  have htab : ∀ P ∈ ([181, 188, 261] : List Addr), s.heap.get? P = some { cls := .none, data := .fields #[] } := fun P hP => W.T.tabs P hP
  have S : St (topB prog w s) topH s :=
    ⟨by decide, tri (htab 181 (.head _)) (htab 188 (.tail _ (.head _))) (htab 261 (.tail _ (.tail _ (.head _)))), fun a o e hn => zof_mk e hn, hg, rfl, rfl⟩
  have hf : Is (zof topH s.heap) (.ref 320) (.fn fLaw) := (W.fn (320, fLaw) (by lcg_off)).is W.T S
  have ha : Is (zof topH s.heap) (.ref 321) (.lst (ns.map .int)) := .lst (zof_mk hL (by decide)) (of_ints hi)
  have r := JCc.call (c_law (n := 0) (Φ := fun v hp => v = .bool true ∧ ∃ q1 q2, hp = tabsH q1 q2) W hlen fun q1 q2 => ⟨rfl, q1, q2, rfl⟩) callerA s (.ref 320) [.ref 321] [] ⟨rfl, by decide +kernel, by decide⟩ S hf (.cons ha .nil) rfl .nil
  refine wpAny_mono r (fun v s' h => ?_) fun _ _ h => h
  obtain ⟨b, hp', S', Lx, rb, rfl, q1, q2, rfl⟩ := h
  have key : ∀ (a : Addr) (q : QT2), ObjIs (zof (tabsH q1 q2) s'.heap) s'.heap a (.tab q) → ∃ more : Array Value, s'.heap.get? a = some { cls := .none, data := .fields more } := by
    intro a q h
    cases q with
    | none => exact ⟨_, h⟩
    | some x => exact ⟨_, h.choose_spec.1⟩
  have hobj : ∀ a ∈ ([181, 188, 261] : List Addr), ∃ more : Array Value, s'.heap.get? a = some { cls := .none, data := .fields more } :=
    tri (key _ _ (S'.objs (181, .tab q1) (.head _))) (key _ _ (S'.objs (188, .tab q2) (.tail _ (.head _)))) (key _ _ (S'.objs (261, .tab (some lexQ)) (.tail _ (.tail _ (.head _)))))
  have hc : ∀ c P, CodeHd s.heap c P → isCodeTable s.heap P := fun c P h => by
    obtain ⟨o, vs, _, _, _, _, _, _, _, h1, h2, h3, h4, _⟩ := h
    exact ⟨c, o, vs, h1, h2, h3, h4⟩
  have hcode : ∀ a ∈ ([181, 188, 261] : List Addr), isCodeTable s.heap a :=
    tri (hc _ _ (W.cd (185, 181) (.head _)).1) (hc _ _ (W.cd (192, 188) (.tail _ (.head _))).1) (hc _ _ (W.cd (265, 261) (.tail _ (.tail _ (.head _)))).1)
  refine ⟨rb.inv, ⟨fun a o e => ?_, fun a o e => ?_⟩, S'.os, S'.gens⟩
  · by_cases hm : a ∈ ([181, 188, 261] : List Addr)
    · rw [htab a hm] at e
      cases e
      exact .inr (.inl ⟨hcode a hm, rfl, #[], _, rfl, by rw [(hobj a hm).choose_spec, Array.empty_append]⟩)
    · exact .inl (zof_of (S'.base a o e hm)).1
  · by_cases hm : a ∈ ([181, 188, 261] : List Addr)
    · exact ⟨_, (hobj a hm).choose_spec⟩
    · exact ⟨o, (zof_of (S'.base a o e hm)).1⟩
end
section
theorem set1 (seen : Sre.Seen) : (List.range 95).map (fun k => okSet (Sre.inSet reC1 (32 + k) reC1.size 5 true seen)) = (List.range 95).map fun _ => some false := by kernel_rfl
theorem set2 (seen : Sre.Seen) : (List.range 95).map (fun k => okSet (Sre.inSet reC2 (32 + k) reC2.size 5 true seen)) = (List.range 95).map fun _ => some false := by kernel_rfl
theorem cutK_look (a : Addr) : ∀ K : Frag, (cutK K).lookup a = if ([181, 188, 261] : List Addr).contains a then none else K.lookup a
  | [] => by simp [cutK]
  | p :: K => by
    have ih := cutK_look a K
    unfold cutK at ih ⊢
    rw [List.filter_cons]
    split
    · rename_i q
      rw [List.lookup_cons, List.lookup_cons, ih]
      by_cases e : a = p.1
      · subst e
        rw [beq_self_eq_true]
        simp only [Bool.not_eq_true'] at q
        rw [q]; rfl
      · rw [beq_eq_false_iff_ne.mpr e]
    · rename_i q
      rw [ih, List.lookup_cons]
      by_cases e : a = p.1
      · subst e
        simp only [Bool.not_eq_true', Bool.not_eq_false] at q
        rw [q]; rfl
      · rw [beq_eq_false_iff_ne.mpr e]
structure TF (t : X.KT) (K : Frag) : Prop where
  tb : ([181, 188, 261] : List Addr).map t.get = ([181, 188, 261] : List Addr).map fun _ => some { cls := .none, data := .fields #[] }
  fd : fnTab.map (fun p => fdAt t p.1) = fnTab.map fun p => some p.2
  cq : fnTab.map (fun p => cqAt t p.2.code) = fnTab.map fun p => some p.2.qualname
  fk : fnTab.map (fun p => (isFn K (.ref p.1), specialIn K (.ref p.1) "__get__", takesIn K (.ref p.1))) = fnTab.map fun _ => (true, some (some (.builtin "function.__get__")), some false)
  gl : glTab.map (fun p => nsAt t 3 p.1) = glTab.map fun p => some (some (.ref p.2))
  bl1 : blTab.map (fun p => nsAt t 3 p.1) = blTab.map fun _ => some none
  me : methTab.map (fun p => findIn K (.ref p.1) p.2.1) = methTab.map fun p => some (some (.ref p.2.2))
  at_ : attrTab.map (fun p => findIn K (.ref p.1) p.2) = attrTab.map fun _ => some none
  cls : ([175, 231] : List Addr).map (fun C => (makesIn K C, plainGet K C "", hasDictIn K C, plainOver K C, findIn K (.ref C) "__setattr__", keepIn K (.ref C))) = ([175, 231] : List Addr).map fun _ => (true, true, true, true, some (some (.builtin "object.__setattr__")), true)
  em : intAt t 3 "ENDMARKER" = some 0
  nt : intAt t 3 "NT_OFFSET" = some 256
  re : [reAt t 41, reAt t 46] = [some (none, .int 0 0, .int 0 0, .ref 40), some (none, .int 0 0, .int 0 0, .ref 45)]
  sq : [rawAt t 40, rawAt t 45] = [some reC1, some reC2]
  ch : [chAt t 185, chAt t 192, chAt t 265] = [some 181, some 188, some 261]
  tab : tabAt t 236 = some exD
  df : ([62, 115] : List Addr).map t.get = ([62, 115] : List Addr).map fun _ => some { cls := .type "tuple", data := .seq #[.none] }
theorem TF.of {t : X.KT} {K : Frag} (h : obs16 t K = val16) : TF t K where
  tb := congrArg (·.1) h
  fd := congrArg (·.2.1) h
  cq := congrArg (·.2.2.1) h
  fk := congrArg (·.2.2.2.1) h
  gl := congrArg (·.2.2.2.2.1) h
  bl1 := congrArg (·.2.2.2.2.2.1) h
  me := congrArg (·.2.2.2.2.2.2.1) h
  at_ := congrArg (·.2.2.2.2.2.2.2.1) h
  cls := congrArg (·.2.2.2.2.2.2.2.2.1) h
  em := congrArg (·.2.2.2.2.2.2.2.2.2.1) h
  nt := congrArg (·.2.2.2.2.2.2.2.2.2.2.1) h
  re := congrArg (·.2.2.2.2.2.2.2.2.2.2.2.1) h
  sq := congrArg (·.2.2.2.2.2.2.2.2.2.2.2.2.1) h
  ch := congrArg (·.2.2.2.2.2.2.2.2.2.2.2.2.2.1) h
  tab := congrArg (·.2.2.2.2.2.2.2.2.2.2.2.2.2.2.1) h
  df := congrArg (·.2.2.2.2.2.2.2.2.2.2.2.2.2.2.2) h
theorem fragOf_all {h : Heap} : ∀ l : List Addr, X.AllIn h (l.filterMap fun a => (h.get? a).map fun o => (a, o))
  | [] => trivial
  | a :: l => by
    rw [List.filterMap_cons]
    cases q : h.get? a with
    | none => exact fragOf_all l
    | some o => exact ⟨q, fragOf_all l⟩
theorem allIn_look {h : Heap} : ∀ {K : Frag}, X.AllIn h K → ∀ {a : Addr} {o : Obj}, K.lookup a = some o → h.get? a = some o
  | [], _, _, _, e => nomatch e
  | p :: K, A, a, o, e => by
    rw [List.lookup_cons] at e
    by_cases q : a = p.1
    · subst q
      rw [beq_self_eq_true] at e
      cases e
      exact A.1
    · rw [beq_eq_false_iff_ne.mpr q] at e
      exact allIn_look A.2 e
theorem bl2 : blTab.map (fun p => bootBuiltins p.1) = blTab.map fun p => some p.2 := by kernel_rfl
theorem fdAt_of {t : X.KT} {f : Addr} {fd : FuncData} (h : fdAt t f = some fd) : ∃ o, t.get f = some o ∧ o.cls = .type "function" ∧ o.data = .func fd := by
  obtain ⟨o, e, h⟩ := Option.bind_eq_some_iff.mp h
  exact ⟨o, e, (ite_some h).1, dFunc_of (ite_some h).2⟩
theorem fieldAt_of {t : X.KT} {c : Addr} {vs : Array Value} (h : fieldAt t c = some vs) : ∃ o, t.get c = some o ∧ o.cls = .type "code" ∧ o.data = .fields vs := by
  obtain ⟨o, e, h⟩ := Option.bind_eq_some_iff.mp h
  exact ⟨o, e, (ite_some h).1, dFields_of (ite_some h).2⟩
theorem cqAt_of {t : X.KT} {c : Value} {q : Str} (h : cqAt t c = some q) : ∃ a vs tk, c = .ref a ∧ fieldAt t a = some vs ∧ vs[1]? = some (.str q tk) := by
  obtain ⟨a, e, h⟩ := Option.bind_eq_some_iff.mp h
  obtain ⟨vs, e2, h⟩ := Option.bind_eq_some_iff.mp h
  obtain ⟨v, e3, h⟩ := Option.bind_eq_some_iff.mp h
  obtain ⟨tk, e4⟩ := vStr_of h
  exact ⟨a, vs, tk, vRef_of e, e2, e4 ▸ e3⟩
theorem nsAt_of {t : X.KT} {a : Addr} {x : Str} {r : Option Value} (h : nsAt t a x = some r) : ∃ o es ep, t.get a = some o ∧ o.data = .dict es ep ∧ nsFind es x = r := by
  obtain ⟨o, e, h⟩ := Option.bind_eq_some_iff.mp h
  obtain ⟨es, e2, h⟩ := Option.map_eq_some_iff.mp h
  obtain ⟨ep, e3⟩ := dDict_of e2
  exact ⟨o, es, ep, e, e3, h⟩
theorem intAt_of {t : X.KT} {a : Addr} {x : Str} {i : Int} (h : intAt t a x = some i) : ∃ tk, nsAt t a x = some (some (.int i tk)) := by
  obtain ⟨r, e, h⟩ := Option.bind_eq_some_iff.mp h
  obtain ⟨v, e2, h⟩ := Option.bind_eq_some_iff.mp h
  obtain ⟨tk, e3⟩ := vInt_of h
  exact ⟨tk, e.trans (congrArg some (e2.trans (congrArg some e3)))⟩
theorem chAt_of {t : X.KT} {c P : Addr} (h : chAt t c = some P) : ∃ vs, fieldAt t c = some vs ∧ vs[11]? = some (.ref P) ∧ chOk vs = true := by
  obtain ⟨vs, e, h⟩ := Option.bind_eq_some_iff.mp h
  obtain ⟨v, e2, h2⟩ := Option.bind_eq_some_iff.mp (ite_some h).2
  exact ⟨vs, e, vRef_of h2 ▸ e2, (ite_some h).1⟩
theorem reAt_of {t : X.KT} {p : Addr} {d : Option Addr} {a b c : Value} (h : reAt t p = some (d, a, b, c)) : ∃ o vs, t.get p = some o ∧ o.cls = .type "re.Pattern" ∧ o.dict = d ∧ o.data = .fields vs ∧ vs.getD 6 .none = a ∧ vs.getD 2 .none = b ∧ vs.getD 5 .none = c := by
  obtain ⟨o, e, h⟩ := Option.bind_eq_some_iff.mp h
  obtain ⟨vs, e2, h2⟩ := Option.map_eq_some_iff.mp (ite_some h).2
  exact ⟨o, vs, e, (ite_some h).1, congrArg (·.1) h2, dFields_of e2, congrArg (·.2.1) h2, congrArg (·.2.2.1) h2, congrArg (·.2.2.2) h2⟩
theorem rawAt_of {t : X.KT} {p : Addr} {c : Array Nat} (h : rawAt t p = some c) : ∃ o items n, t.get p = some o ∧ o.data = .seq items n ∧ (items.map Builtin.Re.reRawOf).map (·.toNat) = c := by
  obtain ⟨o, e, h⟩ := Option.bind_eq_some_iff.mp h
  obtain ⟨items, e2, h⟩ := Option.map_eq_some_iff.mp h
  obtain ⟨n, e3⟩ := dSeq_of e2
  exact ⟨o, items, n, e, e3, h⟩
theorem intRows_of : ∀ {es : List DictEntry} {D : List (Str × Int)}, intRows es = some D → KTD.Rows (fun (n : Int) v => PyProof.V.Flat v (.int n)) es D
  | [], D, h => Option.some.inj h ▸ .nil
  | e :: es, D, h => by
    obtain ⟨x, e1, h⟩ := Option.bind_eq_some_iff.mp h
    obtain ⟨i, e2, h⟩ := Option.bind_eq_some_iff.mp h
    obtain ⟨D', e3, rfl⟩ := Option.map_eq_some_iff.mp h
    obtain ⟨t1, k1⟩ := vStr_of e1
    obtain ⟨t2, k2⟩ := vInt_of e2
    exact .cons k1 (k2 ▸ PyProof.V.Flat.int _ _) (intRows_of e3)
theorem tabAt_of {t : X.KT} {a : Addr} {D : List (Str × Int)} (h : tabAt t a = some D) : ∃ o es ep, t.get a = some o ∧ o.ExactDict ∧ o.data = .dict es ep ∧ KTD.Rows (fun (n : Int) v => PyProof.V.Flat v (.int n)) es.toList D := by
  obtain ⟨o, e, h⟩ := Option.bind_eq_some_iff.mp h
  obtain ⟨es, e2, h2⟩ := Option.bind_eq_some_iff.mp (ite_some h).2
  obtain ⟨ep, e3⟩ := dDict_of e2
  exact ⟨o, es, ep, e, ⟨(ite_some h).1.1, (ite_some h).1.2.1, Array.eq_empty_of_size_eq_zero (ite_some h).1.2.2⟩, e3, intRows_of h2⟩
theorem okSet_of {r : Except String (Bool × Sre.Seen)} {b : Bool} : okSet r = some b → ∃ s, r = .ok (b, s) :=
  Except.casesOn (motive := fun r => okSet r = some b → ∃ s, r = .ok (b, s)) r (fun _ => none_no) fun p e => ⟨p.2, congrArg (fun b => Except.ok (b, p.2)) (Option.some.inj e)⟩
theorem isSome_get {α : Type} {x : Option α} (h : x.isSome = true) : ∃ a, x = some a := Option.isSome_iff_exists.mp h
theorem repat_of {h : Heap} {t : X.KT} (ZH : X.KT.Holds h 1 0 t) {p q : Addr} {c : Array Nat} (h1 : reAt t p = some (none, .int 0 0, .int 0 0, .ref q)) (h2 : rawAt t q = some c) (hh : (Sre.header c).1 = 1) (h4 : c.getD 2 0 = 4) (hi : Sre.ops[c.getD 0 0]? = some .INFO)
    (hs : ∀ seen, (List.range 95).map (fun k => okSet (Sre.inSet c (32 + k) c.size 5 true seen)) = (List.range 95).map fun _ => some false) : RePat h p fun c => 31 < c ∧ c < 127 := by
  obtain ⟨o, vs, e, a1, a2, a3, a4, a5, a6⟩ := reAt_of h1
  obtain ⟨oq, items, nq, eq, b1, b2⟩ := rawAt_of h2
  refine ⟨o, vs, q, oq, items, nq, c, X.kt_at ZH e, a1, a2, a3, a4, a5, a6, X.kt_at ZH eq, b1, b2, hh, h4, hi, fun k hk seen => ?_⟩
  have := List.map_inj_left.mp (hs seen) (k - 32) (List.mem_range.mpr (by omega))
  rw [show 32 + (k - 32) = k by omega] at this
  exact okSet_of this
theorem Wd.of {prog : Program} {w : World} {s : Shared} {t : X.KT} {K : Frag} {p : Program} {loose : List Str} {mean : ExcName → Option Value} {mg mb : Str → Option Value} (T : Top p loose mean mg mb s.heap) (KX : K.In s.heap) (ZH : X.KT.Holds s.heap 1 0 t) (F : TF t (cutK K)) :
    Wd (topB prog w s) (cutK K) mg mb := by
  have get : ∀ {a : Addr} {o : Obj}, t.get a = some o → s.heap.get? a = some o := fun e => X.kt_at ZH e
  have hmg : ∀ {x : Str} {r : Option Value}, nsAt t 3 x = some r → mg x = r := by
    intro x r h
    obtain ⟨o, es, ep, e, hd, hr⟩ := nsAt_of h
    obtain ⟨o', es', ep', e', hd', _, hf⟩ := T.g
    have e3 := get e
    rw [show (3 : Addr) = mainGlobals from rfl, e'] at e3
    cases e3
    rw [hd'] at hd; cases hd
    rw [← hf x]; exact hr
  have hmb : ∀ p ∈ blTab, mb p.1 = some p.2 := by
    intro p hp
    have hne : p.1 ≠ "__name__" := by
      have : ∀ p ∈ blTab, (p.1 == ("__name__" : Str)) = false := by decide +kernel
      exact beq_eq_false_iff_ne.mp (this p hp)
    rw [T.builtins p.1 hne]
    exact List.map_inj_left.mp bl2 p hp
  have TB : TopB (topB prog w s) (cutK K) mg mb := {
    g := T.g
    b := T.b
    lim := T.nolimit
    digits := T.nodigits
    bmain := T.bmain
    X := fun a o h => by
      rw [cutK_look] at h
      split at h
      · cases h
      · exact KX a o h
    kt := fun a o h hm => by
      rw [cutK_look, if_pos (List.contains_iff_mem.mpr hm)] at h
      cases h
    tabs := fun a hm => get (List.map_inj_left.mp F.tb a hm) }
  have hcd : ∀ c P, chAt t c = some P → c ≠ P → CodeHd s.heap c P := by
    intro c P h hne
    obtain ⟨vs, e, h1, k⟩ := chAt_of h
    obtain ⟨o, e1, e2, e3⟩ := fieldAt_of e
    have k := Bool.and_eq_true_iff.mp k
    have k2 := Bool.and_eq_true_iff.mp k.2
    have k3 := Bool.and_eq_true_iff.mp k2.2
    obtain ⟨x1, q1⟩ := isSome_get k.1
    obtain ⟨x2, q2⟩ := isSome_get k2.1
    obtain ⟨x3, q3⟩ := isSome_get k3.1
    obtain ⟨x4, q4⟩ := isSome_get k3.2
    obtain ⟨t1, p1⟩ := vStr_of q1
    obtain ⟨t2, p2⟩ := vInt_of q2
    obtain ⟨t4, p4⟩ := vInt_of q4
    refine ⟨o, vs, x1, t1, x2, t2, x3, x4, t4, get e1, e2, e3, h1, ?_, p1, p2, vBool_of q3, p4, hne⟩
    rw [Array.getD_eq_getD_getElem?, h1]; rfl
  have hch := List.cons.inj F.ch
  have hch2 := List.cons.inj hch.2
  have hre := List.cons.inj F.re
  have hsq := List.cons.inj F.sq
  have hcls : ∀ C ∈ ([175, 231] : List Addr), ClsK (cutK K) C := fun C hC =>
    have e := List.map_inj_left.mp F.cls C hC
    ⟨congrArg (·.1) e, congrArg (·.2.1) e, congrArg (·.2.2.1) e, congrArg (·.2.2.2.1) e, congrArg (·.2.2.2.2.1) e, congrArg (·.2.2.2.2.2) e⟩
  refine {
    T := TB
    fn := fun p hp => ⟨?_, ?_⟩
    fk := fun p hp => ?_
    gl := fun p hp => hmg (List.map_inj_left.mp F.gl p hp)
    bl := fun p hp => ⟨hmg (List.map_inj_left.mp F.bl1 p hp), hmb p hp⟩
    cH := hcls 175 (.head _)
    cN := hcls 231 (.tail _ (.head _))
    me := fun p hp => List.map_inj_left.mp F.me p hp
    at_ := fun p hp => List.map_inj_left.mp F.at_ p hp
    reN := repat_of ZH hre.1 hsq.1 (by decide +kernel) (by decide +kernel) (by kernel_rfl) set1
    reV := repat_of ZH (List.cons.inj hre.2).1 (List.cons.inj hsq.2).1 (by decide +kernel) (by decide +kernel) (by kernel_rfl) set2
    eof := (intAt_of F.em).imp fun _ h => hmg h
    nt := (intAt_of F.nt).imp fun _ h => hmg h
    cd := tri ⟨hcd _ _ hch.1 (by decide), .head _⟩ ⟨hcd _ _ hch2.1 (by decide), .tail _ (.head _)⟩ ⟨hcd _ _ (List.cons.inj hch2.2).1 (by decide), .tail _ (.tail _ (.head _))⟩
    tab := ⟨by decide +kernel, ?_⟩
    dflt := fun a ha => ⟨_, get (List.map_inj_left.mp F.df a ha)⟩ }
  · obtain ⟨o, e, h1, h2⟩ := fdAt_of (List.map_inj_left.mp F.fd p hp)
    exact ⟨o, get e, h1, h2⟩
  · obtain ⟨a, vs, tk, e1, e2, e3⟩ := cqAt_of (List.map_inj_left.mp F.cq p hp)
    obtain ⟨o, f1, f2, f3⟩ := fieldAt_of e2
    exact ⟨a, o, vs, tk, e1, get f1, f2, f3, e3⟩
  · have e := List.map_inj_left.mp F.fk p hp
    exact ⟨congrArg (·.1) e, congrArg (·.2.1) e, congrArg (·.2.2) e⟩
  · obtain ⟨o, es, ep, e, h1, h2, h3⟩ := tabAt_of F.tab
    exact ⟨o, es, ep, get e, h1, h2, h3⟩
end
end Mine

open PySem PySem.W PySem.W.X PyProof.Rows
namespace Mine
noncomputable def posOf : Stmt → Pos
  | .FunctionDef _ _ _ _ _ _ _ _ _ p => p
  | _ => default
end Mine
set_option maxRecDepth 100000 in
set_option maxHeartbeats 0 in
theorem PySem.Challenge.cw_wf0094_01_holds : PySem.Challenge.rw_wf0094_01.Holds := by
  refine holds_law Mine.said fun said => ?_
  refine holds_openX (q := Mine.vw) (loose := Mine.loo) (Xt := Mine.XT) (XP := XL Mine.vw []) (Yf := Mine.obs) (Ya := fun _ => (Mine.val16, 321, 924)) (N := 3400) Mine.hl (fun s e => xl_of s (Bool.and_eq_true_iff.mp e).1) XL.keeps (d := ⟨"law", Mine.paramsOf (Mine.stm 78), Mine.bodyOf (Mine.stm 78), Mine.scopeOf (Mine.stm 78), Mine.posOf (Mine.stm 78)⟩) (kwd := []) (by kernel_rfl) (by kernel_rfl) (by kernel_rfl) (fun s e => recFacts_of (Bool.and_eq_true_iff.mp e).2) (by rfl) (by first | assumption | decide +kernel) (by decide +kernel) ⟨rfl, rfl, rfl, rfl, rfl, by decide +kernel⟩ ?hw ?hc
  case hw => w_witness2
  intro w s₀ s₁ mg mb G Y fa o pm cd doc dV kV ho hd hcd hD hmg hg args vals as L hpre hlay hrd hwl hlo
  refine Ground.open G ?_
  intro T B D TE TW
  clear hd hcd hD
  wrow_args hpre hlay hrd hwl hlo
  obtain ⟨hat, hsz⟩ := script_at L
  have hz0 : s₀.heap.objs.size = 321 := congrArg (·.2.1) Y
  have htk := script_toks L (t := 924) (congrArg (·.2.2) Y)
  rw [hz0] at hat hsz
  subst hat
  have KX : (Mine.fragOf s₀.heap).In s₁.heap := fun a o e => L.keeps _ _ (Mine.allIn_look (Mine.fragOf_all _) e)
  have W := Mine.Wd.of (prog := PySem.Challenge.rw_wf0094_01.row.prog) (w := w) (s := s₁) T KX (KT.Holds.keeps L.keeps (holds_of (Mine.fragOf_all _))) (Mine.TF.of (congrArg (·.1) Y))
  have g : mg "law" = some (.ref 320) := W.gl ("law", 320) (Mine.mem_of_contains (by kernel_rfl))
  have hm : mg "law" = some (.ref fa) := hmg
  have e := hm.symm.trans g
  injection e with e
  injection e with e
  subst e
  clear hm g
  clear hmg Y
  all_lens
  refine wpAny_mono (Mine.law_run W hg (script_obj L (by assumption)) (by assumption) (by omega)) (fun v s' h => ?_) fun _ _ h => h.elim
  obtain ⟨rfl, hk, hos, hgn⟩ := h
  refine ⟨.inl ⟨.bool true, .bool true, [], rfl, fun cls => ?_, .bool true, ?_, fun _ => ⟨List.nodup_nil, fun a h => nomatch h⟩⟩, hk, hos, .of_eq hgn⟩
  · rfl
  · kernel_rfl
