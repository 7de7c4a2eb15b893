import PyProof.Rows.All
import Wide.All
import OpenK.AllK
import Wide.FinOn
import Open.Tops
import KE.KFromBytes
import PySem.Challenge.RW_nq0312_01
section
open PySem PySem.W PyProof.Rows
set_option Elab.async false
set_option maxRecDepth 100000
namespace Mine
abbrev pw : Program := PySem.Challenge.pw_nq0312_01
def fnBody : Stmt → List Stmt | .FunctionDef _ _ b _ _ _ _ _ _ _ => b | _ => []
def fnScope : Stmt → Scope | .FunctionDef _ _ _ _ _ _ s _ _ _ => s | _ => default
def fnParams : Stmt → Arguments | .FunctionDef _ a _ _ _ _ _ _ _ _ => a | _ => ⟨[], [], none, [], [], none, []⟩
def stAt (p : Program) (i : Nat) : Stmt := (p.main.body[i]?).getD (.Pass default)
def clBody : Stmt → List Stmt | .ClassDef _ _ _ b _ _ _ _ _ _ _ => b | _ => []
def mth (i j : Nat) : Stmt := ((clBody (stAt pw i))[j]?).getD (.Pass default)
def docL : List Stmt → Str
  | .Expr (.Constant (.str x) _ _) _ :: _ => x
  | _ => ""
def docS : Stmt → Str
  | .FunctionDef _ _ b _ _ _ _ _ _ _ => docL b
  | .ClassDef _ _ _ b _ _ _ _ _ _ _ => docL b
  | _ => ""
noncomputable def KC (P : Params) : Frag := [
  (242, { cls := .type "type", data := .cls { name := "SequenceMatcher", bases := [.type "object"], mro := [.ref 242, .type "object"], ns := 241, qualname := "SequenceMatcher" }, slots := List.toArray [none, none, some (.str "SequenceMatcher" 389), some (.str "SequenceMatcher" 397), some (.builtin "object.__new__"), some (.bool true)] }),
  (241, { cls := .type "dict", data := .dict (List.toArray [⟨PyData.keyHash P "__module__", .str "__module__" 396, .str "cpy313.difflib" 194⟩,
    ⟨PyData.keyHash P "__firstlineno__", .str "__firstlineno__" 400, .int 70 399⟩,
    ⟨PyData.keyHash P "__doc__", .str "__doc__" 402, .str (docS (stAt pw 5)) 401⟩,
    ⟨PyData.keyHash P "__init__", .str "__init__" 417, .ref 160⟩,
    ⟨PyData.keyHash P "set_seqs", .str "set_seqs" 427, .ref 167⟩,
    ⟨PyData.keyHash P "set_seq1", .str "set_seq1" 436, .ref 174⟩,
    ⟨PyData.keyHash P "set_seq2", .str "set_seq2" 445, .ref 181⟩,
    ⟨PyData.keyHash P "_SequenceMatcher__chain_b", .str "_SequenceMatcher__chain_b" 463, .ref 188⟩,
    ⟨PyData.keyHash P "find_longest_match", .str "find_longest_match" 491, .ref 196⟩,
    ⟨PyData.keyHash P "get_matching_blocks", .str "get_matching_blocks" 518, .ref 203⟩,
    ⟨PyData.keyHash P "get_opcodes", .str "get_opcodes" 525, .ref 210⟩,
    ⟨PyData.keyHash P "get_grouped_opcodes", .str "get_grouped_opcodes" 534, .ref 218⟩,
    ⟨PyData.keyHash P "ratio", .str "ratio" 543, .ref 225⟩,
    ⟨PyData.keyHash P "quick_ratio", .str "quick_ratio" 550, .ref 232⟩,
    ⟨PyData.keyHash P "real_quick_ratio", .str "real_quick_ratio" 557, .ref 239⟩,
    ⟨PyData.keyHash P "__static_attributes__", .str "__static_attributes__" 568, .ref 240⟩,
    ⟨PyData.keyHash P "__dict__", .str "__dict__" 570, .ref 243⟩,
    ⟨PyData.keyHash P "__weakref__", .str "__weakref__" 572, .ref 244⟩]) 3 }),
  (135, { cls := .type "type", data := .cls { name := "Match", bases := [.type "tuple"], mro := [.ref 135, .type "tuple", .type "object"], ns := 134, qualname := "Match", hasDict := false }, slots := List.toArray [some (.ref 65), none, some (.str "Match" 253), some (.str "Match" 261), some .none, some (.bool false)] }),
  (134, { cls := .type "dict", data := .dict (List.toArray [⟨PyData.keyHash P "__module__", .str "__module__" 260, .str "cpy313.difflib" 194⟩,
    ⟨PyData.keyHash P "__firstlineno__", .str "__firstlineno__" 264, .int 23 263⟩,
    ⟨PyData.keyHash P "__doc__", .str "__doc__" 266, .str (docS (stAt pw 3)) 265⟩,
    ⟨PyData.keyHash P "__slots__", .str "__slots__" 268, .ref 73⟩,
    ⟨PyData.keyHash P "_fields", .str "_fields" 272, .ref 74⟩,
    ⟨PyData.keyHash P "_field_defaults", .str "_field_defaults" 273, .ref 75⟩,
    ⟨PyData.keyHash P "__new__", .str "__new__" 284, .ref 136⟩,
    ⟨PyData.keyHash P "_make", .str "_make" 306, .ref 91⟩,
    ⟨PyData.keyHash P "_replace", .str "_replace" 317, .ref 100⟩,
    ⟨PyData.keyHash P "__replace__", .str "__replace__" 318, .ref 100⟩,
    ⟨PyData.keyHash P "__repr__", .str "__repr__" 326, .ref 107⟩,
    ⟨PyData.keyHash P "_asdict", .str "_asdict" 333, .ref 114⟩,
    ⟨PyData.keyHash P "__getnewargs__", .str "__getnewargs__" 341, .ref 121⟩,
    ⟨PyData.keyHash P "__match_args__", .str "__match_args__" 345, .ref 122⟩,
    ⟨PyData.keyHash P "a", .str "a" 355, .ref 124⟩,
    ⟨PyData.keyHash P "b", .str "b" 365, .ref 127⟩,
    ⟨PyData.keyHash P "size", .str "size" 375, .ref 130⟩,
    ⟨PyData.keyHash P "__static_attributes__", .str "__static_attributes__" 376, .ref 132⟩]) 2 }),
  (136, { cls := .type "staticmethod", data := .fields (List.toArray [.ref 82]) }),
  (82, { cls := .type "function", data := .func { name := "__new__", qualname := "Match.__new__", params := fnParams (mth 3 4), body := .stmts (fnBody (mth 3 4)), scope := fnScope (mth 3 4), globals := mainGlobals, closure := [], defaults := .none, kwdefaults := .none, doc := .str (docS (mth 3 4)) 283, pyModule := .str "cpy313.difflib" 194, code := .ref 81, builtins := builtinsNs } }),
  (81, { cls := .type "code", data := .fields (List.toArray [.str "__new__" 274, .str "Match.__new__" 275, .str "/claim/cut.py" 276, .int 29 0, .int 4 0, .int 0 0, .int 0 0, .int 3 0, .ref 76, .bool true, .int 181 0, .ref 77, .none, .ref 78, .ref 79, .ref 80, .int 281 0, .int 29 0, .str "/claim/cut.py" 282]) }),
  (160, { cls := .type "function", data := .func { name := "__init__", qualname := "SequenceMatcher.__init__", params := fnParams (mth 5 1), body := .stmts (fnBody (mth 5 1)), scope := fnScope (mth 5 1), globals := mainGlobals, closure := [], defaults := .ref 153, kwdefaults := .none, doc := .str (docS (mth 5 1)) 416, pyModule := .str "cpy313.difflib" 194, code := .ref 159, builtins := builtinsNs } }),
  (159, { cls := .type "code", data := .fields (List.toArray [.str "__init__" 406, .str "SequenceMatcher.__init__" 407, .str "/claim/cut.py" 408, .int 145 0, .int 5 0, .int 0 0, .int 0 0, .int 3 0, .ref 154, .bool true, .int 181 0, .ref 155, .none, .ref 156, .ref 157, .ref 158, .int 414 0, .int 145 0, .str "/claim/cut.py" 415]) }),
  (167, { cls := .type "function", data := .func { name := "set_seqs", qualname := "SequenceMatcher.set_seqs", params := fnParams (mth 5 2), body := .stmts (fnBody (mth 5 2)), scope := fnScope (mth 5 2), globals := mainGlobals, closure := [], defaults := .none, kwdefaults := .none, doc := .str (docS (mth 5 2)) 426, pyModule := .str "cpy313.difflib" 194, code := .ref 166, builtins := builtinsNs } }),
  (166, { cls := .type "code", data := .fields (List.toArray [.str "set_seqs" 418, .str "SequenceMatcher.set_seqs" 419, .str "/claim/cut.py" 420, .int 173 0, .int 3 0, .int 0 0, .int 0 0, .int 3 0, .ref 161, .bool true, .int 181 0, .ref 162, .none, .ref 163, .ref 164, .ref 165, .int 424 0, .int 173 0, .str "/claim/cut.py" 425]) }),
  (174, { cls := .type "function", data := .func { name := "set_seq1", qualname := "SequenceMatcher.set_seq1", params := fnParams (mth 5 3), body := .stmts (fnBody (mth 5 3)), scope := fnScope (mth 5 3), globals := mainGlobals, closure := [], defaults := .none, kwdefaults := .none, doc := .str (docS (mth 5 3)) 435, pyModule := .str "cpy313.difflib" 194, code := .ref 173, builtins := builtinsNs } }),
  (173, { cls := .type "code", data := .fields (List.toArray [.str "set_seq1" 428, .str "SequenceMatcher.set_seq1" 429, .str "/claim/cut.py" 430, .int 184 0, .int 2 0, .int 0 0, .int 0 0, .int 3 0, .ref 168, .bool true, .int 181 0, .ref 169, .none, .ref 170, .ref 171, .ref 172, .int 433 0, .int 184 0, .str "/claim/cut.py" 434]) }),
  (181, { cls := .type "function", data := .func { name := "set_seq2", qualname := "SequenceMatcher.set_seq2", params := fnParams (mth 5 4), body := .stmts (fnBody (mth 5 4)), scope := fnScope (mth 5 4), globals := mainGlobals, closure := [], defaults := .none, kwdefaults := .none, doc := .str (docS (mth 5 4)) 444, pyModule := .str "cpy313.difflib" 194, code := .ref 180, builtins := builtinsNs } }),
  (180, { cls := .type "code", data := .fields (List.toArray [.str "set_seq2" 437, .str "SequenceMatcher.set_seq2" 438, .str "/claim/cut.py" 439, .int 209 0, .int 2 0, .int 0 0, .int 0 0, .int 3 0, .ref 175, .bool true, .int 181 0, .ref 176, .none, .ref 177, .ref 178, .ref 179, .int 442 0, .int 209 0, .str "/claim/cut.py" 443]) }),
  (188, { cls := .type "function", data := .func { name := "__chain_b", qualname := "SequenceMatcher.__chain_b", params := fnParams (mth 5 5), body := .stmts (fnBody (mth 5 5)), scope := fnScope (mth 5 5), globals := mainGlobals, closure := [], defaults := .none, kwdefaults := .none, doc := .none, pyModule := .str "cpy313.difflib" 194, code := .ref 187, builtins := builtinsNs } }),
  (187, { cls := .type "code", data := .fields (List.toArray [.str "__chain_b" 446, .str "SequenceMatcher.__chain_b" 447, .str "/claim/cut.py" 448, .int 236 0, .int 1 0, .int 0 0, .int 0 0, .int 3 0, .ref 182, .bool true, .int 181 0, .ref 183, .none, .ref 184, .ref 185, .ref 186, .int 461 0, .int 236 0, .str "/claim/cut.py" 462]) }),
  (196, { cls := .type "function", data := .func { name := "find_longest_match", qualname := "SequenceMatcher.find_longest_match", params := fnParams (mth 5 6), body := .stmts (fnBody (mth 5 6)), scope := fnScope (mth 5 6), globals := mainGlobals, closure := [], defaults := .ref 189, kwdefaults := .none, doc := .str (docS (mth 5 6)) 490, pyModule := .str "cpy313.difflib" 194, code := .ref 195, builtins := builtinsNs } }),
  (195, { cls := .type "code", data := .fields (List.toArray [.str "find_longest_match" 466, .str "SequenceMatcher.find_longest_match" 467, .str "/claim/cut.py" 468, .int 260 0, .int 5 0, .int 0 0, .int 0 0, .int 3 0, .ref 190, .bool true, .int 181 0, .ref 191, .none, .ref 192, .ref 193, .ref 194, .int 488 0, .int 260 0, .str "/claim/cut.py" 489]) }),
  (153, { cls := .type "tuple", data := .seq (List.toArray [.none, .str "" 404, .str "" 405, .bool true]) }),
  (189, { cls := .type "tuple", data := .seq (List.toArray [.int 0 464, .none, .int 0 465, .none]) }),
  (243, { cls := .type "getset_descriptor", data := .fields (List.toArray [.str "__dict__" 569, .ref 242, .builtin "function.__dict__", .builtin "function.__dict__#set"]) }),
  (244, { cls := .type "getset_descriptor", data := .fields (List.toArray [.str "__weakref__" 571, .ref 242, .builtin "ExceptionGroup.__weakref__", .none]) })]
def asK : List Addr := [242, 241, 135, 134, 136, 82, 81, 160, 159, 167, 166, 174, 173, 181, 180, 188, 187, 196, 195, 153, 189, 243, 244]
end Mine

end
section
open PySem PySem.W PyProof.Rows
set_option Elab.async false
set_option maxRecDepth 100000
namespace Mine
noncomputable def anyL (as : Array Nat) (p : Nat → Bool) (a b : Nat) : Bool :=
  match Nat.beq a 0, Nat.beq b as.size with
  | true, true => PySem.W.R.anyR as.toList p
  | _, _ => as.any p a b
theorem any_eq : @Array.any Nat = anyL := by
  funext as p a b
  unfold anyL
  split
  · rename_i h1 h2
    have e1 := Nat.eq_of_beq_eq_true h1
    have e2 := Nat.eq_of_beq_eq_true h2
    subst e1; subst e2
    rw [← PySem.W.R.anyR_eq]
    exact Array.any_toList.symm
  · rfl
inductive Tag (b : Builtin) : Type where
  | mk : Tag b
def Tag.of {a b : Builtin} (_ : a = b) : Tag b := .mk
def tagged {b : Builtin} (_ : Tag b) : Builtin := b
set_option maxHeartbeats 0 in
noncomputable def newFast : Builtin := tagged (Tag.mk : type_of% (Tag.of (by
  apply PySem.W.Fast.te4202317264376624991.trans
  delta PySem.W.Fast.tw4202317264376624991
  rewrite [any_eq]
  exact rfl : PySem.Builtin.«type.__new__» = _)))
set_option maxHeartbeats 0 in
theorem newFast_eq : PySem.Builtin.«type.__new__» = newFast := by
  apply PySem.W.Fast.te4202317264376624991.trans
  delta PySem.W.Fast.tw4202317264376624991 newFast tagged
  rewrite [any_eq]
  exact rfl
noncomputable def tbF (nf : Builtin) (id : String) : Option Builtin := match Nat.beq (code id) 29827186395103491166823348853 with
  | true => some nf
  | false => treeTable id
noncomputable def tbQ : String → Option Builtin := tbF newFast
theorem tbQ_eq : treeTable = tbQ := by
  funext id
  unfold tbQ tbF
  split
  · rename_i h
    have e : id = "type.__new__" := code_inj _ _ ((Nat.eq_of_beq_eq_true h).trans (by decide +kernel))
    subst e
    rw [← newFast_eq]
    kernel_rfl
  · rfl
def treeOf : List Obj → Nat → BT → BT
  | [], _, t => t
  | o :: r, n, t => treeOf r (n + 1) (t.ins n o)
def topRunT (tb : String → Option Builtin) (p : Program) (w : World) (n₀ : Nat) (ann : Option Value) : Nat → SharedT → Thread → Option SharedT
  | 0, _, _ => none
  | n + 1, s, t => match through t with
    | true => some s
    | false => match stepOk n₀ ann t with
      | false => none
      | true => match stepT (denote tb) p w s t with
        | some (s', t') => topRunT tb p w n₀ ann n s' t'
        | none => none
theorem topRunT_sound {tb : String → Option Builtin} {p : Program} {w : World} {n₀ : Nat} {ann : Option Value} : ∀ {n : Nat} {s s' : SharedT} {t : Thread},
    topRunT tb p w n₀ ann n s t = some s' → topRun tb p w n₀ ann n s.abs t = some s'.abs
  | 0, _, _, _, h => by cases h
  | n + 1, s, s', t, h => by
    unfold topRunT at h
    unfold topRun
    cases ht : through t with
    | true => rw [ht] at h; cases h; rfl
    | false =>
      rw [ht] at h
      cases hk : stepOk n₀ ann t with
      | false => rw [hk] at h; cases h
      | true =>
        rw [hk] at h
        cases hs : stepT (denote tb) p w s t with
        | none => rw [hs] at h; cases h
        | some r => obtain ⟨s₂, t₂⟩ := r; rw [hs] at h; dsimp only; rw [stepT_spec hs]; exact topRunT_sound h
noncomputable def S0 (w : World) (os : OsState) : SharedT := ⟨treeOf (boot_heap w.params).objs.toList 0 .nil, 11, (boot_heap w.params).life, Array.mk [], boot_drawn, boot_toks, os⟩
theorem S0_abs (w : World) (os : OsState) : (S0 w os).abs = ⟨boot_heap w.params, Array.mk [], boot_drawn, boot_toks, os⟩ := by kernel_rfl

theorem left_of {p q : Program} {loose : List Str} {Xt : Shared → Bool} {α : Type} {Yf : Shared → α} {Ya : World → α} {N : Nat} {g0 : Bool}
    (e : opening p = plainProg p.main.scope.names) (hN : Nat.ble 600 N = true) (f : ∀ s, fenceModules? p s = some s)
    (h : ∀ w os, (topRunT tbQ p w 11 (some (.ref 6)) N (S0 w os) (topStub p)).map (fun s => ((staticsOk (importedModules p.main.body) (boot_heap w.params) s.abs.heap && namesBound p s.abs.heap && gensDone s.abs && laidKept (boot_heap w.params) s.abs.heap),
        openSeen q loose (importedModules p.main.body) Xt g0 s.abs, Yf s.abs)) = some (true, openGood q loose, Ya w)) : LeftO p q loose Xt Yf Ya N g0 := fun w => by
  obtain ⟨⟨hp, gs, d, k, os⟩, e1, e'⟩ := Option.map_eq_some_iff.mp (boot_open e hN f w)
  obtain ⟨rfl, rfl, rfl, rfl⟩ : hp = boot_heap w.params ∧ gs = Array.mk [] ∧ d = boot_drawn ∧ k = boot_toks := by simpa using e'
  obtain ⟨s', hr, hl⟩ := Option.map_eq_some_iff.mp (h w os)
  have hr := topRunT_sound hr
  rw [S0_abs, ← tbQ_eq] at hr
  simp only [Prod.mk.injEq] at hl
  obtain ⟨l1, l2, l3⟩ := hl
  have t : topFrom treeTable p w N ⟨boot_heap w.params, Array.mk [], boot_drawn, boot_toks, os⟩ = some s'.abs := by
    unfold topFrom
    have z1 : ((boot_heap w.params).isNs mainGlobals && (Array.mk [] : Array GenState).size == 0) = true := by kernel_rfl
    have z2 : (boot_heap w.params).objs.size = 11 := by kernel_rfl
    have z3 : (boot_heap w.params).nsMap mainGlobals "__annotations__" = some (.ref 6) := by kernel_rfl
    try dsimp only
    rw [z1, z2, z3, hr]
    show (match staticsOk (importedModules p.main.body) (boot_heap w.params) s'.abs.heap && namesBound p s'.abs.heap && gensDone s'.abs && laidKept (boot_heap w.params) s'.abs.heap with | true => _ | false => _) = _
    rw [l1]
  unfold openEnds
  rw [e1]
  show (topFrom treeTable p w N _).map _ = _
  rw [t]
  exact congrArg some (Prod.ext l2 l3)
end Mine

end
section
open PySem PySem.W PyProof.Rows
set_option Elab.async false
set_option maxRecDepth 100000
namespace Mine
def noDocE (e : DictEntry) : DictEntry := match e.key.isStr "__doc__" with | true => { e with val := .none } | false => e
def noDoc (o : Obj) : Obj := match o with
  | ⟨c, d, .func f, sl⟩ => ⟨c, d, .func { f with doc := .none }, sl⟩
  | o => o
def entsOf (o : Obj) : List DictEntry := match o.data with | .dict es _ => es.toList | _ => []
def epochOf (o : Obj) : Nat := match o.data with | .dict _ n => n | _ => 0
def isDict (o : Obj) : Bool := match o.data with | .dict _ _ => true | _ => false
abbrev DictSeen := (Value × Option Addr × List (Option Value) × Bool × Nat) × List Value × List Value × List Int
def seeD (o : Obj) : DictSeen := ((o.cls, o.dict, o.slots.toList, isDict o, epochOf o), (entsOf o).map (fun e => e.key), (entsOf o).map (fun e => (noDocE e).val), (entsOf o).map (fun e => e.hash))
noncomputable def qv : Program := view pw [0, 1, 4, 6, 7, 8, 9, 10, 11, 12, 13, 14]
def lo : List Str := ["_tuplegetter", "Match", "SequenceMatcher"]
def nameOk (s : Shared) : Bool := s.heap.nsMap mainGlobals "SequenceMatcher" == some (.ref 242) && s.heap.nsMap mainGlobals "Match" == some (.ref 135)
noncomputable def seenK (s : Shared) : List (Option Obj) × Option DictSeen × Option DictSeen × Option (Option (Option Value)) := ([(s.heap.get? 242).map noDoc, (s.heap.get? 135).map noDoc, (s.heap.get? 136).map noDoc, (s.heap.get? 82).map noDoc, (s.heap.get? 81).map noDoc, (s.heap.get? 160).map noDoc, (s.heap.get? 159).map noDoc, (s.heap.get? 167).map noDoc, (s.heap.get? 166).map noDoc, (s.heap.get? 174).map noDoc, (s.heap.get? 173).map noDoc, (s.heap.get? 181).map noDoc, (s.heap.get? 180).map noDoc, (s.heap.get? 188).map noDoc, (s.heap.get? 187).map noDoc, (s.heap.get? 196).map noDoc, (s.heap.get? 195).map noDoc, (s.heap.get? 153).map noDoc, (s.heap.get? 189).map noDoc, (s.heap.get? 243).map noDoc, (s.heap.get? 244).map noDoc], (s.heap.get? 241).map seeD, (s.heap.get? 134).map seeD, (s.heap.get? 2).map (lookIn "thirdparty.any"))
noncomputable def goodK (P : Params) : List (Option Obj) × Option DictSeen × Option DictSeen × Option (Option (Option Value)) := ([some ({ cls := .type "type", data := .cls { name := "SequenceMatcher", bases := [.type "object"], mro := [.ref 242, .type "object"], ns := 241, qualname := "SequenceMatcher" }, slots := List.toArray [none, none, some (.str "SequenceMatcher" 389), some (.str "SequenceMatcher" 397), some (.builtin "object.__new__"), some (.bool true)] } : Obj),
 some ({ cls := .type "type", data := .cls { name := "Match", bases := [.type "tuple"], mro := [.ref 135, .type "tuple", .type "object"], ns := 134, qualname := "Match", hasDict := false }, slots := List.toArray [some (.ref 65), none, some (.str "Match" 253), some (.str "Match" 261), some .none, some (.bool false)] } : Obj),
 some ({ cls := .type "staticmethod", data := .fields (List.toArray [.ref 82]) } : Obj),
 some ({ cls := .type "function", data := .func { name := "__new__", qualname := "Match.__new__", params := fnParams (mth 3 4), body := .stmts (fnBody (mth 3 4)), scope := fnScope (mth 3 4), globals := mainGlobals, closure := [], defaults := .none, kwdefaults := .none, doc := .none, pyModule := .str "cpy313.difflib" 194, code := .ref 81, builtins := builtinsNs } } : Obj),
 some ({ cls := .type "code", data := .fields (List.toArray [.str "__new__" 274, .str "Match.__new__" 275, .str "/claim/cut.py" 276, .int 29 0, .int 4 0, .int 0 0, .int 0 0, .int 3 0, .ref 76, .bool true, .int 181 0, .ref 77, .none, .ref 78, .ref 79, .ref 80, .int 281 0, .int 29 0, .str "/claim/cut.py" 282]) } : Obj),
 some ({ cls := .type "function", data := .func { name := "__init__", qualname := "SequenceMatcher.__init__", params := fnParams (mth 5 1), body := .stmts (fnBody (mth 5 1)), scope := fnScope (mth 5 1), globals := mainGlobals, closure := [], defaults := .ref 153, kwdefaults := .none, doc := .none, pyModule := .str "cpy313.difflib" 194, code := .ref 159, builtins := builtinsNs } } : Obj),
 some ({ cls := .type "code", data := .fields (List.toArray [.str "__init__" 406, .str "SequenceMatcher.__init__" 407, .str "/claim/cut.py" 408, .int 145 0, .int 5 0, .int 0 0, .int 0 0, .int 3 0, .ref 154, .bool true, .int 181 0, .ref 155, .none, .ref 156, .ref 157, .ref 158, .int 414 0, .int 145 0, .str "/claim/cut.py" 415]) } : Obj),
 some ({ cls := .type "function", data := .func { name := "set_seqs", qualname := "SequenceMatcher.set_seqs", params := fnParams (mth 5 2), body := .stmts (fnBody (mth 5 2)), scope := fnScope (mth 5 2), globals := mainGlobals, closure := [], defaults := .none, kwdefaults := .none, doc := .none, pyModule := .str "cpy313.difflib" 194, code := .ref 166, builtins := builtinsNs } } : Obj),
 some ({ cls := .type "code", data := .fields (List.toArray [.str "set_seqs" 418, .str "SequenceMatcher.set_seqs" 419, .str "/claim/cut.py" 420, .int 173 0, .int 3 0, .int 0 0, .int 0 0, .int 3 0, .ref 161, .bool true, .int 181 0, .ref 162, .none, .ref 163, .ref 164, .ref 165, .int 424 0, .int 173 0, .str "/claim/cut.py" 425]) } : Obj),
 some ({ cls := .type "function", data := .func { name := "set_seq1", qualname := "SequenceMatcher.set_seq1", params := fnParams (mth 5 3), body := .stmts (fnBody (mth 5 3)), scope := fnScope (mth 5 3), globals := mainGlobals, closure := [], defaults := .none, kwdefaults := .none, doc := .none, pyModule := .str "cpy313.difflib" 194, code := .ref 173, builtins := builtinsNs } } : Obj),
 some ({ cls := .type "code", data := .fields (List.toArray [.str "set_seq1" 428, .str "SequenceMatcher.set_seq1" 429, .str "/claim/cut.py" 430, .int 184 0, .int 2 0, .int 0 0, .int 0 0, .int 3 0, .ref 168, .bool true, .int 181 0, .ref 169, .none, .ref 170, .ref 171, .ref 172, .int 433 0, .int 184 0, .str "/claim/cut.py" 434]) } : Obj),
 some ({ cls := .type "function", data := .func { name := "set_seq2", qualname := "SequenceMatcher.set_seq2", params := fnParams (mth 5 4), body := .stmts (fnBody (mth 5 4)), scope := fnScope (mth 5 4), globals := mainGlobals, closure := [], defaults := .none, kwdefaults := .none, doc := .none, pyModule := .str "cpy313.difflib" 194, code := .ref 180, builtins := builtinsNs } } : Obj),
 some ({ cls := .type "code", data := .fields (List.toArray [.str "set_seq2" 437, .str "SequenceMatcher.set_seq2" 438, .str "/claim/cut.py" 439, .int 209 0, .int 2 0, .int 0 0, .int 0 0, .int 3 0, .ref 175, .bool true, .int 181 0, .ref 176, .none, .ref 177, .ref 178, .ref 179, .int 442 0, .int 209 0, .str "/claim/cut.py" 443]) } : Obj),
 some ({ cls := .type "function", data := .func { name := "__chain_b", qualname := "SequenceMatcher.__chain_b", params := fnParams (mth 5 5), body := .stmts (fnBody (mth 5 5)), scope := fnScope (mth 5 5), globals := mainGlobals, closure := [], defaults := .none, kwdefaults := .none, doc := .none, pyModule := .str "cpy313.difflib" 194, code := .ref 187, builtins := builtinsNs } } : Obj),
 some ({ cls := .type "code", data := .fields (List.toArray [.str "__chain_b" 446, .str "SequenceMatcher.__chain_b" 447, .str "/claim/cut.py" 448, .int 236 0, .int 1 0, .int 0 0, .int 0 0, .int 3 0, .ref 182, .bool true, .int 181 0, .ref 183, .none, .ref 184, .ref 185, .ref 186, .int 461 0, .int 236 0, .str "/claim/cut.py" 462]) } : Obj),
 some ({ cls := .type "function", data := .func { name := "find_longest_match", qualname := "SequenceMatcher.find_longest_match", params := fnParams (mth 5 6), body := .stmts (fnBody (mth 5 6)), scope := fnScope (mth 5 6), globals := mainGlobals, closure := [], defaults := .ref 189, kwdefaults := .none, doc := .none, pyModule := .str "cpy313.difflib" 194, code := .ref 195, builtins := builtinsNs } } : Obj),
 some ({ cls := .type "code", data := .fields (List.toArray [.str "find_longest_match" 466, .str "SequenceMatcher.find_longest_match" 467, .str "/claim/cut.py" 468, .int 260 0, .int 5 0, .int 0 0, .int 0 0, .int 3 0, .ref 190, .bool true, .int 181 0, .ref 191, .none, .ref 192, .ref 193, .ref 194, .int 488 0, .int 260 0, .str "/claim/cut.py" 489]) } : Obj),
 some ({ cls := .type "tuple", data := .seq (List.toArray [.none, .str "" 404, .str "" 405, .bool true]) } : Obj),
 some ({ cls := .type "tuple", data := .seq (List.toArray [.int 0 464, .none, .int 0 465, .none]) } : Obj),
 some ({ cls := .type "getset_descriptor", data := .fields (List.toArray [.str "__dict__" 569, .ref 242, .builtin "function.__dict__", .builtin "function.__dict__#set"]) } : Obj),
 some ({ cls := .type "getset_descriptor", data := .fields (List.toArray [.str "__weakref__" 571, .ref 242, .builtin "ExceptionGroup.__weakref__", .none]) } : Obj)],
 some ((.type "dict", none, [], true, 3), [.str "__module__" 396, .str "__firstlineno__" 400, .str "__doc__" 402, .str "__init__" 417, .str "set_seqs" 427, .str "set_seq1" 436, .str "set_seq2" 445, .str "_SequenceMatcher__chain_b" 463, .str "find_longest_match" 491, .str "get_matching_blocks" 518, .str "get_opcodes" 525, .str "get_grouped_opcodes" 534, .str "ratio" 543, .str "quick_ratio" 550, .str "real_quick_ratio" 557, .str "__static_attributes__" 568, .str "__dict__" 570, .str "__weakref__" 572], [.str "cpy313.difflib" 194, .int 70 399, .none, .ref 160, .ref 167, .ref 174, .ref 181, .ref 188, .ref 196, .ref 203, .ref 210, .ref 218, .ref 225, .ref 232, .ref 239, .ref 240, .ref 243, .ref 244], [PyData.keyHash P "__module__", PyData.keyHash P "__firstlineno__", PyData.keyHash P "__doc__", PyData.keyHash P "__init__", PyData.keyHash P "set_seqs", PyData.keyHash P "set_seq1", PyData.keyHash P "set_seq2", PyData.keyHash P "_SequenceMatcher__chain_b", PyData.keyHash P "find_longest_match", PyData.keyHash P "get_matching_blocks", PyData.keyHash P "get_opcodes", PyData.keyHash P "get_grouped_opcodes", PyData.keyHash P "ratio", PyData.keyHash P "quick_ratio", PyData.keyHash P "real_quick_ratio", PyData.keyHash P "__static_attributes__", PyData.keyHash P "__dict__", PyData.keyHash P "__weakref__"]),
 some ((.type "dict", none, [], true, 2), [.str "__module__" 260, .str "__firstlineno__" 264, .str "__doc__" 266, .str "__slots__" 268, .str "_fields" 272, .str "_field_defaults" 273, .str "__new__" 284, .str "_make" 306, .str "_replace" 317, .str "__replace__" 318, .str "__repr__" 326, .str "_asdict" 333, .str "__getnewargs__" 341, .str "__match_args__" 345, .str "a" 355, .str "b" 365, .str "size" 375, .str "__static_attributes__" 376], [.str "cpy313.difflib" 194, .int 23 263, .none, .ref 73, .ref 74, .ref 75, .ref 136, .ref 91, .ref 100, .ref 100, .ref 107, .ref 114, .ref 121, .ref 122, .ref 124, .ref 127, .ref 130, .ref 132], [PyData.keyHash P "__module__", PyData.keyHash P "__firstlineno__", PyData.keyHash P "__doc__", PyData.keyHash P "__slots__", PyData.keyHash P "_fields", PyData.keyHash P "_field_defaults", PyData.keyHash P "__new__", PyData.keyHash P "_make", PyData.keyHash P "_replace", PyData.keyHash P "__replace__", PyData.keyHash P "__repr__", PyData.keyHash P "_asdict", PyData.keyHash P "__getnewargs__", PyData.keyHash P "__match_args__", PyData.keyHash P "a", PyData.keyHash P "b", PyData.keyHash P "size", PyData.keyHash P "__static_attributes__"]),
 some (some none))
def mthP (p : Program) (i j : Nat) : Stmt := ((clBody (stAt p i))[j]?).getD (.Pass default)
noncomputable def goodKp (p : Program) (P : Params) : List (Option Obj) × Option DictSeen × Option DictSeen × Option (Option (Option Value)) := ([some ({ cls := .type "type", data := .cls { name := "SequenceMatcher", bases := [.type "object"], mro := [.ref 242, .type "object"], ns := 241, qualname := "SequenceMatcher" }, slots := List.toArray [none, none, some (.str "SequenceMatcher" 389), some (.str "SequenceMatcher" 397), some (.builtin "object.__new__"), some (.bool true)] } : Obj),
 some ({ cls := .type "type", data := .cls { name := "Match", bases := [.type "tuple"], mro := [.ref 135, .type "tuple", .type "object"], ns := 134, qualname := "Match", hasDict := false }, slots := List.toArray [some (.ref 65), none, some (.str "Match" 253), some (.str "Match" 261), some .none, some (.bool false)] } : Obj),
 some ({ cls := .type "staticmethod", data := .fields (List.toArray [.ref 82]) } : Obj),
 some ({ cls := .type "function", data := .func { name := "__new__", qualname := "Match.__new__", params := fnParams (mthP p 3 4), body := .stmts (fnBody (mthP p 3 4)), scope := fnScope (mthP p 3 4), globals := mainGlobals, closure := [], defaults := .none, kwdefaults := .none, doc := .none, pyModule := .str "cpy313.difflib" 194, code := .ref 81, builtins := builtinsNs } } : Obj),
 some ({ cls := .type "code", data := .fields (List.toArray [.str "__new__" 274, .str "Match.__new__" 275, .str "/claim/cut.py" 276, .int 29 0, .int 4 0, .int 0 0, .int 0 0, .int 3 0, .ref 76, .bool true, .int 181 0, .ref 77, .none, .ref 78, .ref 79, .ref 80, .int 281 0, .int 29 0, .str "/claim/cut.py" 282]) } : Obj),
 some ({ cls := .type "function", data := .func { name := "__init__", qualname := "SequenceMatcher.__init__", params := fnParams (mthP p 5 1), body := .stmts (fnBody (mthP p 5 1)), scope := fnScope (mthP p 5 1), globals := mainGlobals, closure := [], defaults := .ref 153, kwdefaults := .none, doc := .none, pyModule := .str "cpy313.difflib" 194, code := .ref 159, builtins := builtinsNs } } : Obj),
 some ({ cls := .type "code", data := .fields (List.toArray [.str "__init__" 406, .str "SequenceMatcher.__init__" 407, .str "/claim/cut.py" 408, .int 145 0, .int 5 0, .int 0 0, .int 0 0, .int 3 0, .ref 154, .bool true, .int 181 0, .ref 155, .none, .ref 156, .ref 157, .ref 158, .int 414 0, .int 145 0, .str "/claim/cut.py" 415]) } : Obj),
 some ({ cls := .type "function", data := .func { name := "set_seqs", qualname := "SequenceMatcher.set_seqs", params := fnParams (mthP p 5 2), body := .stmts (fnBody (mthP p 5 2)), scope := fnScope (mthP p 5 2), globals := mainGlobals, closure := [], defaults := .none, kwdefaults := .none, doc := .none, pyModule := .str "cpy313.difflib" 194, code := .ref 166, builtins := builtinsNs } } : Obj),
 some ({ cls := .type "code", data := .fields (List.toArray [.str "set_seqs" 418, .str "SequenceMatcher.set_seqs" 419, .str "/claim/cut.py" 420, .int 173 0, .int 3 0, .int 0 0, .int 0 0, .int 3 0, .ref 161, .bool true, .int 181 0, .ref 162, .none, .ref 163, .ref 164, .ref 165, .int 424 0, .int 173 0, .str "/claim/cut.py" 425]) } : Obj),
 some ({ cls := .type "function", data := .func { name := "set_seq1", qualname := "SequenceMatcher.set_seq1", params := fnParams (mthP p 5 3), body := .stmts (fnBody (mthP p 5 3)), scope := fnScope (mthP p 5 3), globals := mainGlobals, closure := [], defaults := .none, kwdefaults := .none, doc := .none, pyModule := .str "cpy313.difflib" 194, code := .ref 173, builtins := builtinsNs } } : Obj),
 some ({ cls := .type "code", data := .fields (List.toArray [.str "set_seq1" 428, .str "SequenceMatcher.set_seq1" 429, .str "/claim/cut.py" 430, .int 184 0, .int 2 0, .int 0 0, .int 0 0, .int 3 0, .ref 168, .bool true, .int 181 0, .ref 169, .none, .ref 170, .ref 171, .ref 172, .int 433 0, .int 184 0, .str "/claim/cut.py" 434]) } : Obj),
 some ({ cls := .type "function", data := .func { name := "set_seq2", qualname := "SequenceMatcher.set_seq2", params := fnParams (mthP p 5 4), body := .stmts (fnBody (mthP p 5 4)), scope := fnScope (mthP p 5 4), globals := mainGlobals, closure := [], defaults := .none, kwdefaults := .none, doc := .none, pyModule := .str "cpy313.difflib" 194, code := .ref 180, builtins := builtinsNs } } : Obj),
 some ({ cls := .type "code", data := .fields (List.toArray [.str "set_seq2" 437, .str "SequenceMatcher.set_seq2" 438, .str "/claim/cut.py" 439, .int 209 0, .int 2 0, .int 0 0, .int 0 0, .int 3 0, .ref 175, .bool true, .int 181 0, .ref 176, .none, .ref 177, .ref 178, .ref 179, .int 442 0, .int 209 0, .str "/claim/cut.py" 443]) } : Obj),
 some ({ cls := .type "function", data := .func { name := "__chain_b", qualname := "SequenceMatcher.__chain_b", params := fnParams (mthP p 5 5), body := .stmts (fnBody (mthP p 5 5)), scope := fnScope (mthP p 5 5), globals := mainGlobals, closure := [], defaults := .none, kwdefaults := .none, doc := .none, pyModule := .str "cpy313.difflib" 194, code := .ref 187, builtins := builtinsNs } } : Obj),
 some ({ cls := .type "code", data := .fields (List.toArray [.str "__chain_b" 446, .str "SequenceMatcher.__chain_b" 447, .str "/claim/cut.py" 448, .int 236 0, .int 1 0, .int 0 0, .int 0 0, .int 3 0, .ref 182, .bool true, .int 181 0, .ref 183, .none, .ref 184, .ref 185, .ref 186, .int 461 0, .int 236 0, .str "/claim/cut.py" 462]) } : Obj),
 some ({ cls := .type "function", data := .func { name := "find_longest_match", qualname := "SequenceMatcher.find_longest_match", params := fnParams (mthP p 5 6), body := .stmts (fnBody (mthP p 5 6)), scope := fnScope (mthP p 5 6), globals := mainGlobals, closure := [], defaults := .ref 189, kwdefaults := .none, doc := .none, pyModule := .str "cpy313.difflib" 194, code := .ref 195, builtins := builtinsNs } } : Obj),
 some ({ cls := .type "code", data := .fields (List.toArray [.str "find_longest_match" 466, .str "SequenceMatcher.find_longest_match" 467, .str "/claim/cut.py" 468, .int 260 0, .int 5 0, .int 0 0, .int 0 0, .int 3 0, .ref 190, .bool true, .int 181 0, .ref 191, .none, .ref 192, .ref 193, .ref 194, .int 488 0, .int 260 0, .str "/claim/cut.py" 489]) } : Obj),
 some ({ cls := .type "tuple", data := .seq (List.toArray [.none, .str "" 404, .str "" 405, .bool true]) } : Obj),
 some ({ cls := .type "tuple", data := .seq (List.toArray [.int 0 464, .none, .int 0 465, .none]) } : Obj),
 some ({ cls := .type "getset_descriptor", data := .fields (List.toArray [.str "__dict__" 569, .ref 242, .builtin "function.__dict__", .builtin "function.__dict__#set"]) } : Obj),
 some ({ cls := .type "getset_descriptor", data := .fields (List.toArray [.str "__weakref__" 571, .ref 242, .builtin "ExceptionGroup.__weakref__", .none]) } : Obj)],
 some ((.type "dict", none, [], true, 3), [.str "__module__" 396, .str "__firstlineno__" 400, .str "__doc__" 402, .str "__init__" 417, .str "set_seqs" 427, .str "set_seq1" 436, .str "set_seq2" 445, .str "_SequenceMatcher__chain_b" 463, .str "find_longest_match" 491, .str "get_matching_blocks" 518, .str "get_opcodes" 525, .str "get_grouped_opcodes" 534, .str "ratio" 543, .str "quick_ratio" 550, .str "real_quick_ratio" 557, .str "__static_attributes__" 568, .str "__dict__" 570, .str "__weakref__" 572], [.str "cpy313.difflib" 194, .int 70 399, .none, .ref 160, .ref 167, .ref 174, .ref 181, .ref 188, .ref 196, .ref 203, .ref 210, .ref 218, .ref 225, .ref 232, .ref 239, .ref 240, .ref 243, .ref 244], [PyData.keyHash P "__module__", PyData.keyHash P "__firstlineno__", PyData.keyHash P "__doc__", PyData.keyHash P "__init__", PyData.keyHash P "set_seqs", PyData.keyHash P "set_seq1", PyData.keyHash P "set_seq2", PyData.keyHash P "_SequenceMatcher__chain_b", PyData.keyHash P "find_longest_match", PyData.keyHash P "get_matching_blocks", PyData.keyHash P "get_opcodes", PyData.keyHash P "get_grouped_opcodes", PyData.keyHash P "ratio", PyData.keyHash P "quick_ratio", PyData.keyHash P "real_quick_ratio", PyData.keyHash P "__static_attributes__", PyData.keyHash P "__dict__", PyData.keyHash P "__weakref__"]),
 some ((.type "dict", none, [], true, 2), [.str "__module__" 260, .str "__firstlineno__" 264, .str "__doc__" 266, .str "__slots__" 268, .str "_fields" 272, .str "_field_defaults" 273, .str "__new__" 284, .str "_make" 306, .str "_replace" 317, .str "__replace__" 318, .str "__repr__" 326, .str "_asdict" 333, .str "__getnewargs__" 341, .str "__match_args__" 345, .str "a" 355, .str "b" 365, .str "size" 375, .str "__static_attributes__" 376], [.str "cpy313.difflib" 194, .int 23 263, .none, .ref 73, .ref 74, .ref 75, .ref 136, .ref 91, .ref 100, .ref 100, .ref 107, .ref 114, .ref 121, .ref 122, .ref 124, .ref 127, .ref 130, .ref 132], [PyData.keyHash P "__module__", PyData.keyHash P "__firstlineno__", PyData.keyHash P "__doc__", PyData.keyHash P "__slots__", PyData.keyHash P "_fields", PyData.keyHash P "_field_defaults", PyData.keyHash P "__new__", PyData.keyHash P "_make", PyData.keyHash P "_replace", PyData.keyHash P "__replace__", PyData.keyHash P "__repr__", PyData.keyHash P "_asdict", PyData.keyHash P "__getnewargs__", PyData.keyHash P "__match_args__", PyData.keyHash P "a", PyData.keyHash P "b", PyData.keyHash P "size", PyData.keyHash P "__static_attributes__"]),
 some (some none))
theorem goodKp_eq (P : Params) : goodKp pw P = goodK P := by kernel_rfl
noncomputable def S0h (h : Heap) (os : OsState) : SharedT := ⟨treeOf h.objs.toList 0 .nil, 11, h.life, Array.mk [], boot_drawn, boot_toks, os⟩
noncomputable def lhsG (nf : Builtin) (p q : Program) (h : Heap) (w : World) (os : OsState) :=
  (topRunT (tbF nf) p w 11 (some (.ref 6)) 3000 (S0h h os) (topStub p)).map (fun s => ((staticsOk (importedModules p.main.body) h s.abs.heap && namesBound p s.abs.heap && gensDone s.abs && laidKept h s.abs.heap),
        openSeen q lo (importedModules p.main.body) nameOk true s.abs, seenK s.abs))
noncomputable def rhsG (p q : Program) (w : World) := some (true, openGood q lo, goodKp p w.params)
inductive TagS {α : Type} (b : α) : Type where
  | mk : TagS b
def TagS.of {α : Type} {a b : α} (_ : a = b) : TagS b := .mk
def taggedS {α : Type} {b : α} (_ : TagS b) : α := b
set_option maxHeartbeats 0 in
noncomputable def bootQ : Params → Heap := taggedS (TagS.mk : type_of% (TagS.of (by
  funext P
  delta boot_heap boot_o_0 boot_o_1 boot_o_2 boot_o_3 boot_o_4 boot_o_5 boot_o_6 boot_o_7 boot_o_8 boot_o_9 boot_o_10
  simp only [Str.ofString_eq_toList, String.reduceToList, List.map_cons, List.map_nil, Char.reduceToNat]
  exact rfl : boot_heap = _)))
theorem bootQ_eq : boot_heap = bootQ := by kernel_rfl
noncomputable def q3_0 : Stmt := taggedS (TagS.mk : type_of% (TagS.of (by conv => { lhs; whnf } : mth 3 0 = _)))
noncomputable def q3_1 : Stmt := taggedS (TagS.mk : type_of% (TagS.of (by conv => { lhs; whnf } : mth 3 1 = _)))
noncomputable def q3_2 : Stmt := taggedS (TagS.mk : type_of% (TagS.of (by conv => { lhs; whnf } : mth 3 2 = _)))
noncomputable def q3_3 : Stmt := taggedS (TagS.mk : type_of% (TagS.of (by conv => { lhs; whnf } : mth 3 3 = _)))
noncomputable def q3_4 : Stmt := taggedS (TagS.mk : type_of% (TagS.of (by conv => { lhs; whnf } : mth 3 4 = _)))
noncomputable def q3_5 : Stmt := taggedS (TagS.mk : type_of% (TagS.of (by conv => { lhs; whnf } : mth 3 5 = _)))
noncomputable def q3_6 : Stmt := taggedS (TagS.mk : type_of% (TagS.of (by conv => { lhs; whnf } : mth 3 6 = _)))
noncomputable def q3_7 : Stmt := taggedS (TagS.mk : type_of% (TagS.of (by conv => { lhs; whnf } : mth 3 7 = _)))
noncomputable def q3_8 : Stmt := taggedS (TagS.mk : type_of% (TagS.of (by conv => { lhs; whnf } : mth 3 8 = _)))
noncomputable def q3_9 : Stmt := taggedS (TagS.mk : type_of% (TagS.of (by conv => { lhs; whnf } : mth 3 9 = _)))
noncomputable def q3_10 : Stmt := taggedS (TagS.mk : type_of% (TagS.of (by conv => { lhs; whnf } : mth 3 10 = _)))
noncomputable def q3_11 : Stmt := taggedS (TagS.mk : type_of% (TagS.of (by conv => { lhs; whnf } : mth 3 11 = _)))
noncomputable def q3_12 : Stmt := taggedS (TagS.mk : type_of% (TagS.of (by conv => { lhs; whnf } : mth 3 12 = _)))
noncomputable def q3_13 : Stmt := taggedS (TagS.mk : type_of% (TagS.of (by conv => { lhs; whnf } : mth 3 13 = _)))
noncomputable def q3_14 : Stmt := taggedS (TagS.mk : type_of% (TagS.of (by conv => { lhs; whnf } : mth 3 14 = _)))
noncomputable def q5_0 : Stmt := taggedS (TagS.mk : type_of% (TagS.of (by conv => { lhs; whnf } : mth 5 0 = _)))
noncomputable def q5_1 : Stmt := taggedS (TagS.mk : type_of% (TagS.of (by conv => { lhs; whnf } : mth 5 1 = _)))
noncomputable def q5_2 : Stmt := taggedS (TagS.mk : type_of% (TagS.of (by conv => { lhs; whnf } : mth 5 2 = _)))
noncomputable def q5_3 : Stmt := taggedS (TagS.mk : type_of% (TagS.of (by conv => { lhs; whnf } : mth 5 3 = _)))
noncomputable def q5_4 : Stmt := taggedS (TagS.mk : type_of% (TagS.of (by conv => { lhs; whnf } : mth 5 4 = _)))
noncomputable def q5_5 : Stmt := taggedS (TagS.mk : type_of% (TagS.of (by conv => { lhs; whnf } : mth 5 5 = _)))
noncomputable def q5_6 : Stmt := taggedS (TagS.mk : type_of% (TagS.of (by conv => { lhs; whnf } : mth 5 6 = _)))
noncomputable def q5_7 : Stmt := taggedS (TagS.mk : type_of% (TagS.of (by conv => { lhs; whnf } : mth 5 7 = _)))
noncomputable def q5_8 : Stmt := taggedS (TagS.mk : type_of% (TagS.of (by conv => { lhs; whnf } : mth 5 8 = _)))
noncomputable def q5_9 : Stmt := taggedS (TagS.mk : type_of% (TagS.of (by conv => { lhs; whnf } : mth 5 9 = _)))
noncomputable def q5_10 : Stmt := taggedS (TagS.mk : type_of% (TagS.of (by conv => { lhs; whnf } : mth 5 10 = _)))
noncomputable def q5_11 : Stmt := taggedS (TagS.mk : type_of% (TagS.of (by conv => { lhs; whnf } : mth 5 11 = _)))
noncomputable def q5_12 : Stmt := taggedS (TagS.mk : type_of% (TagS.of (by conv => { lhs; whnf } : mth 5 12 = _)))
noncomputable def q0 : Stmt := taggedS (TagS.mk : type_of% (TagS.of (by conv => { lhs; whnf } : stAt pw 0 = _)))
noncomputable def q1 : Stmt := taggedS (TagS.mk : type_of% (TagS.of (by conv => { lhs; whnf } : stAt pw 1 = _)))
noncomputable def q2 : Stmt := taggedS (TagS.mk : type_of% (TagS.of (by conv => { lhs; whnf } : stAt pw 2 = _)))
noncomputable def kl3 : List Stmt → Stmt := taggedS (TagS.mk : type_of% (TagS.of (by funext l; conv => { lhs; whnf } : (fun l => match stAt pw 3 with | .ClassDef a b c _ e f g h i j k => Stmt.ClassDef a b c l e f g h i j k | x => x) = _)))
noncomputable def q4 : Stmt := taggedS (TagS.mk : type_of% (TagS.of (by conv => { lhs; whnf } : stAt pw 4 = _)))
noncomputable def kl5 : List Stmt → Stmt := taggedS (TagS.mk : type_of% (TagS.of (by funext l; conv => { lhs; whnf } : (fun l => match stAt pw 5 with | .ClassDef a b c _ e f g h i j k => Stmt.ClassDef a b c l e f g h i j k | x => x) = _)))
noncomputable def q6 : Stmt := taggedS (TagS.mk : type_of% (TagS.of (by conv => { lhs; whnf } : stAt pw 6 = _)))
noncomputable def q7 : Stmt := taggedS (TagS.mk : type_of% (TagS.of (by conv => { lhs; whnf } : stAt pw 7 = _)))
noncomputable def q8 : Stmt := taggedS (TagS.mk : type_of% (TagS.of (by conv => { lhs; whnf } : stAt pw 8 = _)))
noncomputable def q9 : Stmt := taggedS (TagS.mk : type_of% (TagS.of (by conv => { lhs; whnf } : stAt pw 9 = _)))
noncomputable def q10 : Stmt := taggedS (TagS.mk : type_of% (TagS.of (by conv => { lhs; whnf } : stAt pw 10 = _)))
noncomputable def q11 : Stmt := taggedS (TagS.mk : type_of% (TagS.of (by conv => { lhs; whnf } : stAt pw 11 = _)))
noncomputable def q12 : Stmt := taggedS (TagS.mk : type_of% (TagS.of (by conv => { lhs; whnf } : stAt pw 12 = _)))
noncomputable def q13 : Stmt := taggedS (TagS.mk : type_of% (TagS.of (by conv => { lhs; whnf } : stAt pw 13 = _)))
noncomputable def q14 : Stmt := taggedS (TagS.mk : type_of% (TagS.of (by conv => { lhs; whnf } : stAt pw 14 = _)))
noncomputable def qsc : Scope := taggedS (TagS.mk : type_of% (TagS.of (by conv => { lhs; whnf } : pw.main.scope = _)))
noncomputable def qgv : Given := taggedS (TagS.mk : type_of% (TagS.of (by conv => { lhs; whnf } : pw.given = _)))
noncomputable def pwF (A B C D E : List Stmt) : Program := { main := { body := A ++ kl3 (q3_0 :: B) :: (C ++ kl5 (q5_0 :: D) :: E), scope := qsc, futureAnnotations := false, file := "/claim/cut.py", more := [] }, modules := [], parses := [], absent := [], harvested := [], given := qgv }
theorem pwP_eq : pw = pwF [q0, q1, q2] [q3_1, q3_2, q3_3, q3_4, q3_5, q3_6, q3_7, q3_8, q3_9, q3_10, q3_11, q3_12, q3_13, q3_14] [q4] [q5_1, q5_2, q5_3, q5_4, q5_5, q5_6, q5_7, q5_8, q5_9, q5_10, q5_11, q5_12] [q6, q7, q8, q9, q10, q11, q12, q13, q14] := by kernel_rfl
noncomputable def wsG (p : Program) : Bool := OpenLaw.wellSaid { prog := p, name := "law", about := ["SequenceMatcher", "find_longest_match"], foot := 3, most := some 63, bound := none, writes := false }
end Mine
lay_quick Mine.lhsG Mine.rhsG Mine.pwF Mine.wsG

end
section
open PySem PySem.W PyProof.Rows
set_option Elab.async false
set_option maxRecDepth 100000
set_option maxHeartbeats 0
namespace Mine
noncomputable def pwQ : Program := PySem.W.Fast.tw14406647605539192714 [q0, q1, q2] [q3_1, q3_2, q3_3, q3_4, q3_5, q3_6, q3_7, q3_8, q3_9, q3_10, q3_11, q3_12, q3_13, q3_14] [q4] [q5_1, q5_2, q5_3, q5_4, q5_5, q5_6, q5_7, q5_8, q5_9, q5_10, q5_11, q5_12] [q6, q7, q8, q9, q10, q11, q12, q13, q14]
theorem pwQ_eq : pw = pwQ := by rw [pwP_eq, PySem.W.Fast.te14406647605539192714]; rfl
theorem run_in (w : World) (os : OsState) : PySem.W.Fast.tw5324144008161217023 newFast pwQ (view pwQ [0, 1, 4, 6, 7, 8, 9, 10, 11, 12, 13, 14]) (bootQ w.params) w os = PySem.W.Fast.tw6136455705401177574 pwQ (view pwQ [0, 1, 4, 6, 7, 8, 9, 10, 11, 12, 13, 14]) w := by kernel_rfl
theorem run_ok (w : World) (os : OsState) : lhsG newFast pw qv (boot_heap w.params) w os = some (true, openGood qv lo, goodK w.params) := by
  show lhsG newFast pw (view pw [0, 1, 4, 6, 7, 8, 9, 10, 11, 12, 13, 14]) (boot_heap w.params) w os = some (true, openGood (view pw [0, 1, 4, 6, 7, 8, 9, 10, 11, 12, 13, 14]) lo, goodK w.params)
  rw [← goodKp_eq]
  show _ = rhsG pw (view pw [0, 1, 4, 6, 7, 8, 9, 10, 11, 12, 13, 14]) w
  rw [PySem.W.Fast.te5324144008161217023, PySem.W.Fast.te6136455705401177574, bootQ_eq, pwQ_eq]
  exact run_in w os
theorem ws_in : PySem.W.Fast.tw6752274879689307559 pwQ = true := by kernel_rfl
theorem ws_ok : PySem.Challenge.rw_nq0312_01.wellSaid = true := by
  show wsG pw = true
  rw [PySem.W.Fast.te6752274879689307559, pwQ_eq]
  exact ws_in
end Mine

end
section
open PySem PySem.W PyProof.Rows
set_option Elab.async false
set_option maxRecDepth 100000
set_option maxHeartbeats 8000000
namespace Mine
noncomputable def seenH (h : Heap) := seenK { heap := h }
def GotK (w : World) (h : Heap) : Prop := seenH h = goodK w.params
theorem map_keeps {α : Type} {h h' : Heap} {a : Addr} {f : Obj → α} {x : α} (k : ∀ b o, h.get? b = some o → h'.get? b = some o) (e : (h.get? a).map f = some x) : (h'.get? a).map f = some x := by
  obtain ⟨o, ho, hx⟩ := Option.map_eq_some_iff.mp e
  rw [k _ _ ho]; exact congrArg some hx
def asQ : List Addr := [242, 135, 136, 82, 81, 160, 159, 167, 166, 174, 173, 181, 180, 188, 187, 196, 195, 153, 189, 243, 244]
theorem map_same {α : Type} {h h' : Heap} {a : Addr} {f : Obj → α} (k : ∀ b o, h.get? b = some o → h'.get? b = some o) (e : ((h.get? a).map f).isSome = true) : (h'.get? a).map f = (h.get? a).map f := by
  cases q : h.get? a with
  | none => rw [q] at e; cases e
  | some o => rw [k _ _ q]
theorem maps_same {h h' : Heap} (k : ∀ b o, h.get? b = some o → h'.get? b = some o) : ∀ l : List Addr, (l.map fun a => (h.get? a).map noDoc).all Option.isSome = true → (l.map fun a => (h'.get? a).map noDoc) = l.map fun a => (h.get? a).map noDoc
  | [], _ => rfl
  | a :: l, e => by
    rw [List.map_cons, List.all_cons, Bool.and_eq_true] at e
    rw [List.map_cons, List.map_cons, map_same k e.1, maps_same k l e.2]
theorem GotK.keeps {w : World} {h h' : Heap} (x : GotK w h) (k : ∀ b o, h.get? b = some o → h'.get? b = some o) : GotK w h' := by
  have e : seenH h' = seenH h := Prod.ext (maps_same k asQ (congrArg (fun t => t.1.all Option.isSome) x)) (Prod.ext (map_same k (congrArg (fun t => t.2.1.isSome) x)) (Prod.ext (map_same k (congrArg (fun t => t.2.2.1.isSome) x)) (map_same k (congrArg (fun t => t.2.2.2.isSome) x))))
  exact e.trans x
theorem left1 : LeftO pw qv lo nameOk seenK (fun w => goodK w.params) 3000 true :=
  left_of (by kernel_rfl) (by kernel_rfl) (fun _ => by kernel_rfl) run_ok
noncomputable def lawD : DefRec := match defOf qv "law" with | some x => x.1 | none => ⟨"", ⟨[], [], none, [], [], none, []⟩, [], default, default⟩
abbrev NamesK : (Str → Option Value) → Heap → Prop := fun mg _ => mg "SequenceMatcher" = some (.ref 242) ∧ mg "Match" = some (.ref 135)
theorem head1 (call : WalkO qv lo NamesK GotK PySem.Challenge.rw_nq0312_01.row.toRowW lawD [] fun f vs => PySem.call f vs) : PySem.Challenge.rw_nq0312_01.Holds := by
  refine PySem.W.holds_law ws_ok fun said => ?_
  refine PySem.W.holds_open (q := qv) (loose := lo) (Xt := nameOk) (XP := NamesK) (Yf := seenK) (Ya := fun w => goodK w.params) (YP := GotK) (d := lawD) (kwd := []) (N := 3000) left1 (fun _ _ e => e) (fun _ _ _ x k => GotK.keeps x k)
    (fun s e => ?_) (fun _ _ _ x _ => x)
    (by kernel_rfl) (by kernel_rfl) (by kernel_rfl) (fun s _ => recFacts_nil rfl) (by rfl) (by assumption) (by decide +kernel) ⟨rfl, rfl, rfl, rfl, rfl, by decide +kernel⟩ ?hw call
  · unfold nameOk at e
    simp only [Bool.and_eq_true, beq_iff_eq] at e
    exact e
  · w_witness2
end Mine

end
section
open PySem PySem.W PyProof.Rows
set_option Elab.async false
set_option maxRecDepth 100000
set_option maxHeartbeats 8000000
namespace Mine
theorem undoc_fn {x : Option Obj} {c : Value} {dd : Option Addr} {f : FuncData} {sl : Array (Option Value)} (e : x.map noDoc = some ⟨c, dd, .func f, sl⟩) : ∃ d, x = some ⟨c, dd, .func { f with doc := d }, sl⟩ := by
  obtain ⟨o, rfl, e1⟩ := Option.map_eq_some_iff.mp e
  obtain ⟨c', dd', dt, sl'⟩ := o
  cases dt
  case func f0 =>
    have e' : (⟨c', dd', .func { f0 with doc := .none }, sl'⟩ : Obj) = ⟨c, dd, .func f, sl⟩ := e1
    simp only [Obj.mk.injEq, Data.func.injEq] at e'
    obtain ⟨rfl, rfl, rfl, rfl⟩ := e'
    exact ⟨f0.doc, rfl⟩
  all_goals (exfalso; have e2 := congrArg (fun o : Obj => match o.data with | .func _ => true | _ => false) e1; cases e2)
theorem undoc_other {x : Option Obj} {O : Obj} (e : x.map noDoc = some O) (h : (match O.data with | .func _ => true | _ => false) = false) : x = some O := by
  obtain ⟨o, rfl, e1⟩ := Option.map_eq_some_iff.mp e
  obtain ⟨c', dd', dt, sl'⟩ := o
  cases dt <;> first | (exact congrArg some e1) | (subst e1; cases h)
theorem undoc_dict {x : Option Obj} {c : Value} {dd : Option Addr} {sl : List (Option Value)} {ep : Nat} {ks vs : List Value} {hs : List Int} (e : x.map seeD = some ((c, dd, sl, true, ep), ks, vs, hs)) :
    ∃ es : List DictEntry, x = some ⟨c, dd, .dict es.toArray ep, sl.toArray⟩ ∧ es.map (fun e => e.key) = ks ∧ es.map (fun e => (noDocE e).val) = vs ∧ es.map (fun e => e.hash) = hs := by
  obtain ⟨o, rfl, e1⟩ := Option.map_eq_some_iff.mp e
  obtain ⟨c', dd', dt, sl'⟩ := o
  simp only [seeD, Prod.mk.injEq] at e1
  obtain ⟨⟨rfl, rfl, rfl, h4, rfl⟩, rfl, rfl, rfl⟩ := e1
  cases dt <;> first | cases h4 | skip
  rename_i es n
  exact ⟨es.toList, by simp [epochOf], rfl, rfl, rfl⟩
end Mine

end
section
open PySem PySem.W PyProof.Rows
set_option Elab.async false
set_option maxRecDepth 100000
set_option maxHeartbeats 8000000
namespace Mine
theorem ent_back {e x : DictEntry} (hk : e.key = x.key) (hv : (noDocE e).val = x.val) (hh : e.hash = x.hash) (hn : x.key.isStr "__doc__" = false) : e = x := by
  obtain ⟨a, b, c⟩ := e
  obtain ⟨a', b', c'⟩ := x
  dsimp only at hk hh hn
  subst hk hh
  unfold noDocE at hv
  dsimp only at hv
  rw [hn] at hv
  dsimp only at hv
  rw [hv]
theorem pre_back : ∀ {pre es : List DictEntry}, es.map (fun e => e.key) = pre.map (fun e => e.key) → es.map (fun e => (noDocE e).val) = pre.map (fun e => e.val) → es.map (fun e => e.hash) = pre.map (fun e => e.hash) →
    pre.all (fun e => !e.key.isStr "__doc__") = true → es = pre
  | [], [], _, _, _, _ => rfl
  | [], _ :: _, h, _, _, _ => by simp at h
  | _ :: _, [], h, _, _, _ => by simp at h
  | x :: r, e :: es, h1, h2, h3, h4 => by
    simp only [List.map_cons, List.cons.injEq, List.all_cons, Bool.and_eq_true, Bool.not_eq_true'] at h1 h2 h3 h4
    rw [ent_back h1.1 h2.1 h3.1 h4.1, pre_back h1.2 h2.2 h3.2 h4.2]
theorem ents_back {pre post es : List DictEntry} {kd : Value} {hd : Int} {ks vs : List Value} {hs : List Int} (h1 : es.map (fun e => e.key) = ks) (h2 : es.map (fun e => (noDocE e).val) = vs) (h3 : es.map (fun e => e.hash) = hs)
    (c1 : pre.all (fun e => !e.key.isStr "__doc__") = true) (c2 : post.all (fun e => !e.key.isStr "__doc__") = true)
    (e1 : ks = pre.map (fun e => e.key) ++ kd :: post.map (fun e => e.key) := by rfl) (e2 : vs = pre.map (fun e => e.val) ++ .none :: post.map (fun e => e.val) := by rfl) (e3 : hs = pre.map (fun e => e.hash) ++ hd :: post.map (fun e => e.hash) := by rfl) :
    ∃ d, es = pre ++ ⟨hd, kd, d⟩ :: post := by
  subst e1 e2 e3
  obtain ⟨a, b, rfl, ha, hb⟩ := List.map_eq_append_iff.mp h1
  obtain ⟨x, r, rfl, hx, hr⟩ := List.map_eq_cons_iff.mp hb
  have la : a.length = pre.length := by simpa using congrArg List.length ha
  rw [List.map_append, List.map_cons] at h2 h3
  obtain ⟨p1, p2⟩ := List.append_inj h2 (by simp [la])
  obtain ⟨q1, q2⟩ := List.append_inj h3 (by simp [la])
  simp only [List.cons.injEq] at p2 q2
  rw [pre_back ha p1 q1 c1, pre_back hr p2.2 q2.2 c2]
  obtain ⟨xh, xk, xv⟩ := x
  dsimp only at hx q2
  exact ⟨xv, by rw [hx, q2.1]⟩
noncomputable def KD (P : Params) (d : Nat → Value) : Frag := [
  (242, { cls := .type "type", data := .cls { name := "SequenceMatcher", bases := [.type "object"], mro := [.ref 242, .type "object"], ns := 241, qualname := "SequenceMatcher" }, slots := List.toArray [none, none, some (.str "SequenceMatcher" 389), some (.str "SequenceMatcher" 397), some (.builtin "object.__new__"), some (.bool true)] }),
  (135, { cls := .type "type", data := .cls { name := "Match", bases := [.type "tuple"], mro := [.ref 135, .type "tuple", .type "object"], ns := 134, qualname := "Match", hasDict := false }, slots := List.toArray [some (.ref 65), none, some (.str "Match" 253), some (.str "Match" 261), some .none, some (.bool false)] }),
  (136, { cls := .type "staticmethod", data := .fields (List.toArray [.ref 82]) }),
  (82, { cls := .type "function", data := .func { name := "__new__", qualname := "Match.__new__", params := fnParams (mth 3 4), body := .stmts (fnBody (mth 3 4)), scope := fnScope (mth 3 4), globals := mainGlobals, closure := [], defaults := .none, kwdefaults := .none, doc := d 82, pyModule := .str "cpy313.difflib" 194, code := .ref 81, builtins := builtinsNs } }),
  (81, { cls := .type "code", data := .fields (List.toArray [.str "__new__" 274, .str "Match.__new__" 275, .str "/claim/cut.py" 276, .int 29 0, .int 4 0, .int 0 0, .int 0 0, .int 3 0, .ref 76, .bool true, .int 181 0, .ref 77, .none, .ref 78, .ref 79, .ref 80, .int 281 0, .int 29 0, .str "/claim/cut.py" 282]) }),
  (160, { cls := .type "function", data := .func { name := "__init__", qualname := "SequenceMatcher.__init__", params := fnParams (mth 5 1), body := .stmts (fnBody (mth 5 1)), scope := fnScope (mth 5 1), globals := mainGlobals, closure := [], defaults := .ref 153, kwdefaults := .none, doc := d 160, pyModule := .str "cpy313.difflib" 194, code := .ref 159, builtins := builtinsNs } }),
  (159, { cls := .type "code", data := .fields (List.toArray [.str "__init__" 406, .str "SequenceMatcher.__init__" 407, .str "/claim/cut.py" 408, .int 145 0, .int 5 0, .int 0 0, .int 0 0, .int 3 0, .ref 154, .bool true, .int 181 0, .ref 155, .none, .ref 156, .ref 157, .ref 158, .int 414 0, .int 145 0, .str "/claim/cut.py" 415]) }),
  (167, { cls := .type "function", data := .func { name := "set_seqs", qualname := "SequenceMatcher.set_seqs", params := fnParams (mth 5 2), body := .stmts (fnBody (mth 5 2)), scope := fnScope (mth 5 2), globals := mainGlobals, closure := [], defaults := .none, kwdefaults := .none, doc := d 167, pyModule := .str "cpy313.difflib" 194, code := .ref 166, builtins := builtinsNs } }),
  (166, { cls := .type "code", data := .fields (List.toArray [.str "set_seqs" 418, .str "SequenceMatcher.set_seqs" 419, .str "/claim/cut.py" 420, .int 173 0, .int 3 0, .int 0 0, .int 0 0, .int 3 0, .ref 161, .bool true, .int 181 0, .ref 162, .none, .ref 163, .ref 164, .ref 165, .int 424 0, .int 173 0, .str "/claim/cut.py" 425]) }),
  (174, { cls := .type "function", data := .func { name := "set_seq1", qualname := "SequenceMatcher.set_seq1", params := fnParams (mth 5 3), body := .stmts (fnBody (mth 5 3)), scope := fnScope (mth 5 3), globals := mainGlobals, closure := [], defaults := .none, kwdefaults := .none, doc := d 174, pyModule := .str "cpy313.difflib" 194, code := .ref 173, builtins := builtinsNs } }),
  (173, { cls := .type "code", data := .fields (List.toArray [.str "set_seq1" 428, .str "SequenceMatcher.set_seq1" 429, .str "/claim/cut.py" 430, .int 184 0, .int 2 0, .int 0 0, .int 0 0, .int 3 0, .ref 168, .bool true, .int 181 0, .ref 169, .none, .ref 170, .ref 171, .ref 172, .int 433 0, .int 184 0, .str "/claim/cut.py" 434]) }),
  (181, { cls := .type "function", data := .func { name := "set_seq2", qualname := "SequenceMatcher.set_seq2", params := fnParams (mth 5 4), body := .stmts (fnBody (mth 5 4)), scope := fnScope (mth 5 4), globals := mainGlobals, closure := [], defaults := .none, kwdefaults := .none, doc := d 181, pyModule := .str "cpy313.difflib" 194, code := .ref 180, builtins := builtinsNs } }),
  (180, { cls := .type "code", data := .fields (List.toArray [.str "set_seq2" 437, .str "SequenceMatcher.set_seq2" 438, .str "/claim/cut.py" 439, .int 209 0, .int 2 0, .int 0 0, .int 0 0, .int 3 0, .ref 175, .bool true, .int 181 0, .ref 176, .none, .ref 177, .ref 178, .ref 179, .int 442 0, .int 209 0, .str "/claim/cut.py" 443]) }),
  (188, { cls := .type "function", data := .func { name := "__chain_b", qualname := "SequenceMatcher.__chain_b", params := fnParams (mth 5 5), body := .stmts (fnBody (mth 5 5)), scope := fnScope (mth 5 5), globals := mainGlobals, closure := [], defaults := .none, kwdefaults := .none, doc := d 188, pyModule := .str "cpy313.difflib" 194, code := .ref 187, builtins := builtinsNs } }),
  (187, { cls := .type "code", data := .fields (List.toArray [.str "__chain_b" 446, .str "SequenceMatcher.__chain_b" 447, .str "/claim/cut.py" 448, .int 236 0, .int 1 0, .int 0 0, .int 0 0, .int 3 0, .ref 182, .bool true, .int 181 0, .ref 183, .none, .ref 184, .ref 185, .ref 186, .int 461 0, .int 236 0, .str "/claim/cut.py" 462]) }),
  (196, { cls := .type "function", data := .func { name := "find_longest_match", qualname := "SequenceMatcher.find_longest_match", params := fnParams (mth 5 6), body := .stmts (fnBody (mth 5 6)), scope := fnScope (mth 5 6), globals := mainGlobals, closure := [], defaults := .ref 189, kwdefaults := .none, doc := d 196, pyModule := .str "cpy313.difflib" 194, code := .ref 195, builtins := builtinsNs } }),
  (195, { cls := .type "code", data := .fields (List.toArray [.str "find_longest_match" 466, .str "SequenceMatcher.find_longest_match" 467, .str "/claim/cut.py" 468, .int 260 0, .int 5 0, .int 0 0, .int 0 0, .int 3 0, .ref 190, .bool true, .int 181 0, .ref 191, .none, .ref 192, .ref 193, .ref 194, .int 488 0, .int 260 0, .str "/claim/cut.py" 489]) }),
  (153, { cls := .type "tuple", data := .seq (List.toArray [.none, .str "" 404, .str "" 405, .bool true]) }),
  (189, { cls := .type "tuple", data := .seq (List.toArray [.int 0 464, .none, .int 0 465, .none]) }),
  (243, { cls := .type "getset_descriptor", data := .fields (List.toArray [.str "__dict__" 569, .ref 242, .builtin "function.__dict__", .builtin "function.__dict__#set"]) }),
  (244, { cls := .type "getset_descriptor", data := .fields (List.toArray [.str "__weakref__" 571, .ref 242, .builtin "ExceptionGroup.__weakref__", .none]) }),
  (241, { cls := .type "dict", data := .dict (List.toArray [⟨PyData.keyHash P "__module__", .str "__module__" 396, .str "cpy313.difflib" 194⟩,
    ⟨PyData.keyHash P "__firstlineno__", .str "__firstlineno__" 400, .int 70 399⟩,
    ⟨PyData.keyHash P "__doc__", .str "__doc__" 402, d 241⟩,
    ⟨PyData.keyHash P "__init__", .str "__init__" 417, .ref 160⟩,
    ⟨PyData.keyHash P "set_seqs", .str "set_seqs" 427, .ref 167⟩,
    ⟨PyData.keyHash P "set_seq1", .str "set_seq1" 436, .ref 174⟩,
    ⟨PyData.keyHash P "set_seq2", .str "set_seq2" 445, .ref 181⟩,
    ⟨PyData.keyHash P "_SequenceMatcher__chain_b", .str "_SequenceMatcher__chain_b" 463, .ref 188⟩,
    ⟨PyData.keyHash P "find_longest_match", .str "find_longest_match" 491, .ref 196⟩,
    ⟨PyData.keyHash P "get_matching_blocks", .str "get_matching_blocks" 518, .ref 203⟩,
    ⟨PyData.keyHash P "get_opcodes", .str "get_opcodes" 525, .ref 210⟩,
    ⟨PyData.keyHash P "get_grouped_opcodes", .str "get_grouped_opcodes" 534, .ref 218⟩,
    ⟨PyData.keyHash P "ratio", .str "ratio" 543, .ref 225⟩,
    ⟨PyData.keyHash P "quick_ratio", .str "quick_ratio" 550, .ref 232⟩,
    ⟨PyData.keyHash P "real_quick_ratio", .str "real_quick_ratio" 557, .ref 239⟩,
    ⟨PyData.keyHash P "__static_attributes__", .str "__static_attributes__" 568, .ref 240⟩,
    ⟨PyData.keyHash P "__dict__", .str "__dict__" 570, .ref 243⟩,
    ⟨PyData.keyHash P "__weakref__", .str "__weakref__" 572, .ref 244⟩]) 3 }),
  (134, { cls := .type "dict", data := .dict (List.toArray [⟨PyData.keyHash P "__module__", .str "__module__" 260, .str "cpy313.difflib" 194⟩,
    ⟨PyData.keyHash P "__firstlineno__", .str "__firstlineno__" 264, .int 23 263⟩,
    ⟨PyData.keyHash P "__doc__", .str "__doc__" 266, d 134⟩,
    ⟨PyData.keyHash P "__slots__", .str "__slots__" 268, .ref 73⟩,
    ⟨PyData.keyHash P "_fields", .str "_fields" 272, .ref 74⟩,
    ⟨PyData.keyHash P "_field_defaults", .str "_field_defaults" 273, .ref 75⟩,
    ⟨PyData.keyHash P "__new__", .str "__new__" 284, .ref 136⟩,
    ⟨PyData.keyHash P "_make", .str "_make" 306, .ref 91⟩,
    ⟨PyData.keyHash P "_replace", .str "_replace" 317, .ref 100⟩,
    ⟨PyData.keyHash P "__replace__", .str "__replace__" 318, .ref 100⟩,
    ⟨PyData.keyHash P "__repr__", .str "__repr__" 326, .ref 107⟩,
    ⟨PyData.keyHash P "_asdict", .str "_asdict" 333, .ref 114⟩,
    ⟨PyData.keyHash P "__getnewargs__", .str "__getnewargs__" 341, .ref 121⟩,
    ⟨PyData.keyHash P "__match_args__", .str "__match_args__" 345, .ref 122⟩,
    ⟨PyData.keyHash P "a", .str "a" 355, .ref 124⟩,
    ⟨PyData.keyHash P "b", .str "b" 365, .ref 127⟩,
    ⟨PyData.keyHash P "size", .str "size" 375, .ref 130⟩,
    ⟨PyData.keyHash P "__static_attributes__", .str "__static_attributes__" 376, .ref 132⟩]) 2 })]
def asD : List Addr := [242, 135, 136, 82, 81, 160, 159, 167, 166, 174, 173, 181, 180, 188, 187, 196, 195, 153, 189, 243, 244, 241, 134]
theorem kd_in {w : World} {h : Heap} (x : GotK w h) : ∃ d, (KD w.params d).In h := by
  unfold GotK seenH seenK goodK at x
  simp only [Prod.mk.injEq, List.cons.injEq, and_true] at x
  obtain ⟨⟨g242, g135, g136, g82, g81, g160, g159, g167, g166, g174, g173, g181, g180, g188, g187, g196, g195, g153, g189, g243, g244⟩, g241, g134, _⟩ := x
  replace g242 := undoc_other g242 rfl
  replace g135 := undoc_other g135 rfl
  replace g136 := undoc_other g136 rfl
  obtain ⟨d82, g82⟩ := undoc_fn g82
  replace g81 := undoc_other g81 rfl
  obtain ⟨d160, g160⟩ := undoc_fn g160
  replace g159 := undoc_other g159 rfl
  obtain ⟨d167, g167⟩ := undoc_fn g167
  replace g166 := undoc_other g166 rfl
  obtain ⟨d174, g174⟩ := undoc_fn g174
  replace g173 := undoc_other g173 rfl
  obtain ⟨d181, g181⟩ := undoc_fn g181
  replace g180 := undoc_other g180 rfl
  obtain ⟨d188, g188⟩ := undoc_fn g188
  replace g187 := undoc_other g187 rfl
  obtain ⟨d196, g196⟩ := undoc_fn g196
  replace g195 := undoc_other g195 rfl
  replace g153 := undoc_other g153 rfl
  replace g189 := undoc_other g189 rfl
  replace g243 := undoc_other g243 rfl
  replace g244 := undoc_other g244 rfl
  obtain ⟨es241, g241, k241, v241, q241⟩ := undoc_dict g241
  obtain ⟨d241, z241⟩ := ents_back (pre := [⟨PyData.keyHash w.params "__module__", .str "__module__" 396, .str "cpy313.difflib" 194⟩, ⟨PyData.keyHash w.params "__firstlineno__", .str "__firstlineno__" 400, .int 70 399⟩]) (post := [⟨PyData.keyHash w.params "__init__", .str "__init__" 417, .ref 160⟩, ⟨PyData.keyHash w.params "set_seqs", .str "set_seqs" 427, .ref 167⟩, ⟨PyData.keyHash w.params "set_seq1", .str "set_seq1" 436, .ref 174⟩, ⟨PyData.keyHash w.params "set_seq2", .str "set_seq2" 445, .ref 181⟩, ⟨PyData.keyHash w.params "_SequenceMatcher__chain_b", .str "_SequenceMatcher__chain_b" 463, .ref 188⟩, ⟨PyData.keyHash w.params "find_longest_match", .str "find_longest_match" 491, .ref 196⟩, ⟨PyData.keyHash w.params "get_matching_blocks", .str "get_matching_blocks" 518, .ref 203⟩, ⟨PyData.keyHash w.params "get_opcodes", .str "get_opcodes" 525, .ref 210⟩, ⟨PyData.keyHash w.params "get_grouped_opcodes", .str "get_grouped_opcodes" 534, .ref 218⟩, ⟨PyData.keyHash w.params "ratio", .str "ratio" 543, .ref 225⟩, ⟨PyData.keyHash w.params "quick_ratio", .str "quick_ratio" 550, .ref 232⟩, ⟨PyData.keyHash w.params "real_quick_ratio", .str "real_quick_ratio" 557, .ref 239⟩, ⟨PyData.keyHash w.params "__static_attributes__", .str "__static_attributes__" 568, .ref 240⟩, ⟨PyData.keyHash w.params "__dict__", .str "__dict__" 570, .ref 243⟩, ⟨PyData.keyHash w.params "__weakref__", .str "__weakref__" 572, .ref 244⟩]) (kd := .str "__doc__" 402) (hd := PyData.keyHash w.params "__doc__") k241 v241 q241 (by kernel_rfl) (by kernel_rfl)
  subst z241
  obtain ⟨es134, g134, k134, v134, q134⟩ := undoc_dict g134
  obtain ⟨d134, z134⟩ := ents_back (pre := [⟨PyData.keyHash w.params "__module__", .str "__module__" 260, .str "cpy313.difflib" 194⟩, ⟨PyData.keyHash w.params "__firstlineno__", .str "__firstlineno__" 264, .int 23 263⟩]) (post := [⟨PyData.keyHash w.params "__slots__", .str "__slots__" 268, .ref 73⟩, ⟨PyData.keyHash w.params "_fields", .str "_fields" 272, .ref 74⟩, ⟨PyData.keyHash w.params "_field_defaults", .str "_field_defaults" 273, .ref 75⟩, ⟨PyData.keyHash w.params "__new__", .str "__new__" 284, .ref 136⟩, ⟨PyData.keyHash w.params "_make", .str "_make" 306, .ref 91⟩, ⟨PyData.keyHash w.params "_replace", .str "_replace" 317, .ref 100⟩, ⟨PyData.keyHash w.params "__replace__", .str "__replace__" 318, .ref 100⟩, ⟨PyData.keyHash w.params "__repr__", .str "__repr__" 326, .ref 107⟩, ⟨PyData.keyHash w.params "_asdict", .str "_asdict" 333, .ref 114⟩, ⟨PyData.keyHash w.params "__getnewargs__", .str "__getnewargs__" 341, .ref 121⟩, ⟨PyData.keyHash w.params "__match_args__", .str "__match_args__" 345, .ref 122⟩, ⟨PyData.keyHash w.params "a", .str "a" 355, .ref 124⟩, ⟨PyData.keyHash w.params "b", .str "b" 365, .ref 127⟩, ⟨PyData.keyHash w.params "size", .str "size" 375, .ref 130⟩, ⟨PyData.keyHash w.params "__static_attributes__", .str "__static_attributes__" 376, .ref 132⟩]) (kd := .str "__doc__" 266) (hd := PyData.keyHash w.params "__doc__") k134 v134 q134 (by kernel_rfl) (by kernel_rfl)
  subst z134
  refine ⟨fun n => if n = 82 then d82 else if n = 160 then d160 else if n = 167 then d167 else if n = 174 then d174 else if n = 181 then d181 else if n = 188 then d188 else if n = 196 then d196 else if n = 241 then d241 else if n = 134 then d134 else .none, ?_⟩
  refine Frag.in_of (as := asD) rfl ?_
  simp only [asD, List.map_cons, List.map_nil, g242, g135, g136, g82, g81, g160, g159, g167, g166, g174, g173, g181, g180, g188, g187, g196, g195, g153, g189, g243, g244, g241, g134]
  rfl
/-- no third-party part is loaded -/
theorem st_in {w : World} {h : Heap} (x : GotK w h) : ∃ o, h.get? 2 = some o ∧ lookIn "thirdparty.any" o = some none := by
  unfold GotK seenH seenK goodK at x
  simp only [Prod.mk.injEq] at x
  obtain ⟨_, _, _, e⟩ := x
  exact Option.map_eq_some_iff.mp e
end Mine

end
section
namespace Mine
/-! the heap's plain law -/
section
variable {P : Type} (lt : P → P → Bool)
/-- a strict order whose «not less» is transitive -/
structure Ord : Prop where
  asymm : ∀ a b, lt a b = true → lt b a = false
  trans : ∀ a b c, lt b a = false → lt c b = false → lt c a = false
def LeAt (qs : List P) (i j : Nat) : Prop := ∀ a b, qs[i]? = some a → qs[j]? = some b → lt b a = false
def IsHeap (qs : List P) : Prop := ∀ i, 0 < i → LeAt lt qs ((i - 1) / 2) i
/-- heap but for the edge into pos -/
def SdInv (qs : List P) (pos : Nat) : Prop :=
  (∀ i, 0 < i → i ≠ pos → LeAt lt qs ((i - 1) / 2) i) ∧ (∀ i, 0 < i → (i - 1) / 2 = pos → 0 < pos → LeAt lt qs ((pos - 1) / 2) i)
variable {lt}
def swp (qs : List P) (i j : Nat) (a b : P) : List P := (qs.set i b).set j a
theorem swp_get {qs : List P} {i j k : Nat} {a b : P} (hi : qs[i]? = some a) (hj : qs[j]? = some b) :
    (swp qs i j a b)[k]? = if k = j then some a else if k = i then some b else qs[k]? := by
  have li : i < qs.length := (List.getElem?_eq_some_iff.mp hi).1
  have lj : j < qs.length := (List.getElem?_eq_some_iff.mp hj).1
  unfold swp
  rw [List.getElem?_set, List.getElem?_set, List.length_set]
  by_cases h1 : j = k
  · subst h1; simp [lj]
  · by_cases h2 : i = k
    · subst h2; simp [h1, Ne.symm h1, li]
    · simp [h1, h2, Ne.symm h1, Ne.symm h2]
theorem swp_perm {qs : List P} {i j : Nat} {a b : P} (hi : qs[i]? = some a) (hj : qs[j]? = some b) : (swp qs i j a b).Perm qs := by
  have li : i < qs.length := (List.getElem?_eq_some_iff.mp hi).1
  have lj : j < qs.length := (List.getElem?_eq_some_iff.mp hj).1
  have ea : qs[i] = a := (List.getElem?_eq_some_iff.mp hi).2
  have eb : qs[j] = b := (List.getElem?_eq_some_iff.mp hj).2
  unfold swp
  subst ea; subst eb
  exact List.set_set_perm li lj
theorem sd_step (O : Ord lt) {qs : List P} {pos : Nat} {new par : P} (hp : 0 < pos) (hn : qs[pos]? = some new) (hq : qs[(pos - 1) / 2]? = some par) (hlt : lt new par = true) (I : SdInv lt qs pos) :
    SdInv lt (swp qs ((pos - 1) / 2) pos par new) ((pos - 1) / 2) := by
  obtain ⟨I1, I2⟩ := I
  have hle : lt par new = false := O.asymm _ _ hlt
  refine ⟨fun i hi hne a b ha hb => ?_, fun i hi hpar hpp a b ha hb => ?_⟩
  · rw [swp_get hq hn] at ha hb
    by_cases e1 : i = pos
    · subst e1
      rw [if_pos rfl] at hb
      rw [if_neg (by lia), if_pos rfl] at ha
      cases ha; cases hb; exact hle
    · rw [if_neg e1, if_neg hne] at hb
      by_cases e2 : (i - 1) / 2 = pos
      · rw [if_pos e2] at ha
        cases ha
        exact I2 i hi e2 hp _ _ hq hb
      · rw [if_neg e2] at ha
        by_cases e3 : (i - 1) / 2 = (pos - 1) / 2
        · rw [if_pos e3] at ha
          cases ha
          have := I1 i hi e1 par b (by rw [e3]; exact hq) hb
          exact O.trans _ _ _ hle this
        · rw [if_neg e3] at ha
          exact I1 i hi e1 a b ha hb
  · rw [swp_get hq hn] at ha hb
    rw [if_neg (by lia), if_neg (by lia)] at ha
    have hpq := I1 ((pos - 1) / 2) hpp (by lia) a par ha hq
    by_cases e1 : i = pos
    · subst e1
      rw [if_pos rfl] at hb
      cases hb; exact hpq
    · rw [if_neg e1, if_neg (by lia)] at hb
      have := I1 i hi e1 par b (by rw [hpar]; exact hq) hb
      exact O.trans _ _ _ hpq this
theorem sd_end0 {qs : List P} (I : SdInv lt qs 0) : IsHeap lt qs := fun i hi => I.1 i hi (by lia)
theorem sd_end {qs : List P} {pos : Nat} {new par : P} (hn : qs[pos]? = some new) (hq : qs[(pos - 1) / 2]? = some par) (hlt : lt new par = false) (I : SdInv lt qs pos) : IsHeap lt qs := fun i hi a b ha hb => by
  by_cases e : i = pos
  · subst e; rw [hn] at hb; rw [hq] at ha; cases ha; cases hb; exact hlt
  · exact I.1 i hi e a b ha hb
/-- heap but for the edges at the hole pos -/
def SuInv (lt : P → P → Bool) (qs : List P) (pos : Nat) : Prop :=
  (∀ i, 0 < i → i ≠ pos → (i - 1) / 2 ≠ pos → LeAt lt qs ((i - 1) / 2) i) ∧ (∀ i, 0 < i → (i - 1) / 2 = pos → 0 < pos → LeAt lt qs ((pos - 1) / 2) i)
theorem su_start {qs : List P} {x : P} (H : IsHeap lt qs) : SuInv lt (qs.set 0 x) 0 := by
  refine ⟨fun i hi _ h2 a b ha hb => ?_, fun i _ _ h => absurd h (by lia)⟩
  rw [List.getElem?_set] at ha hb
  rw [if_neg (by lia)] at ha
  rw [if_neg (by lia)] at hb
  exact H i hi a b ha hb
theorem su_step (_O : Ord lt) {qs : List P} {pos c : Nat} {new cv : P} (hc : 0 < c) (hpc : (c - 1) / 2 = pos) (hn : qs[pos]? = some new) (hq : qs[c]? = some cv)
    (hmin : ∀ i, 0 < i → (i - 1) / 2 = pos → i ≠ c → ∀ b, qs[i]? = some b → lt b cv = false) (I : SuInv lt qs pos) : SuInv lt (swp qs c pos cv new) c := by
  obtain ⟨I1, I2⟩ := I
  refine ⟨fun i hi hne hpn a b ha hb => ?_, fun i hi hpar _ a b ha hb => ?_⟩
  · rw [swp_get hq hn] at ha hb
    by_cases e1 : i = pos
    · subst e1
      rw [if_pos rfl] at hb
      cases hb
      rw [if_neg (by lia), if_neg hpn] at ha
      exact I2 c hc hpc hi a _ ha hq
    · rw [if_neg e1, if_neg hne] at hb
      rw [if_neg hpn] at ha
      by_cases e2 : (i - 1) / 2 = pos
      · rw [if_pos e2] at ha
        cases ha
        exact hmin i hi e2 hne b hb
      · rw [if_neg e2] at ha
        exact I1 i hi e1 e2 a b ha hb
  · rw [swp_get hq hn] at ha hb
    rw [hpc, if_pos rfl] at ha
    cases ha
    rw [if_neg (by lia), if_neg (by lia)] at hb
    exact I1 i hi (by lia) (by lia) _ b (by rw [hpar]; exact hq) hb
theorem su_end {qs : List P} {pos : Nat} (hl : qs.length ≤ 2 * pos + 1) (I : SuInv lt qs pos) : SdInv lt qs pos := by
  have none_ : ∀ i, 0 < i → (i - 1) / 2 = pos → qs[i]? = none := fun i hi h => List.getElem?_eq_none (by lia)
  refine ⟨fun i hi hne => ?_, fun i hi hp _ a b _ hb => by rw [none_ i hi hp] at hb; cases hb⟩
  by_cases e : (i - 1) / 2 = pos
  · intro a b _ hb; rw [none_ i hi e] at hb; cases hb
  · exact I.1 i hi hne e
theorem push_start {qs : List P} {x : P} (H : IsHeap lt qs) : SdInv lt (qs ++ [x]) qs.length := by
  have lo : ∀ {i : Nat} {b : P}, i ≠ qs.length → (qs ++ [x])[i]? = some b → qs[i]? = some b := fun {i b} h e => by
    have := (List.getElem?_eq_some_iff.mp e).1
    rw [List.length_append, List.length_singleton] at this
    rwa [List.getElem?_append_left (by lia)] at e
  refine ⟨fun i hi hne a b ha hb => ?_, fun i hi hp h0 a b _ hb => ?_⟩
  · have hb' := lo hne hb
    have := (List.getElem?_eq_some_iff.mp hb').1
    exact H i hi a b (lo (by lia) ha) hb'
  · have := (List.getElem?_eq_some_iff.mp hb).1
    rw [List.length_append, List.length_singleton] at this
    lia
theorem dropLast_heap {qs : List P} (H : IsHeap lt qs) : IsHeap lt qs.dropLast := fun i hi a b ha hb => by
  have f : ∀ {k : Nat} {v : P}, qs.dropLast[k]? = some v → qs[k]? = some v := fun {k v} e => by
    have h := (List.getElem?_eq_some_iff.mp e).1
    rw [List.length_dropLast] at h
    rw [List.dropLast_eq_take, List.getElem?_take_of_lt (by lia)] at e
    exact e
  exact H i hi a b (f ha) (f hb)
/-- the top is the least -/
theorem heap_top (O : Ord lt) {qs : List P} (H : IsHeap lt qs) {x : P} (h0 : qs[0]? = some x) (hx : lt x x = false) : ∀ (i : Nat) (b : P), qs[i]? = some b → lt b x = false := by
  intro i
  induction i using Nat.strongRecOn with
  | ind i ih =>
    intro b hb
    by_cases hi : i = 0
    · subst hi; rw [h0] at hb; cases hb; exact hx
    · have hlt : i < qs.length := (List.getElem?_eq_some_iff.mp hb).1
      have hp : (i - 1) / 2 < qs.length := by lia
      have := ih ((i - 1) / 2) (by lia) qs[(i - 1) / 2] (List.getElem?_eq_getElem hp)
      exact O.trans _ _ _ this (H i (by lia) _ _ (List.getElem?_eq_getElem hp) hb)
end
end Mine

end
section
open PySem PySem.W PyProof.Rows
set_option Elab.async false
set_option maxRecDepth 100000
namespace Mine
/-! the state: frozen objects (a partial map) and cells (own, changing objects) -/
abbrev PM := Addr → Option Obj
abbrev Cs := List (Addr × (Obj → Prop))
def Le (B B' : PM) : Prop := ∀ a o, B a = some o → B' a = some o
theorem Le.refl (B : PM) : Le B B := fun _ _ h => h
theorem Le.trans {B B' B'' : PM} (h : Le B B') (k : Le B' B'') : Le B B'' := fun a o e => k a o (h a o e)
def PM.add (B : PM) (a : Addr) (o : Obj) : PM := fun b => if b = a then some o else B b
theorem PM.le_add {B : PM} {a : Addr} {o : Obj} (h : B a = none) : Le B (B.add a o) := fun b ob e => by
  unfold PM.add
  by_cases hb : b = a
  · subst hb; rw [h] at e; cases e
  · rw [if_neg hb]; exact e
theorem PM.add_self {B : PM} {a : Addr} {o : Obj} : B.add a o a = some o := if_pos rfl

structure St (B : PM) (cs : Cs) (h : Heap) : Prop where
  sub : ∀ a o, B a = some o → h.get? a = some o
  cells : ∀ p ∈ cs, ∃ o, h.get? p.1 = some o ∧ p.2 o
  off : ∀ p ∈ cs, B p.1 = none
  nd : (cs.map (·.1)).Nodup

def NsP (m : Str → Option Value) : Obj → Prop := fun o => ∃ es ep, o.data = .dict es ep ∧ StrKeys es ∧ ∀ name, nsFind es name = m name
def CellP (v : Option Value) : Obj → Prop := fun o => o.data = .cell v
def LstP (vs : List Value) : Obj → Prop := fun o => ∃ n, o = { cls := .type "list", data := .seq vs.toArray n }
def IsP (o : Obj) : Obj → Prop := fun x => x = o

theorem Ns_of {h : Heap} {a : Addr} {m : Str → Option Value} {o : Obj} (e : h.get? a = some o) (k : NsP m o) : h.Ns a m := let ⟨es, ep, d, r⟩ := k; ⟨o, es, ep, e, d, r⟩
theorem NsP_of {h : Heap} {a : Addr} {m : Str → Option Value} (n : h.Ns a m) : ∃ o, h.get? a = some o ∧ NsP m o := let ⟨o, es, ep, e, d, r⟩ := n; ⟨o, e, es, ep, d, r⟩

namespace St
variable {B : PM} {cs : Cs} {h h' : Heap} {a : Addr} {P P' : Obj → Prop} {o : Obj} {i : Nat}
theorem at_ (X : St B cs h) (hi : cs[i]? = some (a, P)) : ∃ o, h.get? a = some o ∧ P o := X.cells _ (List.mem_of_getElem? hi)
theorem ns (X : St B cs h) {m : Str → Option Value} (hi : cs[i]? = some (a, NsP m)) : h.Ns a m := let ⟨_, e, k⟩ := X.at_ hi; Ns_of e k
theorem lst (X : St B cs h) {vs : List Value} (hi : cs[i]? = some (a, LstP vs)) : h.PlainList a vs.toArray := let ⟨_, e, n, k⟩ := X.at_ hi; ⟨n, k ▸ e⟩
theorem cell (X : St B cs h) {v : Option Value} (hi : cs[i]? = some (a, CellP v)) : h.IsCell a v := let ⟨o, e, k⟩ := X.at_ hi; ⟨o, e, k⟩
theorem lt (X : St B cs h) (hi : cs[i]? = some (a, P)) : a < h.objs.size := let ⟨_, e, _⟩ := X.at_ hi; Heap.lt_size e
theorem ltB (X : St B cs h) (e : B a = some o) : a < h.objs.size := Heap.lt_size (X.sub _ _ e)
/-- an own cell turned -/
theorem upd (X : St B cs h) (hi : cs[i]? = some (a, P)) (hs : Heap.SameBut a h h') (hn : ∃ o, h'.get? a = some o ∧ P' o) : St B (cs.set i (a, P')) h' := by
  have hil : i < cs.length := (List.getElem?_eq_some_iff.mp hi).1
  have hia : cs[i] = (a, P) := (List.getElem?_eq_some_iff.mp hi).2
  have keepB : B a = none := X.off _ (List.mem_of_getElem? hi)
  have hmap : (cs.set i (a, P')).map (·.1) = cs.map (·.1) := by
    rw [List.map_set]
    apply List.ext_getElem?
    intro j
    rw [List.getElem?_set]
    by_cases hj : i = j
    · subst hj
      simp [hil, hia]
    · simp [hj]
  refine ⟨fun b ob e => ?_, fun p hp => ?_, fun p hp => ?_, by rw [hmap]; exact X.nd⟩
  · have hb : b ≠ a := fun q => by subst q; rw [keepB] at e; cases e
    exact (hs.2 b hb).trans (X.sub b ob e)
  · obtain ⟨j, hj, rfl⟩ := List.getElem_of_mem hp
    rw [List.length_set] at hj
    rw [List.getElem_set]
    split
    · exact hn
    · rename_i hij
      obtain ⟨o, e, k⟩ := X.cells _ (List.getElem_mem hj)
      refine ⟨o, (hs.2 _ fun q => hij ?_).trans e, k⟩
      have n := X.nd
      have h1 : (cs.map (·.1))[i]'(by simpa using hil) = (cs.map (·.1))[j]'(by simpa using hj) := by simp [hia, q]
      exact (List.getElem_inj n).mp h1
  · rcases List.mem_or_eq_of_mem_set hp with q | q
    · exact X.off _ q
    · subst q; exact keepB
/-- a new object, own -/
theorem new (X : St B cs h) (o : Obj) (hf : o.isFreed = false) (k : P o) : St B ((h.objs.size, P) :: cs) (h.push o) := by
  refine ⟨fun b ob e => Heap.get?_push_of_some _ (X.sub b ob e), fun p hp => ?_, fun p hp => ?_, ?_⟩
  · rcases List.mem_cons.mp hp with rfl | hp
    · exact ⟨o, Heap.get?_push_size _ hf, k⟩
    · obtain ⟨ob, e, q⟩ := X.cells p hp
      exact ⟨ob, Heap.get?_push_of_some _ e, q⟩
  · rcases List.mem_cons.mp hp with rfl | hp
    · cases e : B h.objs.size with
      | none => rfl
      | some ob => exact absurd (X.ltB e) (Nat.lt_irrefl _)
    · exact X.off p hp
  · rw [List.map_cons, List.nodup_cons]
    refine ⟨fun q => ?_, X.nd⟩
    obtain ⟨p, hp, e⟩ := List.mem_map.mp q
    obtain ⟨ob, e', _⟩ := X.cells p hp
    exact absurd (e ▸ Heap.lt_size e') (Nat.lt_irrefl _)
/-- a cell frozen -/
theorem freeze (X : St B ((a, P) :: cs) h) : ∃ o, P o ∧ h.get? a = some o ∧ St (B.add a o) cs h ∧ Le B (B.add a o) := by
  obtain ⟨o, e, k⟩ := X.cells _ List.mem_cons_self
  have hb := X.off _ (List.mem_cons_self (a := (a, P)) (l := cs))
  have hn := X.nd
  rw [List.map_cons, List.nodup_cons] at hn
  refine ⟨o, k, e, ⟨fun b ob q => ?_, fun p hp => X.cells p (List.mem_cons_of_mem _ hp), fun p hp => ?_, hn.2⟩, PM.le_add hb⟩
  · unfold PM.add at q
    split at q
    · rename_i hba; subst hba; cases q; exact e
    · exact X.sub b ob q
  · unfold PM.add
    rw [if_neg fun q => hn.1 (List.mem_map.mpr ⟨p, hp, q⟩)]
    exact X.off p (List.mem_cons_of_mem _ hp)
theorem newB (X : St B cs h) (o : Obj) (hf : o.isFreed = false) : St (B.add h.objs.size o) cs (h.push o) ∧ Le B (B.add h.objs.size o) := by
  obtain ⟨o', k, _, Y, l⟩ := (X.new (P := IsP o) o hf rfl).freeze
  cases k
  exact ⟨Y, l⟩
theorem perm (X : St B cs h) {cs' : Cs} (p : cs.Perm cs') : St B cs' h :=
  ⟨X.sub, fun q hq => X.cells q (p.mem_iff.mpr hq), fun q hq => X.off q (p.mem_iff.mpr hq), (p.map (·.1)).nodup_iff.mp X.nd⟩
theorem drop (X : St B ((a, P) :: cs) h) : St B cs h :=
  ⟨X.sub, fun q hq => X.cells q (List.mem_cons_of_mem _ hq), fun q hq => X.off q (List.mem_cons_of_mem _ hq), (List.nodup_cons.mp X.nd).2⟩
theorem weak (X : St B ((a, P) :: cs) h) (k : ∀ o, P o → P' o) : St B ((a, P') :: cs) h :=
  ⟨X.sub, fun q hq => by
    rcases List.mem_cons.mp hq with rfl | hq
    · obtain ⟨o, e, p⟩ := X.cells _ List.mem_cons_self
      exact ⟨o, e, k o p⟩
    · exact X.cells q (List.mem_cons_of_mem _ hq), fun q hq => by
    rcases List.mem_cons.mp hq with rfl | hq
    · exact X.off (a, P) List.mem_cons_self
    · exact X.off q (List.mem_cons_of_mem _ hq), X.nd⟩
end St
end Mine

end
section
open PySem PySem.W PyProof.Rows
set_option Elab.async false
set_option maxRecDepth 100000
namespace Mine
def upd (m : Str → Option Value) (x : Str) (v : Value) : Str → Option Value := fun y => if y = x then some v else m y
/-- what the law's call finds: the heap that stands, its globals -/
structure G0 (h₀ : Heap) (mg : Str → Option Value) : Prop where
  g : h₀.Ns mainGlobals mg
  b : ∃ mb, h₀.Ns builtinsNs mb ∧ ∀ x : Str, x ≠ "__name__" → mb x = bootBuiltins x
  nolimit : h₀.NoLimit
/-- the standing heap is frozen -/
def In0 (h₀ : Heap) (B : PM) : Prop := ∀ a o, h₀.get? a = some o → B a = some o
theorem In0.le {h₀ : Heap} {B B' : PM} (K : In0 h₀ B) (l : Le B B') : In0 h₀ B' := fun a o e => l _ _ (K a o e)
theorem In0.keep {h₀ h : Heap} {B : PM} {cs : Cs} (K : In0 h₀ B) (X : St B cs h) : ∀ b o, h₀.get? b = some o → h.get? b = some o := fun b o e => X.sub _ _ (K b o e)
def GFn (h₀ : Heap) (mg : Str → Option Value) (name : Str) (params : Arguments) (body : List Stmt) (scope : Scope) : Prop :=
  ∃ a o pm cd doc, mg name = some (.ref a) ∧ h₀.get? a = some o ∧ o.data = .func (Calls.docDef name params body scope pm cd doc) ∧ h₀.CodeRec cd name
/-- room for calls -/
structure Rm (A : Around) (d u : Nat) : Prop where
  handled : A.handled = none
  depth : A.depth + d ≤ 999
  units : A.units + u ≤ 9800

theorem Rm.sub {A : Around} {d u d' u' : Nat} (R : Rm A d u) (hd : d' ≤ d) (hu : u' ≤ u) : Rm A d' u' := ⟨R.handled, Nat.le_trans (Nat.add_le_add_left hd _) R.depth, Nat.le_trans (Nat.add_le_add_left hu _) R.units⟩
theorem Rm.cl {A : Around} {d u k : Nat} (R : Rm A d u) (h : k ≤ u + 99) : A.units + k < cLine := by have := R.units; unfold cLine; lia
section
variable {M : Model} {A : Around} {E : Value → Shared → Prop} {s : Shared} {env : Env} {B : PM} {cs r : Cs} {m : Str → Option Value} {h₀ : Heap} {mg : Str → Option Value}

theorem ldL {x : Str} {pos : Pos} {v : Value} {Q : Value → Shared → Prop} (X : St B ((env.locals, NsP m) :: r) s.heap) (hv : m x = some v) (h : Q v s)
    (hk : env.scope.kind = .function := by rfl) (hl : env.kindOf x = some .local := by rfl) (hd : (x == ("__debug__" : Str)) = false := by decide) :
    wpAny M A (eval (.Name x pos) env) Q E s := wpAny_Name (wpAny_loadName_local hk hl (X.ns (i := 0) rfl) hv h) hd
theorem ldnL {x : Str} {v : Value} {Q : Value → Shared → Prop} (X : St B ((env.locals, NsP m) :: r) s.heap) (hv : m x = some v) (h : Q v s)
    (hk : env.scope.kind = .function := by rfl) (hl : env.kindOf x = some .local := by rfl) :
    wpAny M A (loadName env x) Q E s := wpAny_loadName_local hk hl (X.ns (i := 0) rfl) hv h
theorem stL {x : Str} {v : Value} {Q : Unit → Shared → Prop} (X : St B ((env.locals, NsP m) :: r) s.heap)
    (h : ∀ h', St B ((env.locals, NsP (upd m x v)) :: r) h' → Q () { s with heap := h', toks := s.toks + 1 })
    (hk : env.scope.kind = .function := by rfl) (hl : env.kindOf x = some .local := by rfl) :
    wpAny M A (storeName env x v) Q E s :=
  wpAny_storeName_local hl (X.ns (i := 0) rfl) (fun h' hn hs => h h' (X.upd (i := 0) rfl hs (NsP_of hn)))
    (by rw [hk]; rfl)
theorem ldG {x : Str} {pos : Pos} {v : Value} {Q : Value → Shared → Prop} (G : G0 h₀ mg) (K : In0 h₀ B) (X : St B cs s.heap) (hv : mg x = some v) (h : Q v s)
    (hg : env.globals = mainGlobals := by rfl) (hk : env.scope.kind = .function := by rfl) (hx : env.kindOf x = some .globalImplicit := by rfl) (hd : (x == ("__debug__" : Str)) = false := by decide) :
    wpAny M A (eval (.Name x pos) env) Q E s :=
  Calls.Name_function_global hk hx (Calls.loadGlobal_global (by rw [hg]; exact G.g.keeps (K.keep X)) hv h) hd
theorem ldBi {x : Str} {pos : Pos} {v : Value} {Q : Value → Shared → Prop} (G : G0 h₀ mg) (K : In0 h₀ B) (X : St B cs s.heap) (hm : mg x = none) (hv : bootBuiltins x = some v) (h : Q v s)
    (hn : x ≠ "__name__" := by decide) (hg : env.globals = mainGlobals := by rfl) (hb : env.builtins = builtinsNs := by rfl) (hk : env.scope.kind = .function := by rfl) (hx : env.kindOf x = some .globalImplicit := by rfl) (hd : (x == ("__debug__" : Str)) = false := by decide) :
    wpAny M A (eval (.Name x pos) env) Q E s := by
  obtain ⟨mb, hmb, hbo⟩ := G.b
  exact Calls.Name_function_global hk hx (Calls.loadGlobal_builtin (by rw [hg]; exact G.g.keeps (K.keep X)) hm (by rw [hb]; exact hmb.keeps (K.keep X)) ((hbo x hn).trans hv) h) hd
end

section
variable {prog : Program} {w : World} {A : Around} {E : Value → Shared → Prop} {s : Shared} {B : PM} {cs : Cs} {h₀ : Heap} {mg : Str → Option Value}
/-- a plain def of the text, called -/
theorem callF {name : Str} {params : Arguments} {body : List Stmt} {scope : Scope} {pm cd doc : Value} {a : Addr} {o : Obj} {args : List Value} {binds : List (Str × Value)} {Q : Value → Shared → Prop} {d u : Nat}
    (R : Rm A (d + 1) u) (G : G0 h₀ mg) (K : In0 h₀ B) (X : St B cs s.heap) (ho : h₀.get? a = some o) (hdata : o.data = .func (Calls.docDef name params body scope pm cd doc)) (hcd : h₀.CodeRec cd name)
    (hbind : bindArgs (Calls.docDef name params body scope pm cd doc) ⟨args, []⟩ = pure binds)
    (hloc : ∀ x ∈ binds, scope.names.lookup x.1 = some .local)
    (h : ∀ h₁ L tk, St B ((L, NsP (fun x => binds.reverse.lookup x)) :: cs) h₁ →
      wpAny (model prog w) (A.deeper (envOf name scope L a cd)) (execs body (envOf name scope L a cd))
        (fun f s' => Q (match f with | .ret v => v | _ => .none) s') (fun _ _ => False) { s with heap := h₁, toks := tk })
    (hco : scope.isCoroutine = false := by rfl) (hgen : scope.isGenerator = false := by rfl) (hk : scope.kind = .function := by rfl)
    (hcell : ∀ x ∈ scope.names, x.2 ≠ .cell := by decide) : wpAny (model prog w) A (call (.ref a) args) Q E s := by
  have hkeep := K.keep X
  refine wpAny_call (call_plain_ret (by have := R.depth; show A.depth < 1000; lia) (hkeep _ _ ho) hdata (G.nolimit.keeps hkeep) (hcd.keeps hkeep) hbind hloc (fun h₁ F => ?_) hco hgen hk hcell)
  refine wpAny_mono (h h₁ s.heap.objs.size _ ?_) (fun f s' q => q) fun _ _ q => q
  obtain ⟨oL, eL, kL⟩ := NsP_of F.ns
  refine ⟨fun b ob e => F.keep _ _ (X.sub b ob e), fun p hp => ?_, fun p hp => ?_, ?_⟩
  · rcases List.mem_cons.mp hp with rfl | hp
    · exact ⟨oL, eL, kL⟩
    · obtain ⟨ob, e, q⟩ := X.cells p hp
      exact ⟨ob, F.keep _ _ e, q⟩
  · rcases List.mem_cons.mp hp with rfl | hp
    · cases e : B s.heap.objs.size with
      | none => rfl
      | some ob => exact absurd (X.ltB e) (Nat.lt_irrefl _)
    · exact X.off p hp
  · rw [List.map_cons, List.nodup_cons]
    refine ⟨fun q => ?_, X.nd⟩
    obtain ⟨p, hp, e⟩ := List.mem_map.mp q
    obtain ⟨ob, e', _⟩ := X.cells p hp
    exact absurd (e ▸ Heap.lt_size e') (Nat.lt_irrefl _)
end
end Mine

end
section
open PySem PySem.W PyProof.Rows
set_option Elab.async false
set_option maxRecDepth 100000
namespace Mine
section
variable {prog : Program} {w : World} {A : Around} {E : Value → Shared → Prop} {s : Shared} {B : PM} {cs : Cs} {i : Nat} {l : Addr} {vs : List Value}
theorem lstP_of {h : Heap} {l : Addr} {vs : List Value} (x : h.PlainList l vs.toArray) : ∃ o, h.get? l = some o ∧ LstP vs o := let ⟨n, e⟩ := x; ⟨_, e, n, rfl⟩
/-- xs[k], an own list -/
theorem subL {value slice : Expr} {k : Int} {t : Tok} {x : Value} {Q : Value → Shared → Prop} (hl : s.heap.IsList l vs.toArray) (h0 : 0 ≤ k) (hhi : k < 2 ^ 63) (hx : vs[k.toNat]? = some x) (h : Q x s)
    (hs : subscripted slice false (.ref l) (.int k t) = operate [.ref l, .int k t] (getItem (.ref l) (.int k t)) := by with_unfolding_all rfl) :
    wpAny (model prog w) A (subscriptTail value slice (.ref l) (.int k t)) Q E s :=
  tail_any hl.typeIs slot_list_getitem.lookup (wpAny_getItem_list hl h0 hhi (by simpa using hx) h) hs
/-- xs[k] = v, an own list -/
theorem setL {k : Int} {t : Tok} {v : Value} {Q : Unit → Shared → Prop} (X : St B cs s.heap) (hi : cs[i]? = some (l, LstP vs)) (h0 : 0 ≤ k) (hfit : k < 2 ^ 63) (hn : k < vs.length)
    (hQ : ∀ h', St B (cs.set i (l, LstP (vs.set k.toNat v))) h' → Q () { s with heap := h' }) :
    wpAny (model prog w) A (setItem (.ref l) (.int k t) v) Q E s := by
  have hp := X.lst hi
  have hl := hp.isList
  obtain ⟨n, ho⟩ := id hp
  unfold setItem
  try with_reducible refine wpAny_holding ?_
  first | refine wpAny_bind (wpAny_pure ?_) | skip
  refine wpAny_bind (wpAny_sequenceKey hl.typeIs (by decide) ?_)
  refine wpAny_bind (wpAny_callSpecial?_slot (name := Str.ofString "__setitem__") hl.typeIs slot_list_setitem
    (wpAny_call_entry slot_list_setitem hl.typeIs entry_list_setitem ?_ (args_list_setitem _ _ _)))
  show wpAny _ _ (Builtin.List.listSubscript? (.int k t) >>= _) _ _ s
  refine wpAny_bind (wpAny_listSubscript_int (fitsIndex_of h0 hfit) ?_)
  clear hfit
  obtain ⟨j, rfl⟩ := Int.eq_ofNat_of_zero_le h0
  have hj : j < vs.toArray.size := by rw [List.size_toArray]; lia
  have hx' : vs.toArray[j]? = some vs.toArray[j] := Array.getElem?_eq_getElem hj
  show wpAny _ _ ((seqItemAt l j >>= fun r => pure (r.map (j, ·))) >>= _) _ _ s
  refine wpAny_bind (wpAny_bind (wpAny_seqItemAt ho rfl (wpAny_pure ?_)))
  rw [hx']
  show wpAny _ _ (setSeqItemAt l j v >>= _) _ _ s
  have hfin : (s.heap.update l (Obj.mapSeq (·.setIfInBounds j v))).PlainList l (vs.set j v).toArray := by
    refine ⟨n, ?_⟩
    rw [Heap.get?_update_self _ ho (by rfl)]
    simp [Obj.mapSeq]
  have hY := hQ _ (X.upd hi (Heap.SameBut.update ..) (lstP_of hfin))
  refine wpAny_bind (wpAny_setSeqItemAt ho rfl ?_)
  first
    | exact wpAny_bind (wpAny_pure (wpAny_pure ⟨.none, rfl, wpAny_pure hY⟩))
    | exact wpAny_pure ⟨.none, rfl, wpAny_pure hY⟩
theorem appL {x : Value} {Q : Value → Shared → Prop} (X : St B cs s.heap) (hi : cs[i]? = some (l, LstP vs)) (hsz : vs.length ≤ 100000)
    (hQ : ∀ h', St B (cs.set i (l, LstP (vs ++ [x]))) h' → Q .none { s with heap := h' }) :
    wpAny (model prog w) A (call (.builtin "list.append") [.ref l, x]) Q E s :=
  wpAny_list_append_plain (X.lst hi) (fun h' hp hs => hQ h' (X.upd hi hs (lstP_of (by simpa using hp)))) (by rw [List.size_toArray, sizeLine_eq]; lia)
end
end Mine

end
section
open PySem PySem.W PyProof.Rows
set_option Elab.async false
set_option maxRecDepth 100000
namespace Mine
abbrev noE : Value → Shared → Prop := fun _ _ => False
/-- what is wanted behind, by a name: keeps the terms small -/
theorem cps {α : Type} {M : Model} {A : Around} {t : Sem α} {Q : α → Shared → Prop} {E : Value → Shared → Prop} {s : Shared} (h : ∀ Q' : α → Shared → Prop, (∀ r s, Q r s → Q' r s) → wpAny M A t Q' E s) : wpAny M A t Q E s := h Q fun _ _ h => h
/-- the state written anew: its heap, the counter by a name -/
theorem shN (s₀ : Shared) (hp : Heap) {α : Type} {M : Model} {A : Around} {t : Sem α} {Q : α → Shared → Prop} {E : Value → Shared → Prop} {s : Shared} (h : ∀ tk, wpAny M A t Q E ⟨hp, s₀.gens, s₀.drawn, tk, s₀.os⟩) (e : s = ⟨hp, s₀.gens, s₀.drawn, s.toks, s₀.os⟩ := by rfl) : wpAny M A t Q E s := by rw [e]; exact h _
theorem cps2 {α β : Type} {M : Model} {A : Around} {t : Sem α} {u : Sem β} {Q : β → Shared → Prop} {E E' : Value → Shared → Prop} {s : Shared} (h : ∀ Q' : β → Shared → Prop, (∀ r s, Q r s → Q' r s) → wpAny M A t (fun _ s₂ => wpAny M A u Q' E' s₂) E s) : wpAny M A t (fun _ s₂ => wpAny M A u Q E' s₂) E s := h Q fun _ _ h => h
section
variable {prog : Program} {w : World} {A : Around} {E : Value → Shared → Prop} {s : Shared} {env : Env}
theorem whileW {test : Expr} {body : List Stmt} {pos : Pos} {Q : Flow → Shared → Prop} (I : Nat → Shared → Prop)
    (turn : ∀ n s, I n s → wpAny (model prog w) A (isTrue test env (eval test env)) (fun b s₂ =>
        if b then wpAny (model prog w) A (execs body env) (fun f s₃ => match f with
            | .next | .cont => ∃ m, m < n ∧ I m s₃
            | .brk => Q .next s₃
            | .ret v => Q (.ret v) s₃) noE s₂
        else Q .next s₂) noE s)
    (n : Nat) (h : I n s) : wpAny (model prog w) A (exec (.While test body [] pos) env) Q E s := by
  refine wpAny_While (codeAny_whileLoop I (fun n s hI => ?_) n h)
  refine wpAny_mono (turn n s hI) (fun b s₂ h₂ => ?_) fun _ _ h' => h'.elim
  cases b with
  | false => simp only [Bool.false_eq_true, if_false] at h₂ ⊢; exact wpAny_execs_nil h₂
  | true => simp only [if_true] at h₂ ⊢; exact wpAny_mono h₂ (fun _ _ q => q) fun _ _ h' => h'.elim
end
theorem upd_self {m : Str → Option Value} {x : Str} {v : Value} : upd m x v x = some v := if_pos rfl
theorem upd_other {m : Str → Option Value} {x y : Str} {v u : Value} (h : y ≠ x) (e : m y = some u) : upd m x v y = some u := (if_neg h).trans e
end Mine

end
section
open PySem PySem.W PyProof.Rows
set_option Elab.async false
set_option maxRecDepth 100000
namespace Mine
theorem iteT {a b : Prop} (h : a) : if true = true then a else b := by rw [if_pos rfl]; exact h
theorem iteF {a b : Prop} (h : b) : if false = true then a else b := by rw [if_neg (by decide)]; exact h
section
variable {prog : Program} {w : World} {A : Around} {E : Value → Shared → Prop} {s : Shared} {B : PM} {cs : Cs} {i : Nat} {l : Addr} {vs : List Value}
theorem popL {x : Value} {Q : Value → Shared → Prop} (X : St B cs s.heap) (hi : cs[i]? = some (l, LstP (vs ++ [x]))) (hsz : vs.length ≤ 100000)
    (hQ : ∀ h', St B (cs.set i (l, LstP vs)) h' → Q x { s with heap := h' }) :
    wpAny (model prog w) A (call (.builtin "list.pop") [.ref l]) Q E s := by
  obtain ⟨n, ho⟩ := X.lst hi
  have hy : (vs ++ [x]).toArray[(vs ++ [x]).toArray.size - 1]? = some x := by simp
  have hz : (vs ++ [x]).toArray.size ≤ sizeLine := by rw [List.size_toArray, sizeLine_eq]; simp; lia
  refine call_meets PySem.F.slot_list_pop ⟨_, ho, rfl⟩ PySem.F.entry_list_pop (PySem.F.args_list_pop_1 _) (PySem.MeetsSeq.list_pop_last l _ n x hy hz) ⟨ho, ?_⟩
  refine hQ _ (X.upd hi (Heap.SameBut.update ..) ?_)
  refine ⟨_, Heap.get?_update_self _ ho (by rfl), ?_⟩
  refine ⟨n + 1, ?_⟩
  have e : (vs ++ [x]).toArray.eraseIdxIfInBounds ((vs ++ [x]).toArray.size - 1) = vs.toArray := by
    have := kl_erase vs [] x
    simpa using this
  simp only [Obj.mapSeq, e]
  simp
theorem lst_meth {P : Prop} (p : s.heap.PlainList l vs.toArray) (h : P) : s.TypeIs (.ref l) "list" ∧ (∀ a, Value.ref l = .ref a → ∃ ob, s.heap.get? a = some ob ∧ ob.dict = none) ∧ P :=
  ⟨p.isList.typeIs, fun a e => by cases e; obtain ⟨n, e⟩ := p; exact ⟨_, e, rfl⟩, h⟩
/-- a def of the text called by its name -/
theorem callN {env : Env} {id : Str} {p pos : Pos} {args : List Expr} {a : Addr} {o : Obj} {fd : FuncData} {h₀ : Heap} {mg : Str → Option Value} {Q : Value → Shared → Prop}
    (G : G0 h₀ mg) (K : In0 h₀ B) (X : St B cs s.heap) (hv : mg id = some (.ref a)) (ho : h₀.get? a = some o) (hf : o.data = .func fd)
    (h : wpAny (model prog w) A (spliced (backTo pos (starEach args env))) (fun vs s₁ => (∃ B' cs', Le B B' ∧ St B' cs' s₁.heap) ∧ wpAny (model prog w) A (call (.ref a) vs) Q E s₁) E s)
    (hst : ∃ x r, backTo pos (starEach args env) = (false, x) :: r := by exact ⟨_, _, rfl⟩)
    (hg : env.globals = mainGlobals := by rfl) (hk : env.scope.kind = .function := by rfl) (hx : env.kindOf id = some .globalImplicit := by rfl) (hd : (id == ("__debug__" : Str)) = false := by decide) :
    wpAny (model prog w) A (eval (.Call (.Name id p) args [] pos) env) Q E s := by
  refine wpAny_Call_NameR (ldG G K X hv ?_ hg hk hx hd)
  refine Calls.callWith_function (o := o) (fd := fd) ?_
  obtain ⟨x, r, e⟩ := hst
  rw [e] at h ⊢
  refine Calls.evalArgs_plain (wpAny_mono h (fun vs s₁ h₁ => ?_) fun _ _ q => q)
  obtain ⟨⟨B', cs', l, X'⟩, h₁⟩ := h₁
  exact ⟨⟨(K.le l).keep X' _ _ ho, hf⟩, h₁⟩
/-- a built-in called by its name -/
theorem callB {env : Env} {id : Str} {bi : String} {p pos : Pos} {args : List Expr} {h₀ : Heap} {mg : Str → Option Value} {Q : Value → Shared → Prop}
    (G : G0 h₀ mg) (K : In0 h₀ B) (X : St B cs s.heap) (hm : mg id = none) (hb : bootBuiltins id = some (.builtin bi))
    (h : wpAny (model prog w) A (spliced (backTo pos (starEach args env))) (fun vs s₁ => wpAny (model prog w) A (call (.builtin bi) vs) Q E s₁) E s)
    (hst : ∃ x r, backTo pos (starEach args env) = (false, x) :: r := by exact ⟨_, _, rfl⟩) (hpl : (backTo pos (starEach args env)).any (·.1) = false := by rfl)
    (hn : id ≠ "__name__" := by decide) (hg : env.globals = mainGlobals := by rfl) (hbn : env.builtins = builtinsNs := by rfl) (hk : env.scope.kind = .function := by rfl) (hx : env.kindOf id = some .globalImplicit := by rfl) (hd : (id == ("__debug__" : Str)) = false := by decide) :
    wpAny (model prog w) A (eval (.Call (.Name id p) args [] pos) env) Q E s := by
  refine wpAny_Call_NameR (ldBi G K X hm hb ?_ hn hg hbn hk hx hd)
  refine Calls.callWith_builtin hpl ?_
  obtain ⟨x, r, e⟩ := hst
  rw [e] at h ⊢
  exact Calls.evalArgs_plain (wpAny_mono h (fun vs s₁ h₁ => h₁) fun _ _ q => q)
end
end Mine

end
section
open PySem PySem.W PyProof.Rows PySem.SeqAt
open PySem.AutoSeq1 (wpAny_loadPart')
open PySem.MeetsSeq PySem.MeetsSeq2 PySem.MeetsSeq3 PySem.SeqRoads2
set_option Elab.async false
set_option maxRecDepth 100000
namespace Mine
def LtAt (A : Around) (s : Shared) (y x : Value) (b : Bool) : Prop :=
  ∀ (prog : Program) (w : World) (E : Value → Shared → Prop) (Q : Value → Shared → Prop), Q (.bool b) s → wpAny (model prog w) A (richCompare .Lt y x) Q E s
theorem LtAt.int {A : Around} {s : Shared} (a b : Int) (t u : Tok) : LtAt A s (.int a t) (.int b u) (decide (a < b)) := fun prog w E Q h => by
  have := PyProof.Rows.lt_int (prog := prog) (w := w) (A := A) (E := E) (s := s) (a := a) (b := b) (t := t) (u := u) (Q := Q) h
  exact this
theorem EqAt_int {A : Around} {s : Shared} (a b : Int) (t u : Tok) : EqAt A s (.int a t) (.int b u) (a == b) := (EqGives.int a b t u).at A s
def ltGo (e r : Nat → Bool) (last : Bool) : List Nat → Bool
  | [] => last
  | i :: t => if e i then ltGo e r last t else r i
theorem tuple_ltAt (l b : Addr) (items items2 : Array Value) (n n2 : Nat) (dd dd2 : Option Addr) (sl sl2 : Array (Option Value)) (e r : Nat → Bool) :
    Meets (Builtin.«tuple.__lt__» ⟨[.ref l, .ref b], []⟩)
      (fun A R s => s.heap.get? l = some { cls := .type "tuple", dict := dd, data := .seq items n, slots := sl } ∧ s.heap.get? b = some { cls := .type "tuple", dict := dd2, data := .seq items2 n2, slots := sl2 } ∧
        (∀ j (h1 : j < items.size) (h2 : j < items2.size), EqAt A.in1 s items[j] items2[j] (e j)) ∧
        (∀ j (h1 : j < items.size) (h2 : j < items2.size), e j = false → LtAt A.in1 s items[j] items2[j] (r j)) ∧
        R (.ok (.ret (.bool (ltGo e r (decide (items.size < items2.size)) (List.range (min items.size items2.size)))))) s) :=
  .of_wp fun prog w A R s h => by
    obtain ⟨hp, g, d, tk, os⟩ := s; obtain ⟨hl, hb, he, hr, h⟩ := h
    have f2 := AutoSeq1.sub_tuple_tuple
    have hZ : (items.toList.zip items2.toList).length = min items.size items2.size := by simp
    wp_walk using wpAny_loadPart' hl, wpAny_loadPart' hb, wpAny_forIn_list _ (fun rest b s' => b.1 = none ∧ s' = ⟨hp, g, d, tk, os⟩ ∧ ∃ i, rest = (items.toList.zip items2.toList).drop i ∧
      R (.ok (.ret (.bool (ltGo e r (decide (items.size < items2.size)) ((List.range (min items.size items2.size)).drop i))))) ⟨hp, g, d, tk, os⟩) _
    case turn =>
      rintro ⟨y, x⟩ rest b s' ⟨hb', rfl, i, hz, hR⟩
      have hlt : i < (items.toList.zip items2.toList).length := by
        rcases Nat.lt_or_ge i (items.toList.zip items2.toList).length with h' | h'
        · exact h'
        · rw [List.drop_of_length_le h'] at hz; cases hz
      have hm : i < min items.size items2.size := hZ ▸ hlt
      have h1 : i < items.size := Nat.lt_of_lt_of_le hm (Nat.min_le_left _ _)
      have h2 : i < items2.size := Nat.lt_of_lt_of_le hm (Nat.min_le_right _ _)
      rw [List.drop_eq_getElem_cons hlt] at hz
      injection hz with hyx hrest
      have hy : y = items[i] := by have := congrArg Prod.fst hyx; simpa using this
      have hx : x = items2[i] := by have := congrArg Prod.snd hyx; simpa using this
      subst hy hx
      have hd : (List.range (min items.size items2.size)).drop i = i :: (List.range (min items.size items2.size)).drop (i + 1) := by simp [List.drop_eq_getElem_cons, hm]
      rw [hd, ltGo] at hR
      refine wpAny_bind (he i h1 h2 prog w _ _ ?_)
      cases hy : e i with
      | true =>
        rw [hy] at hR
        wp_walk
        exact ⟨rfl, rfl, i + 1, hrest, by simpa using hR⟩
      | false =>
        rw [hy] at hR
        simp only [Bool.not_false, if_true]
        refine wpAny_bind (wpAny_rule ?_)
        refine wpAny_bind (hr i h1 h2 hy prog w _ _ ?_)
        wp_walk
        exact ⟨_, rfl, by simpa using hR⟩
    case fin =>
      rintro ⟨b1, b2⟩ s' ⟨hb', rfl, i, hz, hR⟩
      simp only at hb'
      subst hb'
      have hge : min items.size items2.size ≤ i := by
        rcases Nat.lt_or_ge i (items.toList.zip items2.toList).length with h' | h'
        · rw [List.drop_eq_getElem_cons h'] at hz; cases hz
        · exact hZ ▸ h'
      rw [List.drop_of_length_le (by simpa using hge)] at hR
      wp_walk
      exact ⟨_, rfl, by simpa [Builtin.Tuple.tupleCompareSizes, ltGo] using hR⟩
    case h =>
      exact ⟨rfl, rfl, 0, rfl, by simpa using h⟩
theorem LtAt.tuples {A : Around} {s : Shared} {l b : Addr} {items items2 : Array Value} {e r : Nat → Bool} (hl : s.heap.IsTuple l items) (hb : s.heap.IsTuple b items2) (hu : A.units < cLine)
    (he : ∀ j (h1 : j < items.size) (h2 : j < items2.size), EqAt A.in1 s items[j] items2[j] (e j))
    (hr : ∀ j (h1 : j < items.size) (h2 : j < items2.size), e j = false → LtAt A.in1 s items[j] items2[j] (r j)) :
    LtAt A s (.ref l) (.ref b) (ltGo e r (decide (items.size < items2.size)) (List.range (min items.size items2.size))) := fun prog w E Q h => by
  obtain ⟨⟨cls, dd, data, sl⟩, ho, hc, n, hd⟩ := id hl
  obtain ⟨⟨cls2, dd2, data2, sl2⟩, ho2, hc2, n2, hd2⟩ := id hb
  simp only at hc hd hc2 hd2
  subst hc hd hc2 hd2
  exact richCompare_meets_room (op := .Lt) ⟨_, ho, rfl⟩ ⟨_, ho2, rfl⟩ F.slot_tuple_lt F.entry_tuple_lt (F.args_tuple_lt_2 _ _) (tuple_ltAt l b items items2 n n2 dd dd2 sl sl2 e r)
    ⟨ho, ho2, he, hr, show Value.bool _ ≠ Value.notImplemented ∧ Q (.bool _) s from ⟨(fun x => nomatch x), h⟩⟩ hu
theorem lt_loopAt (l b : Addr) (items items2 : Array Value) (n n2 : Nat) (dd dd2 : Option Addr) (sl sl2 : Array (Option Value)) (e r : Nat → Bool) (k : Nat) :
    ∀ i : Nat, min items.size items2.size - i = k → Meets (Builtin.«list.__eq__.loop» ⟨[.ref l, .ref b, rawInt i, rawInt 0], []⟩)
      (fun A R s => s.heap.get? l = some { cls := .type "list", dict := dd, data := .seq items n, slots := sl } ∧ s.heap.get? b = some { cls := .type "list", dict := dd2, data := .seq items2 n2, slots := sl2 } ∧
        (∀ j (h1 : j < items.size) (h2 : j < items2.size), EqAt A.in1 s items[j] items2[j] (e j)) ∧
        (∀ j (h1 : j < items.size) (h2 : j < items2.size), e j = false → LtAt A.in1 s items[j] items2[j] (r j)) ∧
        R (.ok (.ret (.bool (ltGo e r (decide (items.size < items2.size)) ((List.range (min items.size items2.size)).drop i))))) s) := by
  induction k with
  | zero =>
    intro i hk prog w A R s h
    obtain ⟨hp, g, d, tk, os⟩ := s; obtain ⟨hl, hb, he, hr, h⟩ := h
    wp_walk using wpAny_loadPart' hl, wpAny_loadPart' hb
    have hd : (List.range (min items.size items2.size)).drop i = [] := by simp; lia
    rw [hd, ltGo] at h
    by_cases hc : items.size ≤ i
    · have hi1 : items[((i : Nat) : Int).toNat]? = none := by simp; lia
      rw [hi1]
      wp_walk using wpAny_loadPart' hl, wpAny_loadPart' hb
      exact h
    · have hi1 : items[((i : Nat) : Int).toNat]? = some items[i] := by simp
      have hi2 : items2[((i : Nat) : Int).toNat]? = none := by simp; lia
      rw [hi1, hi2]
      wp_walk using wpAny_loadPart' hl, wpAny_loadPart' hb
      exact h
  | succ k ih =>
    intro i hk prog w A R s h
    obtain ⟨hp, g, d, tk, os⟩ := s; obtain ⟨hl, hb, he, hr, h⟩ := h
    wp_walk using wpAny_loadPart' hl, wpAny_loadPart' hb
    have hlt : i < items.size := by lia
    have hlt2 : i < items2.size := by lia
    have hi1 : items[((i : Nat) : Int).toNat]? = some items[i] := by simp [hlt]
    have hi2 : items2[((i : Nat) : Int).toNat]? = some items2[i] := by simp [hlt2]
    have hm : i < min items.size items2.size := by lia
    have hd : (List.range (min items.size items2.size)).drop i = i :: (List.range (min items.size items2.size)).drop (i + 1) := by simp [List.drop_eq_getElem_cons, hm]
    have hc : ((i : Int) + 1) = ((i + 1 : Nat) : Int) := by push_cast; rfl
    rw [hd, ltGo] at h
    rw [hi1, hi2]
    refine wpAny_bind (he i hlt hlt2 prog w _ _ ?_)
    cases hb' : e i with
    | true =>
      rw [hb'] at h
      wp_walk
      rw [hc]
      exact ⟨plainId_quiet plain_eq_loop _, codeAny_builtin entry_eq_loop (by
        rw [Around.under_plainId plain_eq_loop _]
        exact ih (i + 1) (by lia) prog w A R _ ⟨hl, hb, he, hr, by simpa using h⟩)⟩
    | false =>
      rw [hb'] at h
      wp_walk using wpAny_loadPart' hl, wpAny_loadPart' hb
      rw [hi1, hi2]
      refine wpAny_bind (hr i hlt hlt2 hb' prog w _ _ ?_)
      wp_walk
      simpa using h
theorem list_ltAt (l b : Addr) (items items2 : Array Value) (n n2 : Nat) (dd dd2 : Option Addr) (sl sl2 : Array (Option Value)) (e r : Nat → Bool) :
    Meets (Builtin.«list.__lt__» ⟨[.ref l, .ref b], []⟩)
      (fun A R s => s.heap.get? l = some { cls := .type "list", dict := dd, data := .seq items n, slots := sl } ∧ s.heap.get? b = some { cls := .type "list", dict := dd2, data := .seq items2 n2, slots := sl2 } ∧
        (∀ j (h1 : j < items.size) (h2 : j < items2.size), EqAt A.in1 s items[j] items2[j] (e j)) ∧
        (∀ j (h1 : j < items.size) (h2 : j < items2.size), e j = false → LtAt A.in1 s items[j] items2[j] (r j)) ∧
        R (.ok (.ret (.bool (ltGo e r (decide (items.size < items2.size)) (List.range (min items.size items2.size)))))) s) := by
  intro prog w A R s h
  obtain ⟨hp, g, d, tk, os⟩ := s; obtain ⟨hl, hb, he, hr, h⟩ := h
  have f3 := AutoSeq1.sub_list_list
  wp_walk using wpAny_loadPart' hl, wpAny_loadPart' hb
  exact ⟨plainId_quiet plain_eq_loop _, codeAny_builtin entry_eq_loop (by
    rw [Around.under_plainId plain_eq_loop _]
    exact lt_loopAt l b items items2 n n2 dd dd2 sl sl2 e r _ 0 rfl prog w A R _ ⟨hl, hb, he, hr, by simpa using h⟩)⟩
theorem LtAt.lists {A : Around} {s : Shared} {l b : Addr} {items items2 : Array Value} {e r : Nat → Bool} (hl : s.heap.IsList l items) (hb : s.heap.IsList b items2) (hu : A.units < cLine)
    (he : ∀ j (h1 : j < items.size) (h2 : j < items2.size), EqAt A.in1 s items[j] items2[j] (e j))
    (hr : ∀ j (h1 : j < items.size) (h2 : j < items2.size), e j = false → LtAt A.in1 s items[j] items2[j] (r j)) :
    LtAt A s (.ref l) (.ref b) (ltGo e r (decide (items.size < items2.size)) (List.range (min items.size items2.size))) := fun prog w E Q h => by
  obtain ⟨⟨cls, dd, data, sl⟩, ho, hc, n, hd⟩ := id hl
  obtain ⟨⟨cls2, dd2, data2, sl2⟩, ho2, hc2, n2, hd2⟩ := id hb
  simp only at hc hd hc2 hd2
  subst hc hd hc2 hd2
  exact richCompare_meets_room (op := .Lt) ⟨_, ho, rfl⟩ ⟨_, ho2, rfl⟩ F.slot_list_lt F.entry_list_lt (F.args_list_lt_2 _ _) (list_ltAt l b items items2 n n2 dd dd2 sl sl2 e r)
    ⟨ho, ho2, he, hr, show Value.bool _ ≠ Value.notImplemented ∧ Q (.bool _) s from ⟨(fun x => nomatch x), h⟩⟩ hu
/-- a pair of ints, a tuple that stands -/
def PairI (B : PM) (v : Value) (k : Int × Int) : Prop := ∃ a n t u, v = .ref a ∧ B a = some { cls := .type "tuple", data := .seq #[.int k.1 t, .int k.2 u] n }
def ltII (a b : Int × Int) : Bool := if a.1 == b.1 then decide (a.2 < b.2) else decide (a.1 < b.1)
theorem ltAt_pairs {A : Around} {s : Shared} {B : PM} {cs : Cs} {v u : Value} {a b : Int × Int} (hu : A.units < cLine) (X : St B cs s.heap) (h1 : PairI B v a) (h2 : PairI B u b) : LtAt A s v u (ltII a b) := by
  obtain ⟨a1, n1, t1, t2, rfl, e1⟩ := h1
  obtain ⟨a2, n2, u1, u2, rfl, e2⟩ := h2
  have h := LtAt.tuples (A := A) (s := s) (l := a1) (b := a2) (e := fun j => if j = 0 then a.1 == b.1 else a.2 == b.2) (r := fun j => if j = 0 then decide (a.1 < b.1) else decide (a.2 < b.2))
    ⟨_, X.sub _ _ e1, rfl, n1, rfl⟩ ⟨_, X.sub _ _ e2, rfl, n2, rfl⟩ hu ?_ ?_
  · have e : ltGo (fun j => if j = 0 then a.1 == b.1 else a.2 == b.2) (fun j => if j = 0 then decide (a.1 < b.1) else decide (a.2 < b.2)) (decide ((#[Value.int a.1 t1, Value.int a.2 t2]).size < (#[Value.int b.1 u1, Value.int b.2 u2]).size)) (List.range (min (#[Value.int a.1 t1, Value.int a.2 t2]).size (#[Value.int b.1 u1, Value.int b.2 u2]).size)) = ltII a b := by
      show ltGo _ _ false [0, 1] = _
      unfold ltII
      simp only [ltGo]
      by_cases h1 : a.1 == b.1
      · simp [h1]
        by_cases h2 : a.2 = b.2
        · simp [h2]
        · simp [h2]
      · simp [h1]
    rw [e] at h; exact h
  · intro j h1 h2
    match j, h1 with
    | 0, _ => exact EqAt_int _ _ _ _
    | 1, _ => exact EqAt_int _ _ _ _
  · intro j h1 h2 _
    match j, h1 with
    | 0, _ => exact LtAt.int _ _ _ _
    | 1, _ => exact LtAt.int _ _ _ _
end Mine

end
section
open PySem PySem.W PyProof.Rows PySem.Builtin PySem.Builtin.ObjectAttr
set_option Elab.async false
set_option maxRecDepth 100000
namespace Mine
theorem e_dga : entryFor table "dict.__getattribute__" = some Builtin.«object.__getattribute__» := PySem.F.entry_dict_ga
theorem e_sga : entryFor table "set.__getattribute__" = some Builtin.«object.__getattribute__» := PySem.F.entry_set_ga
theorem e_mdg : entryFor table "method_descriptor.__get__" = some Builtin.«method_descriptor.__get__» := entryFor_of_tree (by kernel_rfl)
theorem sl_mdg : Slot "method_descriptor" "__get__" "method_descriptor.__get__" :=
  .of (owner := "method_descriptor") (n := "__get__") (by rw [typeLookup_type, builtinLookup_eq_fast]; kernel_rfl) (by decide +kernel) (by decide +kernel) (by decide +kernel)
    (by first | exact .inl (by decide +kernel) | exact .inr (by decide +kernel)) (by rw [isSubtype_type]; kernel_rfl)
theorem mds : typeLookup (.type "method_descriptor") "__set__" = pure none := by rw [typeLookup_type, builtinLookup_eq_fast]; kernel_rfl
theorem mdd : typeLookup (.type "method_descriptor") "__delete__" = pure none := by rw [typeLookup_type, builtinLookup_eq_fast]; kernel_rfl
theorem args_mdg (a b c : Value) : argsOk "method_descriptor.__get__" ⟨[a, b, c], []⟩ := by unfold argsOk; kernel_rfl
def bnd (id : String) (d : Addr) : Obj := { cls := .type "builtin_function_or_method", data := .fields #[.builtin id, .ref d] }
section
variable {prog : Program} {w : World} {A : Around} {E : Value → Shared → Prop} {s : Shared}
theorem run_dget {P : Fin → Shared → Prop} {M : Model} {d : Addr} {o : Obj} (ho : s.heap.get? d = some o) (hc : o.cls = .type "dict")
   (h : P (.done (.ret (.ref s.heap.objs.size))) { s with heap := s.heap.push (bnd "dict.get" d) }) :
    wpAny M A (Builtin.«method_descriptor.__get__» ⟨[.builtin "dict.get", .ref d, .type "dict"], []⟩) P E s := by
  unfold Builtin.«method_descriptor.__get__»
  refine wpAny_bind (wpAny_of_eq (a := (.builtin "dict.get", some (.ref d), some (.type "dict"))) (by first | rfl | kernel_rfl) ?_)
  dsimp only
  rw [show Manifest.toldItsClass.contains "dict.get" = false by decide +kernel, if_neg (by decide)]
  refine wpAny_bind (wpAny_bind (wpAny_of_eq (a := ((Str.ofString "get", Value.type "dict") : Str × Value)) (by kernel_rfl) ?_))
  refine wpAny_bind (wpAny_bind (wpAny_bind (wpAny_load ho (wpAny_pure ?_))))
  rw [hc]
  refine wpAny_of_eq (a := true) (by rw [isSubtype_type]; kernel_rfl) ?_
  simp only [Bool.not_true, Bool.false_eq_true, if_false]
  refine wpAny_pure ?_
  exact wpAny_bind (wpAny_newObj_type (wpAny_pure h))
theorem run_shas {P : Fin → Shared → Prop} {M : Model} {d : Addr} {o : Obj} (ho : s.heap.get? d = some o) (hc : o.cls = .type "set")
   (h : P (.done (.ret (.ref s.heap.objs.size))) { s with heap := s.heap.push (bnd "set.__contains__" d) }) :
    wpAny M A (Builtin.«method_descriptor.__get__» ⟨[.builtin "set.__contains__", .ref d, .type "set"], []⟩) P E s := by
  unfold Builtin.«method_descriptor.__get__»
  refine wpAny_bind (wpAny_of_eq (a := (.builtin "set.__contains__", some (.ref d), some (.type "set"))) (by first | rfl | kernel_rfl) ?_)
  dsimp only
  rw [show Manifest.toldItsClass.contains "set.__contains__" = false by decide +kernel, if_neg (by decide)]
  refine wpAny_bind (wpAny_bind (wpAny_of_eq (a := ((Str.ofString "__contains__", Value.type "set") : Str × Value)) (by kernel_rfl) ?_))
  refine wpAny_bind (wpAny_bind (wpAny_bind (wpAny_load ho (wpAny_pure ?_))))
  rw [hc]
  refine wpAny_of_eq (a := true) (by rw [isSubtype_type]; kernel_rfl) ?_
  simp only [Bool.not_true, Bool.false_eq_true, if_false]
  refine wpAny_pure ?_
  exact wpAny_bind (wpAny_newObj_type (wpAny_pure h))
theorem get_bound {T id ga : String} {name : Str} {d : Addr} {o : Obj} {expr : Bool} {Q : Value → Shared → Prop} (ho : s.heap.get? d = some o) (hc : o.cls = .type T) (hdi : o.dict = none) (hncl : notCls o = true) (hcp : copiedNames.contains name = false)
    (sga : Slot T "__getattribute__" ga) (ega : entryFor table ga = some Builtin.«object.__getattribute__») (aga : ∀ a b, argsOk ga ⟨[a, b], []⟩)
    (slot : Slot T name id) (hty : typeOf (.builtin id) = pure (.type "method_descriptor")) (hho : handedIn (.ref d) = true)
    (run : ∀ (A' : Around) (s' : Shared) (P : Fin → Shared → Prop) (E' : Value → Shared → Prop), s'.heap.get? d = some o → P (.done (.ret (.ref s'.heap.objs.size))) { s' with heap := s'.heap.push (bnd id d) } → wpAny (model prog w) A' (Builtin.«method_descriptor.__get__» ⟨[.builtin id, .ref d, .type T], []⟩) P E' s')
    (h : Q (.ref s.heap.objs.size) { s with heap := s.heap.push (bnd id d), toks := s.toks + 1 }) :
    wpAny (model prog w) A (getAttr (.ref d) name expr) Q E s := by
  unfold getAttr getAttrBy
  have hT : ∀ tk, Shared.TypeIs { s with toks := tk } (.ref d) T := fun tk => ⟨o, ho, hc⟩
  refine wpAny_bind (wpAny_mkText (wpAny_holding ?_))
  refine wpAny_bind (wpAny_bind (wpAny_load ho (wpAny_pure ?_)))
  rw [hc]
  refine wpAny_bind (wpAny_of_eq sga.lookup ?_)
  dsimp only
  simp only [onTheHeap, Bool.false_and, Bool.false_eq_true, if_false]
  unfold getAttrByItsOwn
  refine wpAny_bind (wpAny_of_eq (a := none) rfl ?_)
  refine wpAny_bind (wpAny_attempt (wpAny_holding ?_))
  unfold callGetattribute
  simp only [onTheHeap, Bool.and_false, Bool.false_eq_true, if_false]
  unfold boundAndCalled
  rw [sga.bind]
  refine wpAny_bind (wpAny_pure ?_)
  dsimp only
  refine wpAny_call_entry sga (hT _) ega ?_ (aga _ _)
  unfold Builtin.«object.__getattribute__»
  refine wpAny_bind (wpAny_of_eq (a := ((Value.ref d, [Value.str name s.toks]) : Value × List Value)) rfl ?_)
  dsimp only
  refine wpAny_bind (wpAny_of_eq (a := name) rfl ?_)
  refine wpAny_bind (wpAny_bind (wpAny_load ho (wpAny_pure ?_)))
  rw [hc]
  refine wpAny_bind ?_
  have hown : ∀ (A' : Around) (s' : Shared) (Q' : Option Value → Shared → Prop) (E' : Value → Shared → Prop), s'.heap.get? d = some o → Q' none s' → wpAny (model prog w) A' (inOwnDict name (.ref d)) Q' E' s' := by
    intro A' s' Q' E' ho' hq
    refine wpAny_bind (wpAny_bind (wpAny_loadPart ho' ?_))
    obtain ⟨oc, od, oda, osl⟩ := o
    dsimp only at hc hdi
    subst hc hdi
    have body : wpAny (model prog w) A' (instanceDict d false) (fun a s' => wpAny (model prog w) A' (inDict name a) Q' E' s') E' s' := by
      unfold instanceDict
      refine wpAny_bind (wpAny_loadPart ho' ?_)
      exact wpAny_pure (wpAny_pure hq)
    cases oda <;> first | exact body | cases hncl
  unfold Builtin.ObjectAttr.find
  refine wpAny_bind (wpAny_of_eq slot.lookup ?_)
  refine wpAny_bind (wpAny_bind (wpAny_of_eq hty (wpAny_of_eq sl_mdg.lookup ?_)))
  refine wpAny_bind (wpAny_bind (wpAny_bind (wpAny_bind (wpAny_of_eq hty (wpAny_of_eq mds ?_)))))
  simp only [Option.isSome_none, Bool.false_eq_true, if_false]
  refine wpAny_bind (wpAny_bind (wpAny_of_eq hty (wpAny_of_eq mdd (wpAny_pure ?_))))
  simp only [Option.isSome_none, Bool.false_eq_true, if_false]
  refine wpAny_pure ?_
  dsimp only
  refine wpAny_bind (hown _ _ _ _ ho ?_)
  dsimp only
  refine wpAny_bind ?_
  unfold copiedAttributeGuard
  dsimp only
  rw [if_neg (by intro q; exact absurd (show copiedNames.contains name = true from q) (by rw [hcp]; decide))]
  refine wpAny_pure (wpAny_bind (wpAny_rule (wpAny_pure ?_)))
  dsimp only
  unfold bindTo
  dsimp only
  refine wpAny_bind (wpAny_holding ?_)
  refine wpAny_call_entry sl_mdg hty e_mdg (run _ _ _ _ ho ?_) (args_mdg _ _ _)
  refine ⟨_, rfl, ?_⟩
  refine wpAny_pure ⟨_, rfl, ?_⟩
  exact wpAny_pure h

theorem sig_dget : Manifest.signature? "dict.get" = some ⟨.positional, "dict.get", "get", .self, [⟨"key", .posOnly, true⟩, ⟨"default", .posOnly, false⟩]⟩ := by kernel_rfl
theorem sig_shas : Manifest.signature? "set.__contains__" = some ⟨.oneArg, "set.__contains__", "__contains__", .self, [⟨"object", .posOnly, true⟩]⟩ := by kernel_rfl
theorem kind_dget : builtinKind "dict.get" = some .method := by decide +kernel
theorem kind_shas : builtinKind "set.__contains__" = some .method := by decide +kernel
theorem check_dget {M : Model} {d : Addr} {o : Obj} {x y : Value} {Q : Unit → Shared → Prop} (ho : s.heap.get? d = some o) (hc : o.cls = .type "dict") (hncl : notCls o = true) (h : Q () s) : wpAny M A (checkBoundCall "dict.get" ⟨[.ref d, x, y], []⟩) Q E s := by
  unfold checkBoundCall
  rw [sig_dget, kind_dget]
  dsimp only
  rw [if_neg (by decide)]
  refine wpAny_bind (wpAny_bind (wpAny_bind (wpAny_load ho (wpAny_pure ?_))))
  rw [hc]
  refine wpAny_of_eq (a := false) (by rw [isSubtype_type]; kernel_rfl) ?_
  rw [if_neg (by decide +kernel)]
  refine wpAny_bind (wpAny_bind ?_)
  refine wpAny_loadPart ho (wpAny_pure ?_)
  refine KFB.if_not (by obtain ⟨_, _, oda, _⟩ := o; cases oda <;> first | rfl | cases hncl) ?_
  refine wpAny_bind (m := typeOf (.ref d)) (wpAny_bind (wpAny_load ho (wpAny_pure ?_)))
  rw [hc]
  dsimp only
  exact wpAny_of_eq (a := ()) (by kernel_rfl) h
theorem check_shas {M : Model} {d : Addr} {o : Obj} {x : Value} {Q : Unit → Shared → Prop} (ho : s.heap.get? d = some o) (hc : o.cls = .type "set") (hncl : notCls o = true) (h : Q () s) : wpAny M A (checkBoundCall "set.__contains__" ⟨[.ref d, x], []⟩) Q E s := by
  unfold checkBoundCall
  rw [sig_shas, kind_shas]
  dsimp only
  rw [if_neg (by decide)]
  refine wpAny_bind (wpAny_bind (wpAny_bind (wpAny_load ho (wpAny_pure ?_))))
  rw [hc]
  refine wpAny_of_eq (a := false) (by rw [isSubtype_type]; kernel_rfl) ?_
  rw [if_neg (by decide +kernel)]
  refine wpAny_bind (wpAny_bind ?_)
  refine wpAny_loadPart ho (wpAny_pure ?_)
  refine KFB.if_not (by obtain ⟨_, _, oda, _⟩ := o; cases oda <;> first | rfl | cases hncl) ?_
  refine wpAny_bind (m := typeOf (.ref d)) (wpAny_bind (wpAny_load ho (wpAny_pure ?_)))
  rw [hc]
  dsimp only
  exact wpAny_of_eq (a := ()) (by kernel_rfl) h
/-- a bound built-in called -/
theorem call_bnd {id : String} {q d : Addr} {args : List Value} {B : Builtin} {Q : Value → Shared → Prop} (hq : s.heap.get? q = some (bnd id d)) (hp : plainId id = true) (hb : entryFor table id = some B)
    (chk : ∀ (Q' : Unit → Shared → Prop) (E' : Value → Shared → Prop), Q' () s → wpAny (model prog w) A.in1 (checkBoundCall id ⟨.ref d :: args, []⟩) Q' E' s)
    (h : wpAny (model prog w) A.in1 (B ⟨.ref d :: args, []⟩) (fun fin s' => ∃ v, fin = .done (.ret v) ∧ Q v s') (fun e s' => E e s') s) :
    wpAny (model prog w) A (call (.ref q) args) Q E s := by
  refine wpAny_call (codeAny_of_tree ?_)
  show wpAny _ A.in1 (callAny (.ref q) ⟨args, []⟩) _ _ s
  simp only [callAny]
  refine wpAny_bind (wpAny_load hq ?_)
  simp only [bnd, show (Value.type "builtin_function_or_method" == Value.type "method" || Value.type "builtin_function_or_method" == Value.type "builtin_function_or_method" || Value.type "builtin_function_or_method" == Value.type "method-wrapper") = true by decide, if_true]
  refine KFB.if_so (by decide) ?_
  refine wpAny_bind (chk _ _ ?_)
  refine wpAny_bind (wpAny_pure (wpAny_pure ?_))
  refine ⟨plainId_quiet hp _, ?_⟩
  refine codeAny_builtin hb ?_
  rw [Around.under_plainId hp _]
  refine wpAny_mono h (fun fin s' hf => ?_) fun _ _ x => x
  obtain ⟨v, rfl, hv⟩ := hf
  exact hv
theorem keep_bnd {M : Model} {id : String} {q d : Addr} {Q : Keeper → Shared → Prop} (hq : s.heap.get? q = some (bnd id d)) (h : Q .machine s) : wpAny M A (keeperOf (.ref q)) Q E s := by
  unfold keeperOf
  refine wpAny_bind (wpAny_load hq ?_)
  simp only [bnd, show (Value.type "builtin_function_or_method" != Value.type "method") = true by decide, show (Value.type "builtin_function_or_method" == Value.type "builtin_function_or_method" || Value.type "builtin_function_or_method" == Value.type "method-wrapper") = true by decide, if_true]
  exact wpAny_pure h
end
end Mine

end
section
open PySem PySem.W PyProof.Rows PySem.Builtin PySem.Builtin.ObjectAttr
set_option Elab.async false
set_option maxRecDepth 100000
namespace Mine
section
variable {prog : Program} {w : World} {A : Around} {E : Value → Shared → Prop} {s : Shared} {B : PM} {cs : Cs} {h₀ : Heap} {mg : Str → Option Value} {K : Frag}
theorem Kin {h : Heap} (KX : K.In h₀) (K0 : In0 h₀ B) (X : St B cs h) : K.In h := KX.keeps (K0.keep X)
/-- a method of the text, called -/
theorem codeM {name qual : Str} {params : Arguments} {body : List Stmt} {scope : Scope} {dV kV doc pm cdv ct oc : Value} {an od : Option Addr} {osl : Array (Option Value)} {f : Addr} {args : Args} {binds : List (Str × Value)} {R' : Result → Shared → Prop} {d u : Nat}
    (R : Rm A (d + 1) u) (G : G0 h₀ mg) (K0 : In0 h₀ B) (KX : K.In h₀) (X : St B cs s.heap)
    (ho : K.lookup f = some ⟨oc, od, .func (fnOf name qual params body scope dV kV doc pm an cdv ct), osl⟩) (hcd : codeIn K cdv qual = true)
    (hbind : BindsTo s (fnOf name qual params body scope dV kV doc pm an cdv ct) args binds) (hloc : ∀ y ∈ binds, scope.names.lookup y.1 = some .local)
    (h : ∀ h₁ L tk, St B ((L, NsP (fun x => binds.reverse.lookup x)) :: cs) h₁ →
      wpAny (model prog w) (A.deeper (envOf qual scope L f cdv)) (execs body (envOf qual scope L f cdv))
        (fun fl s' => R' (.ok (.ret (match fl with | .ret v => v | _ => .none))) s') (fun _ _ => False) { s with heap := h₁, toks := tk })
    (hco : scope.isCoroutine = false := by rfl) (hgen : scope.isGenerator = false := by rfl) (hk : scope.kind = .function := by rfl)
    (hcell : ∀ x ∈ scope.names, x.2 ≠ .cell := by decide +kernel) : codeAny (model prog w) A (.call (.ref f) args) R' s := by
  have hkeep := K0.keep X
  have KI := Kin KX K0 X
  refine codeAny_call_def (fd := fnOf name qual params body scope dV kV doc pm an cdv ct) (body := body) (binds := binds) (by have := R.depth; show A.depth < 1000; lia) (KI _ _ ho) rfl (G.nolimit.keeps hkeep) (codeRec_of KI hcd) rfl hbind hcell hloc (fun h₁ hns hk₁ => ?_) hco hgen hk
  refine wpAny_mono (h h₁ s.heap.objs.size _ ?_) (fun f s' q => q) fun _ _ q => q.elim
  obtain ⟨oL, eL, kL⟩ := NsP_of hns
  refine ⟨fun b ob e => hk₁ _ _ (X.sub b ob e), fun p hp => ?_, fun p hp => ?_, ?_⟩
  · rcases List.mem_cons.mp hp with rfl | hp
    · exact ⟨oL, eL, kL⟩
    · obtain ⟨ob, e, q⟩ := X.cells p hp
      exact ⟨ob, hk₁ _ _ e, q⟩
  · rcases List.mem_cons.mp hp with rfl | hp
    · cases e : B s.heap.objs.size with
      | none => rfl
      | some ob => exact absurd (X.ltB e) (Nat.lt_irrefl _)
    · exact X.off p hp
  · rw [List.map_cons, List.nodup_cons]
    refine ⟨fun q => ?_, X.nd⟩
    obtain ⟨p, hp, e⟩ := List.mem_map.mp q
    obtain ⟨ob, e', _⟩ := X.cells p hp
    exact absurd (e ▸ Heap.lt_size e') (Nat.lt_irrefl _)
theorem callM {name qual : Str} {params : Arguments} {body : List Stmt} {scope : Scope} {dV kV doc pm cdv ct oc : Value} {an od : Option Addr} {osl : Array (Option Value)} {f : Addr} {args : List Value} {binds : List (Str × Value)} {Q : Value → Shared → Prop} {d u : Nat}
    (R : Rm A (d + 1) u) (G : G0 h₀ mg) (K0 : In0 h₀ B) (KX : K.In h₀) (X : St B cs s.heap)
    (ho : K.lookup f = some ⟨oc, od, .func (fnOf name qual params body scope dV kV doc pm an cdv ct), osl⟩) (hcd : codeIn K cdv qual = true)
    (hbind : BindsTo s (fnOf name qual params body scope dV kV doc pm an cdv ct) ⟨args, []⟩ binds) (hloc : ∀ y ∈ binds, scope.names.lookup y.1 = some .local)
    (h : ∀ h₁ L tk, St B ((L, NsP (fun x => binds.reverse.lookup x)) :: cs) h₁ →
      wpAny (model prog w) (A.deeper (envOf qual scope L f cdv)) (execs body (envOf qual scope L f cdv))
        (fun fl s' => Q (match fl with | .ret v => v | _ => .none) s') (fun _ _ => False) { s with heap := h₁, toks := tk })
    (hco : scope.isCoroutine = false := by rfl) (hgen : scope.isGenerator = false := by rfl) (hk : scope.kind = .function := by rfl)
    (hcell : ∀ x ∈ scope.names, x.2 ≠ .cell := by decide +kernel) : wpAny (model prog w) A (call (.ref f) args) Q E s :=
  wpAny_call (codeM R G K0 KX X ho hcd hbind hloc h hco hgen hk hcell)
/-- the own names of an object -/
def IdP (l : Str → Option Value) (k : Nat) : Obj → Prop := fun o => ∃ es n, o = dictOf es n ∧ es.length ≤ k ∧ (∀ e ∈ es, ∃ x t, e.key = .str x t) ∧ ∀ name, (es.find? (·.key.isStr name)).map (·.val) = l name
theorem IdP.empty : IdP (fun _ => none) 0 emptyDict := ⟨[], 0, rfl, Nat.le_refl _, (fun _ h => nomatch h), fun _ => rfl⟩
theorem noRef {es : List DictEntry} (hk : ∀ e ∈ es, ∃ x t, e.key = .str x t) : es.any (·.refKey) = false := by
  rw [List.any_eq_false]
  intro e he
  obtain ⟨x, t, q⟩ := hk e he
  unfold DictEntry.refKey
  rw [q]; exact Bool.false_ne_true
theorem getL_of {es : List DictEntry} (hk : ∀ e ∈ es, ∃ x t, e.key = .str x t) (name : Str) : getL name es = some ((es.find? (·.key.isStr name)).map (·.val)) := by
  unfold getL
  cases es.find? (·.key.isStr name) with
  | some e => rfl
  | none => simp only [noRef hk]; rfl
theorem isStr_str (y x : Str) (t : Tok) : (Value.str y t).isStr x = (y == x) := rfl
theorem find_put (name : Str) (hsh : Int) (tk : Tok) (v : Value) (x : Str) : ∀ (es : List DictEntry), (∀ e ∈ es, ∃ x t, e.key = .str x t) →
    ((putL name hsh (.str name tk) v es).find? (·.key.isStr x)).map (·.val) = if x = name then some v else (es.find? (·.key.isStr x)).map (·.val)
  | [], _ => by
    unfold putL
    rw [List.find?_cons, isStr_str]
    by_cases h : x = name
    · subst h; simp
    · have : (name == x) = false := beq_eq_false_iff_ne.mpr (fun q => h q.symm)
      simp [this, h]
  | ⟨eh, ek, ev⟩ :: r, hk => by
    obtain ⟨y, t, q⟩ := hk _ List.mem_cons_self
    dsimp only at q
    subst q
    have ih := find_put name hsh tk v x r fun e he => hk e (List.mem_cons_of_mem _ he)
    unfold putL
    dsimp only
    rw [isStr_str]
    by_cases h : y = name
    · subst h
      rw [beq_self_eq_true, if_pos rfl, List.find?_cons, List.find?_cons]
      dsimp only
      rw [isStr_str]
      by_cases hx : x = y
      · subst hx; simp
      · have : (y == x) = false := beq_eq_false_iff_ne.mpr (fun q => hx q.symm)
        rw [this, if_neg hx]
    · rw [beq_eq_false_iff_ne.mpr h, if_neg Bool.false_ne_true, List.find?_cons, List.find?_cons]
      dsimp only
      rw [isStr_str]
      by_cases hx : y = x
      · subst hx; simp [h]
      · rw [beq_eq_false_iff_ne.mpr hx]; exact ih
theorem put_len (name : Str) (hsh : Int) (key v : Value) : ∀ es : List DictEntry, (putL name hsh key v es).length ≤ es.length + 1
  | [] => by simp [putL]
  | e :: r => by
    unfold putL
    split
    · simp
    · simp only [List.length_cons]; have := put_len name hsh key v r; lia
theorem put_keys (name : Str) (hsh : Int) (tk : Tok) (v : Value) : ∀ es : List DictEntry, (∀ e ∈ es, ∃ x t, e.key = .str x t) → ∀ e ∈ putL name hsh (.str name tk) v es, ∃ x t, e.key = .str x t
  | [], _ => by intro e he; simp [putL] at he; subst he; exact ⟨_, _, rfl⟩
  | e :: r, hk => by
    intro e' he'
    unfold putL at he'
    split at he'
    · rcases List.mem_cons.mp he' with rfl | q
      · exact hk e List.mem_cons_self
      · exact hk _ (List.mem_cons_of_mem _ q)
    · rcases List.mem_cons.mp he' with rfl | q
      · exact hk _ List.mem_cons_self
      · exact put_keys name hsh tk v r (fun e he => hk e (List.mem_cons_of_mem _ he)) _ q
variable {x dx C : Addr} {l : Str → Option Value} {k i : Nat}
theorem instAt {h : Heap} {ix : Nat} (X : St B cs h) (hi : cs[i]? = some (dx, IdP l k)) (hx : B x = some (instObj C dx)) : ∃ es n, h.get? dx = some (dictOf es n) ∧ es.length ≤ k ∧ (∀ e ∈ es, ∃ x t, e.key = .str x t) ∧ (∀ name, (es.find? (·.key.isStr name)).map (·.val) = l name) ∧ InstAt h x (instObj C dx) C (some (dictOf es n)) := by
  obtain ⟨o, e, es, n, rfl, h1, h2, h3⟩ := X.at_ hi
  exact ⟨es, n, e, h1, h2, h3, X.sub _ _ hx, rfl, rfl, e⟩
theorem setI {name : Str} {v : Value} {Q : Unit → Shared → Prop} (KX : K.In h₀) (K0 : In0 h₀ B) (X : St B cs s.heap) (hi : cs[i]? = some (dx, IdP l k)) (hx : B x = some (instObj C dx))
    (hs : findIn K (.ref C) "__setattr__" = some (some (.builtin "object.__setattr__"))) (hp : plainOver K C = true) (ht : takerIn K C name = some none) (hh : hasDictIn K C = true) (hk : k ≤ 900)
    (h : ∀ h' tk, St B (cs.set i (dx, IdP (upd l name v) (k + 1))) h' → Q () { s with heap := h', toks := tk }) :
    wpAny (model prog w) A (setAttr (.ref x) name v) Q E s := by
  have KI := Kin KX K0 X
  obtain ⟨es, n, D, h1, h2, h3, I⟩ := instAt (ix := 0) X hi hx
  refine set_plain KI I hs ?_
  refine osa_open (s := { s with toks := s.toks + 1 }) KI I hp ht fun b => ?_
  obtain ⟨cd, hc, hd'⟩ := any_some hh
  have D2 : (s.heap.update dx (Obj.putName name (PyData.keyHash w.params name) (.str name (s.toks + 1)) v)).get? dx = some (dictOf (putL name (PyData.keyHash w.params name) (.str name (s.toks + 1)) v es) (putN name es n)) := by
    rw [Heap.get?_update_self _ D (by rw [putName_dict]; rfl), putName_dict]
  have U := X.upd (P' := IdP (upd l name v) (k + 1)) hi (Heap.SameBut.update s.heap dx (Obj.putName name (PyData.keyHash w.params name) (.str name (s.toks + 1)) v)) ⟨_, D2, _, _, rfl, by have := put_len name (PyData.keyHash w.params name) (.str name (s.toks + 1)) v es; lia, put_keys _ _ _ _ es h2, fun y => by
    rw [find_put _ _ _ _ _ es h2, h3]; rfl⟩
  obtain ⟨hx', -, -, -⟩ := I
  refine wpAny_bind (wpAny_pure (wpAny_bind (wpAny_bind (wpAny_loadPart hx' (wpAny_bind ((looks_clsIn KI hc).at ?_))))))
  rw [hd']
  refine wpAny_pure (a := some dx) (wpAny_bind (wpAny_pure (wpAny_bind ?_)))
  unfold nsSet
  refine wpAny_bind (wpAny_bind (wpAny_askSetting (wpAny_pure (wpAny_bind (wpAny_mkText (wpAny_bind (wpAny_loadPart D ?_)))))))
  dsimp only
  have c : (!es.toArray.any (·.key.isStr name) && es.toArray.any (·.refKey)) = false := by
    rw [← Array.any_toList, ← Array.any_toList]
    simp only [noRef h2, Bool.and_false]
  rw [aRefKeyMayBeTheName_at, c]
  refine wpAny_updatePart D ?_
  refine wpAny_bind (wpAny_lookBehind D2 (by exact pastItsLine_dict (by rw [List.size_toArray, sizeLine_eq]; have := put_len name (PyData.keyHash w.params name) (.str name (s.toks + 1)) v es; lia)) ?_)
  exact wpAny_pure (h _ _ U)
theorem getI {name : Str} {v : Value} {expr : Bool} {attr : Option Value} {Q : Value → Shared → Prop} (KX : K.In h₀) (K0 : In0 h₀ B) {es : List DictEntry} {n : Nat} (X : St B cs s.heap) (I : InstAt s.heap x (instObj C dx) C (some (dictOf es n))) (h2 : ∀ e ∈ es, ∃ x t, e.key = .str x t)
    (hg : plainGet K C name = true) (hh : hasDictIn K C = true) (ha : findIn K (.ref C) name = some attr) (hn : noGet K attr = true) (hl : (es.find? (·.key.isStr name)).map (·.val) = some v) (hv : handedIn v = true)
    (h : Q v { s with toks := s.toks + 1 }) : wpAny (model prog w) A (getAttr (.ref x) name expr) Q E s :=
  get_value (Kin KX K0 X) I (plainGet_of hg).1 (findObj_own hh ha hn (by rw [lookIn_dict, getL_of h2, hl])) hv h
theorem methI {name : Str} {pl : Sem Bool} {Q : Value × List Value → Shared → Prop} {f : Addr} (KX : K.In h₀) (K0 : In0 h₀ B) {es : List DictEntry} {n : Nat} (X : St B cs s.heap) (I : InstAt s.heap x (instObj C dx) C (some (dictOf es n))) (h2 : ∀ e ∈ es, ∃ x t, e.key = .str x t)
    (hg : plainGet K C name = true) (hf : findIn K (.ref C) name = some (some (.ref f))) (ht : isFn K (.ref f) = true) (hl : (es.find? (·.key.isStr name)).map (·.val) = none) (h : Q (.ref f, [.ref x]) s) :
    wpAny (model prog w) A (getMethod (.ref x) name pl) Q E s :=
  method_fn (Kin KX K0 X) I (plainGet_of hg).1 (plainGet_of hg).2 hf (beq_iff_eq.mp ht) (by show (lookIn name (dictOf es n)).map _ = _; rw [lookIn_dict, getL_of h2, hl]; rfl) h
end
end Mine

end
section
open PySem PySem.W PyProof.Rows PySem.Builtin PySem.Builtin.ObjectAttr
set_option Elab.async false
set_option maxRecDepth 100000
namespace Mine
section
variable {P : Params} {d : Nat → Value}
theorem k_set : findIn (KD P d) (.ref 242) "__setattr__" = some (some (.builtin "object.__setattr__")) := by kernel_rfl
theorem k_over : plainOver (KD P d) 242 = true := by kernel_rfl
theorem k_has : hasDictIn (KD P d) 242 = true := by kernel_rfl
theorem k_get (name : Str) : plainGet (KD P d) 242 name = true := by kernel_rfl
theorem k_makes : makesIn (KD P d) 242 = true := by kernel_rfl
theorem kt_isjunk : takerIn (KD P d) 242 "isjunk" = some none := by kernel_rfl
theorem kn_isjunk : findIn (KD P d) (.ref 242) "isjunk" = some none := by kernel_rfl
theorem kt_a : takerIn (KD P d) 242 "a" = some none := by kernel_rfl
theorem kn_a : findIn (KD P d) (.ref 242) "a" = some none := by kernel_rfl
theorem kt_b : takerIn (KD P d) 242 "b" = some none := by kernel_rfl
theorem kn_b : findIn (KD P d) (.ref 242) "b" = some none := by kernel_rfl
theorem kt_autojunk : takerIn (KD P d) 242 "autojunk" = some none := by kernel_rfl
theorem kn_autojunk : findIn (KD P d) (.ref 242) "autojunk" = some none := by kernel_rfl
theorem kt_matching_blocks : takerIn (KD P d) 242 "matching_blocks" = some none := by kernel_rfl
theorem kn_matching_blocks : findIn (KD P d) (.ref 242) "matching_blocks" = some none := by kernel_rfl
theorem kt_opcodes : takerIn (KD P d) 242 "opcodes" = some none := by kernel_rfl
theorem kn_opcodes : findIn (KD P d) (.ref 242) "opcodes" = some none := by kernel_rfl
theorem kt_fullbcount : takerIn (KD P d) 242 "fullbcount" = some none := by kernel_rfl
theorem kn_fullbcount : findIn (KD P d) (.ref 242) "fullbcount" = some none := by kernel_rfl
theorem kt_b2j : takerIn (KD P d) 242 "b2j" = some none := by kernel_rfl
theorem kn_b2j : findIn (KD P d) (.ref 242) "b2j" = some none := by kernel_rfl
theorem kt_bjunk : takerIn (KD P d) 242 "bjunk" = some none := by kernel_rfl
theorem kn_bjunk : findIn (KD P d) (.ref 242) "bjunk" = some none := by kernel_rfl
theorem kt_bpopular : takerIn (KD P d) 242 "bpopular" = some none := by kernel_rfl
theorem kn_bpopular : findIn (KD P d) (.ref 242) "bpopular" = some none := by kernel_rfl
theorem km_160 : findIn (KD P d) (.ref 242) "__init__" = some (some (.ref 160)) := by kernel_rfl
theorem kf_160 : typeIn (KD P d) (.ref 160) = some (.type "function") := by kernel_rfl
theorem kq_160 : isFn (KD P d) (.ref 160) = true := by kernel_rfl
theorem kl_160 : (KD P d).lookup 160 = some ⟨.type "function", none, .func (fnOf "__init__" "SequenceMatcher.__init__" (fnParams (mth 5 1)) (fnBody (mth 5 1)) (fnScope (mth 5 1)) (.ref 153) .none (d 160) (.str "cpy313.difflib" 194) none (.ref 159) .none), #[]⟩ := by kernel_rfl
theorem kc_160 : codeIn (KD P d) (.ref 159) "SequenceMatcher.__init__" = true := by kernel_rfl
theorem km_167 : findIn (KD P d) (.ref 242) "set_seqs" = some (some (.ref 167)) := by kernel_rfl
theorem kf_167 : typeIn (KD P d) (.ref 167) = some (.type "function") := by kernel_rfl
theorem kq_167 : isFn (KD P d) (.ref 167) = true := by kernel_rfl
theorem kl_167 : (KD P d).lookup 167 = some ⟨.type "function", none, .func (fnOf "set_seqs" "SequenceMatcher.set_seqs" (fnParams (mth 5 2)) (fnBody (mth 5 2)) (fnScope (mth 5 2)) (.none) .none (d 167) (.str "cpy313.difflib" 194) none (.ref 166) .none), #[]⟩ := by kernel_rfl
theorem kc_167 : codeIn (KD P d) (.ref 166) "SequenceMatcher.set_seqs" = true := by kernel_rfl
theorem km_174 : findIn (KD P d) (.ref 242) "set_seq1" = some (some (.ref 174)) := by kernel_rfl
theorem kf_174 : typeIn (KD P d) (.ref 174) = some (.type "function") := by kernel_rfl
theorem kq_174 : isFn (KD P d) (.ref 174) = true := by kernel_rfl
theorem kl_174 : (KD P d).lookup 174 = some ⟨.type "function", none, .func (fnOf "set_seq1" "SequenceMatcher.set_seq1" (fnParams (mth 5 3)) (fnBody (mth 5 3)) (fnScope (mth 5 3)) (.none) .none (d 174) (.str "cpy313.difflib" 194) none (.ref 173) .none), #[]⟩ := by kernel_rfl
theorem kc_174 : codeIn (KD P d) (.ref 173) "SequenceMatcher.set_seq1" = true := by kernel_rfl
theorem km_181 : findIn (KD P d) (.ref 242) "set_seq2" = some (some (.ref 181)) := by kernel_rfl
theorem kf_181 : typeIn (KD P d) (.ref 181) = some (.type "function") := by kernel_rfl
theorem kq_181 : isFn (KD P d) (.ref 181) = true := by kernel_rfl
theorem kl_181 : (KD P d).lookup 181 = some ⟨.type "function", none, .func (fnOf "set_seq2" "SequenceMatcher.set_seq2" (fnParams (mth 5 4)) (fnBody (mth 5 4)) (fnScope (mth 5 4)) (.none) .none (d 181) (.str "cpy313.difflib" 194) none (.ref 180) .none), #[]⟩ := by kernel_rfl
theorem kc_181 : codeIn (KD P d) (.ref 180) "SequenceMatcher.set_seq2" = true := by kernel_rfl
theorem km_188 : findIn (KD P d) (.ref 242) "_SequenceMatcher__chain_b" = some (some (.ref 188)) := by kernel_rfl
theorem kf_188 : typeIn (KD P d) (.ref 188) = some (.type "function") := by kernel_rfl
theorem kq_188 : isFn (KD P d) (.ref 188) = true := by kernel_rfl
theorem kl_188 : (KD P d).lookup 188 = some ⟨.type "function", none, .func (fnOf "__chain_b" "SequenceMatcher.__chain_b" (fnParams (mth 5 5)) (fnBody (mth 5 5)) (fnScope (mth 5 5)) (.none) .none (d 188) (.str "cpy313.difflib" 194) none (.ref 187) .none), #[]⟩ := by kernel_rfl
theorem kc_188 : codeIn (KD P d) (.ref 187) "SequenceMatcher.__chain_b" = true := by kernel_rfl
theorem km_196 : findIn (KD P d) (.ref 242) "find_longest_match" = some (some (.ref 196)) := by kernel_rfl
theorem kf_196 : typeIn (KD P d) (.ref 196) = some (.type "function") := by kernel_rfl
theorem kq_196 : isFn (KD P d) (.ref 196) = true := by kernel_rfl
theorem kl_196 : (KD P d).lookup 196 = some ⟨.type "function", none, .func (fnOf "find_longest_match" "SequenceMatcher.find_longest_match" (fnParams (mth 5 6)) (fnBody (mth 5 6)) (fnScope (mth 5 6)) (.ref 189) .none (d 196) (.str "cpy313.difflib" 194) none (.ref 195) .none), #[]⟩ := by kernel_rfl
theorem kc_196 : codeIn (KD P d) (.ref 195) "SequenceMatcher.find_longest_match" = true := by kernel_rfl
end
end Mine


end
section
open PySem PySem.W PyProof.Rows PySem.Builtin PySem.Builtin.ObjectAttr
set_option Elab.async false
set_option maxRecDepth 100000
namespace Mine
section
variable {prog : Program} {w : World} {A : Around} {E : Value → Shared → Prop} {s : Shared} {B : PM} {cs : Cs} {h₀ : Heap} {mg : Str → Option Value} {P : Params} {d : Nat → Value} {env : Env} {x dx : Addr} {l : Str → Option Value} {k i : Nat}
theorem callMeth {o : Expr} {name : Str} {apos pos : Pos} {args : List Expr} {Q : Value → Shared → Prop}
    (hbase : attributeBase o name env (eval o env) = eval o env)
    (hfew : ((backTo pos (starEach args env)).all (fun x => !x.1) && (backToKw pos (keywordEach [] env)).all (fun x => x.1.isSome)
      && decide (args.length + ([] : List Keyword).length + (if ([] : List Keyword).isEmpty then 0 else 1) < 30)) = true)
    (hline : (apos.endLine == pos.line) = true)
    (h : wpAny (model prog w) A (eval o env) (fun ov s₁ => ∀ pl, wpAny (model prog w) A (getMethod ov name pl) (fun fm s₂ => wpAny (model prog w) A (callWith pos fm.1 fm.2 (backTo pos (starEach args env)) []) Q E s₂) E s₁) E s) :
    wpAny (model prog w) A (eval (.Call (.Attribute o name apos) args [] pos) env) Q E s := by
  rw [arm_eval_Call, hbase]
  refine wpAny_bind (wpAny_mono h (fun ov s₁ h₁ => ?_) fun _ _ e => e)
  refine wpAny_bind (wpAny_standAt ?_)
  have hform : methodCallForm (args.length + ([] : List Keyword).length) (backTo pos (starEach args env)) (backToKw pos (keywordEach [] env)) = true := hfew
  first
    | (have hpos : methodCallPos true o env apos pos = pure pos := by unfold methodCallPos; simp [hline]
       unfold methodCall
       rw [hform]
       refine wpAny_bind (wpAny_holding (wpAny_mono (h₁ _) (fun fm s₂ h₂ => ?_) fun _ _ x => x))
       exact wpAny_bind (wpAny_of_eq hpos h₂))
    | (unfold methodCall calleeOf methodCallPos
       simp only [hform, hline, if_true, Bool.not_true, Bool.or_true]
       refine wpAny_bind (wpAny_holding (wpAny_mono (h₁ _) (fun fm s₂ h₂ => ?_) fun _ _ x => x))
       exact wpAny_bind (wpAny_pure h₂))
theorem asgA {M : Model} {o : Expr} {attr : Str} {pos : Pos} {v : Value} {Q : Unit → Shared → Prop}
    (h : wpAny M A (eval o env) (fun ov s₂ => wpAny M A (setAttr ov attr v) (fun _ => Q ()) E s₂) E s) : wpAny M A (assign (.Attribute o attr pos) env v) Q E s := by
  rw [arm_assign_Attribute]
  exact wpAny_bind (wpAny_holding (wpAny_mono h (fun ov s₂ h₂ => wpAny_bind (wpAny_standAt (wpAny_bind (wpAny_holding (wpAny_mono h₂ (fun _ _ q => wpAny_release q) fun _ _ x => x))))) fun _ _ x => x))
theorem getA {name : Str} {v : Value} {expr : Bool} {Q : Value → Shared → Prop} (KX : (KD P d).In h₀) (K0 : In0 h₀ B) (X : St B cs s.heap) (hi : cs[i]? = some (dx, IdP l k)) (hx : B x = some (instObj 242 dx))
    (ha : findIn (KD P d) (.ref 242) name = some none) (hl : l name = some v) (hv : handedIn v = true) (h : Q v { s with toks := s.toks + 1 }) : wpAny (model prog w) A (getAttr (.ref x) name expr) Q E s := by
  obtain ⟨es, n, D, h1, h2, h3, I⟩ := instAt (ix := 0) X hi hx
  exact getI KX K0 X I h2 (k_get _) k_has ha rfl ((h3 _).trans hl) hv h
theorem getB {name : Str} {v : Value} {expr : Bool} {o : Obj} {Q : Value → Shared → Prop} (KX : (KD P d).In h₀) (K0 : In0 h₀ B) (X : St B cs s.heap) (hd : B dx = some o) (ho : IdP l k o) (hx : B x = some (instObj 242 dx))
    (ha : findIn (KD P d) (.ref 242) name = some none) (hl : l name = some v) (hv : handedIn v = true) (h : Q v { s with toks := s.toks + 1 }) : wpAny (model prog w) A (getAttr (.ref x) name expr) Q E s := by
  obtain ⟨es, n, rfl, h1, h2, h3⟩ := ho
  exact getI KX K0 X ⟨X.sub _ _ hx, rfl, rfl, X.sub _ _ hd⟩ h2 (k_get _) k_has ha rfl ((h3 _).trans hl) hv h
theorem methA {name : Str} {pl : Sem Bool} {Q : Value × List Value → Shared → Prop} {f : Addr} (KX : (KD P d).In h₀) (K0 : In0 h₀ B) (X : St B cs s.heap) (hi : cs[i]? = some (dx, IdP l k)) (hx : B x = some (instObj 242 dx))
    (hf : findIn (KD P d) (.ref 242) name = some (some (.ref f))) (ht : isFn (KD P d) (.ref f) = true) (hl : l name = none) (h : Q (.ref f, [.ref x]) s) : wpAny (model prog w) A (getMethod (.ref x) name pl) Q E s := by
  obtain ⟨es, n, D, h1, h2, h3, I⟩ := instAt (ix := 0) X hi hx
  exact methI KX K0 X I h2 (k_get _) hf ht ((h3 _).trans hl) h
theorem methB {name : Str} {pl : Sem Bool} {o : Obj} {Q : Value × List Value → Shared → Prop} {f : Addr} (KX : (KD P d).In h₀) (K0 : In0 h₀ B) (X : St B cs s.heap) (hd : B dx = some o) (ho : IdP l k o) (hx : B x = some (instObj 242 dx))
    (hf : findIn (KD P d) (.ref 242) name = some (some (.ref f))) (ht : isFn (KD P d) (.ref f) = true) (hl : l name = none) (h : Q (.ref f, [.ref x]) s) : wpAny (model prog w) A (getMethod (.ref x) name pl) Q E s := by
  obtain ⟨es, n, rfl, h1, h2, h3⟩ := ho
  exact methI KX K0 X ⟨X.sub _ _ hx, rfl, rfl, X.sub _ _ hd⟩ h2 (k_get _) hf ht ((h3 _).trans hl) h
theorem setA {name : Str} {v : Value} {Q : Unit → Shared → Prop} (KX : (KD P d).In h₀) (K0 : In0 h₀ B) (X : St B cs s.heap) (hi : cs[i]? = some (dx, IdP l k)) (hx : B x = some (instObj 242 dx))
    (ht : takerIn (KD P d) 242 name = some none) (hk : k ≤ 900)
    (h : ∀ h' tk, St B (cs.set i (dx, IdP (upd l name v) (k + 1))) h' → Q () { s with heap := h', toks := tk }) : wpAny (model prog w) A (setAttr (.ref x) name v) Q E s :=
  setI KX K0 X hi hx k_set k_over ht k_has hk h
/-- a method's arguments, then the call -/
theorem cwM {f : Addr} {first : List Value} {pos : Pos} {args : List Expr} {Q : Value → Shared → Prop} {o : Obj} {fd : FuncData} (K0 : In0 h₀ B) (ho : h₀.get? f = some o) (hf : o.data = .func fd)
    (h : wpAny (model prog w) A (spliced (backTo pos (starEach args env))) (fun vs s₁ => (∃ B' cs', Le B B' ∧ St B' cs' s₁.heap) ∧ wpAny (model prog w) A (call (.ref f) (first ++ vs)) Q E s₁) E s)
    (hst : ∃ x r, backTo pos (starEach args env) = (false, x) :: r := by exact ⟨_, _, rfl⟩) :
    wpAny (model prog w) A (callWith pos (.ref f) first (backTo pos (starEach args env)) []) Q E s := by
  refine Calls.callWith_function (o := o) (fd := fd) ?_
  obtain ⟨x, r, e⟩ := hst
  rw [e] at h ⊢
  refine Calls.evalArgs_plain (wpAny_mono h (fun vs s₁ h₁ => ?_) fun _ _ q => q)
  obtain ⟨⟨B', cs', l, X'⟩, h₁⟩ := h₁
  exact ⟨⟨(K0.le l).keep X' _ _ ho, hf⟩, h₁⟩
theorem cwM0 {f : Addr} {first : List Value} {pos : Pos} {Q : Value → Shared → Prop} {o : Obj} {fd : FuncData} (K0 : In0 h₀ B) (X : St B cs s.heap) (ho : h₀.get? f = some o) (hf : o.data = .func fd)
    (h : wpAny (model prog w) A (call (.ref f) (first ++ [])) Q E s) :
    wpAny (model prog w) A (callWith pos (.ref f) first (backTo pos (starEach [] env)) []) Q E s := by
  refine Calls.callWith_function (o := o) (fd := fd) ?_
  exact PySem.evalArgs_none ⟨⟨K0.keep X _ _ ho, hf⟩, h⟩
end
end Mine

end
section
open PySem PySem.W PyProof.Rows
set_option Elab.async false
set_option maxRecDepth 100000
namespace Mine
def LiP (l : Addr) (i : Nat) : Obj → Prop := fun o => o.cls = .type "list_iterator" ∧ o.data = .fields #[.ref l, .int i 0]
def RiP (x left step : Int) : Obj → Prop := fun o => o = { cls := .type "range_iterator", dict := none, data := .fields #[rawInt x, rawInt left, rawInt step], slots := #[] }
def EnP (it : Addr) (i : Int) : Obj → Prop := fun o => ∃ old, o = { cls := .type "enumerate", dict := none, data := .fields #[.none, .bool false, .ref it, rawInt i, .none, old], slots := #[] }
theorem St.li {B : PM} {cs : Cs} {h : Heap} {i j : Nat} {it l : Addr} (X : St B cs h) (hi : cs[i]? = some (it, LiP l j)) : h.IsListIter it l j := let ⟨o, e, a, b⟩ := X.at_ hi; ⟨o, e, a, b⟩
/-- all but one cell kept -/
theorem St.ext {B : PM} {cs : Cs} {h h' : Heap} {it : Addr} {P : Obj → Prop} (X : St B ((it, P) :: cs) h) (hx : Heap.ExtBut it h h') : St B cs h' := by
  have hn := X.nd
  rw [List.map_cons, List.nodup_cons] at hn
  have hb := X.off _ (List.mem_cons_self (a := (it, P)) (l := cs))
  refine ⟨fun b o e => hx b o (fun q => by subst q; rw [hb] at e; cases e) (X.sub b o e), fun p hp => ?_, fun p hp => X.off p (List.mem_cons_of_mem _ hp), hn.2⟩
  obtain ⟨o, e, k⟩ := X.cells p (List.mem_cons_of_mem _ hp)
  exact ⟨o, hx _ _ (fun q => hn.1 (List.mem_map.mpr ⟨p, hp, q⟩)) e, k⟩
/-- a heap that keeps all but two cells -/
theorem St.ext2 {B : PM} {cs : Cs} {h h' : Heap} {e it : Addr} {P P' : Obj → Prop} (X : St B ((e, P) :: (it, P') :: cs) h) (hx : ∀ b o, b ≠ e → b ≠ it → h.get? b = some o → h'.get? b = some o) : St B cs h' := by
  have hn := X.nd
  rw [List.map_cons, List.nodup_cons, List.map_cons, List.nodup_cons] at hn
  have h1 := X.off (e, P) (by simp)
  have h2 := X.off (it, P') (by simp)
  refine ⟨fun b o q => hx b o (fun z => by subst z; rw [h1] at q; cases q) (fun z => by subst z; rw [h2] at q; cases q) (X.sub b o q), fun p hp => ?_, fun p hp => X.off p (by simp [hp]), hn.2.2⟩
  obtain ⟨o, q, k⟩ := X.cells p (by simp [hp])
  exact ⟨o, hx _ _ (fun z => hn.1 (by rw [← z]; simp; exact .inr ⟨_, hp⟩)) (fun z => hn.2.1 (List.mem_map.mpr ⟨p, hp, z⟩)) q, k⟩
/-- a cell put to a state that has it -/
theorem St.put {B : PM} {cs : Cs} {h : Heap} {a : Addr} {P : Obj → Prop} (X : St B cs h) (hb : B a = none) (hc : a ∉ cs.map (·.1)) (hp : ∃ o, h.get? a = some o ∧ P o) : St B ((a, P) :: cs) h :=
  ⟨X.sub, fun p q => by rcases List.mem_cons.mp q with rfl | q; exact hp; exact X.cells p q, fun p q => by rcases List.mem_cons.mp q with rfl | q; exact hb; exact X.off p q, by rw [List.map_cons, List.nodup_cons]; exact ⟨hc, X.nd⟩⟩
theorem St.swap {B : PM} {cs : Cs} {h : Heap} {p q : Addr × (Obj → Prop)} (X : St B (p :: q :: cs) h) : St B (q :: p :: cs) h := X.perm (List.Perm.swap ..)
section
variable {prog : Program} {w : World} {A : Around} {E : Value → Shared → Prop} {s : Shared} {env : Env} {B : PM} {m : Str → Option Value} {cs : Cs} {Q : Flow → Shared → Prop} {target : Expr} {body : List Stmt}
abbrev Back (env : Env) (s : Shared) (B : PM) (J : PM → (Str → Option Value) → Cs → Prop) (ip : Addr × (Obj → Prop)) (Q : Flow → Shared → Prop) : Flow → Shared → Prop := fun f s₃ => match f with
  | .next | .cont => ∃ B'' m'' cs'' h'' tk'', s₃ = { s with heap := h'', toks := tk'' } ∧ Le B B'' ∧ J B'' m'' cs'' ∧ St B'' ((env.locals, NsP m'') :: ip :: cs'') h''
  | .brk => Q .next s₃
  | .ret v => Q (.ret v) s₃
abbrev Done (M : Model) (A : Around) (env : Env) (E : Value → Shared → Prop) (Q : Flow → Shared → Prop) : Result → Shared → Prop := fun r s' => match r with | .ok f => Q f s' | .error e => cameBackBy M A env E e s'
/-- for x in xs, a list that stands -/
theorem forL {l : Addr} {vs : List Value} {n : Nat} (hh : A.handled = none) (hl : B l = some { cls := .type "list", data := .seq vs.toArray n })
    (J : Nat → PM → (Str → Option Value) → Cs → Prop) (X : St B ((env.locals, NsP m) :: cs) s.heap) (h0 : J 0 B m cs)
    (turn : ∀ i v B' m' cs' it h' tk, vs[i]? = some v → Le B B' → J i B' m' cs' → St B' ((env.locals, NsP m') :: (it, LiP l (i + 1)) :: cs') h' →
      wpAny (model prog w) A (assign target env v) (fun _ s₂ => wpAny (model prog w) A (execs body env) (Back env s B (J (i + 1)) (it, LiP l (i + 1)) Q) noE s₂) noE { s with heap := h', toks := tk })
    (done : ∀ B' m' cs' h' tk, Le B B' → J vs.length B' m' cs' → St B' ((env.locals, NsP m') :: cs') h' → Q .next { s with heap := h', toks := tk })
    (hgo : ∀ it v, letOwnedTupleGo target it v = pure () := by intros; rfl) :
    wpAny (model prog w) A (pyIter (.ref l)) (fun it s₂ => codeAny (model prog w) A (.forLoop target it body [] env) (Done (model prog w) A env E Q) s₂) E s := by
  have hL : ∀ {B' : PM} {cs' : Cs} {h' : Heap}, Le B B' → St B' cs' h' → h'.IsList l vs.toArray := fun le Y => ⟨_, Y.sub _ _ (le _ _ hl), rfl, n, rfl⟩
  refine wpAny_pyIter_list (hL (Le.refl _) X) ?_
  refine codeAny_forLoop_any (fun k s' => ∃ i B' m' cs' h' tk, k + i = vs.length ∧ s' = { s with heap := h', toks := tk } ∧ Le B B' ∧ J i B' m' cs' ∧ St B' ((env.locals, NsP m') :: (s.heap.objs.size, LiP l i) :: cs') h') ?_ vs.length
    ⟨0, B, m, cs, _, s.toks, rfl, rfl, Le.refl _, h0, (X.new (P := LiP l 0) _ rfl ⟨rfl, rfl⟩).swap⟩
  rintro k s' ⟨i, B', m', cs', h', tk, hk, rfl, le, hJ, Y⟩
  cases hv : vs[i]? with
  | none =>
    have hlen : vs.length ≤ i := List.getElem?_eq_none_iff.mp hv
    have e : i = vs.length := by lia
    subst e
    refine wpAny_pyNext_list_end hh (Y.li (i := 1) rfl) (hL le Y) (by simp) fun h₂ hx => ?_
    refine wpAny_execs_nil ?_
    exact done B' m' cs' h₂ _ le hJ (Y.swap.ext hx)
  | some v =>
    have hlt : i < vs.length := (List.getElem?_eq_some_iff.mp hv).1
    refine wpAny_pyNext_list_item (Y.li (i := 1) rfl) (hL le Y) (by simpa using hv) fun h₂ hit hs => ?_
    dsimp only
    rw [hgo]
    refine wpAny_pure ?_
    obtain ⟨o, ho, hc, hd⟩ := hit
    have Z : St B' ((env.locals, NsP m') :: (s.heap.objs.size, LiP l (i + 1)) :: cs') h₂ := Y.upd (i := 1) rfl hs ⟨o, ho, hc, hd⟩
    refine wpAny_mono (turn i v B' m' cs' _ h₂ tk hv le hJ Z) (fun _ s₂ hb => wpAny_mono hb (fun f s₃ hf => ?_) fun _ _ z => z.elim) fun _ _ z => z.elim
    cases f with
    | next => obtain ⟨B'', m'', cs'', h'', tk'', e, le', hJ', Y'⟩ := hf; exact ⟨k - 1, by lia, i + 1, B'', m'', cs'', h'', tk'', by lia, e, le', hJ', Y'⟩
    | cont => obtain ⟨B'', m'', cs'', h'', tk'', e, le', hJ', Y'⟩ := hf; exact ⟨k - 1, by lia, i + 1, B'', m'', cs'', h'', tk'', by lia, e, le', hJ', Y'⟩
    | brk => exact hf
    | ret v => exact hf
/-- for x in range(a, b, c) -/
theorem forR {r : Addr} {a b c : Int} {t u v : Tok} {N : Nat} (hh : A.handled = none) (hr : IsRange s.heap r a b c t u v) (hsm : Builtin.Range.small a b c = true) (hN : Builtin.Range.rangeSize a b c = N)
    (J : Nat → PM → (Str → Option Value) → Cs → Prop) (X : St B ((env.locals, NsP m) :: cs) s.heap) (h0 : J 0 B m cs)
    (turn : ∀ i B' m' cs' it h' tk tv, i < N → Le B B' → J i B' m' cs' → St B' ((env.locals, NsP m') :: (it, RiP (a + c * ((i : Int) + 1)) ((N : Int) - ((i : Int) + 1)) c) :: cs') h' →
      wpAny (model prog w) A (assign target env (.int (a + c * i) tv)) (fun _ s₂ => wpAny (model prog w) A (execs body env) (Back env s B (J (i + 1)) (it, RiP (a + c * ((i : Int) + 1)) ((N : Int) - ((i : Int) + 1)) c) Q) noE s₂) noE { s with heap := h', toks := tk })
    (done : ∀ B' m' cs' h' tk, Le B B' → J N B' m' cs' → St B' ((env.locals, NsP m') :: cs') h' → Q .next { s with heap := h', toks := tk })
    (hgo : ∀ it v, letOwnedTupleGo target it v = pure () := by intros; rfl) :
    wpAny (model prog w) A (pyIter (.ref r)) (fun it s₂ => codeAny (model prog w) A (.forLoop target it body [] env) (Done (model prog w) A env E Q) s₂) E s := by
  refine wpAny_pyIter_range hr hsm ?_
  rw [hN]
  refine codeAny_forLoop_any (fun k s' => ∃ (i : Nat) (B' : PM) (m' : Str → Option Value) (cs' : Cs) (h' : Heap) (tk : Nat), k + i = N ∧ s' = { s with heap := h', toks := tk } ∧ Le B B' ∧ J i B' m' cs' ∧ St B' ((env.locals, NsP m') :: (s.heap.objs.size, RiP (a + c * (i : Int)) ((N : Int) - (i : Int)) c) :: cs') h') ?_ N
    ⟨0, B, m, cs, _, s.toks, rfl, rfl, Le.refl _, h0, (X.new (P := RiP (a + c * ((0 : Nat) : Int)) ((N : Int) - ((0 : Nat) : Int)) c) _ rfl (by simp [RiP])).swap⟩
  rintro k s' ⟨i, B', m', cs', h', tk, hk, rfl, le, hJ, Y⟩
  obtain ⟨o, ho, rfl⟩ := Y.at_ (i := 1) (a := s.heap.objs.size) (P := RiP (a + c * (i : Int)) ((N : Int) - (i : Int)) c) rfl
  by_cases hlt : i < N
  · refine wpAny_pyNext_range_item ho (by lia) fun h₂ hit hs => ?_
    dsimp only
    rw [hgo]
    refine wpAny_pure ?_
    have Z : St B' ((env.locals, NsP m') :: (s.heap.objs.size, RiP (a + c * ((i : Int) + 1)) ((N : Int) - ((i : Int) + 1)) c) :: cs') h₂ :=
      Y.upd (i := 1) rfl hs ⟨_, hit, by rw [RiP, show a + c * (i : Int) + c = a + c * ((i : Int) + 1) by rw [Int.mul_add]; lia, show (N : Int) - (i : Int) - 1 = (N : Int) - ((i : Int) + 1) by lia]⟩
    refine wpAny_mono (turn i B' m' cs' _ h₂ _ tk hlt le hJ Z) (fun _ s₂ hb => wpAny_mono hb (fun f s₃ hf => ?_) fun _ _ z => z.elim) fun _ _ z => z.elim
    cases f with
    | next => obtain ⟨B'', m'', cs'', h'', tk'', e, le', hJ', Y'⟩ := hf; exact ⟨k - 1, by lia, i + 1, B'', m'', cs'', h'', tk'', by lia, e, le', hJ', by push_cast; exact Y'⟩
    | cont => obtain ⟨B'', m'', cs'', h'', tk'', e, le', hJ', Y'⟩ := hf; exact ⟨k - 1, by lia, i + 1, B'', m'', cs'', h'', tk'', by lia, e, le', hJ', by push_cast; exact Y'⟩
    | brk => exact hf
    | ret v => exact hf
  · have e : i = N := by lia
    subst e
    refine wpAny_pyNext_range_end hh ho (by lia) fun h₂ hx => ?_
    refine wpAny_execs_nil ?_
    exact done B' m' cs' h₂ _ le hJ (Y.swap.ext hx)
end
end Mine

end
section
open PySem PySem.W PyProof.Rows
set_option Elab.async false
set_option maxRecDepth 100000
namespace Mine
section
variable {prog : Program} {w : World} {A : Around} {E : Value → Shared → Prop} {s : Shared} {env : Env} {B : PM} {m : Str → Option Value} {cs : Cs} {Q : Flow → Shared → Prop} {elts : List Expr} {ctx : Nat} {tpos : Pos} {body : List Stmt}
/-- for k, x in enumerate(xs), a list that stands: the pair's own object -/
theorem forE {l : Addr} {vs : List Value} {n : Nat} (hh : A.handled = none) (hl : B l = some { cls := .type "list", data := .seq vs.toArray n })
    (J : Nat → PM → (Str → Option Value) → Cs → Prop) (X : St B ((env.locals, NsP m) :: cs) s.heap) (h0 : J 0 B m cs)
    (turn : ∀ (i : Nat) v B' m' cs' e it T t h' tk, vs[i]? = some v → Le B B' → J i B' m' cs' → St B' ((env.locals, NsP m') :: (T, IsP { cls := .type "tuple", data := .seq #[.int i t, v] }) :: (e, EnP it ((i : Int) + 1)) :: (it, LiP l (i + 1)) :: cs') h' →
      wpAny (model prog w) A (assign (.Tuple elts ctx tpos) env (.ref T)) (fun _ s₂ => wpAny (model prog w) A (execs body env) (fun f s₃ => match f with
        | .next | .cont => ∃ B'' m'' cs'' h'' tk'', s₃ = { s with heap := h'', toks := tk'' } ∧ Le B B'' ∧ J (i + 1) B'' m'' cs'' ∧ St B'' ((env.locals, NsP m'') :: (e, EnP it ((i : Int) + 1)) :: (it, LiP l (i + 1)) :: cs'') h''
        | .brk => Q .next s₃
        | .ret v => Q (.ret v) s₃) noE s₂) noE { s with heap := h', toks := tk })
    (done : ∀ B' m' cs' h' tk, Le B B' → J vs.length B' m' cs' → St B' ((env.locals, NsP m') :: cs') h' → Q .next { s with heap := h', toks := tk }) :
    wpAny (model prog w) A (call (.type "enumerate") [.ref l]) (fun x s₁ => wpAny (model prog w) A (pyIter x) (fun it s₂ => codeAny (model prog w) A (.forLoop (.Tuple elts ctx tpos) it body [] env) (Done (model prog w) A env E Q) s₂) E s₁) E s := by
  have hL : ∀ {B' : PM} {cs' : Cs} {h' : Heap}, Le B B' → St B' cs' h' → h'.IsList l vs.toArray := fun le Y => ⟨_, Y.sub _ _ (le _ _ hl), rfl, n, rfl⟩
  refine call_enumerate_list (hL (Le.refl _) X) fun h₁ he hit hsz hk => ?_
  refine wpAny_pyIter_enum he ?_
  have X0 : St B ((env.locals, NsP m) :: cs) h₁ := ⟨fun b o q => hk b o (X.sub b o q), fun p hp => let ⟨o, q, z⟩ := X.cells p hp; ⟨o, hk _ _ q, z⟩, X.off, X.nd⟩
  have hB : ∀ a, s.heap.objs.size ≤ a → B a = none := fun a ha => by
    cases q : B a with
    | none => rfl
    | some o => exact absurd (X.ltB q) (Nat.not_lt.mpr ha)
  have hC : ∀ a, s.heap.objs.size ≤ a → a ∉ (((env.locals, NsP m) :: cs) : Cs).map (·.1) := fun a ha q => by
    obtain ⟨p, hp, e⟩ := List.mem_map.mp q
    obtain ⟨o, z, _⟩ := X.cells p hp
    exact absurd (Heap.lt_size z) (Nat.not_lt.mpr (e ▸ ha))
  have X1 := X0.put (a := s.heap.objs.size) (P := LiP l 0) (hB _ (Nat.le_refl _)) (hC _ (Nat.le_refl _)) (let ⟨o, a, b, c⟩ := hit; ⟨o, a, b, c⟩)
  have X2 := X1.put (a := s.heap.objs.size + 1) (P := EnP s.heap.objs.size ((0 : Nat) : Int)) (hB _ (Nat.le_succ _)) (by
    rw [List.map_cons, List.mem_cons, not_or]
    exact ⟨Nat.succ_ne_self _, hC _ (Nat.le_succ _)⟩) ⟨_, he, _, rfl⟩
  have X3 : St B ((env.locals, NsP m) :: (s.heap.objs.size + 1, EnP s.heap.objs.size ((0 : Nat) : Int)) :: (s.heap.objs.size, LiP l 0) :: cs) h₁ :=
    X2.perm ((List.Perm.cons _ (List.Perm.swap ..)).trans (List.Perm.swap ..))
  refine codeAny_forLoop_any (fun k s' => ∃ (i : Nat) (B' : PM) (m' : Str → Option Value) (cs' : Cs) (h' : Heap) (tk : Nat), k + i = vs.length ∧ s' = { s with heap := h', toks := tk } ∧ Le B B' ∧ J i B' m' cs' ∧ St B' ((env.locals, NsP m') :: (s.heap.objs.size + 1, EnP s.heap.objs.size (i : Int)) :: (s.heap.objs.size, LiP l i) :: cs') h') ?_ vs.length
    ⟨0, B, m, cs, _, s.toks, rfl, rfl, Le.refl _, h0, X3⟩
  rintro k s' ⟨i, B', m', cs', h', tk, hk', rfl, le, hJ, Y⟩
  obtain ⟨_, ho, old, rfl⟩ := Y.at_ (i := 1) (a := s.heap.objs.size + 1) (P := EnP s.heap.objs.size (i : Int)) rfl
  have hli := Y.li (i := 2) (it := s.heap.objs.size) (l := l) (j := i) rfl
  have Yr : St B' ((s.heap.objs.size + 1, EnP s.heap.objs.size (i : Int)) :: (s.heap.objs.size, LiP l i) :: (env.locals, NsP m') :: cs') h' :=
    Y.perm ((List.Perm.swap ..).trans (List.Perm.cons _ (List.Perm.swap ..)))
  cases hv : vs[i]? with
  | none =>
    have hlen : vs.length ≤ i := List.getElem?_eq_none_iff.mp hv
    have e : i = vs.length := by lia
    subst e
    refine wpAny_pyNext_enum_end hh ho hli (hL le Y) (by simp) fun h₂ hx => ?_
    refine wpAny_execs_nil ?_
    exact done B' m' cs' h₂ _ le hJ (Yr.ext2 fun b o _ h2 q => hx b o h2 q)
  | some v =>
    have hlt : i < vs.length := (List.getElem?_eq_some_iff.mp hv).1
    refine wpAny_pyNext_enum_item ho hli (hL le Y) (by simpa using hv) (Nat.succ_ne_self _) fun h₂ ho₂ hit₂ hT hsz₂ hk₂ => ?_
    dsimp only
    have Z0 := Yr.ext2 hk₂
    refine wpAny_letOwnedTupleGo_enum ho₂ fun h₃ he₃ hs₃ => ?_
    have hnd := Yr.nd
    rw [List.map_cons, List.nodup_cons, List.map_cons, List.nodup_cons] at hnd
    have hTe : s.heap.objs.size + 1 < h'.objs.size := Heap.lt_size ho
    have hTi : s.heap.objs.size < h'.objs.size := Nat.lt_trans (Nat.lt_succ_self _) hTe
    have Z1 : St B' ((env.locals, NsP m') :: cs') h₃ := by
      have : St B' ((s.heap.objs.size + 1, fun _ => True) :: (env.locals, NsP m') :: cs') h₂ := Z0.put (Yr.off _ List.mem_cons_self) (fun q => hnd.1 (List.mem_cons_of_mem _ q)) ⟨_, ho₂, trivial⟩
      exact this.ext fun b o hb q => (hs₃.2 b hb).trans q
    obtain ⟨oi, hoi, hci, hdi⟩ := hit₂
    have Z2 := Z1.put (a := s.heap.objs.size) (P := LiP l (i + 1)) (Yr.off _ (List.mem_cons_of_mem _ List.mem_cons_self)) hnd.2.1 ⟨oi, (hs₃.2 _ (Nat.ne_of_lt (Nat.lt_succ_self _))).trans hoi, hci, hdi⟩
    have Z3 := Z2.put (a := s.heap.objs.size + 1) (P := EnP s.heap.objs.size ((i : Int) + 1)) (Yr.off _ List.mem_cons_self) hnd.1 ⟨_, he₃, _, rfl⟩
    have Z4 := Z3.put (a := h'.objs.size) (P := IsP { cls := .type "tuple", data := .seq #[.int i tk, v] }) (by
        cases q : B' h'.objs.size with
        | none => rfl
        | some o => exact absurd (Y.ltB q) (Nat.lt_irrefl _)) (by
        intro q
        rw [List.map_cons, List.mem_cons] at q
        rcases q with q | q
        · exact absurd (show h'.objs.size = s.heap.objs.size + 1 from q) (Nat.ne_of_gt hTe)
        · rw [List.map_cons, List.mem_cons] at q
          rcases q with q | q
          · exact absurd (show h'.objs.size = s.heap.objs.size from q) (Nat.ne_of_gt hTi)
          · obtain ⟨p, hp, e⟩ := List.mem_map.mp q
            obtain ⟨o, z, _⟩ := Yr.cells p (List.mem_cons_of_mem _ (List.mem_cons_of_mem _ hp))
            exact absurd (Heap.lt_size z) (by rw [e]; exact Nat.lt_irrefl _)) ⟨_, (hs₃.2 _ (Nat.ne_of_gt hTe)).trans hT, rfl⟩
    have Z5 : St B' ((env.locals, NsP m') :: (h'.objs.size, IsP { cls := .type "tuple", data := .seq #[.int i tk, v] }) :: (s.heap.objs.size + 1, EnP s.heap.objs.size ((i : Int) + 1)) :: (s.heap.objs.size, LiP l (i + 1)) :: cs') h₃ :=
      Z4.perm ((List.Perm.cons _ (List.Perm.cons _ (List.Perm.swap ..))).trans ((List.Perm.cons _ (List.Perm.swap ..)).trans (List.Perm.swap ..)))
    refine wpAny_mono (turn i v B' m' cs' _ _ _ tk h₃ _ hv le hJ Z5) (fun _ s₂ hb => wpAny_mono hb (fun f s₃ hf => ?_) fun _ _ z => z.elim) fun _ _ z => z.elim
    cases f with
    | next => obtain ⟨B'', m'', cs'', h'', tk'', e, le', hJ', Y'⟩ := hf; exact ⟨k - 1, by lia, i + 1, B'', m'', cs'', h'', tk'', by lia, e, le', hJ', by push_cast; exact Y'⟩
    | cont => obtain ⟨B'', m'', cs'', h'', tk'', e, le', hJ', Y'⟩ := hf; exact ⟨k - 1, by lia, i + 1, B'', m'', cs'', h'', tk'', by lia, e, le', hJ', by push_cast; exact Y'⟩
    | brk => exact hf
    | ret v => exact hf
end
end Mine

end
section
open PySem PySem.W PyProof.Rows
set_option Elab.async false
set_option maxRecDepth 100000
namespace Mine
/-- an own dict with ints for keys -/
def MapP (f : Int → Option Value) (n : Nat) : Obj → Prop := fun o => o.ExactDict ∧ ∃ es ep, o.data = .dict es ep ∧ IntKeys es ∧ (∀ k, findBy Value.isInt es k = f k) ∧ es.size ≤ n
theorem MapP.new : MapP (fun _ => none) 0 { cls := .type "dict", data := .dict #[] } := ⟨⟨rfl, rfl, rfl⟩, #[], 0, rfl, fun _ h => by simp at h, fun _ => rfl, Nat.le_refl _⟩
theorem isInt_push (k : Int) (t : Tok) (y : Int) : Value.isInt y (.int k t) = decide (y = k) := by
  simp only [Value.isInt]
  by_cases h : y = k
  · subst h; simp
  · have : ¬ k = y := fun e => h e.symm
    simp [h, this]
section
variable {prog : Program} {w : World} {A : Around} {E : Value → Shared → Prop} {s : Shared} {B : PM} {cs : Cs} {i n : Nat} {d : Addr} {f : Int → Option Value} {k : Int} {t : Tok} {v : Value}
theorem mapP_old {o : Obj} {es : Array DictEntry} {ep j : Nat} (hc : o.ExactDict) (hd : o.data = .dict es ep) (hk : IntKeys es) (hf : ∀ k, findBy Value.isInt es k = f k) (hz : es.size ≤ n)
    (hi : es.findIdx? (fun e => Value.isInt k e.key) = some j) : MapP (fun x => if x = k then some v else f x) (n + 1) (o.mapDict fun es => es.modify j fun e => { e with val := v }) :=
  ⟨hc.mapDict _, _, _, Obj.data_mapDict hd _, hk.modify _ _, fun x => by rw [findBy_modify Value.isInt Value.isInt_inj es k x v j hi, hf], by simp only [Array.size_modify]; lia⟩
theorem mapP_new {o : Obj} {es : Array DictEntry} {ep : Nat} (hc : o.ExactDict) (hd : o.data = .dict es ep) (hk : IntKeys es) (hf : ∀ k, findBy Value.isInt es k = f k) (hz : es.size ≤ n)
    (hi : es.findIdx? (fun e => Value.isInt k e.key) = none) : MapP (fun x => if x = k then some v else f x) (n + 1) (o.mapDictKeys fun es => es.push ⟨hashInt k, .int k t, v⟩) :=
  ⟨hc.mapDictKeys _, _, _, Obj.data_mapDictKeys hd _, hk.push _ _ _, fun x => by rw [findBy_push Value.isInt es k x _ _ v (isInt_push k t) hi, hf], by simp only [Array.size_push]; lia⟩
theorem dset {Q : Unit → Shared → Prop} (X : St B cs s.heap) (hi : cs[i]? = some (d, MapP f n)) (hn : n ≤ 5000)
    (hQ : ∀ h', St B (cs.set i (d, MapP (fun x => if x = k then some v else f x) (n + 1))) h' → Q () { s with heap := h', toks := s.toks + 1 }) :
    wpAny (model prog w) A (dictSet d (.int k t) v) Q E s := by
  obtain ⟨o, ho, hc, es, ep, hd, hk, hf, hz⟩ := X.at_ hi
  unfold dictSet
  try with_reducible refine wpAny_holding ?_
  refine wpAny_bind (wpAny_pyHash_int ?_)
  unfold dictSetHashed
  try with_reducible refine wpAny_holding ?_
  refine wpAny_bind (wpAny_dictFind_int (s := { s with toks := s.toks + 1 }) ho hd hk ?_)
  cases hj : es.findIdx? fun e => Value.isInt k e.key with
  | some j =>
    refine wpAny_bind (wpAny_rule (wpAny_bind (wpAny_updateDict (s := { s with toks := s.toks + 1 }) ho hd (wpAny_point (hQ _ (X.upd hi (Heap.SameBut.update ..) ⟨_, Heap.get?_update_self _ ho (Obj.isFreed_of_dict (Obj.data_mapDict hd _)), mapP_old hc hd hk hf hz hj⟩))))))
  | none =>
    refine wpAny_bind (wpAny_rule (wpAny_updateDictKeys (hz := by rw [sizeLine_eq]; lia) (s := { s with toks := s.toks + 1 }) ho hd (hQ _ (X.upd hi (Heap.SameBut.update ..) ⟨_, Heap.get?_update_self _ ho (Obj.isFreed_of_dict (Obj.data_mapDictKeys hd _)), mapP_new (t := t) hc hd hk hf hz hj⟩))))
theorem mapType {h : Heap} (X : St B cs h) (hi : cs[i]? = some (d, MapP f n)) : ∃ o, h.get? d = some o ∧ o.cls = .type "dict" ∧ o.dict = none ∧ notCls o = true := by
  obtain ⟨o, ho, ⟨h1, h2, h3⟩, es, ep, hd, -⟩ := X.at_ hi
  exact ⟨o, ho, h1, h2, by unfold notCls; rw [hd]⟩
theorem dsetItem {Q : Unit → Shared → Prop} (X : St B cs s.heap) (hi : cs[i]? = some (d, MapP f n)) (hn : n ≤ 5000)
    (hQ : ∀ h', St B (cs.set i (d, MapP (fun x => if x = k then some v else f x) (n + 1))) h' → Q () { s with heap := h', toks := s.toks + 1 }) :
    wpAny (model prog w) A (setItem (.ref d) (.int k t) v) Q E s := by
  obtain ⟨o, ho, hcl, -, -⟩ := mapType X hi
  have hT : s.TypeIs (.ref d) "dict" := ⟨o, ho, hcl⟩
  unfold setItem
  try with_reducible refine wpAny_holding ?_
  first | refine wpAny_bind (wpAny_pure ?_) | skip
  refine wpAny_bind (wpAny_sequenceKey hT (by decide) ?_)
  refine wpAny_bind (wpAny_callSpecial?_slot (name := Str.ofString "__setitem__") hT slot_dict_setitem
    (wpAny_call_entry slot_dict_setitem hT entry_dict_setitem ?_ (args_dict_setitem _ _ _)))
  show wpAny _ _ (Builtin.Dict.notOrdered "__setitem__" ⟨[.ref d, .int k t, v], []⟩ >>= _) _ _ s
  refine wpAny_bind (wpAny_notOrdered_dict hT ?_)
  show wpAny _ _ (dictSet d (.int k t) v >>= _) _ _ s
  refine wpAny_bind (dset X hi hn fun h' Y => ?_)
  first
    | exact wpAny_bind (wpAny_pure (wpAny_pure ⟨.none, rfl, wpAny_pure (hQ h' Y)⟩))
    | exact wpAny_pure ⟨.none, rfl, wpAny_pure (hQ h' Y)⟩
/-- d.setdefault(k, v), called -/
theorem dsetDef {Q : Value → Shared → Prop} (X : St B cs s.heap) (hi : cs[i]? = some (d, MapP f n)) (hn : n ≤ 5000) (hsm : (d == sysModules) = false)
    (hold : ∀ u, f k = some u → Q u { s with toks := s.toks + 1 })
    (hnew : f k = none → ∀ h', St B (cs.set i (d, MapP (fun x => if x = k then some v else f x) (n + 1))) h' → Q v { s with heap := h', toks := s.toks + 1 }) :
    wpAny (model prog w) A (call (.builtin "dict.setdefault") [.ref d, .int k t, v]) Q E s := by
  obtain ⟨o', ho', hcl, -, -⟩ := mapType X hi
  have hT : s.TypeIs (.ref d) "dict" := ⟨o', ho', hcl⟩
  refine wpAny_call_entry F.slot_dict_setdefault hT F.entry_dict_setdefault ?_ (F.args_dict_setdefault_3 _ _ _)
  unfold Builtin.«dict.setdefault»
  refine wpAny_bind ?_
  unfold Builtin.Dict.keyAndDefault
  refine wpAny_bind (wpAny_notOrdered_dict hT ?_)
  show wpAny _ _ (pure (d, Value.int k t, some v)) _ _ s
  refine wpAny_pure ?_
  show wpAny _ _ (if (d == sysModules) = true then _ else (dictSetDefault d (.int k t) v >>= _)) _ _ s
  rw [if_neg (by rw [hsm]; exact Bool.false_ne_true)]
  refine wpAny_bind ?_
  obtain ⟨o, ho, hc, es, ep, hd, hk, hf, hz⟩ := X.at_ hi
  unfold dictSetDefault
  try with_reducible refine wpAny_holding ?_
  refine wpAny_bind (wpAny_pyHash_int ?_)
  refine wpAny_bind (wpAny_dictFind_int (s := { s with toks := s.toks + 1 }) ho hd hk ?_)
  cases hj : es.findIdx? fun e => Value.isInt k e.key with
  | some j =>
    have hfk : f k = (es[j]?).map (·.val) := by rw [← hf k, findBy_of_findIdx?, hj]
    refine wpAny_bind (wpAny_dictEntries (s := { s with toks := s.toks + 1 }) ho hd ?_)
    cases he : es[j]? with
    | none =>
      exfalso
      have := Array.findIdx?_eq_some_iff_findIdx_eq.mp hj
      have hlt : j < es.size := this.1
      rw [Array.getElem?_eq_getElem hlt] at he
      exact nomatch he
    | some e =>
      rw [he] at hfk
      exact wpAny_bind (wpAny_rule (wpAny_pure (wpAny_pure ⟨_, rfl, hold e.val hfk⟩)))
  | none =>
    have hfk : f k = none := by rw [← hf k, findBy_of_findIdx?, hj]
    exact wpAny_bind (wpAny_rule (wpAny_bind (wpAny_updateDictKeys (hz := by rw [sizeLine_eq]; lia) (s := { s with toks := s.toks + 1 }) ho hd (wpAny_pure (wpAny_pure ⟨_, rfl, hnew hfk _ (X.upd hi (Heap.SameBut.update ..) ⟨_, Heap.get?_update_self _ ho (Obj.isFreed_of_dict (Obj.data_mapDictKeys hd _)), mapP_new (t := t) hc hd hk hf hz hj⟩)⟩)))))
/-- a dict's get, bound, called -/
theorem dgetB {Q : Value → Shared → Prop} {q : Addr} {dflt : Value} {o : Obj} (ho : s.heap.get? d = some o) (hm : MapP f n o) (hq : s.heap.get? q = some (bnd "dict.get" d)) (hsm : (d == sysModules) = false) (h : Q ((f k).getD dflt) { s with toks := s.toks + 1 }) :
    wpAny (model prog w) A (call (.ref q) [.int k t, dflt]) Q E s := by
  obtain ⟨hc, es, ep, hd, hk, hf, hz⟩ := hm
  have hM : s.heap.MapOf (intKind prog w) d f := ⟨o, es, ep, ho, hc, hd, fun e he => by obtain ⟨k, t, h1, h2⟩ := hk e he; exact ⟨k, by rw [h1]; simp [intKind, Value.isInt], h2⟩, hf⟩
  refine call_bnd hq (by decide +kernel) F.entry_dict_get (fun Q' E' hq' => check_dget ho hc.1 (by unfold notCls; rw [hd]) hq') ?_
  show wpAny _ _ (dictGet d (.int k t) >>= _) _ _ s
  refine wpAny_bind (wpAny_dictGet_of (intKind_is prog w k t) hM ?_)
  cases hfk : f k with
  | some v => rw [hfk] at h; exact wpAny_pure ⟨v, rfl, h⟩
  | none =>
    rw [hfk] at h
    show wpAny _ _ (Builtin.Dict.missed d (.int k t) >>= _) _ _ _
    exact wpAny_bind (wpAny_missed_other hsm (wpAny_pure ⟨dflt, rfl, h⟩))
theorem dgetM {Q : Value → Shared → Prop} {dflt : Value} {o : Obj} (ho : s.heap.get? d = some o) (hm : MapP f n o) (hsm : (d == sysModules) = false) (h : Q ((f k).getD dflt) { s with toks := s.toks + 1 }) :
    wpAny (model prog w) A (call (.builtin "dict.get") [.ref d, .int k t, dflt]) Q E s := by
  obtain ⟨hc, es, ep, hd, hk, hf, hz⟩ := hm
  have hM : s.heap.MapOf (intKind prog w) d f := ⟨o, es, ep, ho, hc, hd, fun e he => by obtain ⟨k, t, h1, h2⟩ := hk e he; exact ⟨k, by rw [h1]; simp [intKind, Value.isInt], h2⟩, hf⟩
  exact call_meetsIn F.slot_dict_get ⟨o, ho, hc.1⟩ F.entry_dict_get (F.args_dict_get_3 _ _ _) (meets_dict_get_default (intKind prog w) d (intKind_is prog w k t) hsm dflt) ⟨f, hM, h⟩
/-- the fresh set -/
def SetP : Obj → Prop := fun o => ∃ led : Bool, o = { cls := .type "set", dict := none, data := .set #[] 0 (.fresh 0 0 led) }
theorem shasB {Q : Value → Shared → Prop} {q a : Addr} {o : Obj} (ho : s.heap.get? a = some o) (hs : SetP o) (hq : s.heap.get? q = some (bnd "set.__contains__" a)) (h : Q (.bool false) { s with toks := s.toks + 1 }) :
    wpAny (model prog w) A (call (.ref q) [.int k t]) Q E s := by
  obtain ⟨led, rfl⟩ := hs
  have hS : s.heap.SetOf (intKind prog w) a (fun _ => false) 0 := (setObjOf_fresh led).setOf ho (by decide)
  refine call_bnd hq (by decide +kernel) entry_set_contains (fun Q' E' hq' => check_shas ho rfl rfl hq') ?_
  unfold Builtin.«frozenset.__contains__» Builtin.Frozenset.oneOther
  simp only [List.isEmpty_nil, bind_assoc]
  unfold Builtin.Frozenset.addrOf Builtin.Frozenset.withSetAsKey setContains
  refine wpAny_bind (wpAny_pure ?_)
  try dsimp only
  refine wpAny_bind (wpAny_pure ?_)
  try dsimp only
  refine wpAny_bind (wpAny_tryCatch ?_)
  refine wpAny_holding ?_
  refine wpAny_bind ((intKind prog w).pyHash (intKind_is prog w k t) ?_)
  refine wpAny_bind (wpAny_setFind_of (s := { s with toks := s.toks + 1 }) (intKind_is prog w k t) rfl hS fun r hr => ?_)
  refine wpAny_pure ?_
  show wpAny _ _ (ret (Value.bool r.isSome)) _ _ _
  rw [hr]
  exact wpAny_pure ⟨_, rfl, h⟩
/-- a tuple's items to names -/
theorem unpackT {env : Env} {elts : List Expr} {x1} {pos : Pos} {T : Addr} {items : Array Value} {Q : Unit → Shared → Prop} (hh : A.handled = none) (X : St B cs s.heap) (ht : s.heap.IsTuple T items)
    (hn : (assignEach elts env).length = items.size) (hstar : (assignEach elts env).findIdx? (·.1) = none)
    (h : ∀ h', St B cs h' → wpAny (model prog w) A (assignInOrder ((assignEach elts env).map (·.2)) items.toList) Q E { s with heap := h' }) :
    wpAny (model prog w) A (assign (.Tuple elts x1 pos) env (.ref T)) Q E s := by
  refine wpAny_assign_Tuple hh ht hn hstar fun h' hx => h h' ⟨fun b o e => hx b o (Nat.ne_of_lt (X.ltB e)) (X.sub b o e), fun p hp => ?_, X.off, X.nd⟩
  obtain ⟨o, e, k⟩ := X.cells p hp
  exact ⟨o, hx _ _ (Nat.ne_of_lt (Heap.lt_size e)) e, k⟩
end
end Mine

end
section
open PySem PySem.W PyProof.Rows
set_option Elab.async false
namespace Mine
/-- values that are ints -/
def IsInts : List Value → List Int → Prop
  | [], [] => True
  | v :: vs, x :: xs => (∃ t, v = .int x t) ∧ IsInts vs xs
  | _, _ => False
theorem IsInts.length : ∀ {vs : List Value} {xs : List Int}, IsInts vs xs → vs.length = xs.length
  | [], [], _ => rfl
  | _ :: _, _ :: _, h => by simp [IsInts.length h.2]
  | [], _ :: _, h => h.elim
  | _ :: _, [], h => h.elim
theorem IsInts.append : ∀ {vs us : List Value} {xs ys : List Int}, IsInts vs xs → IsInts us ys → IsInts (vs ++ us) (xs ++ ys)
  | [], _, [], _, _, k => k
  | _ :: _, _, _ :: _, _, h, k => ⟨h.1, IsInts.append h.2 k⟩
  | [], _, _ :: _, _, h, _ => h.elim
  | _ :: _, _, [], _, h, _ => h.elim
theorem IsInts.get : ∀ {vs : List Value} {xs : List Int} {i : Nat} {x : Int}, IsInts vs xs → xs[i]? = some x → ∃ t, vs[i]? = some (.int x t)
  | _ :: _, _ :: _, 0, x, ⟨⟨t, e⟩, _⟩, hx => by
    simp at hx; subst hx; exact ⟨t, by simp [e]⟩
  | _ :: _, _ :: _, i + 1, x, ⟨_, h⟩, hx => by
    have := IsInts.get (i := i) (x := x) h (by simpa using hx)
    simpa using this
  | [], [], _, _, _, hx => by simp at hx
  | [], _ :: _, _, _, h, _ => h.elim
  | _ :: _, [], _, _, h, _ => h.elim
theorem IsInts.getV {vs : List Value} {xs : List Int} {i : Nat} {v : Value} (h : IsInts vs xs) (hv : vs[i]? = some v) : ∃ x t, xs[i]? = some x ∧ v = .int x t := by
  have hl := h.length
  have hi : i < vs.length := (List.getElem?_eq_some_iff.mp hv).1
  have hx : xs[i]? = some (xs[i]'(by lia)) := List.getElem?_eq_getElem (by lia)
  obtain ⟨t, e⟩ := h.get hx
  rw [hv] at e
  exact ⟨_, t, hx, by injection e⟩
def placesTo (xs : List Int) (k : Int) (i : Nat) : List Int := ((List.range i).filter (fun j => xs[j]? == some k)).map Int.ofNat
theorem placesTo_succ (xs : List Int) (k : Int) (i : Nat) : placesTo xs k (i + 1) = placesTo xs k i ++ if xs[i]? = some k then [(i : Int)] else [] := by
  unfold placesTo
  rw [List.range_succ, List.filter_append, List.map_append]
  congr 1
  by_cases h : xs[i]? = some k
  · simp [h]
  · simp [h]
abbrev Ch := List (Int × Addr × List Value)
def chFn (ch : Ch) (k : Int) : Option Value := (ch.find? (·.1 == k)).map fun p => .ref p.2.1
def chCells (ch : Ch) : Cs := ch.map fun p => (p.2.1, LstP p.2.2)
structure ChOk (ch : Ch) (xs : List Int) (i : Nat) : Prop where
  pl : ∀ p ∈ ch, IsInts p.2.2 (placesTo xs p.1 i)
  no : ∀ k, ch.find? (·.1 == k) = none → placesTo xs k i = []
  ln : ∀ p ∈ ch, p.2.2.length ≤ i
  nd : (ch.map (·.1)).Nodup
theorem ChOk.nil (xs : List Int) : ChOk [] xs 0 := ⟨(fun _ h => nomatch h), (fun _ _ => rfl), (fun _ h => nomatch h), List.nodup_nil⟩
theorem find_mid {as bs : Ch} {p : Int × Addr × List Value} {k : Int} (h : ∀ a ∈ as, (!(a.1 == p.1)) = true) : (as ++ p :: bs).find? (·.1 == k) = if p.1 = k then some p else (as ++ bs).find? (·.1 == k) := by
  rw [List.find?_append, List.find?_append, List.find?_cons]
  by_cases e : p.1 = k
  · subst e
    have : as.find? (·.1 == p.1) = none := by
      rw [List.find?_eq_none]
      intro a ha
      have := h a ha
      simpa using this
    simp [this]
  · have : (p.1 == k) = false := by simpa using e
    simp [this, e]
theorem chFn_mid {as bs : Ch} {p q : Int × Addr × List Value} (h : ∀ a ∈ as, (!(a.1 == p.1)) = true) (e1 : q.1 = p.1) (e2 : q.2.1 = p.2.1) : chFn (as ++ q :: bs) = chFn (as ++ p :: bs) := by
  funext k
  unfold chFn
  rw [find_mid h, find_mid (p := q) (by rw [e1]; exact h), e1]
  split <;> simp [e2]
theorem chFn_new {ch : Ch} {p : Int × Addr × List Value} (h : ch.find? (·.1 == p.1) = none) : chFn (ch ++ [p]) = fun k => if k = p.1 then some (.ref p.2.1) else chFn ch k := by
  funext k
  unfold chFn
  rw [List.find?_append]
  by_cases e : k = p.1
  · subst e; simp [h]
  · have : (p.1 == k) = false := by simpa using fun z => e z.symm
    simp [this, e]
/-- a key that is there: its list grows -/
theorem ChOk.old {as bs : Ch} {p : Int × Addr × List Value} {xs : List Int} {i : Nat} {t : Tok} (h : ChOk (as ++ p :: bs) xs i) (ha : ∀ a ∈ as, (!(a.1 == p.1)) = true) (hb : ∀ a ∈ bs, (!(a.1 == p.1)) = true) (hx : xs[i]? = some p.1) :
    ChOk (as ++ (p.1, p.2.1, p.2.2 ++ [.int i t]) :: bs) xs (i + 1) := by
  refine ⟨fun q hq => ?_, fun k hk => ?_, fun q hq => ?_, by simpa using h.nd⟩
  · rcases List.mem_append.mp hq with z | z
    · have := h.pl q (by simp [z])
      rw [placesTo_succ, hx, if_neg (by intro y; injection y with y; have := ha q z; simp [y] at this), List.append_nil]; exact this
    · rcases List.mem_cons.mp z with rfl | z
      · rw [placesTo_succ, if_pos hx]
        exact (h.pl p (by simp)).append ⟨⟨t, rfl⟩, trivial⟩
      · have := h.pl q (by simp [z])
        rw [placesTo_succ, hx, if_neg (by intro y; injection y with y; have := hb q z; simp [y] at this), List.append_nil]; exact this
  · rw [find_mid (by exact ha)] at hk
    split at hk
    · cases hk
    · rename_i e
      rw [placesTo_succ, if_neg (by rw [hx]; intro y; injection y with y; exact e y), List.append_nil]
      refine h.no k ?_
      rw [find_mid ha, if_neg e]; exact hk
  · rcases List.mem_append.mp hq with z | z
    · have := h.ln q (by simp [z]); lia
    · rcases List.mem_cons.mp z with rfl | z
      · have := h.ln p (by simp); simp; lia
      · have := h.ln q (by simp [z]); lia
theorem ChOk.new {ch : Ch} {a : Addr} {x : Int} {xs : List Int} {i : Nat} {t : Tok} (h : ChOk ch xs i) (hn : ch.find? (·.1 == x) = none) (hx : xs[i]? = some x) : ChOk (ch ++ [(x, a, [.int i t])]) xs (i + 1) := by
  have hne : ∀ q ∈ ch, ¬ q.1 = x := fun q hq e => by
    rw [List.find?_eq_none] at hn
    exact hn q hq (by simp [e])
  refine ⟨fun q hq => ?_, fun k hk => ?_, fun q hq => ?_, ?_⟩
  · rcases List.mem_append.mp hq with z | z
    · rw [placesTo_succ, hx, if_neg (by intro y; injection y with y; exact hne q z y.symm), List.append_nil]; exact h.pl q z
    · simp at z; subst z
      rw [placesTo_succ, if_pos hx, h.no x hn]
      exact ⟨⟨t, rfl⟩, trivial⟩
  · rw [List.find?_append] at hk
    have h1 : ch.find? (·.1 == k) = none := by cases z : ch.find? (·.1 == k) with | none => rfl | some p => rw [z] at hk; simp at hk
    rw [h1] at hk
    have h2 : ¬ x = k := by intro y; subst y; simp at hk
    rw [placesTo_succ, hx, if_neg (by intro y; injection y with y; exact h2 y), List.append_nil]
    exact h.no k h1
  · rcases List.mem_append.mp hq with z | z
    · have := h.ln q z; lia
    · simp at z; subst z; simp
  · rw [List.map_append, List.nodup_append]
    refine ⟨h.nd, by simp, fun a ha b hb => ?_⟩
    simp at hb; subst hb
    obtain ⟨q, hq, rfl⟩ := List.mem_map.mp ha
    exact hne q hq
/-- many cells frozen -/
theorem St.freezeAll {B : PM} {h : Heap} {cs : Cs} : ∀ (l : Cs), St B (l ++ cs) h → ∃ B', Le B B' ∧ St B' cs h ∧ ∀ p ∈ l, ∃ o, B' p.1 = some o ∧ p.2 o
  | [], X => ⟨B, Le.refl _, X, fun _ q => nomatch q⟩
  | p :: l, X => by
    obtain ⟨B', le, X', k⟩ := St.freezeAll (cs := p :: cs) l (X.perm (by
      have : (p :: l ++ cs).Perm (l ++ p :: cs) := (List.perm_middle (a := p) (l₁ := l) (l₂ := cs)).symm
      exact this))
    obtain ⟨o, po, ho, Y, le2⟩ := St.freeze (a := p.1) (P := p.2) X'
    refine ⟨_, le.trans le2, Y, fun q hq => ?_⟩
    rcases List.mem_cons.mp hq with rfl | hq
    · exact ⟨o, PM.add_self, po⟩
    · obtain ⟨o', h1, h2⟩ := k q hq
      exact ⟨o', le2 _ _ h1, h2⟩
end Mine

end
section
open PySem PySem.W PyProof.Rows
set_option Elab.async false
set_option maxRecDepth 100000
namespace Mine
/-- the keys, what is less -/
structure Keys (B : PM) (K : Type) where
  rd : Value → K → Prop
  lt : K → K → Bool
def Keys.ltP {B : PM} {K : Type} (k : Keys B K) : Value × K → Value × K → Bool := fun a b => k.lt a.2 b.2
def Keys.Cmp {B : PM} {K : Type} (k : Keys B K) (w : World) : Prop := ∀ (A : Around) (s : Shared) (cs : Cs) (Q : Value → Shared → Prop) (E : Value → Shared → Prop) (v u : Value) (a b : K), Rm A 0 100 → St B cs s.heap → k.rd v a → k.rd u b →
  Q (.bool (k.lt a b)) s → wpAny (model pw w) A (richCompare .Lt v u) Q E s
set_option maxHeartbeats 4000000 in
theorem siftdown_spec {w : World} {A : Around} {E : Value → Shared → Prop} {s : Shared} {B : PM} {cs : Cs} {h₀ : Heap} {mg : Str → Option Value} {K : Type} {k : Keys B K} {Q : Value → Shared → Prop}
    {hp : Addr} {ps : List (Value × K)} {pos : Nat} {new : Value × K} {t1 t2 : Tok} {f : Addr} {o : Obj} {pm cd doc : Value}
    (R : Rm A 3 200) (G : G0 h₀ mg) (K0 : In0 h₀ B) (ho : h₀.get? f = some o) (hd : o.data = .func (Calls.docDef "_siftdown" (fnParams (stAt pw 9)) (fnBody (stAt pw 9)) (fnScope (stAt pw 9)) pm cd doc)) (hcd : h₀.CodeRec cd "_siftdown")
    (C : k.Cmp w) (O : Ord k.ltP) (X : St B ((hp, LstP (ps.map Prod.fst)) :: cs) s.heap) (hpos : ps[pos]? = some new) (I : SdInv k.ltP ps pos) (hlen : ps.length < 100000) (hr : ∀ p ∈ ps, k.rd p.1 p.2)
    (hQ : ∀ h' tk qs, St B ((hp, LstP (qs.map Prod.fst)) :: cs) h' → IsHeap k.ltP qs → qs.Perm ps → Q .none { s with heap := h', toks := tk }) :
    wpAny (model pw w) A (call (.ref f) [.ref hp, .int 0 t1, .int pos t2]) Q E s := by
  refine callF (binds := [("heap", .ref hp), ("startpos", .int 0 t1), ("pos", .int pos t2)]) R G K0 X ho hd hcd (by rfl) (locs (by rfl)) (fun h₁ L tk Y => ?_) (by rfl) (by rfl) (by rfl) (by decide +kernel)
  have hlt : pos < ps.length := (List.getElem?_eq_some_iff.mp hpos).1
  refine wpAny_execs_cons ?_
  refine wpAny_Assign_Name ?_ (by rfl)
  refine Subscript_ ?_
  refine ldL Y (by rfl) ?_
  refine ldL Y (by rfl) ?_
  refine subL (Y.lst (i := 1) rfl).isList (by lia) (by lia) (x := new.1) (by simp [hpos]) ?_
  refine stL Y fun h₂ Y₂ => ?_
  try refine shN s h₂ fun tkn1 => ?_
  try dsimp only
  refine wpAny_execs_cons ?_
  refine whileW (fun n s' => ∃ (h' : Heap) (tk : Nat) (m' : Str → Option Value) (qs : List (Value × K)) (u : Tok), s' = { s with heap := h', toks := tk } ∧ St B ((L, NsP m') :: (hp, LstP (qs.map Prod.fst)) :: cs) h' ∧ m' "heap" = some (.ref hp) ∧ m' "startpos" = some (.int 0 t1) ∧ m' "pos" = some (.int (n : Int) u) ∧
     m' "newitem" = some new.1 ∧ n < qs.length ∧ qs.length = ps.length ∧ (∀ p ∈ qs, k.rd p.1 p.2) ∧ SdInv k.ltP (qs.set n new) n ∧ (qs.set n new).Perm ps) ?turn pos ⟨h₂, _, _, ps, t2, rfl, Y₂, ?_, ?_, ?_, ?_, hlt, rfl, hr, ?_, ?_⟩
  case turn =>
    rintro n s' ⟨h', tk', m', qs, u, rfl, Z, e1, e2, e3, e4, hn, hln, hrd, J, Pm⟩
    refine wpAny_isTrue_Compare1 ?_ (by rfl)
    refine ldL Z e3 ?_
    refine ldL Z e2 ?_
    refine gt_int ?_
    refine wpAny_truthy_bool ?_
    have hnew : k.rd new.1 new.2 := hr _ (List.mem_of_getElem? hpos)
    by_cases h0 : (0 : Int) < n
    · rw [decide_eq_true h0]
      simp only [if_true]
      have hparlt : (n - 1) / 2 < qs.length := by lia
      refine wpAny_execs_cons ?_
      refine wpAny_Assign_Name ?_ (by rfl)
      refine wpAny_BinOp ?_
      refine wpAny_BinOp ?_
      refine ldL Z e3 ?_
      refine wpAny_Constant_int ?_
      refine sub_int ?_
      refine wpAny_Constant_int ?_
      refine rshift_int (by decide) ?_
      have epar : Int.fdiv ((n : Int) - 1) (2 ^ (1 : Int).toNat) = (((n - 1) / 2 : Nat) : Int) := by
        rw [show (2 : Int) ^ (1 : Int).toNat = 2 from rfl, Int.fdiv_eq_ediv_of_nonneg _ (by lia)]; lia
      rw [epar]
      refine stL Z fun h₃ Z₃ => ?_
      try refine shN s h₃ fun tkn2 => ?_
      try dsimp only
      refine wpAny_execs_cons ?_
      refine wpAny_Assign_Name ?_ (by rfl)
      refine Subscript_ ?_
      refine ldL Z₃ (upd_other (by decide) e1) ?_
      refine ldL Z₃ upd_self ?_
      refine subL (Z₃.lst (i := 1) rfl).isList (by lia) (by lia) (x := (qs[(n - 1) / 2]).1) (by rw [Int.toNat_natCast, List.getElem?_map, List.getElem?_eq_getElem hparlt]; rfl) ?_
      refine stL Z₃ fun h₄ Z₄ => ?_
      try refine shN s h₄ fun tkn3 => ?_
      try dsimp only
      have hq : qs[(n - 1) / 2]? = some qs[(n - 1) / 2] := List.getElem?_eq_getElem hparlt
      have hqs : (qs.set n new)[(n - 1) / 2]? = some qs[(n - 1) / 2] := by rw [List.getElem?_set, if_neg (by lia), hq]
      have hns : (qs.set n new)[n]? = some new := by rw [List.getElem?_set, if_pos rfl, if_pos hn]
      refine wpAny_execs_cons ?_
      refine wpAny_If ?_
      refine wpAny_isTrue_Compare1 ?_ (by rfl)
      refine ldL Z₄ (upd_other (by decide) (upd_other (by decide) e4)) ?_
      refine ldL Z₄ upd_self ?_
      refine cmp_ofLt ?_
      refine C _ _ _ _ _ _ _ _ _ ?rm Z₄ hnew (hrd _ (List.getElem_mem hparlt)) ?_
      case rm => exact ⟨R.handled, by have := R.depth; simp only [depth_deeper]; lia, by have := R.units; simp only [Around.deeper_units]; lia⟩
      refine wpAny_truthy_bool ?_
      cases hc : k.lt new.2 qs[(n - 1) / 2].2 with
      | true =>
        simp only [if_true]
        refine wpAny_execs_cons ?_
        refine wpAny_Assign_Subscript ?_ (by rfl)
        refine ldL Z₄ upd_self ?_
        refine ldL Z₄ (upd_other (by decide) (upd_other (by decide) e1)) ?_
        refine ldL Z₄ (upd_other (by decide) (upd_other (by decide) e3)) ?_
        refine setL Z₄ (i := 1) rfl (by lia) (by lia) (by simp; lia) fun h₅ Z₅ => ?_
        try refine shN s h₅ fun tkn4 => ?_
        try dsimp only
        refine wpAny_execs_cons ?_
        refine wpAny_Assign_Name ?_ (by rfl)
        refine ldL (m := upd (upd m' "parentpos" (.int (((n - 1) / 2 : Nat) : Int) _)) "parent" _) Z₅ (upd_other (by decide) upd_self) ?_
        refine stL (m := upd (upd m' "parentpos" (.int (((n - 1) / 2 : Nat) : Int) _)) "parent" _) Z₅ fun h₆ Z₆ => ?_
        try refine shN s h₆ fun tkn5 => ?_
        try dsimp only
        refine wpAny_execs_cons ?_
        refine wpAny_Continue ?_
        try dsimp only
        have hset : (qs.set n qs[(n - 1) / 2]).set ((n - 1) / 2) new = swp (qs.set n new) ((n - 1) / 2) n qs[(n - 1) / 2] new := by
          unfold swp
          apply List.ext_getElem?
          intro j
          simp only [List.getElem?_set, List.length_set]
          repeat' split
          all_goals first | rfl | lia
        refine ⟨(n - 1) / 2, by lia, h₆, _, _, qs.set n qs[(n - 1) / 2], _, rfl, by rw [List.map_set]; exact Z₆, upd_other (by decide) (upd_other (by decide) (upd_other (by decide) e1)), upd_other (by decide) (upd_other (by decide) (upd_other (by decide) e2)),
          upd_self, upd_other (by decide) (upd_other (by decide) (upd_other (by decide) e4)), by rw [List.length_set]; exact hparlt, by rw [List.length_set]; exact hln, ?_, ?_, ?_⟩
        · intro p hp'
          rcases List.mem_or_eq_of_mem_set hp' with q | q
          · exact hrd p q
          · rw [q]; exact hrd _ (List.getElem_mem hparlt)
        · rw [hset]; exact sd_step O (by lia) hns hqs hc J
        · rw [hset]; exact (swp_perm hqs hns).trans Pm
      | false =>
        simp only [Bool.false_eq_true, if_false]
        refine wpAny_execs_nil ?_
        try dsimp only
        refine wpAny_execs_cons ?_
        refine wpAny_Break ?_
        try dsimp only
        refine wpAny_execs_cons ?_
        refine wpAny_Assign_Subscript ?_ (by rfl)
        refine ldL Z₄ (upd_other (by decide) (upd_other (by decide) e4)) ?_
        refine ldL Z₄ (upd_other (by decide) (upd_other (by decide) e1)) ?_
        refine ldL Z₄ (upd_other (by decide) (upd_other (by decide) e3)) ?_
        refine setL Z₄ (i := 1) rfl (by lia) (by lia) (by rw [List.length_map]; lia) fun h₉ Z₉ => ?_
        try refine shN s h₉ fun tkn6 => ?_
        try dsimp only
        refine wpAny_execs_nil ?_
        refine hQ h₉ _ (qs.set n new) ?_ (sd_end hns hqs hc J) Pm
        rw [List.map_set]
        exact Z₉.drop
    · have hn0 : n = 0 := by lia
      subst hn0
      rw [decide_eq_false h0]
      simp only [Bool.false_eq_true, if_false]
      refine wpAny_execs_cons ?_
      refine wpAny_Assign_Subscript ?_ (by rfl)
      refine ldL Z e4 ?_
      refine ldL Z e1 ?_
      refine ldL Z e3 ?_
      refine setL Z (i := 1) rfl (by lia) (by lia) (by rw [List.length_map]; lia) fun h₉ Z₉ => ?_
      try refine shN s h₉ fun tkn7 => ?_
      try dsimp only
      refine wpAny_execs_nil ?_
      refine hQ h₉ _ (qs.set 0 new) ?_ (sd_end0 J) Pm
      rw [List.map_set]
      exact Z₉.drop
  · exact upd_other (by decide) rfl
  · exact upd_other (by decide) rfl
  · exact upd_other (by decide) rfl
  · exact upd_self
  · have e : ps.set pos new = ps := by
      apply List.ext_getElem?
      intro j
      rw [List.getElem?_set]
      split
      · rename_i h; subst h; exact ((by simp [hlt]) : _ = some new).trans hpos.symm
      · rfl
    rw [e]; exact I
  · have e : ps.set pos new = ps := by
      apply List.ext_getElem?
      intro j
      rw [List.getElem?_set]
      split
      · rename_i h; subst h; exact ((by simp [hlt]) : _ = some new).trans hpos.symm
      · rfl
    rw [e]
end Mine

end
section
open PySem PySem.W PyProof.Rows
set_option Elab.async false
set_option maxRecDepth 100000
namespace Mine
theorem boot_len : bootBuiltins "len" = some (.builtin "len") := by decide +kernel
/-- the heap's defs as they stand -/
structure HFns (h₀ : Heap) (mg : Str → Option Value) : Prop where
  push : GFn h₀ mg "heappush" (fnParams (stAt pw 7)) (fnBody (stAt pw 7)) (fnScope (stAt pw 7))
  pop : GFn h₀ mg "heappop" (fnParams (stAt pw 8)) (fnBody (stAt pw 8)) (fnScope (stAt pw 8))
  down : GFn h₀ mg "_siftdown" (fnParams (stAt pw 9)) (fnBody (stAt pw 9)) (fnScope (stAt pw 9))
  up : GFn h₀ mg "_siftup" (fnParams (stAt pw 10)) (fnBody (stAt pw 10)) (fnScope (stAt pw 10))
  nolen : mg "len" = none
section
variable {w : World} {A : Around} {E : Value → Shared → Prop} {s : Shared} {B : PM} {cs : Cs} {h₀ : Heap} {mg : Str → Option Value} {K : Type} {k : Keys B K} {Q : Value → Shared → Prop} {hp : Addr} {ps : List (Value × K)}
theorem Rm.deep {A : Around} {d u d' u' : Nat} {env : Env} (R : Rm A d u) (hd : d' + 1 ≤ d) (hu : u' + 3 ≤ u) : Rm (A.deeper env) d' u' :=
  ⟨R.handled, by have := R.depth; simp only [depth_deeper]; lia, by have := R.units; simp only [Around.deeper_units]; lia⟩
set_option maxHeartbeats 4000000 in
theorem heappush_spec {new : Value × K} {f : Addr} {o : Obj} {pm cd doc : Value}
    (R : Rm A 5 300) (G : G0 h₀ mg) (HF : HFns h₀ mg) (K0 : In0 h₀ B) (ho : h₀.get? f = some o) (hd : o.data = .func (Calls.docDef "heappush" (fnParams (stAt pw 7)) (fnBody (stAt pw 7)) (fnScope (stAt pw 7)) pm cd doc)) (hcd : h₀.CodeRec cd "heappush")
    (C : k.Cmp w) (O : Ord k.ltP) (X : St B ((hp, LstP (ps.map Prod.fst)) :: cs) s.heap) (H : IsHeap k.ltP ps) (hlen : ps.length < 90000) (hr : ∀ p ∈ ps, k.rd p.1 p.2) (hn : k.rd new.1 new.2)
    (hQ : ∀ h' tk qs, St B ((hp, LstP (qs.map Prod.fst)) :: cs) h' → IsHeap k.ltP qs → qs.Perm (ps ++ [new]) → Q .none { s with heap := h', toks := tk }) :
    wpAny (model pw w) A (call (.ref f) [.ref hp, new.1]) Q E s := by
  refine callF (d := 4) (binds := [("heap", .ref hp), ("item", new.1)]) R G K0 X ho hd hcd (by rfl) (locs (by rfl)) (fun h₁ L tk Y => ?_) (by rfl) (by rfl) (by rfl) (by decide +kernel)
  refine wpAny_execs_cons ?_
  refine wpAny_Expr ?_ (by rfl) (by rfl)
  refine wpAny_Constant_str ?_
  dsimp only
  refine wpAny_execs_cons ?_
  refine wpAny_Expr ?_ (by rfl) (by rfl)
  refine wpAny_Call_method (by rfl) (by rfl) (by rfl) PySem.F.plainAttrs_list PySem.F.slot_list_append PySem.F.type_list_append ?_
  refine ldL Y (by rfl) ?_
  refine lst_meth (Y.lst (i := 1) rfl) ?_
  refine Calls.callWith_builtin (by rfl) ?_
  refine Calls.evalArgs_plain ?_
  refine Calls.spliced_cons ?_
  refine ldL Y (by rfl) ?_
  refine Calls.spliced_nil ?_
  refine appL Y (i := 1) rfl (by rw [List.length_map]; lia) fun h₂ Y₂ => ?_
  dsimp only
  have Y₃ : St B ((L, NsP (fun x => ([("heap", Value.ref hp), ("item", new.1)] : List (Str × Value)).reverse.lookup x)) :: (hp, LstP ((ps ++ [new]).map Prod.fst)) :: cs) h₂ := by rw [List.map_append]; exact Y₂
  clear Y₂
  refine wpAny_execs_cons ?_
  refine wpAny_Expr ?_ (by rfl) (by rfl)
  obtain ⟨f', o', pm', cd', doc', hm', ho', hd', hc'⟩ := HF.down
  refine callN G K0 Y₃ hm' ho' hd' ?_
  refine wpAny_items_cons ?_
  refine ldL Y₃ (by rfl) ?_
  refine wpAny_items_cons ?_
  refine wpAny_Constant_int ?_
  refine wpAny_items_cons ?_
  refine wpAny_BinOp ?_
  refine callB G K0 Y₃ HF.nolen boot_len ?_
  refine wpAny_items_cons ?_
  refine ldL Y₃ (by rfl) ?_
  refine wpAny_items_nil ?_
  refine len_list (Y₃.lst (i := 1) rfl).isList (by simp; lia) ?_
  refine wpAny_Constant_int ?_
  refine sub_int ?_
  refine wpAny_items_nil ?_
  refine ⟨⟨B, _, Le.refl _, Y₃⟩, ?_⟩
  have e : (((List.map Prod.fst (ps ++ [new])).toArray.size : Int) - 1) = (ps.length : Int) := by simp
  rw [e]
  dsimp only
  refine siftdown_spec (new := new) (ps := ps ++ [new]) (R.deep (by lia) (by lia)) G K0 ho' hd' hc' C O (Y₃.perm (List.Perm.swap ..)) ?_ (push_start H) ?_ ?_ fun h' tk' qs Z hH hP => ?_
  · simp
  · rw [List.length_append, List.length_singleton]; lia
  · intro p hp'
    rcases List.mem_append.mp hp' with q | q
    · exact hr p q
    · rw [List.mem_singleton.mp q]; exact hn
  · dsimp only
    refine wpAny_execs_nil ?_
    exact hQ h' tk' qs (Z.perm (List.Perm.swap ..)).drop hH hP
end
end Mine

end
section
open PySem PySem.W PyProof.Rows
namespace Mine
local macro_rules | `(tactic| walk_at "lk") => `(tactic| first | with_reducible assumption | with_reducible exact upd_self | ((with_reducible refine' upd_other ?hne ?rest); (case hne => decide); (case rest => walk_at "lk")) | rfl)
local macro_rules | `(tactic| walk_at "ld") => `(tactic| first | refine ldL (by assumption) (by walk_at "lk") ?_ | refine ldnL (by assumption) (by walk_at "lk") ?_)
local macro_rules | `(tactic| walk_at "s") => `(tactic| first
  | ((with_reducible show wpAny _ _ (eval (Expr.Name _ _) _) _ _ _); walk_at "ld")
  | with_reducible first
    | refine wpAny_execs_cons ?_
    | refine wpAny_execs_nil ?_
    | refine wpAny_AugAssign_Name ?_
    | refine wpAny_If ?_
    | refine wpAny_Continue ?_
    | refine wpAny_Break ?_
    | refine wpAny_Return_some ?_
    | refine wpAny_BinOp ?_
    | refine wpAny_UnaryOp ?_
    | refine wpAny_IfExp ?_
    | refine wpAny_Constant_int ?_
    | refine wpAny_Constant_str ?_
    | refine wpAny_Constant_none ?_
    | refine wpAny_Constant_bool ?_
    | refine wpAny_isTrue_BoolOp ?_
    | refine wpAny_isTrue_Not ?_
    | refine wpAny_allTrue_And_cons ?_
    | refine wpAny_allTrue_And_nil ?_
    | refine wpAny_allTrue_Or_cons ?_
    | refine wpAny_allTrue_Or_nil ?_
    | refine wpAny_truthy_bool ?_
    | ((fail_if_success (show wpAny _ _ (eval (Expr.Subscript _ (Expr.Slice _ _ _ _) _) _) _ _ _)); refine Subscript_ ?_)
    | refine iteT ?_
    | refine iteF ?_
    | refine wpAny_items_nil ?_
    | refine sub_int ?_
    | refine add_int ?_
    | refine lt_int ?_
    | refine gt_int ?_
    | refine PyProof.Rows.neg_int ?_
    | refine PyProof.Rows.eq_int ?_
    | refine PyProof.Rows.ne_int ?_
    | refine PyProof.Rows.ge_int ?_
    | refine PyProof.Rows.le_int ?_
    | refine asgA ?_
    | refine wpAny_Return_none ?_
    | refine is_ref_none ?_
  | ((with_reducible first | refine wpAny_Assign_Name ?_ ?hs | refine wpAny_Assign_Subscript ?_ ?hs | refine plainObj_wpAny_Assign_Attribute ?_ ?hs | refine wpAny_items_cons ?_ ?hs); (case hs => rfl))
  | ((with_reducible first | refine wpAny_isTrue_Compare1 ?_ ?hs | refine wpAny_Compare1 ?_ ?hs | refine Attribute_any_ ?_ ?hs); (case hs => with_unfolding_all rfl))
  | ((with_reducible first | refine wpAny_Expr ?_ ?he ?hw | refine wpAny_Assign_two ?_ ?he ?hw); (case he => rfl); (case hw => rfl))
  | ((with_reducible show wpAny _ _ (storeName _ _ _) _ _ _); refine stL (by assumption) fun h' Y' => ?_)
  | ((with_reducible show wpAny _ _ (loadName _ _) _ _ _); walk_at "ld"))
local macro_rules | `(tactic| walk_at "go") => `(tactic| repeat (first | walk_at "s" | (dsimp only; walk_at "s")))
section
open PySem PySem.W PyProof.Rows
set_option Elab.async false
set_option maxRecDepth 100000
theorem If_mid {M : Model} {A : Around} {E : Value → Shared → Prop} {s : Shared} {env : Env} {test : Expr} {body orelse : List Stmt} {pos : Pos} {Q : Flow → Shared → Prop} (P : Shared → Prop)
    (h : wpAny M A (isTrue test env (eval test env)) (fun b s₂ => if b then wpAny M A (execs body env) (fun f s' => f = .next ∧ P s') E s₂ else wpAny M A (execs orelse env) (fun f s' => f = .next ∧ P s') E s₂) E s)
    (k : ∀ s', P s' → Q .next s') : wpAny M A (exec (.If test body orelse pos) env) Q E s := by
  refine wpAny_If (wpAny_mono h (fun b s₂ h₂ => ?_) fun _ _ q => q)
  cases b with
  | true => simp only [if_true] at h₂ ⊢; exact wpAny_mono h₂ (fun f s' q => by obtain ⟨rfl, q⟩ := q; exact k _ q) fun _ _ q => q
  | false => simp only [Bool.false_eq_true, if_false] at h₂ ⊢; exact wpAny_mono h₂ (fun f s' q => by obtain ⟨rfl, q⟩ := q; exact k _ q) fun _ _ q => q
def IsI (v : Option Value) (i : Int) : Prop := ∃ t, v = some (.int i t)
theorem mul2 {prog : Program} {w : World} {A : Around} {E : Value → Shared → Prop} {s : Shared} {b : Int} {t u : Tok} {Q : Value → Shared → Prop} (h : Q (.int (2 * b) s.toks) { s with toks := s.toks + 1 }) :
    wpAny (model prog w) A (binaryOp .Mult (.int 2 t) (.int b u)) Q E s := mul_int h (.of_left (by decide +kernel))
section
variable {w : World} {A : Around} {E : Value → Shared → Prop} {s : Shared} {B : PM} {cs : Cs} {h₀ : Heap} {mg : Str → Option Value} {K : Type} {k : Keys B K} {Q : Value → Shared → Prop} {hp : Addr} {ps : List (Value × K)}
set_option maxHeartbeats 4000000 in
theorem siftup_spec {f : Addr} {o : Obj} {pm cd doc : Value} {t1 : Tok} {new : Value × K}
    (R : Rm A 5 300) (G : G0 h₀ mg) (HF : HFns h₀ mg) (K0 : In0 h₀ B) (ho : h₀.get? f = some o) (hd : o.data = .func (Calls.docDef "_siftup" (fnParams (stAt pw 10)) (fnBody (stAt pw 10)) (fnScope (stAt pw 10)) pm cd doc)) (hcd : h₀.CodeRec cd "_siftup")
    (C : k.Cmp w) (O : Ord k.ltP) (X : St B ((hp, LstP (ps.map Prod.fst)) :: cs) s.heap) (h0 : ps[0]? = some new) (H : SuInv k.ltP ps 0) (hlen : ps.length < 90000) (hr : ∀ p ∈ ps, k.rd p.1 p.2)
    (hQ : ∀ h' tk qs, St B ((hp, LstP (qs.map Prod.fst)) :: cs) h' → IsHeap k.ltP qs → qs.Perm ps → Q .none { s with heap := h', toks := tk }) :
    wpAny (model pw w) A (call (.ref f) [.ref hp, .int 0 t1]) Q E s := by
  refine callF (d := 4) (binds := [("heap", .ref hp), ("pos", .int 0 t1)]) R G K0 X ho hd hcd (by rfl) (locs (by rfl)) (fun h₁ L tk Y => ?_) (by rfl) (by rfl) (by rfl) (by decide +kernel)
  have hlt : 0 < ps.length := (List.getElem?_eq_some_iff.mp h0).1
  have hnew : k.rd new.1 new.2 := hr _ (List.mem_of_getElem? h0)
  refine wpAny_execs_cons ?_
  walk_at "s"
  refine callB G K0 Y HF.nolen boot_len ?_
  walk_at "go"
  refine len_list (Y.lst (i := 1) rfl).isList (by simp; lia) ?_
  walk_at "go"
  rename_i _ _ hA YA
  refine subL (YA.lst (i := 1) rfl).isList (by lia) (by lia) (x := new.1) (by simp [h0]) ?_
  walk_at "go"
  refine mul2 ?_
  walk_at "go"
  rename_i _ _ hB YB
  try dsimp only
  refine whileW (fun N s' => ∃ (h' : Heap) (tk : Nat) (m' : Str → Option Value) (qs : List (Value × K)) (n : Nat), N = ps.length - n ∧ s' = { s with heap := h', toks := tk } ∧ St B ((L, NsP m') :: (hp, LstP (qs.map Prod.fst)) :: cs) h' ∧ m' "heap" = some (.ref hp) ∧
     IsI (m' "startpos") 0 ∧ IsI (m' "endpos") ps.length ∧ IsI (m' "pos") n ∧ IsI (m' "childpos") ((2 * n + 1 : Nat) : Int) ∧
     m' "newitem" = some new.1 ∧ n < qs.length ∧ qs.length = ps.length ∧ (∀ p ∈ qs, k.rd p.1 p.2) ∧ SuInv k.ltP (qs.set n new) n ∧ (qs.set n new).Perm ps) ?turn (ps.length - 0)
     ⟨hB, _, _, ps, 0, rfl, rfl, YB, by walk_at "lk", ⟨_, by walk_at "lk"⟩, ⟨_, by (rw [show ((ps.length : Int)) = (((ps.map Prod.fst).toArray.size : Nat) : Int) by simp]; walk_at "lk")⟩, ⟨_, by walk_at "lk"⟩, ⟨_, by walk_at "lk"⟩, by walk_at "lk", hlt, rfl, hr, ?_, ?_⟩
  case turn =>
    rintro N s' ⟨h', tk', m', qs, n, rfl, rfl, Z, e1, ⟨u, e2⟩, ⟨u2, e3⟩, ⟨u3, e4⟩, ⟨u4, e5⟩, e6, hn, hln, hrd, J, Pm⟩
    walk_at "go"
    by_cases hc : ((2 * n + 1 : Nat) : Int) < ps.length
    · rw [decide_eq_true hc]
      simp only [if_true]
      have hc1 : 2 * n + 1 < qs.length := by lia
      walk_at "s"
      walk_at "s"
      walk_at "s"
      walk_at "s"
      walk_at "s"
      walk_at "s"
      walk_at "s"
      try dsimp only
      rename_i hC ZC
      walk_at "s"
      refine If_mid (fun s'' => ∃ (h'' : Heap) (tk'' : Nat) (m'' : Str → Option Value) (c : Nat), s'' = { s with heap := h'', toks := tk'' } ∧ St B ((L, NsP m'') :: (hp, LstP (qs.map Prod.fst)) :: cs) h'' ∧ m'' "heap" = some (.ref hp) ∧
        IsI (m'' "startpos") 0 ∧ IsI (m'' "endpos") ps.length ∧ IsI (m'' "pos") n ∧ IsI (m'' "childpos") c ∧ m'' "newitem" = some new.1 ∧ 0 < c ∧ (c - 1) / 2 = n ∧ ∃ hcl : c < qs.length, ∀ i, 0 < i → (i - 1) / 2 = n → i ≠ c → ∀ b, qs[i]? = some b → k.ltP b qs[c] = false) ?hIf ?hRest
      case hIf =>
        walk_at "go"
        by_cases hr2 : ((2 * n + 1 : Nat) : Int) + 1 < ps.length
        · rw [decide_eq_true hr2]
          simp only [if_true]
          have hc2 : 2 * n + 1 + 1 < qs.length := by lia
          walk_at "go"
          refine subL (ZC.lst (i := 1) rfl).isList (by lia) (by lia) (x := (qs[2 * n + 1]).1) (by rw [Int.toNat_natCast, List.getElem?_map, List.getElem?_eq_getElem hc1]; rfl) ?_
          walk_at "go"
          refine subL (ZC.lst (i := 1) rfl).isList (by lia) (by lia) (x := (qs[2 * n + 1 + 1]).1) (by rw [show (((2 * n + 1 : Nat) : Int) + 1).toNat = 2 * n + 1 + 1 by lia, List.getElem?_map, List.getElem?_eq_getElem hc2]; rfl) ?_
          refine cmp_ofLt ?_
          refine C _ _ _ _ _ _ _ _ _ (R.deep (by lia) (by lia)) ZC (hrd _ (List.getElem_mem hc1)) (hrd _ (List.getElem_mem hc2)) ?_
          walk_at "go"
          cases hl : k.lt qs[2 * n + 1].2 qs[2 * n + 1 + 1].2 with
          | true =>
            simp only [Bool.not_true, Bool.false_eq_true, if_false]
            walk_at "go"
            refine ⟨rfl, hC, _, _, 2 * n + 1, rfl, ZC, by walk_at "lk", ⟨_, by walk_at "lk"⟩, ⟨_, by walk_at "lk"⟩, ⟨_, by walk_at "lk"⟩, ⟨_, by walk_at "lk"⟩, by walk_at "lk", by lia, by lia, hc1, fun i hi hp hne b hb => ?_⟩
            have : i = 2 * n + 1 + 1 := by lia
            subst this
            rw [List.getElem?_eq_getElem hc2] at hb
            cases hb
            exact O.asymm _ _ hl
          | false =>
            simp only [Bool.not_false, if_true]
            walk_at "go"
            rename_i hD ZD
            refine ⟨rfl, hD, _, _, 2 * n + 1 + 1, rfl, ZD, by walk_at "lk", ⟨_, by walk_at "lk"⟩, ⟨_, by walk_at "lk"⟩, ⟨_, by walk_at "lk"⟩, ⟨_, by walk_at "lk"⟩, by walk_at "lk", by lia, by lia, hc2, fun i hi hp hne b hb => ?_⟩
            have : i = 2 * n + 1 := by lia
            subst this
            rw [List.getElem?_eq_getElem hc1] at hb
            cases hb
            exact hl
        · rw [decide_eq_false hr2]
          simp only [Bool.false_eq_true, if_false]
          walk_at "go"
          refine ⟨rfl, hC, _, _, 2 * n + 1, rfl, ZC, by walk_at "lk", ⟨_, by walk_at "lk"⟩, ⟨_, by walk_at "lk"⟩, ⟨_, by walk_at "lk"⟩, ⟨_, by walk_at "lk"⟩, by walk_at "lk", by lia, by lia, hc1, fun i hi hp hne b hb => ?_⟩
          have := (List.getElem?_eq_some_iff.mp hb).1
          lia
      case hRest =>
        rintro s'' ⟨h'', tk'', m'', c, rfl, W, f1, ⟨v1, f2⟩, ⟨v2, f3⟩, ⟨v3, f4⟩, ⟨v4, f5⟩, f6, hc0, hcp, hcl, hmin⟩
        walk_at "go"
        refine subL (W.lst (i := 1) rfl).isList (by lia) (by lia) (x := (qs[c]).1) (by rw [Int.toNat_natCast, List.getElem?_map, List.getElem?_eq_getElem hcl]; rfl) ?_
        walk_at "go"
        refine setL W (i := 1) rfl (by lia) (by lia) (by rw [List.length_map]; lia) fun h₅ Z₅ => ?_
        try refine shN s h₅ fun tkn1 => ?_
        have Z₆ : St B ((L, NsP m'') :: (hp, LstP ((qs.set n qs[c]).map Prod.fst)) :: cs) h₅ := by rw [List.map_set]; exact Z₅
        clear Z₅
        walk_at "go"
        refine mul2 ?_
        walk_at "go"
        rename_i _ _ _ _ hE ZE
        try dsimp only
        have hq : qs[c]? = some qs[c] := List.getElem?_eq_getElem hcl
        have hqs : (qs.set n new)[c]? = some qs[c] := by rw [List.getElem?_set, if_neg (by lia), hq]
        have hns : (qs.set n new)[n]? = some new := by rw [List.getElem?_set, if_pos rfl, if_pos hn]
        have hset : (qs.set n qs[c]).set c new = swp (qs.set n new) c n qs[c] new := by
          unfold swp
          apply List.ext_getElem?
          intro j
          simp only [List.getElem?_set, List.length_set]
          repeat' split
          all_goals first | rfl | lia
        refine ⟨ps.length - c, by lia, hE, _, _, qs.set n qs[c], c, rfl, rfl, ZE, by walk_at "lk", ⟨_, by walk_at "lk"⟩, ⟨_, by walk_at "lk"⟩, ⟨_, by walk_at "lk"⟩, ⟨_, by (rw [show ((2 * c + 1 : Nat) : Int) = 2 * (c : Int) + 1 by lia]; walk_at "lk")⟩, by walk_at "lk", by rw [List.length_set]; exact hcl, by rw [List.length_set]; exact hln, ?_, ?_, ?_⟩
        · intro p hp'
          rcases List.mem_or_eq_of_mem_set hp' with q | q
          · exact hrd p q
          · rw [q]; exact hrd _ (List.getElem_mem hcl)
        · rw [hset]
          refine su_step O hc0 hcp hns hqs (fun i hi hp hne b hb => ?_) J
          rw [List.getElem?_set, if_neg (by lia)] at hb
          exact hmin i hi hp hne b hb
        · rw [hset]; exact (swp_perm hqs hns).trans Pm
    · rw [decide_eq_false hc]
      walk_at "go"
      refine setL Z (i := 1) rfl (by lia) (by lia) (by rw [List.length_map]; lia) fun h₅ Z₅ => ?_
      try refine shN s h₅ fun tkn2 => ?_
      have Z₆ : St B ((L, NsP m') :: (hp, LstP ((qs.set n new).map Prod.fst)) :: cs) h₅ := by rw [List.map_set]; exact Z₅
      clear Z₅
      walk_at "go"
      obtain ⟨f', o', pm', cd', doc', hm', ho', hd', hc'⟩ := HF.down
      refine callN G K0 Z₆ hm' ho' hd' ?_
      walk_at "go"
      refine ⟨⟨B, _, Le.refl _, Z₆⟩, ?_⟩
      refine siftdown_spec (new := new) (ps := qs.set n new) (R.deep (by lia) (by lia)) G K0 ho' hd' hc' C O (Z₆.perm (List.Perm.swap ..)) ?_ (su_end ?_ J) ?_ ?_ fun h' tk' rs Z hH hP => ?_
      · rw [List.getElem?_set, if_pos rfl, if_pos hn]
      · rw [List.length_set]; lia
      · rw [List.length_set]; lia
      · intro p hp'
        rcases List.mem_or_eq_of_mem_set hp' with q | q
        · exact hrd p q
        · rw [q]; exact hnew
      · walk_at "go"
        exact hQ h' tk' rs (Z.perm (List.Perm.swap ..)).drop hH (hP.trans Pm)
  · have e : ps.set 0 new = ps := by
      apply List.ext_getElem?
      intro j
      rw [List.getElem?_set]
      split
      · rename_i h; subst h; exact ((by simp [hlt]) : _ = some new).trans h0.symm
      · rfl
    rw [e]; exact H
  · have e : ps.set 0 new = ps := by
      apply List.ext_getElem?
      intro j
      rw [List.getElem?_set]
      split
      · rename_i h; subst h; exact ((by simp [hlt]) : _ = some new).trans h0.symm
      · rfl
    rw [e]
end
end
section
open PySem PySem.W PyProof.Rows
set_option Elab.async false
set_option maxRecDepth 100000
section
variable {w : World} {A : Around} {E : Value → Shared → Prop} {s : Shared} {B : PM} {cs : Cs} {h₀ : Heap} {mg : Str → Option Value} {K : Type} {k : Keys B K} {Q : Value → Shared → Prop} {hp : Addr} {ps : List (Value × K)}
set_option maxHeartbeats 4000000 in
theorem heappop_spec {f : Addr} {o : Obj} {pm cd doc : Value} {top : Value × K}
    (R : Rm A 7 400) (G : G0 h₀ mg) (HF : HFns h₀ mg) (K0 : In0 h₀ B) (ho : h₀.get? f = some o) (hd : o.data = .func (Calls.docDef "heappop" (fnParams (stAt pw 8)) (fnBody (stAt pw 8)) (fnScope (stAt pw 8)) pm cd doc)) (hcd : h₀.CodeRec cd "heappop")
    (C : k.Cmp w) (O : Ord k.ltP) (X : St B ((hp, LstP (ps.map Prod.fst)) :: cs) s.heap) (h0 : ps[0]? = some top) (H : IsHeap k.ltP ps) (hlen : ps.length < 90000) (hr : ∀ p ∈ ps, k.rd p.1 p.2)
    (hQ : ∀ h' tk qs, St B ((hp, LstP (qs.map Prod.fst)) :: cs) h' → IsHeap k.ltP qs → (top :: qs).Perm ps → Q top.1 { s with heap := h', toks := tk }) :
    wpAny (model pw w) A (call (.ref f) [.ref hp]) Q E s := by
  refine callF (d := 6) (binds := [("heap", .ref hp)]) R G K0 X ho hd hcd (by rfl) (locs (by rfl)) (fun h₁ L tk Y => ?_) (by rfl) (by rfl) (by rfl) (by decide +kernel)
  obtain ⟨rs, lst, rfl⟩ : ∃ rs lst, ps = rs ++ [lst] := ⟨ps.dropLast, ps.getLast (by rintro rfl; cases h0), (List.dropLast_concat_getLast _).symm⟩
  rw [List.map_append] at Y
  rw [List.length_append, List.length_singleton] at hlen
  refine wpAny_execs_cons ?_
  walk_at "go"
  refine wpAny_Call_method (by rfl) (by rfl) (by rfl) PySem.F.plainAttrs_list PySem.F.slot_list_pop PySem.F.type_list_pop ?_
  walk_at "go"
  refine lst_meth (Y.lst (i := 1) rfl) ?_
  refine Calls.callWith_builtin (by rfl) ?_
  refine PySem.evalArgs_none ?_
  refine popL Y (i := 1) rfl (by rw [List.length_map]; lia) fun h₂ Y₂ => ?_
  try refine shN s h₂ fun tkn1 => ?_
  walk_at "go"
  refine wpAny_isTrue_value ?_
  walk_at "go"
  rename_i h₃ Y₃
  refine wpAny_truthy_list (Y₃.lst (i := 1) rfl).isList (by simp; lia) ?_
  cases rs with
  | nil =>
    rw [show (!(List.map Prod.fst ([] : List (Value × K))).toArray.isEmpty) = false from rfl]
    walk_at "go"
    have e : lst = top := by simpa using h0
    subst e
    exact hQ h₃ _ [] Y₃.drop (fun i _ a b ha => by simp at ha) (.refl _)
  | cons a t =>
    rw [show (!(List.map Prod.fst (a :: t)).toArray.isEmpty) = true by simp]
    have e : a = top := by simpa using h0
    subst e
    walk_at "go"
    refine subL (Y₃.lst (i := 1) rfl).isList (by lia) (by lia) (x := a.1) (by simp) ?_
    walk_at "go"
    rename_i h₄ Y₄
    refine setL Y₄ (i := 1) rfl (by lia) (by lia) (by simp) fun h₅ Z₅ => ?_
    try refine shN s h₅ fun tkn2 => ?_
    have Z₆ : St B ((L, NsP (upd (upd (fun x => ([("heap", Value.ref hp)] : List (Str × Value)).reverse.lookup x) "lastelt" lst.1) "returnitem" a.1)) :: (hp, LstP ((lst :: t).map Prod.fst)) :: cs) h₅ := Z₅
    clear Z₅
    walk_at "go"
    obtain ⟨f', o', pm', cd', doc', hm', ho', hd', hc'⟩ := HF.up
    refine callN G K0 Z₆ hm' ho' hd' ?_
    walk_at "go"
    refine ⟨⟨B, _, Le.refl _, Z₆⟩, ?_⟩
    have hdl : (a :: t ++ [lst]).dropLast = a :: t := by rw [List.dropLast_concat]
    have hh := dropLast_heap H
    rw [hdl] at hh
    have hs := su_start (x := lst) hh
    refine siftup_spec (new := lst) (ps := lst :: t) (R.deep (by lia) (by lia)) G HF K0 ho' hd' hc' C O (Z₆.perm (List.Perm.swap ..)) rfl hs ?_ ?_ fun h' tk' rs Z hH hP => ?_
    · simp at hlen ⊢; lia
    · intro p hp'
      refine hr p ?_
      rcases List.mem_cons.mp hp' with rfl | q
      · simp
      · simp [q]
    · have Z := Z.perm (List.Perm.swap ..)
      walk_at "go"
      refine hQ h' tk' rs Z.drop hH ?_
      refine (List.Perm.cons a hP).trans ?_
      rw [List.cons_append]
      refine List.Perm.cons a ?_
      exact (List.perm_append_singleton lst t).symm
end
end
section
open PySem PySem.W PyProof.Rows
set_option Elab.async false
set_option maxRecDepth 100000
theorem boot_enumerate : bootBuiltins "enumerate" = some (.type "enumerate") := by decide +kernel
theorem boot_set : bootBuiltins "set" = some (.type "set") := by decide +kernel
theorem boot_range : bootBuiltins "range" = some (.type "range") := by decide +kernel
theorem boot_min : bootBuiltins "min" = some (.builtin "min") := by decide +kernel
theorem boot_sum : bootBuiltins "sum" = some (.builtin "sum") := by decide +kernel
theorem boot_tuple : bootBuiltins "tuple" = some (.type "tuple") := by decide +kernel
/-- built-ins' names that the text leaves alone -/
structure Bi (mg : Str → Option Value) : Prop where
  len : mg "len" = none
  enumerate : mg "enumerate" = none
  set : mg "set" = none
  range : mg "range" = none
  min : mg "min" = none
  sum : mg "sum" = none
  tuple : mg "tuple" = none
section
variable {prog : Program} {w : World} {A : Around} {E : Value → Shared → Prop} {s : Shared} {B : PM} {cs : Cs} {i : Nat} {l : Addr} {vs : List Value}
/-- a built-in type called by its name -/
theorem callT {env : Env} {id : Str} {T : String} {p pos : Pos} {args : List Expr} {h₀ : Heap} {mg : Str → Option Value} {Q : Value → Shared → Prop}
    (G : G0 h₀ mg) (K : In0 h₀ B) (X : St B cs s.heap) (hm : mg id = none) (hb : bootBuiltins id = some (.type T))
    (h : wpAny (model prog w) A (spliced (backTo pos (starEach args env))) (fun vs s₁ => wpAny (model prog w) A (call (.type T) vs) Q E s₁) E s)
    (hst : ∃ x r, backTo pos (starEach args env) = (false, x) :: r := by exact ⟨_, _, rfl⟩) (hpl : (backTo pos (starEach args env)).any (·.1) = false := by rfl)
    (hn : id ≠ "__name__" := by decide) (hg : env.globals = mainGlobals := by rfl) (hbn : env.builtins = builtinsNs := by rfl) (hk : env.scope.kind = .function := by rfl) (hx : env.kindOf id = some .globalImplicit := by rfl) (hd : (id == ("__debug__" : Str)) = false := by decide) :
    wpAny (model prog w) A (eval (.Call (.Name id p) args [] pos) env) Q E s := by
  refine wpAny_Call_NameR (ldBi G K X hm hb ?_ hn hg hbn hk hx hd)
  refine PyProof.Rows.callWith_type hpl ?_
  obtain ⟨x, r, e⟩ := hst
  rw [e] at h ⊢
  exact Calls.evalArgs_plain (wpAny_mono h (fun vs s₁ h₁ => h₁) fun _ _ q => q)
theorem callT0 {env : Env} {id : Str} {T : String} {p pos : Pos} {h₀ : Heap} {mg : Str → Option Value} {Q : Value → Shared → Prop}
    (G : G0 h₀ mg) (K : In0 h₀ B) (X : St B cs s.heap) (hm : mg id = none) (hb : bootBuiltins id = some (.type T))
    (h : wpAny (model prog w) A (call (.type T) []) Q E s)
    (hn : id ≠ "__name__" := by decide) (hg : env.globals = mainGlobals := by rfl) (hbn : env.builtins = builtinsNs := by rfl) (hk : env.scope.kind = .function := by rfl) (hx : env.kindOf id = some .globalImplicit := by rfl) (hd : (id == ("__debug__" : Str)) = false := by decide) :
    wpAny (model prog w) A (eval (.Call (.Name id p) [] [] pos) env) Q E s := by
  refine wpAny_Call_NameR (ldBi G K X hm hb ?_ hn hg hbn hk hx hd)
  exact PyProof.Rows.callWith_type0 h
/-- a built-in method's arguments, then the call -/
theorem cwB {env : Env} {id : String} {first : List Value} {pos : Pos} {args : List Expr} {Q : Value → Shared → Prop}
    (h : wpAny (model prog w) A (spliced (backTo pos (starEach args env))) (fun vs s₁ => wpAny (model prog w) A (call (.builtin id) (first ++ vs)) Q E s₁) E s)
    (hst : ∃ x r, backTo pos (starEach args env) = (false, x) :: r := by exact ⟨_, _, rfl⟩) (hpl : (backTo pos (starEach args env)).any (·.1) = false := by rfl) :
    wpAny (model prog w) A (callWith pos (.builtin id) first (backTo pos (starEach args env)) []) Q E s := by
  refine Calls.callWith_builtin hpl ?_
  obtain ⟨x, r, e⟩ := hst
  rw [e] at h ⊢
  exact Calls.evalArgs_plain (wpAny_mono h (fun vs s₁ h₁ => h₁) fun _ _ q => q)
/-- a bound built-in, in a local name, called -/
theorem callBnd {env : Env} {id : Str} {bi : String} {q d : Addr} {p pos : Pos} {args : List Expr} {m : Str → Option Value} {r : Cs} {Q : Value → Shared → Prop}
    (X : St B ((env.locals, NsP m) :: r) s.heap) (hv : m id = some (.ref q))
    (h : wpAny (model prog w) A (spliced (backTo pos (starEach args env))) (fun vs s₁ => s₁.heap.get? q = some (bnd bi d) ∧ wpAny (model prog w) A (call (.ref q) vs) Q E s₁) E s)
    (hst : ∃ x r, backTo pos (starEach args env) = (false, x) :: r := by exact ⟨_, _, rfl⟩) (hpl : (backTo pos (starEach args env)).any (·.1) = false := by rfl)
    (hk : env.scope.kind = .function := by rfl) (hl : env.kindOf id = some .local := by rfl) (hd : (id == ("__debug__" : Str)) = false := by decide) :
    wpAny (model prog w) A (eval (.Call (.Name id p) args [] pos) env) Q E s := by
  refine wpAny_Call_NameR (ldL X hv ?_ hk hl hd)
  unfold callWith
  obtain ⟨x, r', e⟩ := hst
  rw [e] at h hpl ⊢
  refine wpAny_bind (wpAny_holding (Calls.evalArgs_plain (wpAny_mono h (fun vs s₁ h₁ => wpAny_bind (wpAny_standAt ?_)) fun _ _ x => x)))
  obtain ⟨ho, hcall⟩ := h₁
  simp only [hpl, List.any_nil, Bool.or_false]
  refine wpAny_bind (m := keeperOf (.ref q)) (keep_bnd ho ?_)
  exact wpAny_bind (wpAny_mono hcall (fun r s₂ hr => wpAny_bind (wpAny_holding (wpAny_point (wpAny_pure hr)))) fun _ _ x => x)
/-- set() -/
theorem newSet {Q : Value → Shared → Prop} (X : St B cs s.heap) (h : ∀ h', St B ((s.heap.objs.size, SetP) :: cs) h' → Q (.ref s.heap.objs.size) { s with heap := h' }) : wpAny (model prog w) A (call (.type "set") []) Q E s :=
  call_set_0 fun led => h _ (X.new _ rfl ⟨led, rfl⟩)
/-- len(xs) -/
theorem lenL {Q : Value → Shared → Prop} (hl : s.heap.IsList l vs.toArray) (hsz : vs.length < 100000) (h : ∀ t tk, Q (.int vs.length t) { s with toks := tk }) : wpAny (model prog w) A (call (.builtin "len") [.ref l]) Q E s := by
  refine len_list hl ?_ ?_
  · simp; lia
  · simpa using h _ _
end
end
section
open PySem PySem.W PyProof.Rows
set_option Elab.async false
/-! the plain law of find_longest_match -/
def Mt (as bs : List Int) (i j k : Nat) : Prop := ∀ t, t < k → ∃ x, as[i + t]? = some x ∧ bs[j + t]? = some x
def ls (as bs : List Int) (alo blo : Nat) : Nat → Nat → Nat
  | 0, _ => 0
  | _ + 1, 0 => 0
  | i + 1, j + 1 => if alo ≤ i ∧ blo ≤ j ∧ i < as.length ∧ as[i]? = bs[j]? then ls as bs alo blo i j + 1 else 0
section
variable {as bs : List Int} {alo ahi blo bhi : Nat}
theorem ls_zero (i : Nat) : ls as bs alo blo i 0 = 0 := by cases i <;> rfl
theorem ls_pos {i j : Nat} {x : Int} (h1 : alo ≤ i) (h2 : blo ≤ j) (ha : as[i]? = some x) (hb : bs[j]? = some x) : ls as bs alo blo (i + 1) (j + 1) = ls as bs alo blo i j + 1 := by
  rw [ls, if_pos ⟨h1, h2, (List.getElem?_eq_some_iff.mp ha).1, ha.trans hb.symm⟩]
theorem ls_ne {i j : Nat} {x : Int} (ha : as[i]? = some x) (hb : bs[j]? ≠ some x) : ls as bs alo blo (i + 1) (j + 1) = 0 := by
  rw [ls, if_neg]
  rintro ⟨_, _, _, e⟩
  exact hb (e.symm.trans ha)
theorem ls_low {i j : Nat} (h : j < blo) : ls as bs alo blo (i + 1) (j + 1) = 0 := by
  rw [ls, if_neg]
  rintro ⟨_, e, _⟩
  lia
theorem ls_alo : ∀ {i j : Nat}, i ≤ alo → ls as bs alo blo i j = 0
  | 0, _, _ => rfl
  | _ + 1, 0, _ => rfl
  | i + 1, j + 1, h => by rw [ls, if_neg]; rintro ⟨e, _⟩; lia
theorem ls_spec : ∀ (i j : Nat), ls as bs alo blo i j ≤ i ∧ ls as bs alo blo i j ≤ j ∧ (0 < ls as bs alo blo i j → alo + ls as bs alo blo i j ≤ i ∧ blo + ls as bs alo blo i j ≤ j) ∧ Mt as bs (i - ls as bs alo blo i j) (j - ls as bs alo blo i j) (ls as bs alo blo i j)
  | 0, j => ⟨Nat.zero_le _, Nat.zero_le _, fun h => absurd h (by simp [ls]), fun t ht => absurd ht (by simp [ls])⟩
  | i + 1, 0 => ⟨Nat.zero_le _, Nat.zero_le _, fun h => absurd h (by simp [ls]), fun t ht => absurd ht (by simp [ls])⟩
  | i + 1, j + 1 => by
    have ih := ls_spec i j
    unfold ls
    split
    · rename_i h
      obtain ⟨h1, h2, h3, h4⟩ := h
      obtain ⟨a, b, c, m⟩ := ih
      refine ⟨by lia, by lia, fun _ => ?_, fun t ht => ?_⟩
      · by_cases hp : 0 < ls as bs alo blo i j
        · have := c hp; lia
        · lia
      · have e1 : i + 1 - (ls as bs alo blo i j + 1) = i - ls as bs alo blo i j := by lia
        have e2 : j + 1 - (ls as bs alo blo i j + 1) = j - ls as bs alo blo i j := by lia
        rw [e1, e2]
        by_cases ht' : t < ls as bs alo blo i j
        · exact m t ht'
        · have : t = ls as bs alo blo i j := by lia
          subst this
          rw [show i - ls as bs alo blo i j + ls as bs alo blo i j = i by lia, show j - ls as bs alo blo i j + ls as bs alo blo i j = j by lia]
          exact ⟨as[i], List.getElem?_eq_getElem h3, h4 ▸ List.getElem?_eq_getElem h3⟩
    · exact ⟨Nat.zero_le _, Nat.zero_le _, fun h => absurd h (by lia), fun t ht => absurd ht (by lia)⟩
theorem mt_ls {i j : Nat} (h1 : alo ≤ i) (h2 : blo ≤ j) : ∀ {k : Nat}, Mt as bs i j k → k ≤ ls as bs alo blo (i + k) (j + k)
  | 0, _ => Nat.zero_le _
  | k + 1, m => by
    obtain ⟨x, ha, hb⟩ := m k (by lia)
    have := mt_ls h1 h2 (k := k) fun t ht => m t (by lia)
    rw [show i + (k + 1) = i + k + 1 by lia, show j + (k + 1) = j + k + 1 by lia, ls_pos (by lia) (by lia) ha hb]
    lia
/-- the longest, the first of them -/
structure Best (as bs : List Int) (alo ahi blo bhi i j k : Nat) : Prop where
  lo1 : alo ≤ i
  lo2 : blo ≤ j
  hi1 : i + k ≤ ahi
  hi2 : j + k ≤ bhi
  mt : Mt as bs i j k
  zero : k = 0 → i = alo ∧ j = blo
  most : ∀ i' j' k', alo ≤ i' → blo ≤ j' → i' + k' ≤ ahi → j' + k' ≤ bhi → Mt as bs i' j' k' → k' ≤ k ∧ (k' = k → 0 < k → i < i' ∨ (i = i' ∧ j ≤ j'))
/-- the best up to here -/
structure Bst (as bs : List Int) (alo ahi blo bhi : Nat) (D : Nat → Nat → Prop) (i j k : Nat) : Prop where
  lo1 : alo ≤ i
  lo2 : blo ≤ j
  hi1 : i + k ≤ ahi
  hi2 : j + k ≤ bhi
  mt : Mt as bs i j k
  zero : k = 0 → i = alo ∧ j = blo
  seen : 0 < k → D (i + k) (j + k)
  top : ∀ i' j', D i' j' → ls as bs alo blo i' j' ≤ k ∧ (ls as bs alo blo i' j' = k → 0 < k → i + k < i' ∨ (i + k = i' ∧ j + k ≤ j'))
def Dn (bhi I : Nat) : Nat → Nat → Prop := fun i j => i ≤ I ∧ j ≤ bhi
def Dq (bhi i : Nat) (ps : List Int) (q : Nat) : Nat → Nat → Prop := fun i' j' => j' ≤ bhi ∧ (i' ≤ i ∨ (i' = i + 1 ∧ ∃ p z, p < q ∧ ps[p]? = some z ∧ z + 1 = (j' : Int)))
theorem Bst.start (h1 : alo ≤ ahi) (h2 : blo ≤ bhi) : Bst as bs alo ahi blo bhi (Dn bhi alo) alo blo 0 :=
  ⟨Nat.le_refl _, Nat.le_refl _, h1, h2, fun t ht => absurd ht (by lia), fun _ => ⟨rfl, rfl⟩, fun h => absurd h (by lia), fun i' j' hd => ⟨by rw [ls_alo hd.1]; lia, fun _ h => absurd h (by lia)⟩⟩
theorem Bst.sub {D D' : Nat → Nat → Prop} {i j k : Nat} (h : Bst as bs alo ahi blo bhi D i j k) (h1 : ∀ a b, D a b → D' a b) (h2 : ∀ a b, D' a b → D a b ∨ ls as bs alo blo a b = 0) : Bst as bs alo ahi blo bhi D' i j k :=
  ⟨h.lo1, h.lo2, h.hi1, h.hi2, h.mt, h.zero, fun z => h1 _ _ (h.seen z), fun a b hd => by
    rcases h2 a b hd with q | q
    · exact h.top a b q
    · rw [q]; exact ⟨Nat.zero_le _, fun e => by lia⟩⟩
theorem Bst.row0 {i a b k : Nat} {ps : List Int} (h : Bst as bs alo ahi blo bhi (Dn bhi i) a b k) : Bst as bs alo ahi blo bhi (Dq bhi i ps 0) a b k :=
  h.sub (fun _ _ d => ⟨d.2, .inl d.1⟩) fun _ _ d => by
    rcases d with ⟨d1, d2 | ⟨_, p, z, hp, _⟩⟩
    · exact .inl ⟨d2, d1⟩
    · lia
/-- ps: the places of x, in order -/
structure Pl (bs : List Int) (x : Int) (ps : List Int) : Prop where
  mem : ∀ z, z ∈ ps ↔ ∃ n : Nat, z = n ∧ bs[n]? = some x
  asc : ps.Pairwise (· < ·)
theorem pl_places (bs : List Int) (x : Int) : Pl bs x (placesTo bs x bs.length) := by
  refine ⟨fun z => ?_, ?_⟩
  · unfold placesTo
    simp only [List.mem_map, List.mem_filter, List.mem_range, beq_iff_eq]
    constructor
    · rintro ⟨n, ⟨_, h⟩, rfl⟩; exact ⟨n, rfl, h⟩
    · rintro ⟨n, rfl, h⟩; exact ⟨n, ⟨(List.getElem?_eq_some_iff.mp h).1, h⟩, rfl⟩
  · unfold placesTo
    rw [List.pairwise_map]
    exact (List.Pairwise.filter _ List.pairwise_lt_range).imp fun h => Int.ofNat_lt.mpr h
theorem Pl.lt {x : Int} {ps : List Int} (h : Pl bs x ps) {p q : Nat} {z y : Int} (hp : ps[p]? = some z) (hq : ps[q]? = some y) (hlt : p < q) : z < y := by
  obtain ⟨h1, rfl⟩ := List.getElem?_eq_some_iff.mp hp
  obtain ⟨h2, rfl⟩ := List.getElem?_eq_some_iff.mp hq
  exact List.pairwise_iff_getElem.mp h.asc p q h1 h2 hlt
theorem Pl.get {x : Int} {ps : List Int} (h : Pl bs x ps) {p : Nat} {z : Int} (hp : ps[p]? = some z) : ∃ n : Nat, z = n ∧ bs[n]? = some x := (h.mem z).mp (List.mem_of_getElem? hp)
/-- one place of the row that counts -/
theorem Bst.step {i a b k q n : Nat} {x : Int} {ps : List Int} (P : Pl bs x ps) (h : Bst as bs alo ahi blo bhi (Dq bhi i ps q) a b k) (ha : as[i]? = some x) (hi : alo ≤ i) (hi2 : i < ahi) (hq : ps[q]? = some (n : Int)) (hn1 : blo ≤ n) (hn2 : n < bhi) :
    let v := ls as bs alo blo i n + 1
    (k < v → Bst as bs alo ahi blo bhi (Dq bhi i ps (q + 1)) (i + 1 - v) (n + 1 - v) v) ∧ (v ≤ k → Bst as bs alo ahi blo bhi (Dq bhi i ps (q + 1)) a b k) := by
  intro v
  obtain ⟨n', e, hb⟩ := P.get hq
  have e : n' = n := by lia
  subst e
  have hv : ls as bs alo blo (i + 1) (n' + 1) = v := ls_pos hi hn1 ha hb
  have hD : ∀ i' j', Dq bhi i ps (q + 1) i' j' → Dq bhi i ps q i' j' ∨ (i' = i + 1 ∧ j' = n' + 1) := by
    rintro i' j' ⟨d1, d2 | ⟨rfl, p, z, hp, hz, e⟩⟩
    · exact .inl ⟨d1, .inl d2⟩
    · by_cases hpq : p < q
      · exact .inl ⟨d1, .inr ⟨rfl, p, z, hpq, hz, e⟩⟩
      · have : p = q := by lia
        subst this
        rw [hq] at hz
        injection hz with hz
        exact .inr ⟨rfl, by lia⟩
  have hself : Dq bhi i ps (q + 1) (i + 1) (n' + 1) := ⟨by lia, .inr ⟨rfl, q, n', by lia, hq, by push_cast; rfl⟩⟩
  have hup : ∀ i' j', Dq bhi i ps q i' j' → Dq bhi i ps (q + 1) i' j' := by
    rintro i' j' ⟨d1, d2 | ⟨rfl, p, z, hp, hz, e⟩⟩
    · exact ⟨d1, .inl d2⟩
    · exact ⟨d1, .inr ⟨rfl, p, z, by lia, hz, e⟩⟩
  have hbef : ∀ i' j', Dq bhi i ps q i' j' → i' < i + 1 ∨ (i' = i + 1 ∧ j' < n' + 1) := by
    rintro i' j' ⟨d1, d2 | ⟨rfl, p, z, hp, hz, e⟩⟩
    · exact .inl (by lia)
    · have := P.lt hz hq hp; exact .inr ⟨rfl, by lia⟩
  have sp := ls_spec (as := as) (bs := bs) (alo := alo) (blo := blo) (i + 1) (n' + 1)
  rw [hv] at sp
  obtain ⟨s1, s2, s3, s4⟩ := sp
  have s3 := s3 (by lia)
  refine ⟨fun hk => ⟨by lia, by lia, by lia, by lia, s4, fun z => by lia, fun _ => ?_, fun i' j' hd => ?_⟩, fun hk => ⟨h.lo1, h.lo2, h.hi1, h.hi2, h.mt, h.zero, fun z => hup _ _ (h.seen z), fun i' j' hd => ?_⟩⟩
  · rw [show i + 1 - v + v = i + 1 by lia, show n' + 1 - v + v = n' + 1 by lia]; exact hself
  · rcases hD i' j' hd with q1 | ⟨rfl, rfl⟩
    · have := (h.top i' j' q1).1; exact ⟨by lia, fun e => by lia⟩
    · exact ⟨by lia, fun _ _ => .inr ⟨by lia, by lia⟩⟩
  · rcases hD i' j' hd with q1 | ⟨rfl, rfl⟩
    · exact h.top i' j' q1
    · refine ⟨by lia, fun e hp => ?_⟩
      rcases hbef _ _ (h.seen hp) with z | ⟨z1, z2⟩
      · exact .inl z
      · exact .inr ⟨z1, by lia⟩
/-- a place below the bounds -/
theorem Bst.skip {i a b k q n : Nat} {ps : List Int} (h : Bst as bs alo ahi blo bhi (Dq bhi i ps q) a b k) (hq : ps[q]? = some (n : Int)) (hn1 : n < blo) : Bst as bs alo ahi blo bhi (Dq bhi i ps (q + 1)) a b k := by
  refine h.sub ?_ ?_
  · rintro i' j' ⟨d1, d2 | ⟨rfl, p, z, hp, hz, e⟩⟩
    · exact ⟨d1, .inl d2⟩
    · exact ⟨d1, .inr ⟨rfl, p, z, by lia, hz, e⟩⟩
  · rintro i' j' ⟨d1, d2 | ⟨rfl, p, z, hp, hz, e⟩⟩
    · exact .inl ⟨d1, .inl d2⟩
    · by_cases hpq : p < q
      · exact .inl ⟨d1, .inr ⟨rfl, p, z, hpq, hz, e⟩⟩
      · have : p = q := by lia
        subst this
        rw [hq] at hz
        injection hz with hz
        have : j' = n + 1 := by lia
        subst this
        exact .inr (ls_low hn1)
theorem Bst.rowEnd {i a b k q : Nat} {x : Int} {ps : List Int} (P : Pl bs x ps) (h : Bst as bs alo ahi blo bhi (Dq bhi i ps q) a b k) (ha : as[i]? = some x) (hall : ∀ p z, ps[p]? = some z → z < (bhi : Int) → p < q) : Bst as bs alo ahi blo bhi (Dn bhi (i + 1)) a b k := by
  refine h.sub ?_ ?_
  · rintro i' j' ⟨d1, d2 | ⟨rfl, p, z, hp, hz, e⟩⟩
    · exact ⟨by lia, d1⟩
    · exact ⟨by lia, d1⟩
  · rintro i' j' ⟨d1, d2⟩
    by_cases hi : i' ≤ i
    · exact .inl ⟨d2, .inl hi⟩
    · have : i' = i + 1 := by lia
      subst this
      cases j' with
      | zero => exact .inr rfl
      | succ n =>
        by_cases hb : bs[n]? = some x
        · obtain ⟨p, hp⟩ := List.getElem?_of_mem ((P.mem n).mpr ⟨n, rfl, hb⟩)
          exact .inl ⟨d2, .inr ⟨rfl, p, n, hall p n hp (by lia), hp, by push_cast; rfl⟩⟩
        · exact .inr (ls_ne ha hb)
theorem Bst.best {i j k : Nat} (h : Bst as bs alo ahi blo bhi (Dn bhi ahi) i j k) : Best as bs alo ahi blo bhi i j k :=
  ⟨h.lo1, h.lo2, h.hi1, h.hi2, h.mt, h.zero, fun i' j' k' a b c d m => by
    have h1 := mt_ls a b m
    have ⟨h2, h3⟩ := h.top (i' + k') (j' + k') ⟨c, d⟩
    refine ⟨by lia, fun e hp => ?_⟩
    subst e
    rcases h3 (by lia) hp with z | ⟨z1, z2⟩
    · exact .inl (by lia)
    · exact .inr ⟨by lia, by lia⟩⟩
/-! what the dicts hold -/
def MapOk (as bs : List Int) (alo blo bhi I : Nat) (f : Int → Option Value) : Prop :=
  (∀ n : Nat, n < bhi → (f n = none ∧ ls as bs alo blo I (n + 1) = 0) ∨ ∃ t, f n = some (.int (ls as bs alo blo I (n + 1)) t)) ∧ f (-1) = none
theorem MapOk.start : MapOk as bs alo blo bhi alo (fun _ => none) := ⟨fun n _ => .inl ⟨rfl, ls_alo (Nat.le_refl _)⟩, rfl⟩
theorem MapOk.get {I n : Nat} {f : Int → Option Value} {t : Tok} (h : MapOk as bs alo blo bhi I f) (hn : n < bhi) : ∃ t', (f ((n : Int) - 1)).getD (.int 0 t) = .int (ls as bs alo blo I n) t' := by
  cases n with
  | zero => exact ⟨t, by rw [show ((0 : Nat) : Int) - 1 = -1 by rfl, h.2, ls_zero]; rfl⟩
  | succ n =>
    rw [show ((n + 1 : Nat) : Int) - 1 = (n : Int) by push_cast; lia]
    rcases h.1 n (by lia) with ⟨h1, h2⟩ | ⟨t', h1⟩
    · exact ⟨t, by rw [h1, h2]; rfl⟩
    · exact ⟨t', by rw [h1]; rfl⟩
def NewOk (as bs : List Int) (alo blo i : Nat) (ps : List Int) (q : Nat) (g : Int → Option Value) : Prop :=
  (∀ p z, p < q → ps[p]? = some z → (blo : Int) ≤ z → ∃ t, g z = some (.int (ls as bs alo blo (i + 1) (z.toNat + 1)) t)) ∧ (∀ z, (∀ p, p < q → ps[p]? = some z → z < (blo : Int)) → g z = none)
theorem NewOk.start {i : Nat} {ps : List Int} : NewOk as bs alo blo i ps 0 (fun _ => none) := ⟨fun p z h => absurd h (by lia), fun _ _ => rfl⟩
theorem NewOk.skip {i q : Nat} {z : Int} {ps : List Int} {g : Int → Option Value} (h : NewOk as bs alo blo i ps q g) (hq : ps[q]? = some z) (hz : z < (blo : Int)) : NewOk as bs alo blo i ps (q + 1) g := by
  refine ⟨fun p y hp hy hb => ?_, fun y hy => h.2 y fun p hp => hy p (by lia)⟩
  by_cases e : p < q
  · exact h.1 p y e hy hb
  · have : p = q := by lia
    subst this
    rw [hq] at hy; injection hy with hy; lia
theorem NewOk.put {i q n : Nat} {x : Int} {t : Tok} {ps : List Int} {g : Int → Option Value} (P : Pl bs x ps) (h : NewOk as bs alo blo i ps q g) (ha : as[i]? = some x) (hi : alo ≤ i) (hq : ps[q]? = some (n : Int)) (hn : blo ≤ n) :
    NewOk as bs alo blo i ps (q + 1) (fun z => if z = (n : Int) then some (.int (((ls as bs alo blo i n + 1 : Nat) : Int)) t) else g z) := by
  obtain ⟨n', e, hb⟩ := P.get hq
  have e : n' = n := by lia
  subst e
  have hv : ls as bs alo blo (i + 1) (n' + 1) = ls as bs alo blo i n' + 1 := ls_pos hi hn ha hb
  refine ⟨fun p y hp hy hb => ?_, fun y hy => ?_⟩
  · by_cases e : y = n'
    · subst e
      exact ⟨t, by dsimp only; rw [if_pos rfl, Int.toNat_natCast, hv]⟩
    · dsimp only
      rw [if_neg e]
      by_cases e2 : p < q
      · exact h.1 p y e2 hy hb
      · have : p = q := by lia
        subst this
        rw [hq] at hy; injection hy with hy; exact absurd hy.symm e
  · have : ¬ y = n' := fun e => by have := hy q (by lia) (e ▸ hq); lia
    dsimp only
    rw [if_neg this]
    exact h.2 y fun p hp => hy p (by lia)
theorem NewOk.done {i q : Nat} {x : Int} {ps : List Int} {g : Int → Option Value} (P : Pl bs x ps) (h : NewOk as bs alo blo i ps q g) (ha : as[i]? = some x) (hall : ∀ p z, ps[p]? = some z → z < (bhi : Int) → p < q) : MapOk as bs alo blo bhi (i + 1) g := by
  refine ⟨fun n hn => ?_, ?_⟩
  · by_cases hb : bs[n]? = some x
    · obtain ⟨p, hp⟩ := List.getElem?_of_mem ((P.mem n).mpr ⟨n, rfl, hb⟩)
      by_cases hl : blo ≤ n
      · obtain ⟨t, e⟩ := h.1 p n (hall p n hp (by lia)) hp (by lia)
        exact .inr ⟨t, by rw [e, Int.toNat_natCast]⟩
      · refine .inl ⟨h.2 _ fun p' hp' hz => by lia, ls_low (by lia)⟩
    · refine .inl ⟨h.2 _ fun p hp hz => ?_, ls_ne ha hb⟩
      obtain ⟨n', e, hb'⟩ := P.get hz
      have : n' = n := by lia
      subst this
      exact absurd hb' hb
  · refine h.2 _ fun p hp hz => ?_
    obtain ⟨n', e, _⟩ := P.get hz
    lia
end
end
section
open PySem PySem.W PyProof.Rows
set_option Elab.async false
set_option maxRecDepth 100000
section
variable {w : World} {A : Around} {E : Value → Shared → Prop} {s : Shared} {B : PM} {cs : Cs} {h₀ : Heap} {mg : Str → Option Value} {P : Params} {d : Nat → Value} {x dx : Addr} {l : Str → Option Value} {k : Nat} {Q : Value → Shared → Prop}
set_option maxHeartbeats 4000000 in
theorem set_seq1_spec {va : Addr} (R : Rm A 2 100) (G : G0 h₀ mg) (K0 : In0 h₀ B) (KX : (KD P d).In h₀) (X : St B ((dx, IdP l k) :: cs) s.heap) (hx : B x = some (instObj 242 dx)) (hla : l "a" = some .none) (hk : k ≤ 800)
    (hQ : ∀ h' tk, St B ((dx, IdP (upd (upd (upd l "a" (.ref va)) "matching_blocks" .none) "opcodes" .none) (k + 3)) :: cs) h' → Q .none { s with heap := h', toks := tk }) :
    wpAny (model pw w) A (call (.ref 174) [.ref x, .ref va]) Q E s := by
  refine callM (d := 1) (binds := [("self", .ref x), ("a", .ref va)]) R G K0 KX X kl_174 kc_174 (.of_eq (by rfl)) (locs (by rfl)) (fun h₁ L tk Y => ?_) (by rfl) (by rfl) (by rfl) (by decide +kernel)
  refine wpAny_execs_cons ?_
  walk_at "go"
  refine getA KX K0 Y (i := 1) rfl hx kn_a hla rfl ?_
  walk_at "go"
  refine setA KX K0 Y (i := 1) rfl hx kt_a (by lia) fun h₂ tk₂ Z => ?_
  try refine shN s h₂ fun tkn1 => ?_
  replace Z : St B ((L, NsP _) :: (dx, _) :: cs) h₂ := Z
  walk_at "go"
  refine setA KX K0 Z (i := 1) rfl hx kt_matching_blocks (by lia) fun h₃ tk₃ Z₃ => ?_
  try refine shN s h₃ fun tkn2 => ?_
  replace Z₃ : St B ((L, NsP _) :: (dx, _) :: cs) h₃ := Z₃
  walk_at "go"
  refine setA KX K0 Z₃ (i := 1) rfl hx kt_opcodes (by lia) fun h₄ tk₄ Z₄ => ?_
  try refine shN s h₄ fun tkn3 => ?_
  replace Z₄ : St B ((L, NsP _) :: (dx, _) :: cs) h₄ := Z₄
  walk_at "go"
  exact hQ _ _ Z₄.drop
  trace_state
  done
end
end
section
open PySem PySem.W PyProof.Rows
set_option Elab.async false
set_option maxRecDepth 100000
section
variable {w : World} {A : Around} {E : Value → Shared → Prop} {s : Shared} {B : PM} {cs : Cs} {h₀ : Heap} {mg : Str → Option Value} {P : Params} {d : Nat → Value} {x dx : Addr} {l : Str → Option Value} {k : Nat} {Q : Value → Shared → Prop}
theorem St.weakAt {B : PM} {cs : Cs} {h : Heap} {i : Nat} {a : Addr} {P P' : Obj → Prop} (X : St B cs h) (hi : cs[i]? = some (a, P)) (k : ∀ o, P o → P' o) : St B (cs.set i (a, P')) h :=
  X.upd hi ⟨rfl, fun _ _ => rfl⟩ (let ⟨o, e, p⟩ := X.at_ hi; ⟨o, e, k o p⟩)
theorem MapP.mono {f : Int → Option Value} {n m : Nat} (h : n ≤ m) (o : Obj) (k : MapP f n o) : MapP f m o := let ⟨a, es, ep, b, c, d, e⟩ := k; ⟨a, es, ep, b, c, d, Nat.le_trans e h⟩
theorem notSys {h : Heap} (KI : (KD P d).In h) : (h.objs.size == sysModules) = false := by
  have : 242 < h.objs.size := Heap.lt_size (KI 242 _ (by rfl))
  have h2 : sysModules ≤ 242 := by decide
  exact beq_eq_false_iff_ne.mpr fun e => absurd (e ▸ this) (Nat.not_lt.mpr h2)
theorem dict_meth {B : PM} {cs : Cs} {s : Shared} {i n : Nat} {dj : Addr} {f : Int → Option Value} {P : Prop} (X : St B cs s.heap) (hi : cs[i]? = some (dj, MapP f n)) (h : P) : s.TypeIs (.ref dj) "dict" ∧ (∀ a, Value.ref dj = .ref a → ∃ ob, s.heap.get? a = some ob ∧ ob.dict = none) ∧ P := by
  obtain ⟨o, ho, hc, hd, -⟩ := mapType X hi
  exact ⟨⟨o, ho, hc⟩, fun a e => by cases e; exact ⟨o, ho, hd⟩, h⟩
def B2J (B : PM) (dj : Addr) (xs : List Int) : Prop := (dj == sysModules) = false ∧ ∃ od f n, B dj = some od ∧ MapP f n od ∧ ∀ k, (f k = none ∧ placesTo xs k xs.length = []) ∨ ∃ a ps nn, f k = some (.ref a) ∧ B a = some { cls := .type "list", data := .seq ps.toArray nn } ∧ IsInts ps (placesTo xs k xs.length)
set_option maxHeartbeats 8000000 in
theorem chain_spec {lb : Addr} {vs : List Value} {xs : List Int} {nb : Nat} (R : Rm A 2 100) (G : G0 h₀ mg) (Bn : Bi mg) (K0 : In0 h₀ B) (KX : (KD P d).In h₀) (X : St B ((dx, IdP l k) :: cs) s.heap) (hx : B x = some (instObj 242 dx))
    (hlb : l "b" = some (.ref lb)) (hlj : l "isjunk" = some .none) (hlt : l "autojunk" = some (.bool false)) (hk : k ≤ 700)
    (hb : B lb = some { cls := .type "list", data := .seq vs.toArray nb }) (hv : IsInts vs xs) (hsz : xs.length ≤ 100)
    (hQ : ∀ B' dj sj sp osj h' tk, Le B B' → B2J B' dj xs → B' sj = some osj → SetP osj → St B' ((dx, IdP (upd (upd (upd l "b2j" (.ref dj)) "bjunk" (.ref sj)) "bpopular" (.ref sp)) (k + 3)) :: cs) h' → Q .none { s with heap := h', toks := tk }) :
    wpAny (model pw w) A (call (.ref 188) [.ref x]) Q E s := by
  refine callM (d := 1) (binds := [("self", .ref x)]) R G K0 KX X kl_188 kc_188 (.of_eq (by rfl)) (locs (by rfl)) (fun h₁ L tk Y => ?_) (by rfl) (by rfl) (by rfl) (by decide +kernel)
  refine wpAny_execs_cons ?_
  walk_at "go"
  refine getA KX K0 Y (i := 1) rfl hx kn_b hlb rfl ?_
  walk_at "go"
  refine wpAny_Dict_empty ?_
  rename_i h₂ Y₂
  have Y₃ := (Y₂.new (P := MapP (fun _ => none) 0) _ rfl MapP.new).swap
  walk_at "go"
  refine setA KX K0 Y₃ (i := 2) rfl hx kt_b2j (by lia) fun h₄ tk₄ Z => ?_
  try refine shN s h₄ fun tkn1 => ?_
  replace Z : St B ((L, NsP _) :: (h₂.objs.size, MapP (fun _ => none) 0) :: (dx, _) :: cs) h₄ := Z
  refine wpAny_assign_Name ?_
  walk_at "go"
  try dsimp only
  rename_i h₅ Y₅
  refine wpAny_For ?_
  refine callT G K0 Y₅ Bn.enumerate boot_enumerate ?_
  walk_at "go"
  try dsimp only
  refine forE (vs := vs) R.handled hb (fun i B' m' cs' => B' = B ∧ ∃ ch, cs' = (h₂.objs.size, MapP (chFn ch) i) :: (dx, IdP (upd l "b2j" (.ref h₂.objs.size)) (k + 1)) :: (chCells ch ++ cs) ∧ ChOk ch xs i ∧ m' "self" = some (.ref x) ∧ m' "b" = some (.ref lb) ∧ m' "b2j" = some (.ref h₂.objs.size)) Y₅ ⟨rfl, [], rfl, ChOk.nil xs, by walk_at "lk", by walk_at "lk", by walk_at "lk"⟩ ?turn ?done
  case turn =>
    rintro i v B' m' cs' e it T t h' tk' hv' le ⟨rfl, ch, rfl, hch, m1, m2, m3⟩ Z
    obtain ⟨xv, tv, hxv, rfl⟩ := hv.getV hv'
    obtain ⟨oT, hT, rfl⟩ := Z.at_ (i := 1) (a := T) rfl
    refine unpackT R.handled Z ⟨_, hT, rfl, _, rfl⟩ (by rfl) (by rfl) fun h₂' Z₂ => ?_
    refine PyProof.Rows.assignInOrder_cons (wpAny_assign_Name ?_)
    walk_at "go"
    refine PyProof.Rows.assignInOrder_cons (wpAny_assign_Name ?_)
    walk_at "go"
    refine PyProof.Rows.assignInOrder_nil ?_
    rename_i _ _ h₃' Z₃
    replace Z₃ := Z₃.swap.drop
    walk_at "go"
    refine wpAny_Call_method (by rfl) (by rfl) (by rfl) PySem.F.plainAttrs_dict PySem.F.slot_dict_setdefault PySem.F.type_dict_setdefault ?_
    walk_at "go"
    refine dict_meth Z₃ (i := 3) rfl ?_
    refine cwB ?_
    walk_at "go"
    refine wpAny_List ?_
    walk_at "go"
    refine ⟨Nat.zero_le _, ?_⟩
    walk_at "go"
    try dsimp only
    have Z₄ := (Z₃.new (P := LstP []) { cls := .type "list", data := .seq (List.toArray []) } rfl ⟨0, rfl⟩).swap
    refine dsetDef (v := .ref h₃'.objs.size) Z₄ (i := 4) rfl (by have := (List.getElem?_eq_some_iff.mp hxv).1; lia) (notSys (Kin KX K0 Y₂)) ?old ?new
    case old =>
      intro u hu
      obtain ⟨p, hp, rfl⟩ := Option.map_eq_some_iff.mp hu
      obtain ⟨hpk, as, bs, rfl, has⟩ := List.find?_eq_some_iff_append.mp hp
      have hpk : p.1 = xv := by simpa using hpk
      subst hpk
      have Z₅ := Z₄.swap.drop
      walk_at "go"
      rename_i h₆' Z₆
      have Z₇ : St B' ((L, NsP _) :: (p.2.1, LstP p.2.2) :: (e, EnP it ((i : Int) + 1)) :: (it, LiP lb (i + 1)) :: (h₂.objs.size, MapP (chFn (as ++ p :: bs)) i) :: (dx, IdP (upd l "b2j" (.ref h₂.objs.size)) (k + 1)) :: (chCells as ++ (chCells bs ++ cs))) h₆' :=
        Z₆.perm (.cons _ (by
          simp only [chCells, List.map_append, List.map_cons, List.append_assoc, List.cons_append]
          exact (List.perm_middle (l₁ := [_, _, _, _] ++ _))))
      clear Z₆
      refine wpAny_Call_method (by rfl) (by rfl) (by rfl) PySem.F.plainAttrs_list PySem.F.slot_list_append PySem.F.type_list_append ?_
      walk_at "go"
      refine lst_meth (Z₇.lst (i := 1) rfl) ?_
      refine cwB ?_
      walk_at "go"
      have hilt := (List.getElem?_eq_some_iff.mp hxv).1
      refine appL Z₇ (i := 1) rfl (by have := hch.ln p (by simp); lia) fun h₇' Z₈ => ?_
      replace Z₈ : St B' ((L, NsP _) :: (p.2.1, LstP (p.2.2 ++ [.int i t])) :: (e, EnP it ((i : Int) + 1)) :: (it, LiP lb (i + 1)) :: (h₂.objs.size, MapP (chFn (as ++ p :: bs)) i) :: (dx, IdP (upd l "b2j" (.ref h₂.objs.size)) (k + 1)) :: (chCells as ++ (chCells bs ++ cs))) h₇' := Z₈
      have ech : chFn (as ++ (p.1, p.2.1, p.2.2 ++ [.int i t]) :: bs) = chFn (as ++ p :: bs) := chFn_mid (p := p) has rfl rfl
      have Z₉ : St B' ((L, NsP _) :: (p.2.1, LstP (p.2.2 ++ [.int i t])) :: (e, EnP it ((i : Int) + 1)) :: (it, LiP lb (i + 1)) :: (h₂.objs.size, MapP (chFn (as ++ (p.1, p.2.1, p.2.2 ++ [.int i t]) :: bs)) (i + 1)) :: (dx, IdP (upd l "b2j" (.ref h₂.objs.size)) (k + 1)) :: (chCells as ++ (chCells bs ++ cs))) h₇' :=
        Z₈.weakAt (i := 4) rfl (fun o ho => by rw [ech]; exact MapP.mono (by lia) o ho)
      have hbs : ∀ a ∈ bs, (!(a.1 == p.1)) = true := by
        have nd := hch.nd
        rw [List.map_append, List.nodup_append, List.map_cons, List.nodup_cons] at nd
        intro a ha
        have := nd.2.1.1
        simp only [Bool.not_eq_true', beq_eq_false_iff_ne]
        exact fun q => this (List.mem_map.mpr ⟨a, ha, q⟩)
      try dsimp only
      refine wpAny_execs_nil ?_
      have ZZ : St B' ((L, NsP _) :: (e, EnP it ((i : Int) + 1)) :: (it, LiP lb (i + 1)) :: (h₂.objs.size, MapP (chFn (as ++ (p.1, p.2.1, p.2.2 ++ [.int i t]) :: bs)) (i + 1)) :: (dx, IdP (upd l "b2j" (.ref h₂.objs.size)) (k + 1)) :: (chCells (as ++ (p.1, p.2.1, p.2.2 ++ [.int i t]) :: bs) ++ cs)) h₇' :=
        Z₉.perm (.cons _ (List.Perm.symm (by
          simp only [chCells, List.map_append, List.map_cons, List.append_assoc, List.cons_append]
          exact (List.perm_middle (l₁ := [_, _, _, _] ++ _)))))
      refine ⟨B', _, _, h₇', _, rfl, Le.refl _, ⟨rfl, _, rfl, hch.old has hbs hxv, ?_, ?_, ?_⟩, ZZ⟩ <;> walk_at "lk"
    case new =>
      intro hn h₅' Z₅
      have hnf : ch.find? (·.1 == xv) = none := by
        unfold chFn at hn
        cases q : ch.find? (·.1 == xv) with
        | none => rfl
        | some p => rw [q] at hn; cases hn
      replace Z₅ : St B' ((L, NsP _) :: (h₃'.objs.size, LstP []) :: (e, EnP it ((i : Int) + 1)) :: (it, LiP lb (i + 1)) :: (h₂.objs.size, MapP (chFn (ch ++ [(xv, h₃'.objs.size, [.int i t])])) (i + 1)) :: (dx, IdP (upd l "b2j" (.ref h₂.objs.size)) (k + 1)) :: (chCells ch ++ cs)) h₅' := (chFn_new (p := (xv, h₃'.objs.size, [.int i t])) hnf).symm ▸ Z₅
      walk_at "go"
      rename_i h₆' Z₆
      refine wpAny_Call_method (by rfl) (by rfl) (by rfl) PySem.F.plainAttrs_list PySem.F.slot_list_append PySem.F.type_list_append ?_
      walk_at "go"
      refine lst_meth (Z₆.lst (i := 1) rfl) ?_
      refine cwB ?_
      walk_at "go"
      refine appL Z₆ (i := 1) rfl (by simp) fun h₇' Z₈ => ?_
      replace Z₈ : St B' ((L, NsP _) :: (h₃'.objs.size, LstP [.int i t]) :: (e, EnP it ((i : Int) + 1)) :: (it, LiP lb (i + 1)) :: (h₂.objs.size, MapP (chFn (ch ++ [(xv, h₃'.objs.size, [.int i t])])) (i + 1)) :: (dx, IdP (upd l "b2j" (.ref h₂.objs.size)) (k + 1)) :: (chCells ch ++ cs)) h₇' := Z₈
      try dsimp only
      refine wpAny_execs_nil ?_
      have ZZ : St B' ((L, NsP _) :: (e, EnP it ((i : Int) + 1)) :: (it, LiP lb (i + 1)) :: (h₂.objs.size, MapP (chFn (ch ++ [(xv, h₃'.objs.size, [.int i t])])) (i + 1)) :: (dx, IdP (upd l "b2j" (.ref h₂.objs.size)) (k + 1)) :: (chCells (ch ++ [(xv, h₃'.objs.size, [.int i t])]) ++ cs)) h₇' :=
        Z₈.perm (.cons _ (List.Perm.symm (by
          simp only [chCells, List.map_append, List.map_cons, List.map_nil, List.append_assoc, List.cons_append, List.nil_append]
          exact (List.perm_middle (l₁ := [_, _, _, _] ++ _)))))
      refine ⟨B', _, _, h₇', _, rfl, Le.refl _, ⟨rfl, _, rfl, hch.new hnf hxv, ?_, ?_, ?_⟩, ZZ⟩ <;> walk_at "lk"
  case done =>
    rintro B' m' cs' h' tk' le ⟨rfl, ch, rfl, hch, m1, m2, m3⟩ Z
    try dsimp only
    walk_at "go"
    refine callT0 G K0 Z Bn.set boot_set (newSet Z fun h₆ Z₆ => ?_)
    replace Z₆ := Z₆.swap
    walk_at "go"
    refine setA KX K0 Z₆ (i := 3) rfl hx kt_bjunk (by lia) fun h₇ tk₇ Z₇ => ?_
    try refine shN s h₇ fun tkn2 => ?_
    replace Z₇ : St B' ((L, NsP m') :: (h'.objs.size, SetP) :: (h₂.objs.size, MapP (chFn ch) vs.length) :: (dx, _) :: (chCells ch ++ cs)) h₇ := Z₇
    refine wpAny_assign_Name ?_
    walk_at "go"
    rename_i h₈ Z₈
    refine getA KX K0 Z₈ (i := 3) rfl hx kn_isjunk (by walk_at "lk") rfl ?_
    walk_at "go"
    refine wpAny_isTrue_value ?_
    walk_at "go"
    refine PyProof.Rows.truthy_none ?_
    walk_at "go"
    rename_i h₉ Z₉
    refine callT0 G K0 Z₉ Bn.set boot_set (newSet Z₉ fun h₁₀ Z₁₀ => ?_)
    replace Z₁₀ := Z₁₀.swap
    walk_at "go"
    refine setA KX K0 Z₁₀ (i := 4) rfl hx kt_bpopular (by lia) fun h₁₁ tk₁₁ Z₁₁ => ?_
    try refine shN s h₁₁ fun tkn3 => ?_
    replace Z₁₁ : St B' ((L, NsP _) :: (_, SetP) :: (h'.objs.size, SetP) :: (h₂.objs.size, MapP (chFn ch) vs.length) :: (dx, _) :: (chCells ch ++ cs)) h₁₁ := Z₁₁
    refine wpAny_assign_Name ?_
    walk_at "go"
    rename_i h₁₂ Z₁₂
    refine callB G K0 Z₁₂ Bn.len boot_len ?_
    walk_at "go"
    refine lenL (vs := vs) ⟨_, Z₁₂.sub _ _ hb, rfl, nb, rfl⟩ (by rw [hv.length]; lia) fun tl tkl => ?_
    walk_at "go"
    rename_i h₁₃ Z₁₃
    refine wpAny_isTrue_value ?_
    walk_at "go"
    refine getA KX K0 Z₁₃ (i := 4) rfl hx kn_autojunk (by walk_at "lk") rfl ?_
    walk_at "go"
    have W := Z₁₃.drop.drop
    obtain ⟨B₂, le₂, W₂, fr⟩ := St.freezeAll ((h'.objs.size, SetP) :: (h₂.objs.size, MapP (chFn ch) vs.length) :: chCells ch) (cs := (dx, _) :: cs) (W.perm (.cons _ (.cons _ List.perm_middle.symm)))
    obtain ⟨osj, hsj, psj⟩ := fr (h'.objs.size, SetP) (by simp)
    obtain ⟨od, hdj, pdj⟩ := fr (h₂.objs.size, MapP (chFn ch) vs.length) (by simp)
    refine hQ B₂ h₂.objs.size h'.objs.size _ osj h₁₃ _ le₂ ⟨notSys (Kin KX K0 Y₂), od, chFn ch, _, hdj, pdj, fun q => ?_⟩ hsj psj W₂
    have hln := hv.length
    cases e : ch.find? (·.1 == q) with
    | none =>
      refine .inl ⟨by unfold chFn; rw [e]; rfl, ?_⟩
      rw [← hln]; exact hch.no q e
    | some p =>
      have hp := List.mem_of_find?_eq_some e
      have hq : p.1 = q := by simpa using List.find?_some e
      obtain ⟨o, h1, nn, h2⟩ := fr (p.2.1, LstP p.2.2) (by
        refine List.mem_cons_of_mem _ (List.mem_cons_of_mem _ ?_)
        exact List.mem_map.mpr ⟨p, hp, rfl⟩)
      refine .inr ⟨p.2.1, p.2.2, nn, by unfold chFn; rw [e]; rfl, by rw [h1, h2], ?_⟩
      rw [← hln, ← hq]; exact hch.pl p hp
end
end
section
open PySem PySem.W PyProof.Rows
set_option Elab.async false
set_option maxRecDepth 100000
section
variable {w : World} {A : Around} {E : Value → Shared → Prop} {s : Shared} {B : PM} {cs : Cs} {h₀ : Heap} {mg : Str → Option Value} {P : Params} {d : Nat → Value} {x dx : Addr} {l : Str → Option Value} {k : Nat} {Q : Value → Shared → Prop}
theorem upd_no {m : Str → Option Value} {x y : Str} {v : Value} (h : y ≠ x) (e : m y = none) : upd m x v y = none := (if_neg h).trans e
set_option maxHeartbeats 8000000 in
theorem set_seq2_spec {lb : Addr} {vs : List Value} {xs : List Int} {nb : Nat} (R : Rm A 4 110) (G : G0 h₀ mg) (Bn : Bi mg) (K0 : In0 h₀ B) (KX : (KD P d).In h₀) (X : St B ((dx, IdP l k) :: cs) s.heap) (hx : B x = some (instObj 242 dx))
    (hlb : l "b" = some .none) (hlj : l "isjunk" = some .none) (hlt : l "autojunk" = some (.bool false)) (hlc : l "_SequenceMatcher__chain_b" = none) (hk : k ≤ 600)
    (hb : B lb = some { cls := .type "list", data := .seq vs.toArray nb }) (hv : IsInts vs xs) (hsz : xs.length ≤ 100)
    (hQ : ∀ B' dj sj sp osj h' tk, Le B B' → B2J B' dj xs → B' sj = some osj → SetP osj → St B' ((dx, IdP (upd (upd (upd (upd (upd (upd (upd l "b" (.ref lb)) "matching_blocks" .none) "opcodes" .none) "fullbcount" .none) "b2j" (.ref dj)) "bjunk" (.ref sj)) "bpopular" (.ref sp)) (k + 7)) :: cs) h' → Q .none { s with heap := h', toks := tk }) :
    wpAny (model pw w) A (call (.ref 181) [.ref x, .ref lb]) Q E s := by
  refine callM (d := 3) (binds := [("self", .ref x), ("b", .ref lb)]) R G K0 KX X kl_181 kc_181 (.of_eq (by rfl)) (locs (by rfl)) (fun h₁ L tk Y => ?_) (by rfl) (by rfl) (by rfl) (by decide +kernel)
  refine wpAny_execs_cons ?_
  walk_at "go"
  refine getA KX K0 Y (i := 1) rfl hx kn_b hlb rfl ?_
  walk_at "go"
  refine setA KX K0 Y (i := 1) rfl hx kt_b (by lia) fun h₂ tk₂ Z => ?_
  try refine shN s h₂ fun tkn1 => ?_
  replace Z : St B ((L, NsP _) :: (dx, _) :: cs) h₂ := Z
  walk_at "go"
  refine setA KX K0 Z (i := 1) rfl hx kt_matching_blocks (by lia) fun h₃ tk₃ Z₃ => ?_
  try refine shN s h₃ fun tkn2 => ?_
  replace Z₃ : St B ((L, NsP _) :: (dx, _) :: cs) h₃ := Z₃
  walk_at "go"
  refine setA KX K0 Z₃ (i := 1) rfl hx kt_opcodes (by lia) fun h₄ tk₄ Z₄ => ?_
  try refine shN s h₄ fun tkn3 => ?_
  replace Z₄ : St B ((L, NsP _) :: (dx, _) :: cs) h₄ := Z₄
  walk_at "go"
  refine setA KX K0 Z₄ (i := 1) rfl hx kt_fullbcount (by lia) fun h₅ tk₅ Z₅ => ?_
  try refine shN s h₅ fun tkn4 => ?_
  replace Z₅ : St B ((L, NsP _) :: (dx, _) :: cs) h₅ := Z₅
  walk_at "go"
  refine callMeth (by rfl) (by rfl) (by rfl) ?_
  walk_at "go"
  intro pl
  refine methA KX K0 Z₅ (i := 1) rfl hx km_188 kq_188 (upd_no (by decide) (upd_no (by decide) (upd_no (by decide) (upd_no (by decide) hlc)))) ?_
  try dsimp only
  refine cwM0 K0 Z₅ (KX _ _ kl_188) rfl ?_
  refine chain_spec (lb := lb) (vs := vs) (xs := xs) (R.deep (by lia) (by lia)) G Bn K0 KX Z₅.swap hx (by walk_at "lk") (by walk_at "lk") (by walk_at "lk") (by lia) hb hv hsz fun B' dj sj sp osj h' tk' le hB hsj psj W => ?_
  replace W := W.swap
  try dsimp only
  refine wpAny_execs_nil ?_
  exact hQ B' dj sj sp osj h' _ le hB hsj psj W.drop
set_option maxHeartbeats 8000000 in
theorem set_seqs_spec {la lb : Addr} {vs : List Value} {xs : List Int} {nb : Nat} (R : Rm A 6 120) (G : G0 h₀ mg) (Bn : Bi mg) (K0 : In0 h₀ B) (KX : (KD P d).In h₀) (X : St B ((dx, IdP l k) :: cs) s.heap) (hx : B x = some (instObj 242 dx))
    (hla : l "a" = some .none) (hlb : l "b" = some .none) (hlj : l "isjunk" = some .none) (hlt : l "autojunk" = some (.bool false)) (hlc : l "_SequenceMatcher__chain_b" = none) (hl1 : l "set_seq1" = none) (hl2 : l "set_seq2" = none) (hk : k ≤ 500)
    (hb : B lb = some { cls := .type "list", data := .seq vs.toArray nb }) (hv : IsInts vs xs) (hsz : xs.length ≤ 100)
    (hQ : ∀ B' l' k' dj sj osj h' tk, Le B B' → B2J B' dj xs → B' sj = some osj → SetP osj → l' "a" = some (.ref la) → l' "b" = some (.ref lb) → l' "b2j" = some (.ref dj) → l' "bjunk" = some (.ref sj) → (l "find_longest_match" = none → l' "find_longest_match" = none) →
      St B' ((dx, IdP l' k') :: cs) h' → Q .none { s with heap := h', toks := tk }) :
    wpAny (model pw w) A (call (.ref 167) [.ref x, .ref la, .ref lb]) Q E s := by
  refine callM (d := 5) (binds := [("self", .ref x), ("a", .ref la), ("b", .ref lb)]) R G K0 KX X kl_167 kc_167 (.of_eq (by rfl)) (locs (by rfl)) (fun h₁ L tk Y => ?_) (by rfl) (by rfl) (by rfl) (by decide +kernel)
  refine wpAny_execs_cons ?_
  walk_at "go"
  refine callMeth (by rfl) (by rfl) (by rfl) ?_
  walk_at "go"
  intro pl
  refine methA KX K0 Y (i := 1) rfl hx km_174 kq_174 hl1 ?_
  try dsimp only
  refine cwM K0 (KX _ _ kl_174) rfl ?_
  walk_at "go"
  refine ⟨⟨B, _, Le.refl _, Y⟩, ?_⟩
  refine set_seq1_spec (va := la) (R.deep (by lia) (by lia)) G K0 KX Y.swap hx hla (by lia) fun h₂ tk₂ Z => ?_
  try refine shN s h₂ fun tkn5 => ?_
  replace Z := Z.swap
  walk_at "go"
  refine callMeth (by rfl) (by rfl) (by rfl) ?_
  walk_at "go"
  intro pl
  refine methA KX K0 Z (i := 1) rfl hx km_181 kq_181 (upd_no (by decide) (upd_no (by decide) (upd_no (by decide) hl2))) ?_
  try dsimp only
  refine cwM K0 (KX _ _ kl_181) rfl ?_
  walk_at "go"
  refine ⟨⟨B, _, Le.refl _, Z⟩, ?_⟩
  refine set_seq2_spec (lb := lb) (vs := vs) (xs := xs) (R.deep (by lia) (by lia)) G Bn K0 KX Z.swap hx (by walk_at "lk") (by walk_at "lk") (by walk_at "lk") (upd_no (by decide) (upd_no (by decide) (upd_no (by decide) hlc))) (by lia) hb hv hsz fun B' dj sj sp osj h' tk' le hB hsj psj W => ?_
  replace W := W.swap
  try dsimp only
  refine wpAny_execs_nil ?_
  refine hQ B' _ _ dj sj osj h' _ le hB hsj psj ?_ ?_ ?_ ?_ (fun hf => ?_) W.drop
  · walk_at "lk"
  · walk_at "lk"
  · walk_at "lk"
  · walk_at "lk"
  · refine upd_no (by decide) (upd_no (by decide) (upd_no (by decide) (upd_no (by decide) (upd_no (by decide) (upd_no (by decide) (upd_no (by decide) (upd_no (by decide) (upd_no (by decide) (upd_no (by decide) hf)))))))))
/-- a matcher that stands -/
structure SM (B : PM) (x la lb : Addr) (bs : List Int) : Prop where
  h : ∃ dx od l k dj sj osj, B x = some (instObj 242 dx) ∧ B dx = some od ∧ IdP l k od ∧ l "a" = some (.ref la) ∧ l "b" = some (.ref lb) ∧ l "b2j" = some (.ref dj) ∧ l "bjunk" = some (.ref sj) ∧ l "find_longest_match" = none ∧ B2J B dj bs ∧ B sj = some osj ∧ SetP osj
set_option maxHeartbeats 8000000 in
theorem make_spec {la lb : Addr} {vs : List Value} {xs : List Int} {nb : Nat} (R : Rm A 9 140) (G : G0 h₀ mg) (Bn : Bi mg) (K0 : In0 h₀ B) (KX : (KD P d).In h₀) (X : St B cs s.heap)
    (hb : B lb = some { cls := .type "list", data := .seq vs.toArray nb }) (hv : IsInts vs xs) (hsz : xs.length ≤ 100)
    (hQ : ∀ B' x h' tk, Le B B' → SM B' x la lb xs → St B' cs h' → Q (.ref x) { s with heap := h', toks := tk }) :
    wpAny (model pw w) A (call (.ref 242) [.none, .ref la, .ref lb, .bool false]) Q E s := by
  have KI := Kin KX K0 X
  refine wpAny_call ?_
  obtain ⟨hh, g, dr, t, os⟩ := s
  refine make_core (makes_of KI k_makes) (looks_findIn KI km_160) (fun self => bind_fn KI self kf_160) (.inl rfl) ?_
  have X1 := X.new (P := IdP (fun _ => none) 0) emptyDict rfl IdP.empty
  obtain ⟨X2, le⟩ := X1.newB (instObj 242 hh.objs.size) rfl
  rw [Heap.size_push] at X2 le
  have hx : (B.add (hh.objs.size + 1) (instObj 242 hh.objs.size)) (hh.objs.size + 1) = some (instObj 242 hh.objs.size) := PM.add_self
  have hb' := le _ _ hb
  have K1 := K0.le le
  revert X2 hx hb' K1 le
  generalize B.add (hh.objs.size + 1) (instObj 242 hh.objs.size) = B₁
  intro X2 le hx hb' K1
  have R1 : Rm (A.under (.builtin "type.__call__" ⟨[.ref 242, .none, .ref la, .ref lb, .bool false], []⟩)) 8 130 := ⟨R.handled, by have := R.depth; show A.depth + Code.weight _ + 8 ≤ 999; rw [show Code.weight (.builtin "type.__call__" ⟨[.ref 242, .none, .ref la, .ref lb, .bool false], []⟩) = 1 by rfl]; lia, by have := R.units; show A.units + Code.cUnits _ + 130 ≤ 9800; rw [show Code.cUnits (.builtin "type.__call__" ⟨[.ref 242, .none, .ref la, .ref lb, .bool false], []⟩) = 1 by rfl]; lia⟩
  refine codeM (d := 7) (binds := [("self", .ref (hh.objs.size + 1)), ("isjunk", .none), ("a", .ref la), ("b", .ref lb), ("autojunk", .bool false)]) R1 G K1 KX X2 kl_160 kc_160 ?_ (locs (by rfl)) (fun h₁ L tk Y => ?_) (by rfl) (by rfl) (by rfl) (by decide +kernel)
  · exact binds_K (Kin KX K1 X2) rfl (o := { cls := .type "tuple", data := .seq (List.toArray [.none, .str "" 404, .str "" 405, .bool true]) }) (T := 153) (by kernel_rfl) rfl (by rfl) (by rfl)
  refine wpAny_execs_cons ?_
  walk_at "go"
  refine setA KX K1 Y (i := 1) rfl hx kt_isjunk (by lia) fun h₂ tk₂ Z => ?_
  try refine shN s h₂ fun tkn6 => ?_
  replace Z : St B₁ ((L, NsP _) :: (hh.objs.size, _) :: cs) h₂ := Z
  walk_at "go"
  refine setA KX K1 Z (i := 1) rfl hx kt_a (by lia) fun h₃ tk₃ Z₃ => ?_
  try refine shN s h₃ fun tkn7 => ?_
  replace Z₃ : St B₁ ((L, NsP _) :: (hh.objs.size, _) :: cs) h₃ := Z₃
  walk_at "go"
  refine setA KX K1 Z₃ (i := 1) rfl hx kt_b (by lia) fun h₄ tk₄ Z₄ => ?_
  try refine shN s h₄ fun tkn8 => ?_
  replace Z₄ : St B₁ ((L, NsP _) :: (hh.objs.size, _) :: cs) h₄ := Z₄
  walk_at "go"
  refine setA KX K1 Z₄ (i := 1) rfl hx kt_autojunk (by lia) fun h₅ tk₅ Z₅ => ?_
  try refine shN s h₅ fun tkn9 => ?_
  replace Z₅ : St B₁ ((L, NsP _) :: (hh.objs.size, _) :: cs) h₅ := Z₅
  walk_at "go"
  refine callMeth (by rfl) (by rfl) (by rfl) ?_
  walk_at "go"
  intro pl
  refine methA KX K1 Z₅ (i := 1) rfl hx km_167 kq_167 (upd_no (by decide) (upd_no (by decide) (upd_no (by decide) (upd_no (by decide) rfl)))) ?_
  try dsimp only
  refine cwM K1 (KX _ _ kl_167) rfl ?_
  walk_at "go"
  refine ⟨⟨B₁, _, Le.refl _, Z₅⟩, ?_⟩
  refine set_seqs_spec (la := la) (lb := lb) (vs := vs) (xs := xs) (R1.deep (by lia) (by lia)) G Bn K1 KX Z₅.swap hx (by walk_at "lk") (by walk_at "lk") (by walk_at "lk") (by walk_at "lk")
    (upd_no (by decide) (upd_no (by decide) (upd_no (by decide) (upd_no (by decide) rfl)))) (upd_no (by decide) (upd_no (by decide) (upd_no (by decide) (upd_no (by decide) rfl)))) (upd_no (by decide) (upd_no (by decide) (upd_no (by decide) (upd_no (by decide) rfl)))) (by lia) hb' hv hsz
    fun B' l' k' dj sj osj h' tk' le' hB hsj psj e1 e2 e3 e4 e5 W => ?_
  replace W := W.swap.drop
  try dsimp only
  refine wpAny_execs_nil ?_
  obtain ⟨od, pod, -, W₂, le₂⟩ := W.freeze
  refine ⟨rfl, ?_⟩
  refine hQ _ _ h' _ ((le.trans le').trans le₂) ⟨_, od, l', k', dj, sj, osj, le₂ _ _ (le' _ _ hx), PM.add_self, pod, e1, e2, e3, e4, e5 (upd_no (by decide) (upd_no (by decide) (upd_no (by decide) (upd_no (by decide) rfl)))), ?_, le₂ _ _ hsj, psj⟩ W₂
  obtain ⟨q0, odj, f, n, q1, q2, q3⟩ := hB
  refine ⟨q0, odj, f, n, le₂ _ _ q1, q2, fun z => ?_⟩
  rcases q3 z with q | ⟨a, ps, nn, r1, r2, r3⟩
  · exact .inl q
  · exact .inr ⟨a, ps, nn, r1, le₂ _ _ r2, r3⟩
end
end
section
open PySem PySem.W PyProof.Rows PySem.Builtin PySem.Builtin.ObjectAttr
set_option Elab.async false
set_option maxRecDepth 100000
section
variable {P : Params} {d : Nat → Value}
theorem q_call : specialIn (KD P d) (.ref 135) "__call__" = some (some (.builtin "type.__call__")) := by kernel_rfl
theorem q_inst : instIn (KD P d) (.ref 135) (.type "type") = some true := by kernel_rfl
theorem q_typ : typeIn (KD P d) (.ref 135) = some (.type "type") := by kernel_rfl
theorem q_ga : findIn (KD P d) (.type "type") "__getattribute__" = some (some (.builtin "type.__getattribute__")) := by kernel_rfl
theorem q_sub : subIn (KD P d) (.type "type") (.type "type") = some true := by kernel_rfl
theorem q_new : findCls (KD P d) (.ref 135) (.type "type") "__new__" = some (.get (.builtin "staticmethod.__get__") (.ref 136) .none (.ref 135)) := by kernel_rfl
theorem q_rec : recIn (KD P d) 136 "staticmethod" = some [.ref 82] := by kernel_rfl
theorem q_self : mroIn (KD P d) 135 (.ref 135) = some true := by kernel_rfl
theorem q_tup : mroIn (KD P d) 135 (.type "tuple") = some true := by kernel_rfl
theorem q_obj : mroIn (KD P d) 135 (.type "object") = some true := by kernel_rfl
theorem q_init : findIn (KD P d) (.ref 135) "__init__" = some (some (.builtin "object.__init__")) := by kernel_rfl
theorem q_iter : findIn (KD P d) (.ref 135) "__iter__" = some (some (.builtin "tuple.__iter__")) := by kernel_rfl
theorem q_82 : (KD P d).lookup 82 = some ⟨.type "function", none, .func (fnOf "__new__" "Match.__new__" (fnParams (mth 3 4)) (fnBody (mth 3 4)) (fnScope (mth 3 4)) .none .none (d 82) (.str "cpy313.difflib" 194) none (.ref 81) .none), #[]⟩ := by kernel_rfl
theorem q_c82 : codeIn (KD P d) (.ref 81) "Match.__new__" = true := by kernel_rfl
abbrev cd135 : ClassData := { name := "Match", bases := [.type "tuple"], mro := [.ref 135, .type "tuple", .type "object"], ns := 134, qualname := "Match", hasDict := false }
abbrev sl135 : Array (Option Value) := List.toArray [some (.ref 65), none, some (.str "Match" 253), some (.str "Match" 261), some .none, some (.bool false)]
theorem q_o : (KD P d).lookup 135 = some ⟨.type "type", none, .cls cd135, sl135⟩ := by kernel_rfl
/-- no third-party part is loaded -/
def Stat (h : Heap) : Prop := ∃ o, h.get? 2 = some o ∧ lookIn "thirdparty.any" o = some none
theorem Stat.keeps {h h' : Heap} (x : Stat h) (k : ∀ b o, h.get? b = some o → h'.get? b = some o) : Stat h' := let ⟨o, a, b⟩ := x; ⟨o, k _ _ a, b⟩
theorem looks_opq {M : Model} {h : Heap} {C : Addr} (x : Stat h) : Looks M h (opaqueClassAbove (.ref C)) none := by
  obtain ⟨o, ho, hl⟩ := x
  have L1 : Looks M h (nsGet cStatics "thirdparty.any") none := (Looks.ld ho).andThen (Looks.of_pure (nsLook_of hl))
  exact Looks.andThen (a := false) (L1.andThen .now) (by show Looks M h (if (!false) = true then pure none else _) none; rw [if_pos (show (!false) = true from rfl)]; exact .now)
theorem looks_made {M : Model} {h : Heap} (X : (KD P d).In h) : Looks M h (Bind.madeBy (.ref 135)) none := by
  have hc : clsIn (KD P d) 135 = some cd135 := by unfold clsIn; rw [q_o]
  have hm : Looks M h (mroOf (.ref 135)) cd135.mro := (looks_clsIn X hc).andThen .now
  intro A Q E s k q
  unfold Bind.madeBy
  refine wpAny_bind (hm A _ E s k ?_)
  rw [List.forIn_cons]
  refine wpAny_bind (wpAny_bind (wpAny_bind (wpAny_bind (wpAny_loadPart (k _ _ (X _ _ q_o)) (wpAny_pure ?_)))))
  exact wpAny_pure (wpAny_pure (wpAny_pure q))
theorem made_tup : Bind.madeBy (.type "tuple") = pure (some "tuple.__new__") := by kernel_rfl
theorem best_tup : Builtin.Slots.bestBase [.type "tuple"] = pure (.type "tuple") := by kernel_rfl
theorem looks_base {M : Model} {h : Heap} (X : (KD P d).In h) : Looks M h (Bind.staticBase (.ref 135)) (.type "tuple") := by
  have hc : clsIn (KD P d) 135 = some cd135 := by unfold clsIn; rw [q_o]
  have hm : Looks M h (mroOf (.ref 135)) cd135.mro := (looks_clsIn X hc).andThen .now
  intro A Q E s k q
  unfold Bind.staticBase
  refine wpAny_bind (hm A _ E s k ?_)
  rw [List.forIn_cons]
  refine wpAny_bind (wpAny_bind (wpAny_bind (looks_made X A _ E s k ?_)))
  simp only [Option.isSome_none, Bool.false_eq_true, if_false]
  refine wpAny_bind (looks_clsIn X hc A _ E s k (wpAny_bind (wpAny_of_eq best_tup (wpAny_pure ?_))))
  dsimp only
  rw [List.forIn_cons]
  refine wpAny_bind (wpAny_bind (wpAny_of_eq made_tup ?_))
  simp only [Option.isSome_some, if_true]
  exact wpAny_pure (wpAny_pure (wpAny_pure q))
theorem tn_kind : builtinKind "tuple.__new__" = some .builtinFn := by decide +kernel
theorem tn_split : splitId "tuple.__new__" = some ("tuple", "__new__") := by decide +kernel
theorem tn_row : Manifest.signature? "tuple.__new__" = some ⟨.constructor, "tuple", "tuple", .cls, [⟨"iterable", .posOnly, false⟩]⟩ := by kernel_rfl
theorem tn_entry : entryFor table "tuple.__new__" = some Builtin.«tuple.__new__» := entryFor_of_tree (by kernel_rfl)
theorem tn_args (a b : Value) : Bind.checkArgs "tuple.__new__" ⟨.constructor, "tuple", "tuple", .cls, [⟨"iterable", .posOnly, false⟩]⟩ ⟨[a, b], []⟩ = pure () := by kernel_rfl
section
variable {prog : Program} {w : World} {A : Around} {E : Value → Shared → Prop} {s : Shared} {B : PM} {cs : Cs} {h₀ : Heap}
abbrev mObj (dd : Addr) (items : Array Value) : Obj := { cls := .ref 135, dict := some dd, data := .seq items }
theorem looks_isType {M : Model} {h : Heap} (X : (KD P d).In h) : Looks M h (isType (.ref 135)) true := by
  intro A Q E s k q
  exact wpAny_bind (wpAny_loadPart (k _ _ (X _ _ q_o)) (wpAny_pure q))
theorem tuple_new {T : Addr} {items : Array Value} {Q : Value → Shared → Prop} (K0 : In0 h₀ B) (KX : (KD P d).In h₀) (X : St B cs s.heap) (ht : s.heap.IsTuple T items) (hsz : items.size ≤ 100)
    (hQ : ∀ B' x dd h', Le B B' → B' x = some (mObj dd items) → St B' cs h' → Q (.ref x) { s with heap := h' }) :
    wpAny (model prog w) A (call (.builtin "tuple.__new__") [.ref 135, .ref T]) Q E s := by
  have KI := Kin KX K0 X
  refine wpAny_call (codeAny_call_builtin_code (Code.quiet_builtin _ (by decide +kernel)) ?_)
  simp only [checkBuiltinCall, tn_kind, tn_split, tn_row]
  obtain ⟨hh, g, dr, t, os⟩ := s
  have L1 := looks_isType (M := model prog w) KI
  have L2 := looks_mroIn (M := model prog w) KI q_tup
  have L3 := looks_base (M := model prog w) KI
  have L4 : Looks (model prog w) hh (Bind.madeBy (.type "tuple")) (some "tuple.__new__") := Looks.of_pure made_tup
  have L5 := looks_findIn (M := model prog w) KI q_init
  rw [tn_args]
  repeat (first | simp only [beq_self_eq_true, bne_self_eq_false, Bool.false_eq_true, if_false, if_true, Bool.not_true] | lk)
  refine codeAny_builtin tn_entry ?_
  unfold Builtin.«tuple.__new__»
  have here : Looks (model prog w) hh (Bind.madeHere "tuple.__new__" (.ref 135)) () := L3.andThen (L4.andThen (Looks.of_pure (by simp only [Option.map_some, bne_self_eq_false, Bool.false_eq_true, if_false])))
  dsimp only
  refine wpAny_bind (L1.at ?_)
  simp only [Bool.not_true, Bool.false_eq_true, if_false]
  refine wpAny_bind (L2.at ?_)
  simp only [Bool.not_true, Bool.false_eq_true, if_false]
  refine wpAny_bind (here.at ?_)
  refine wpAny_bind (L5.at ?_)
  simp only [beq_self_eq_true, if_true]
  refine wpAny_bind (wpAny_of_eq (a := ()) rfl ?_)
  refine wpAny_bind (wpAny_of_eq (a := ()) rfl ?_)
  refine KFB.if_not (by decide) ?_
  obtain ⟨o, ho, hc, n, hd⟩ := ht
  refine wpAny_bind (wpAny_collect_seq T (.inr rfl) ho hc hd (fun h' hk => ?_) (by rw [sizeLine_eq]; lia))
  refine wpAny_bind (wpAny_pure ?_)
  refine wpAny_bind (wpAny_alloc ?_)
  have X1 : St B cs h' := ⟨fun b o q => hk b o (X.sub b o q), fun p hp => let ⟨o, q, z⟩ := X.cells p hp; ⟨o, hk _ _ q, z⟩, X.off, X.nd⟩
  obtain ⟨X2, l2⟩ := X1.newB { cls := .type "dict", data := .dict #[] } rfl
  obtain ⟨X3, l3⟩ := X2.newB (mObj h'.objs.size items) rfl
  refine wpAny_bind ?_
  unfold newObj
  dsimp only
  rw [if_neg (by simp; rw [sizeLine_eq]; lia)]
  rw [Array.toArray_toList]
  unfold newObjAsIs classHasDel
  refine wpAny_bind (wpAny_alloc (wpAny_bind (wpAny_bind (wpAny_load (X3.sub _ _ (l3 _ _ (l2 _ _ (K0 _ _ (KX _ _ q_o))))) (wpAny_pure ?_)))))
  exact wpAny_pure (wpAny_pure (hQ _ _ _ _ (l2.trans l3) PM.add_self X3))
theorem sig_oi : Manifest.signature? "object.__init__" = some ⟨.any, "object", "object", .self, [⟨"args", .varPos, false⟩, ⟨"kwargs", .varKw, false⟩]⟩ := by kernel_rfl
theorem oi_args4 (a b c e : Value) : argsOk "object.__init__" ⟨[a, b, c, e], []⟩ := by unfold argsOk; rw [sig_oi]; kernel_rfl
theorem mObj_type {M : Model} {h : Heap} {x dd : Addr} {items : Array Value} (e : h.get? x = some (mObj dd items)) : Looks M h (typeOf (.ref x)) (.ref 135) := (Looks.ld e).andThen .now
set_option maxHeartbeats 4000000 in
theorem call_init {x dd : Addr} {items : Array Value} {a b c : Value} {Q : Value → Shared → Prop} (KI : (KD P d).In s.heap) (hx : s.heap.get? x = some (mObj dd items)) (hQ : Q .none s) :
    wpAny (model prog w) A (call (.builtin "object.__init__") [.ref x, a, b, c]) Q E s := by
  cases s with | mk hh g dr t os =>
  have L0 := mObj_type (M := model prog w) hx
  have L1 := looks_mroIn (M := model prog w) KI q_obj
  have L5 := looks_findIn (M := model prog w) KI q_init
  have L6 := looks_made (M := model prog w) KI
  have LI : Looks (model prog w) hh (isInstance (.ref x) (.type "object")) true := L0.andThen L1
  refine wpAny_call ?_
  refine codeAny_call_builtin oi_plain entry_oi ?_
  refine check_slot (i := "object.__init__") (owner := "object") (n := "__init__") oi_kind oi_split LI (oi_args4 _ _ _ _) ?_
  unfold Builtin.«object.__init__»
  dsimp only
  rw [if_pos (by rfl)]
  refine wpAny_bind (L0.at (wpAny_bind (L5.at ?_)))
  refine wpAny_bind (L6.at ?_)
  simp only [bne_self_eq_false, Bool.false_eq_true, if_false]
  exact wpAny_pure hQ
end
end
end
section
open PySem PySem.W PyProof.Rows PySem.Builtin PySem.Builtin.ObjectAttr
set_option Elab.async false
set_option maxRecDepth 100000
section
variable {P : Params} {d : Nat → Value} {prog : Program} {w : World} {A : Around} {E : Value → Shared → Prop} {s : Shared} {B : PM} {cs : Cs} {h₀ : Heap}
theorem m_item {it t : Addr} {i : Nat} {o : Obj} {items} {n : Nat} {x : Value} {Q : Option Value → Shared → Prop} (hit : IsTupIter s.heap it t i)
    (ht : s.heap.get? t = some o) (hdt : o.data = .seq items n) (hx : items[i]? = some x)
    (hQ : ∀ h', IsTupIter h' it t (i + 1) → Heap.SameBut it s.heap h' → Q (some x) { s with heap := h' }) :
    wpAny (model prog w) A (pyNext (.ref it)) Q E s := by
  obtain ⟨oi, ho, hc, hd⟩ := id hit
  unfold pyNext
  refine wpAny_bind (wpAny_attempt (wpAny_callSpecial?_slot (name := Str.ofString "__next__") hit.typeIs slot_tupleiter_next
    (wpAny_call_entry slot_tupleiter_next hit.typeIs entry_tupleiter_next ?_ (args_tupleiter_next _))))
  show wpAny _ _ (field (.ref it) 0 >>= _) _ _ s
  refine wpAny_bind (wpAny_field ho hd (x := .ref t) rfl ?_)
  show wpAny _ _ (if (Value.ref t == Value.none) = true then _ else _) _ _ s
  rw [if_neg (show ¬ ((Value.ref t == Value.none) = true) from Bool.false_ne_true)]
  show wpAny _ _ (field (.ref it) 1 >>= _) _ _ s
  refine wpAny_bind (wpAny_field ho hd (x := .int i 0) rfl ?_)
  show wpAny _ _ (seqItems? (.ref t) >>= _) _ _ s
  refine wpAny_bind (wpAny_seqItems ht hdt ?_)
  simp only [Int.toNat_natCast, hx]
  refine wpAny_bind (wpAny_setField ho hd (by simp) (wpAny_pure ⟨x, rfl, wpAny_pure (hQ _ ?_ (Heap.SameBut.update ..))⟩))
  exact ⟨_, Heap.get?_update_self _ ho (Obj.isFreed_of_fields (Obj.data_mapFields hd _)), (Obj.cls_mapFields ..).trans hc, by
    rw [Obj.data_mapFields hd]; simp [rawInt]⟩
theorem m_end {it t : Addr} {i : Nat} {o : Obj} {items} {n : Nat} {Q : Option Value → Shared → Prop} (hh : A.handled = none)
    (hit : IsTupIter s.heap it t i) (ht : s.heap.get? t = some o) (hdt : o.data = .seq items n) (hx : items[i]? = none)
    (hQ : ∀ h', Heap.ExtBut it s.heap h' → Q none { s with heap := h' }) : wpAny (model prog w) A (pyNext (.ref it)) Q E s := by
  obtain ⟨oi, ho, hc, hd⟩ := id hit
  unfold pyNext
  refine wpAny_bind (wpAny_attempt (wpAny_callSpecial?_slot (name := Str.ofString "__next__") hit.typeIs slot_tupleiter_next
    (wpAny_call_entry slot_tupleiter_next hit.typeIs entry_tupleiter_next ?_ (args_tupleiter_next _))))
  show wpAny _ _ (field (.ref it) 0 >>= _) _ _ s
  refine wpAny_bind (wpAny_field ho hd (x := .ref t) rfl ?_)
  show wpAny _ _ (if (Value.ref t == Value.none) = true then _ else _) _ _ s
  rw [if_neg (show ¬ ((Value.ref t == Value.none) = true) from Bool.false_ne_true)]
  show wpAny _ _ (field (.ref it) 1 >>= _) _ _ s
  refine wpAny_bind (wpAny_field ho hd (x := .int i 0) rfl ?_)
  show wpAny _ _ (seqItems? (.ref t) >>= _) _ _ s
  refine wpAny_bind (wpAny_seqItems ht hdt ?_)
  simp only [Int.toNat_natCast, hx]
  refine wpAny_bind (wpAny_rule (wpAny_bind (wpAny_setField ho hd (by simp) ?_)))
  show wpAny _ _ (newExc (.type "StopIteration") [] >>= _) _ _ _
  refine wpAny_bind ?_
  simp only [newExc, newTuple]
  refine wpAny_bind (wpAny_newObj_type ?_ (by size_fits))
  refine wpAny_bind (m := firstArgMember _ _) (wpAny_of_eq (a := Value.none) (by first | rfl | (simp only [firstArgMember]; rfl)) ?_)
  refine wpAny_newObj_type ?_ (by size_fits)
  simp only [raiseNew]
  refine wpAny_bind (wpAny_handled ?_)
  first | rw [show A.in1.handled = none from hh] | rw [hh]
  refine wpAny_bind (wpAny_pure (wpAny_throw ?_))
  refine wpAny_bind (wpAny_isInstance (T := "StopIteration") (b := true) ⟨_, Heap.get?_push_size _ rfl, rfl⟩ isSubtype_stop ?_)
  exact wpAny_pure (hQ _ (((Heap.SameBut.update ..).extBut.push _).push _))
theorem ti_kind : builtinKind "tuple.__iter__" = some .slot := by decide +kernel
theorem ti_split : splitId "tuple.__iter__" = some ("tuple", "__iter__") := by decide +kernel
theorem m_iter {x dd : Addr} {items : Array Value} {Q : Value → Shared → Prop} (KI : (KD P d).In s.heap) (hx : s.heap.get? x = some (mObj dd items))
    (hQ : Q (.ref s.heap.objs.size) { s with heap := s.heap.push { cls := .type "tuple_iterator", data := .fields #[.ref x, .int 0 0] } }) :
    wpAny (model prog w) A (pyIter (.ref x)) Q E s := by
  cases s with | mk hh g dr t os =>
  have L0 := mObj_type (M := model prog w) hx
  have L1 := looks_mroIn (M := model prog w) KI q_tup
  have L2 := looks_findIn (M := model prog w) KI q_iter
  have LI : Looks (model prog w) hh (isInstance (.ref x) (.type "tuple")) true := L0.andThen L1
  unfold pyIter specialOf
  refine wpAny_bind (wpAny_bind (L0.at (L2.at ?_)))
  dsimp only
  unfold callSpecialIfBoundUnlessNone?
  have hb : ∀ self, bindSpecial (.builtin "tuple.__iter__") self = pure (.builtin "tuple.__iter__", [self]) := slot_tuple_iter.bind
  refine wpAny_bind (wpAny_holding (wpAny_bind ?_))
  refine wpAny_mono (Q := fun r s' => r = some (.builtin "tuple.__iter__", [.ref x]) ∧ s' = ⟨hh, g, dr, t, os⟩) ?_ (fun r s' hr => ?_) fun _ _ z => z
  · unfold bindSpecialIfBound? specialOf
    refine wpAny_bind (wpAny_bind (L0.at (L2.at ?_)))
    dsimp only
    rw [hb]
    refine wpAny_bind (wpAny_askSetting ?_)
    refine wpAny_ite_split (fun _ => ?_) (fun _ => ?_)
    · exact wpAny_bind (wpAny_pure (wpAny_pure ⟨rfl, rfl⟩))
    · exact wpAny_tryCatch (wpAny_bind (wpAny_pure (wpAny_pure ⟨rfl, rfl⟩)))
  · obtain ⟨rfl, rfl⟩ := hr
    dsimp only
    rw [if_neg (by decide)]
    refine wpAny_bind (wpAny_call (codeAny_call_builtin slot_tuple_iter.plain entry_tuple_iter (check_slot (i := "tuple.__iter__") (owner := "tuple") (n := "__iter__") ti_kind ti_split LI (args_tuple_iter _) ?_)))
    show wpAny _ _ (do ret (← newFields "tuple_iterator" [.ref x, rawInt 0])) _ _ _
    refine wpAny_bind (wpAny_newObj_type (wpAny_pure ?_))
    refine wpAny_pure ?_
    dsimp only
    refine wpAny_bind (wpAny_bind (wpAny_bind (wpAny_load (Heap.get?_push_size _ rfl) (wpAny_pure ?_))))
    refine wpAny_of_eq slot_tupleiter_next.lookup ?_
    exact wpAny_pure hQ
theorem m_items {x dd : Addr} {a b c : Value} {Q : List Value → Shared → Prop} (hh : A.handled = none) (K0 : In0 h₀ B) (KX : (KD P d).In h₀) (X : St B cs s.heap) (hx : B x = some (mObj dd #[a, b, c]))
    (hQ : ∀ h', St B cs h' → Q [a, b, c] { s with heap := h' }) : wpAny (model prog w) A (unpackItems (.ref x) 3 none) Q E s := by
  have KI := Kin KX K0 X
  have hxs := X.sub _ _ hx
  have X1 := X.new (P := fun o => o.cls = .type "tuple_iterator" ∧ o.data = .fields #[.ref x, .int (0 : Nat) 0]) { cls := .type "tuple_iterator", data := .fields #[.ref x, .int 0 0] } rfl ⟨rfl, rfl⟩
  unfold unpackItems
  refine wpAny_bind ?_
  unfold notIterableAtAll specialOf
  have L0 := mObj_type (M := model prog w) hxs
  have L2 := looks_findIn (M := model prog w) KI q_iter
  refine wpAny_bind (wpAny_bind (L0.here (L2.here ?_)))
  refine wpAny_pure ?_
  simp only [Bool.false_eq_true, if_false]
  refine wpAny_bind (wpAny_holding (m_iter (P := P) (d := d) KI hxs ?_))
  generalize hit : s.heap.objs.size = it at X1
  have go : ∀ {h1 : Heap} {i : Nat}, St B ((it, fun o => o.cls = .type "tuple_iterator" ∧ o.data = .fields #[.ref x, .int (i : Nat) 0]) :: cs) h1 → IsTupIter h1 it x i := fun Y => let ⟨o, e, p, q⟩ := Y.at_ (i := 0) rfl; ⟨o, e, p, q⟩
  try dsimp only
  refine wpAny_bind (wpAny_holding ?_)
  refine wpAny_bind (m := pyNext (.ref it)) (m_item (go X1) (X1.sub _ _ hx) rfl (x := a) rfl fun h1 i1 s1 => ?_)
  have X2 := X1.upd (i := 0) (P' := fun o => o.cls = .type "tuple_iterator" ∧ o.data = .fields #[.ref x, .int (1 : Nat) 0]) rfl s1 (let ⟨o, e, p, q⟩ := i1; ⟨o, e, p, q⟩)
  replace X2 : St B ((it, fun o => o.cls = .type "tuple_iterator" ∧ o.data = .fields #[.ref x, .int (1 : Nat) 0]) :: cs) h1 := X2
  try dsimp only
  refine wpAny_bind (wpAny_holding ?_)
  refine wpAny_bind (m := pyNext (.ref it)) (m_item (go X2) (X2.sub _ _ hx) rfl (x := b) rfl fun h2 i2 s2 => ?_)
  have X3 := X2.upd (i := 0) (P' := fun o => o.cls = .type "tuple_iterator" ∧ o.data = .fields #[.ref x, .int (2 : Nat) 0]) rfl s2 (let ⟨o, e, p, q⟩ := i2; ⟨o, e, p, q⟩)
  replace X3 : St B ((it, fun o => o.cls = .type "tuple_iterator" ∧ o.data = .fields #[.ref x, .int (2 : Nat) 0]) :: cs) h2 := X3
  try dsimp only
  refine wpAny_bind (wpAny_holding ?_)
  refine wpAny_bind (m := pyNext (.ref it)) (m_item (go X3) (X3.sub _ _ hx) rfl (x := c) rfl fun h3 i3 s3 => ?_)
  have X4 := X3.upd (i := 0) (P' := fun o => o.cls = .type "tuple_iterator" ∧ o.data = .fields #[.ref x, .int (3 : Nat) 0]) rfl s3 (let ⟨o, e, p, q⟩ := i3; ⟨o, e, p, q⟩)
  replace X4 : St B ((it, fun o => o.cls = .type "tuple_iterator" ∧ o.data = .fields #[.ref x, .int (3 : Nat) 0]) :: cs) h3 := X4
  try dsimp only
  refine wpAny_bind (wpAny_holding (wpAny_pure (wpAny_pure (wpAny_pure (wpAny_pure ?_)))))
  rw [if_neg (by simp)]
  refine wpAny_bind (wpAny_holding (m_end hh (go X4) (X4.sub _ _ hx) rfl rfl fun h4 he => ?_))
  simp only [Option.isSome_none, Bool.false_eq_true, if_false]
  exact wpAny_pure (hQ h4 (X4.ext he))
end
end
section
open PySem PySem.W PyProof.Rows
set_option Elab.async false
set_option maxRecDepth 100000
def forBody : Stmt → List Stmt | .For _ _ b _ _ => b | _ => []
def nth (l : List Stmt) (i : Nat) : Stmt := (l[i]?).getD (.Pass default)
/-- find_longest_match's inner loop, its body -/
def outF : List Stmt := forBody (nth (fnBody (mth 5 6)) 7)
def inB : List Stmt := forBody (nth outF 2)
abbrev flmE (L : Addr) : Env := envOf "SequenceMatcher.find_longest_match" (fnScope (mth 5 6)) L 196 (.ref 195)
structure Nm (m : Str → Option Value) (la lb dj qj ln : Addr) (alo ahi blo bhi : Nat) : Prop where
  a : m "a" = some (.ref la)
  b : m "b" = some (.ref lb)
  b2j : m "b2j" = some (.ref dj)
  isj : m "isbjunk" = some (.ref qj)
  nothing : m "nothing" = some (.ref ln)
  alo : IsI (m "alo") alo
  ahi : IsI (m "ahi") ahi
  blo : IsI (m "blo") blo
  bhi : IsI (m "bhi") bhi
theorem IsI.upd {m : Str → Option Value} {x y : Str} {v : Value} {i : Int} (h : y ≠ x) (e : IsI (m y) i) : IsI (upd m x v y) i := let ⟨t, e⟩ := e; ⟨t, upd_other h e⟩
theorem Nm.upd {m : Str → Option Value} {la lb dj qj ln : Addr} {alo ahi blo bhi : Nat} {x : Str} {v : Value} (h : Nm m la lb dj qj ln alo ahi blo bhi) (hx : (["a", "b", "b2j", "isbjunk", "nothing", "alo", "ahi", "blo", "bhi"] : List Str).all (fun y => decide (y ≠ x)) = true) : Nm (Mine.upd m x v) la lb dj qj ln alo ahi blo bhi := by
  simp only [List.all_cons, List.all_nil, Bool.and_true, Bool.and_eq_true, decide_eq_true_eq] at hx
  obtain ⟨h1, h2, h3, h4, h5, h6, h7, h8, h9⟩ := hx
  exact ⟨upd_other h1 h.a, upd_other h2 h.b, upd_other h3 h.b2j, upd_other h4 h.isj, upd_other h5 h.nothing, h.alo.upd h6, h.ahi.upd h7, h.blo.upd h8, h.bhi.upd h9⟩
section
variable {prog : Program} {w : World} {A : Around} {E : Value → Shared → Prop} {s : Shared} {B : PM} {cs : Cs}
theorem unpackIt {T : Addr} {items : Array Value} {n : Nat} {Q : List Value → Shared → Prop} (hh : A.handled = none) (X : St B cs s.heap) (ht : s.heap.IsTuple T items) (hn : items.size = n)
    (h : ∀ h', St B cs h' → Q items.toList { s with heap := h' }) : wpAny (model prog w) A (unpackItems (.ref T) n none) Q E s := by
  subst hn
  refine wpAny_unpackItems_tuple hh ht fun h' hx => h h' ⟨fun b o e => hx b o (Nat.ne_of_lt (X.ltB e)) (X.sub b o e), fun p hp => ?_, X.off, X.nd⟩
  obtain ⟨o, e, k⟩ := X.cells p hp
  exact ⟨o, hx _ _ (Nat.ne_of_lt (Heap.lt_size e)) e, k⟩
theorem asgS {M : Model} {env : Env} {o i : Expr} {pos : Pos} {v : Value} {Q : Unit → Shared → Prop} (h : wpAny M A (eval o env) (fun ov s₁ => wpAny M A (eval i env) (fun iv s₂ => wpAny M A (setItem ov iv v) (fun _ => Q ()) E s₂) E s₁) E s) :
    wpAny M A (assign (.Subscript o i pos) env v) Q E s := by
  rw [assign_Subscript]
  exact wpAny_bind (wpAny_holding (wpAny_mono h (fun ov s₁ h₁ => wpAny_bind (wpAny_holding (wpAny_mono h₁ (fun iv s₂ h₂ => wpAny_bind (wpAny_standAt (wpAny_bind (wpAny_holding (wpAny_mono h₂ (fun _ _ q => wpAny_release q) fun _ _ x => x))))) fun _ _ x => x))) fun _ _ x => x))
end
section
variable {w : World} {A : Around} {s : Shared} {B : PM} {cs : Cs}
set_option maxHeartbeats 8000000 in
theorem inner_turn {la lb dj qj ln L itl ll dn bq dj2 : Addr} {alo ahi blo bhi I q n n' a b k j : Nat} {f g : Int → Option Value} {m : Str → Option Value} {as bs ps : List Int} {xv : Int} {tj : Tok} {h : Heap} {tk : Nat} {pos : Pos} (hh : A.handled = none)
    (Z : St B ((L, NsP m) :: (itl, LiP ll (q + 1)) :: (dn, MapP g n') :: (bq, IsP (bnd "dict.get" dj2)) :: (dj2, MapP f n) :: cs) h) (N : Nm m la lb dj qj ln alo ahi blo bhi) (hsm : (dj2 == sysModules) = false)
    (mi : IsI (m "i") I) (mq : m "j2lenget" = some (.ref bq)) (mn : m "newj2len" = some (.ref dn)) (m1 : IsI (m "besti") a) (m2 : IsI (m "bestj") b) (m3 : IsI (m "bestsize") k)
    (Pp : Pl bs xv ps) (hx : as[I]? = some xv) (hI : alo ≤ I) (hI2 : I < ahi) (hq : ps[q]? = some (j : Int)) (hn : n' ≤ 1000)
    (hf : MapOk as bs alo blo bhi I f) (hg : NewOk as bs alo blo I ps q g) (hb : Bst as bs alo ahi blo bhi (Dq bhi I ps q) a b k) :
    wpAny (model pw w) A (assign (.Name "j" pos) (flmE L) (.int j tj)) (fun _ s₂ => wpAny (model pw w) A (execs inB (flmE L)) (fun fl s₃ => match fl with
      | .next | .cont => ∃ (g' : Int → Option Value) (n'' a' b' k' : Nat) (m' : Str → Option Value) (h' : Heap) (tk' : Nat), s₃ = { s with heap := h', toks := tk' } ∧ St B ((L, NsP m') :: (itl, LiP ll (q + 1)) :: (dn, MapP g' n'') :: (bq, IsP (bnd "dict.get" dj2)) :: (dj2, MapP f n) :: cs) h' ∧ Nm m' la lb dj qj ln alo ahi blo bhi ∧
          IsI (m' "i") I ∧ m' "j2lenget" = some (.ref bq) ∧ m' "newj2len" = some (.ref dn) ∧ IsI (m' "besti") a' ∧ IsI (m' "bestj") b' ∧ IsI (m' "bestsize") k' ∧ n'' ≤ n' + 1 ∧ NewOk as bs alo blo I ps (q + 1) g' ∧ Bst as bs alo ahi blo bhi (Dq bhi I ps (q + 1)) a' b' k'
      | .brk => bhi ≤ j ∧ ∃ m' h' tk', s₃ = { s with heap := h', toks := tk' } ∧ St B ((L, NsP m') :: (itl, LiP ll (q + 1)) :: (dn, MapP g n') :: (bq, IsP (bnd "dict.get" dj2)) :: (dj2, MapP f n) :: cs) h' ∧ Nm m' la lb dj qj ln alo ahi blo bhi ∧
          m' "newj2len" = some (.ref dn) ∧ IsI (m' "besti") a ∧ IsI (m' "bestj") b ∧ IsI (m' "bestsize") k
      | .ret _ => False) noE s₂) noE { s with heap := h, toks := tk } := by
  refine cps2 fun Q₀ hQ₀ => ?_
  obtain ⟨ea, eb, ej, eq, en, ⟨ta, eal⟩, ⟨th, eah⟩, ⟨tb, ebl⟩, ⟨tc, ebh⟩⟩ := id N
  obtain ⟨ti, emi⟩ := id mi
  obtain ⟨u1, em1⟩ := id m1
  obtain ⟨u2, em2⟩ := id m2
  obtain ⟨u3, em3⟩ := id m3
  refine wpAny_assign_Name ?_
  walk_at "go"
  refine wpAny_execs_cons ?_
  walk_at "go"
  rename_i h₂ Z₂
  by_cases hlt : (j : Int) < blo
  · rw [decide_eq_true hlt]
    walk_at "go"
    refine hQ₀ _ _ ⟨g, n', a, b, k, _, h₂, _, rfl, Z₂, N.upd (by decide), mi.upd (by decide), ?_, ?_, m1.upd (by decide), m2.upd (by decide), m3.upd (by decide), by lia, hg.skip hq hlt, hb.skip hq (by lia)⟩
    · walk_at "lk"
    · walk_at "lk"
  rw [decide_eq_false hlt]
  walk_at "go"
  try refine ge_int ?_
  walk_at "go"
  by_cases hge : (bhi : Int) ≤ j
  · rw [decide_eq_true hge]
    walk_at "go"
    refine hQ₀ _ _ ⟨by lia, _, h₂, _, rfl, Z₂, N.upd (by decide), ?_, m1.upd (by decide), m2.upd (by decide), m3.upd (by decide)⟩
    walk_at "lk"
  rw [decide_eq_false hge]
  walk_at "go"
  refine callBnd (bi := "dict.get") (d := dj2) Z₂ (by walk_at "lk") ?_
  walk_at "go"
  obtain ⟨obq, hbq, rfl⟩ := Z₂.at_ (i := 3) (a := bq) rfl
  refine ⟨hbq, ?_⟩
  obtain ⟨o2, ho2, hm2⟩ := Z₂.at_ (i := 4) (a := dj2) (P := MapP f n) rfl
  refine dgetB (k := (j : Int) - 1) ho2 hm2 hbq hsm ?_
  generalize hv : (f ((j : Int) - 1)).getD _ = v
  obtain ⟨t', rfl⟩ : ∃ t', v = .int (ls as bs alo blo I j) t' := by subst hv; exact hf.get (by lia)
  clear hv
  have hls := ls_spec (as := as) (bs := bs) (alo := alo) (blo := blo) I j
  obtain ⟨hl1, hl2, -, -⟩ := hls
  have st := hb.step Pp hx hI hI2 hq (by lia) (by lia)
  walk_at "go"
  refine wpAny_assign_Name ?_
  walk_at "go"
  refine asgS ?_
  walk_at "go"
  rename_i h₃ Z₃
  refine dsetItem Z₃ (i := 2) rfl (by lia) fun h₄ Z₄ => ?_
  try refine shN s h₄ fun tkn1 => ?_
  replace Z₄ : St B ((L, NsP _) :: (itl, LiP ll (q + 1)) :: (dn, MapP (fun z => if z = (j : Int) then some (.int (((ls as bs alo blo I j + 1 : Nat) : Int)) _) else g z) (n' + 1)) :: (bq, IsP (bnd "dict.get" dj2)) :: (dj2, MapP f n) :: cs) h₄ := Z₄
  have hg' := fun t => hg.put (t := t) Pp hx hI hq (show blo ≤ j by lia)
  walk_at "go"
  by_cases hk : (k : Int) < (ls as bs alo blo I j : Int) + 1
  · rw [decide_eq_true hk]
    walk_at "go"
    refine Assign_Tuple_swapped (names := ["besti", "bestj", "bestsize"]) ?_
    refine wpAny_Tuple ?_
    walk_at "go"
    refine ⟨by show 3 ≤ sizeLine; rw [sizeLine_eq]; lia, ?_⟩
    try dsimp only
    refine unpackIt hh (Z₄.new (P := fun _ => True) _ rfl trivial).swap ⟨_, Heap.get?_push_size _ rfl, rfl, _, rfl⟩ (by rfl) fun h₅ Z₅ => ?_
    try refine shN s h₅ fun tkn2 => ?_
    replace Z₅ := Z₅.swap.drop
    refine PyProof.Rows.assignInOrder_cons (bindName_ ?_)
    walk_at "go"
    refine PyProof.Rows.assignInOrder_cons (bindName_ ?_)
    walk_at "go"
    refine PyProof.Rows.assignInOrder_cons (bindName_ ?_)
    walk_at "go"
    refine PyProof.Rows.assignInOrder_nil ?_
    walk_at "go"
    rename_i h₆ Z₆
    have e1 : ((I + 1 - (ls as bs alo blo I j + 1) : Nat) : Int) = (I : Int) - ((ls as bs alo blo I j : Int) + 1) + 1 := by lia
    have e2 : ((j + 1 - (ls as bs alo blo I j + 1) : Nat) : Int) = (j : Int) - ((ls as bs alo blo I j : Int) + 1) + 1 := by lia
    refine hQ₀ _ _ ⟨_, n' + 1, I + 1 - (ls as bs alo blo I j + 1), j + 1 - (ls as bs alo blo I j + 1), ls as bs alo blo I j + 1, _, h₆, _, rfl, Z₆, ((((N.upd (by decide)).upd (by decide)).upd (by decide)).upd (by decide)).upd (by decide), ((((mi.upd (by decide)).upd (by decide)).upd (by decide)).upd (by decide)).upd (by decide), ?_, ?_, ⟨_, by rw [e1]; walk_at "lk"⟩, ⟨_, by rw [e2]; walk_at "lk"⟩, ⟨_, by walk_at "lk"⟩, by lia, hg' _, st.1 (by lia)⟩
    · walk_at "lk"
    · walk_at "lk"
  · rw [decide_eq_false hk]
    walk_at "go"
    refine hQ₀ _ _ ⟨_, n' + 1, a, b, k, _, h₄, _, rfl, Z₄, (N.upd (by decide)).upd (by decide), (mi.upd (by decide)).upd (by decide), ?_, ?_, (m1.upd (by decide)).upd (by decide), (m2.upd (by decide)).upd (by decide), (m3.upd (by decide)).upd (by decide), by lia, hg' _, st.2 (by lia)⟩
    · walk_at "lk"
    · walk_at "lk"
end
end
section
open PySem PySem.W PyProof.Rows
set_option Elab.async false
set_option maxRecDepth 100000
section
variable {prog : Program} {w : World} {A : Around} {E : Value → Shared → Prop} {s : Shared} {B : PM} {cs : Cs}
theorem dgetBound {Q : Value → Shared → Prop} {dj : Addr} {o : Obj} {f : Int → Option Value} {n : Nat} {expr : Bool} (ho : s.heap.get? dj = some o) (hm : MapP f n o)
    (h : Q (.ref s.heap.objs.size) { s with heap := s.heap.push (bnd "dict.get" dj), toks := s.toks + 1 }) : wpAny (model prog w) A (getAttr (.ref dj) "get" expr) Q E s := by
  obtain ⟨⟨h1, h2, h3⟩, es, ep, hd, -⟩ := hm
  have hn : notCls o = true := by unfold notCls; rw [hd]
  exact get_bound ho h1 h2 hn (by decide +kernel) PySem.F.slot_dict_getattribute e_dga (fun a b => PySem.F.args_dict_getattribute_2 a b) PySem.F.slot_dict_get PySem.F.type_dict_get rfl (fun A' s' P E' ho' hP => run_dget ho' h1 hP) h
theorem shasBound {Q : Value → Shared → Prop} {sj : Addr} {o : Obj} {expr : Bool} (ho : s.heap.get? sj = some o) (hm : SetP o)
    (h : Q (.ref s.heap.objs.size) { s with heap := s.heap.push (bnd "set.__contains__" sj), toks := s.toks + 1 }) : wpAny (model prog w) A (getAttr (.ref sj) "__contains__" expr) Q E s := by
  obtain ⟨led, rfl⟩ := hm
  exact get_bound ho rfl rfl rfl (by decide +kernel) PySem.F.slot_set_getattribute e_sga (fun a b => PySem.F.args_set_getattribute_2 a b) PySem.F.slot_set_contains PySem.F.type_set_contains rfl (fun A' s' P E' ho' hP => run_shas ho' rfl hP) h
theorem notSysB {o : Obj} {h : Heap} (X : St B cs h) (e : B 242 = some o) : (h.objs.size == sysModules) = false := by
  have : 242 < h.objs.size := X.ltB e
  have h2 : sysModules ≤ 242 := by decide
  exact beq_eq_false_iff_ne.mpr fun e => absurd (e ▸ this) (Nat.not_lt.mpr h2)
theorem B2J.get {dj ln : Addr} {bs : List Int} {x : Int} {nl : Nat} (h : B2J B dj bs) (hl : B ln = some { cls := .type "list", data := .seq (List.toArray []) nl }) :
    ∃ od f n, B dj = some od ∧ MapP f n od ∧ ∃ a ps nn, (f x).getD (.ref ln) = .ref a ∧ B a = some { cls := .type "list", data := .seq ps.toArray nn } ∧ IsInts ps (placesTo bs x bs.length) := by
  obtain ⟨-, od, f, n, h1, h2, h3⟩ := h
  refine ⟨od, f, n, h1, h2, ?_⟩
  rcases h3 x with ⟨a, b⟩ | ⟨a, ps, nn, e1, e2, e3⟩
  · exact ⟨ln, [], nl, by rw [a]; rfl, hl, by rw [b]; trivial⟩
  · exact ⟨a, ps, nn, by rw [e1]; rfl, e2, e3⟩
end
section
variable {w : World} {A : Around} {s : Shared} {B : PM} {cs : Cs}
set_option maxHeartbeats 8000000 in
theorem outer_turn {la lb dj qj ln L it dj2 : Addr} {Pit : Obj → Prop} {alo ahi blo bhi I n a b k na nl : Nat} {f : Int → Option Value} {m : Str → Option Value} {vas : List Value} {as bs : List Int} {ti : Tok} {h : Heap} {tk : Nat} {pos : Pos} {o242 : Obj} (hh : A.handled = none)
    (Z : St B ((L, NsP m) :: (it, Pit) :: (dj2, MapP f n) :: cs) h) (N : Nm m la lb dj qj ln alo ahi blo bhi) (hsm : (dj2 == sysModules) = false) (hdj : (dj == sysModules) = false) (h242 : B 242 = some o242)
    (mj : m "j2len" = some (.ref dj2)) (m1 : IsI (m "besti") a) (m2 : IsI (m "bestj") b) (m3 : IsI (m "bestsize") k)
    (hB : B2J B dj bs) (hla : B la = some { cls := .type "list", data := .seq vas.toArray na }) (hva : IsInts vas as) (hln : B ln = some { cls := .type "list", data := .seq (List.toArray []) nl }) (hI : alo ≤ I) (hI2 : I < ahi) (hI3 : I < as.length) (hsa : as.length ≤ 100) (hsb : bs.length ≤ 100)
    (hf : MapOk as bs alo blo bhi I f) (hb : Bst as bs alo ahi blo bhi (Dn bhi I) a b k) :
    wpAny (model pw w) A (assign (.Name "i" pos) (flmE L) (.int I ti)) (fun _ s₂ => wpAny (model pw w) A (execs outF (flmE L)) (fun fl s₃ => match fl with
      | .next | .cont => ∃ (f' : Int → Option Value) (n' : Nat) (dj' : Addr) (a' b' k' : Nat) (m' : Str → Option Value) (h' : Heap) (tk' : Nat), s₃ = { s with heap := h', toks := tk' } ∧ St B ((L, NsP m') :: (it, Pit) :: (dj', MapP f' n') :: cs) h' ∧ Nm m' la lb dj qj ln alo ahi blo bhi ∧
          (dj' == sysModules) = false ∧ m' "j2len" = some (.ref dj') ∧ IsI (m' "besti") a' ∧ IsI (m' "bestj") b' ∧ IsI (m' "bestsize") k' ∧ MapOk as bs alo blo bhi (I + 1) f' ∧ Bst as bs alo ahi blo bhi (Dn bhi (I + 1)) a' b' k'
      | _ => False) noE s₂) noE { s with heap := h, toks := tk } := by
  refine cps2 fun Q₀ hQ₀ => ?_
  obtain ⟨ea, eb, ej, eq, en, ⟨ta, eal⟩, ⟨th, eah⟩, ⟨tb, ebl⟩, ⟨tc, ebh⟩⟩ := id N
  have hx : as[I]? = some as[I] := List.getElem?_eq_getElem hI3
  obtain ⟨txa, hxa⟩ := hva.get hx
  obtain ⟨od, fj, nj, hod, mod, ll, ps, nn, eget, hll, hps⟩ := hB.get (x := as[I]) hln
  refine wpAny_assign_Name ?_
  walk_at "go"
  refine wpAny_execs_cons ?_
  walk_at "go"
  rename_i h₂ Z₂
  obtain ⟨o2, ho2, hm2⟩ := Z₂.at_ (i := 2) (a := dj2) (P := MapP f n) rfl
  refine dgetBound ho2 hm2 ?_
  have Z₃ := (Z₂.new (P := IsP (bnd "dict.get" dj2)) (bnd "dict.get" dj2) rfl rfl).swap
  walk_at "go"
  refine wpAny_Dict_empty ?_
  rename_i h₄ Z₄
  have hsm₄ := notSysB Z₄ h242
  have Z₅ := (Z₄.new (P := MapP (fun _ => none) 0) _ rfl MapP.new).swap
  walk_at "go"
  rename_i h₆ Z₆
  try dsimp only
  refine wpAny_For ?_
  refine wpAny_Call_method (by rfl) (by rfl) (by rfl) PySem.F.plainAttrs_dict PySem.F.slot_dict_get PySem.F.type_dict_get ?_
  walk_at "go"
  refine ⟨⟨od, Z₆.sub _ _ hod, mod.1.1⟩, fun a e => by cases e; exact ⟨od, Z₆.sub _ _ hod, mod.1.2.1⟩, ?_⟩
  refine cwB ?_
  walk_at "go"
  refine subL ⟨_, Z₆.sub _ _ hla, rfl, na, rfl⟩ (by lia) (by lia) (x := .int as[I] txa) (by rw [Int.toNat_natCast]; exact hxa) ?_
  walk_at "go"
  refine dgetM (k := as[I]) (Z₆.sub _ _ hod) mod hdj ?_
  rw [eget]
  have Z₇ : St B ((L, NsP _) :: (h₄.objs.size, MapP (fun _ => none) 0) :: (h₂.objs.size, IsP (bnd "dict.get" dj2)) :: (dj2, MapP f n) :: (it, Pit) :: cs) h₆ := Z₆.perm (.cons _ (.cons _ (.cons _ (.swap ..))))
  have Pp := pl_places bs as[I]
  have hfin : ∀ (g : Int → Option Value) (n' a' b' k' : Nat) (m' : Str → Option Value) (h' : Heap) (tk' : Nat) (cx : Cs), St B ((L, NsP m') :: (h₄.objs.size, MapP g n') :: (h₂.objs.size, IsP (bnd "dict.get" dj2)) :: (dj2, MapP f n) :: (it, Pit) :: cs) h' → Nm m' la lb dj qj ln alo ahi blo bhi →
      m' "newj2len" = some (.ref h₄.objs.size) → IsI (m' "besti") a' → IsI (m' "bestj") b' → IsI (m' "bestsize") k' → MapOk as bs alo blo bhi (I + 1) g → Bst as bs alo ahi blo bhi (Dn bhi (I + 1)) a' b' k' →
      wpAny (model pw w) A (execs [nth outF 3] (flmE L)) Q₀ noE { s with heap := h', toks := tk' } := by
    intro g n' a' b' k' m' h' tk' cx W N' e1 e2 e3 e4 hM hBs
    refine wpAny_execs_cons ?_
    refine wpAny_Assign_Name ?_ (by rfl)
    walk_at "go"
    rename_i h₈ W₈
    have W₉ : St B ((L, NsP _) :: (it, Pit) :: (h₄.objs.size, MapP g n') :: cs) h₈ := (W₈.perm ((List.Perm.cons _ ((List.Perm.swap ..).trans (List.Perm.cons _ (List.Perm.swap ..)))).trans ((List.Perm.swap ..).trans (List.Perm.cons _ (List.Perm.swap ..))))).drop.drop.perm (.cons _ (.swap ..))
    refine hQ₀ _ _ ⟨g, n', h₄.objs.size, a', b', k', _, h₈, _, rfl, W₉, N'.upd (by decide), hsm₄, upd_self, e2.upd (by decide), e3.upd (by decide), e4.upd (by decide), hM, hBs⟩
  have hpl : (placesTo bs as[I] bs.length).length ≤ bs.length := by
    unfold placesTo
    rw [List.length_map]
    exact Nat.le_trans (List.length_filter_le _ _) (by simp)
  have hpln := hps.length
  refine forL (vs := ps) hh hll (fun q B' m' cs' => B' = B ∧ ∃ (g : Int → Option Value) (n' a' b' k' : Nat), cs' = (h₄.objs.size, MapP g n') :: (h₂.objs.size, IsP (bnd "dict.get" dj2)) :: (dj2, MapP f n) :: (it, Pit) :: cs ∧ Nm m' la lb dj qj ln alo ahi blo bhi ∧ IsI (m' "i") I ∧ m' "j2lenget" = some (.ref h₂.objs.size) ∧ m' "newj2len" = some (.ref h₄.objs.size) ∧
     IsI (m' "besti") a' ∧ IsI (m' "bestj") b' ∧ IsI (m' "bestsize") k' ∧ n' ≤ q ∧ NewOk as bs alo blo I (placesTo bs as[I] bs.length) q g ∧ Bst as bs alo ahi blo bhi (Dq bhi I (placesTo bs as[I] bs.length) q) a' b' k') Z₇
     ⟨rfl, _, 0, a, b, k, rfl, ((N.upd (by decide)).upd (by decide)).upd (by decide), ⟨_, by walk_at "lk"⟩, by walk_at "lk", by walk_at "lk", ((m1.upd (by decide)).upd (by decide)).upd (by decide), ((m2.upd (by decide)).upd (by decide)).upd (by decide), ((m3.upd (by decide)).upd (by decide)).upd (by decide), Nat.le_refl _, NewOk.start, hb.row0⟩ ?turn ?done
  case turn =>
    rintro q v B' m' cs' itl h' tk' hv le ⟨rfl, g, n', a', b', k', rfl, N', ei, eq', en', e1, e2, e3, hn', hg, hb'⟩ W
    obtain ⟨z, tz, hz, rfl⟩ := hps.getV hv
    obtain ⟨jn, rfl, hbj⟩ := Pp.get hz
    have hql : q < ps.length := (List.getElem?_eq_some_iff.mp hv).1
    refine wpAny_mono (inner_turn (s := s) hh W N' hsm ei eq' en' e1 e2 e3 Pp hx hI hI2 hz (by lia) hf hg hb') (fun _ s₂ hbd => wpAny_mono hbd (fun fl s₃ hfl => ?_) fun _ _ z => z) fun _ _ z => z
    cases fl with
    | next =>
      obtain ⟨g', n'', a'', b'', k'', m'', h'', tk'', rfl, W', r1, r2, r3, r4, r5, r6, r7, r8, r9, r10⟩ := hfl
      exact ⟨B', m'', _, h'', tk'', rfl, Le.refl _, ⟨rfl, g', n'', a'', b'', k'', rfl, r1, r2, r3, r4, r5, r6, r7, by lia, r9, r10⟩, W'⟩
    | cont =>
      obtain ⟨g', n'', a'', b'', k'', m'', h'', tk'', rfl, W', r1, r2, r3, r4, r5, r6, r7, r8, r9, r10⟩ := hfl
      exact ⟨B', m'', _, h'', tk'', rfl, Le.refl _, ⟨rfl, g', n'', a'', b'', k'', rfl, r1, r2, r3, r4, r5, r6, r7, by lia, r9, r10⟩, W'⟩
    | brk =>
      obtain ⟨hbr, m'', h'', tk'', rfl, W', r1, r2, r3, r4, r5⟩ := hfl
      have hall : ∀ p z, (placesTo bs as[I] bs.length)[p]? = some z → z < (bhi : Int) → p < q := by
        intro p z hp hzb
        by_cases hpq : p < q
        · exact hpq
        · exfalso
          by_cases e : p = q
          · subst e; rw [hz] at hp; injection hp with hp; lia
          · have := Pp.lt hz hp (by lia); lia
      exact hfin g n' a' b' k' m'' h'' tk'' [] W'.swap.drop r1 r2 r3 r4 r5 (hg.done Pp hx hall) (hb'.rowEnd Pp hx hall)
    | ret v => exact hfl.elim
  case done =>
    rintro B' m' cs' h' tk' le ⟨rfl, g, n', a', b', k', rfl, N', ei, eq', en', e1, e2, e3, hn', hg, hb'⟩ W
    have hall : ∀ p z, (placesTo bs as[I] bs.length)[p]? = some z → z < (bhi : Int) → p < ps.length := fun p z hp _ => by
      have := (List.getElem?_eq_some_iff.mp hp).1; lia
    exact hfin g n' a' b' k' m' h' tk' [] W N' en' e1 e2 e3 (hg.done Pp hx hall) (hb'.rowEnd Pp hx hall)
end
end
section
open PySem PySem.W PyProof.Rows PySem.Builtin PySem.Builtin.ObjectAttr
set_option Elab.async false
set_option maxRecDepth 100000
section
variable {P : Params} {d : Nat → Value} {w : World} {A : Around} {E : Value → Shared → Prop} {s : Shared} {B : PM} {cs : Cs} {h₀ : Heap} {mg : Str → Option Value}
theorem u_new : findCls (KD P d) (.type "tuple") (.type "type") "__new__" = some (.val (.builtin "tuple.__new__")) := by kernel_rfl
theorem getm_tuple {prog : Program} {pl : Sem Bool} {Q : Value × List Value → Shared → Prop} (X : (KD P d).In s.heap) (h : Q (.builtin "tuple.__new__", []) { s with toks := s.toks + 1 }) :
    wpAny (model prog w) A (getMethod (.type "tuple") "__new__" pl) Q E s := by
  have hstub : opaqueClassAbove (.type "tuple") = pure none := by unfold opaqueClassAbove; dsimp only; rw [show Manifest.isStub "tuple" = false by decide +kernel]; rfl
  have ht : typeOf (.type "tuple") = pure (.type "type") := by first | rfl | kernel_rfl
  have L0 : Looks (model prog w) s.heap (typeOf (.type "tuple")) (.type "type") := Looks.of_pure ht
  unfold getMethod specialOf
  refine wpAny_bind (wpAny_bind (L0.here ((looks_findIn X q_ga).here ?_)))
  try dsimp only
  rw [if_pos canon_tga]
  refine wpAny_bind (wpAny_mono (Q := fun v => Q (v, [])) (E := E) ?_ (fun _ _ z => wpAny_pure z) fun _ _ z => z)
  have LO : Looks (model prog w) s.heap (opaqueClassAbove (.type "tuple")) none := Looks.of_pure hstub
  refine cls_open X LO L0 q_ga (looks_hook X (r := none) (by rfl)) q_sub u_new ?_
  exact wpAny_pure (by show wpAny _ _ (handedOut _) _ _ _; rw [handedOut_of (by rfl)]; exact wpAny_pure h)
set_option maxHeartbeats 4000000 in
theorem mkMatch {a b c : Int} {ta tb tc : Tok} {Q : Value → Shared → Prop} (R : Rm A 3 60) (G : G0 h₀ mg) (Bn : Bi mg) (K0 : In0 h₀ B) (KX : (KD P d).In h₀) (Sx : Stat h₀) (X : St B cs s.heap)
    (hQ : ∀ B' x dd h' tk, Le B B' → B' x = some (mObj dd #[.int a ta, .int b tb, .int c tc]) → St B' cs h' → Q (.ref x) { s with heap := h', toks := tk }) :
    wpAny (model pw w) A (call (.ref 135) [.int a ta, .int b tb, .int c tc]) Q E s := by
  have KI := Kin KX K0 X
  cases s with | mk hh g dr t os =>
  have hC := KI _ _ (q_o (P := P) (d := d))
  have Lc := looks_specialIn (M := model pw w) KI q_call
  have Lt := looks_instIn (M := model pw w) KI q_inst
  have hc : clsIn (KD P d) 135 = some cd135 := by unfold clsIn; rw [q_o]
  have hm : Looks (model pw w) hh (mroOf (.ref 135)) cd135.mro := (looks_clsIn KI hc).andThen .now
  have Lm := looks_made (M := model pw w) KI
  refine wpAny_call (codeAny_of_tree ?_)
  show wpAny _ _ (callAny (.ref 135) _) _ _ _
  refine nd_load hC ?_
  show wpAny _ _ (callAny.viaDunder (.ref 135) _) _ _ _
  unfold callAny.viaDunder
  refine wpAny_bind (Lc.at ?_)
  try dsimp only
  rw [tc_bind]
  refine wpAny_bind (wpAny_pure (wpAny_bind (wpAny_pure ?_)))
  refine wpAny_pure (a := Fin.again (.call (.builtin "type.__call__") ⟨[.ref 135, .int a ta, .int b tb, .int c tc], []⟩)) (And.intro rfl ?_)
  refine codeAny_call_builtin_at (Code.quiet_builtin _ (by decide +kernel)) entry_typeCall ?_
  refine check_slot (i := "type.__call__") (owner := "type") (n := "__call__") tc_kind tc_split Lt (tc_args _ _ _) ?_
  unfold Builtin.«type.__call__»
  try dsimp only
  rw [if_neg (by decide)]
  refine wpAny_bind (hm.at ?_)
  rw [if_neg (by decide)]
  refine wpAny_bind (Lm.at ?_)
  try dsimp only
  refine wpAny_bind ?_
  refine cls_open KI (looks_opq (Sx.keeps (K0.keep X))) (looks_typeIn KI q_typ) q_ga (looks_hook KI (r := none) (by rfl)) q_sub q_new ?_
  refine wpAny_bind (wpAny_holding (wpAny_mono (wpAny_call (sm_get (s := ⟨hh, g, dr, t + 1, os⟩) (f := .ref 82) (rest := []) KI q_rec ?_)) (fun _ _ z => wpAny_pure z) fun _ _ z => z))
  refine handed_on (by rfl) ?_
  refine wpAny_bind (wpAny_holding ?_)
  have R1 : Rm (A.under (.builtin "type.__call__" ⟨[.ref 135, .int a ta, .int b tb, .int c tc], []⟩)) 2 50 := ⟨R.handled, by have := R.depth; show A.depth + Code.weight _ + 2 ≤ 999; rw [show Code.weight (.builtin "type.__call__" ⟨[.ref 135, .int a ta, .int b tb, .int c tc], []⟩) = 1 by rfl]; lia, by have := R.units; show A.units + Code.cUnits _ + 50 ≤ 9800; rw [show Code.cUnits (.builtin "type.__call__" ⟨[.ref 135, .int a ta, .int b tb, .int c tc], []⟩) = 1 by rfl]; lia⟩
  refine callM (s := ⟨hh, g, dr, t + 1, os⟩) (d := 1) (binds := [("_cls", .ref 135), ("a", .int a ta), ("b", .int b tb), ("size", .int c tc)]) R1 G K0 KX X q_82 q_c82 (.of_eq (by rfl)) (locs (by rfl)) (fun h₁ L tk Y => ?_) (by rfl) (by rfl) (by rfl) (by decide +kernel)
  refine wpAny_execs_cons ?_
  walk_at "go"
  refine callMeth (by rfl) (by rfl) (by rfl) ?_
  refine ldBi G K0 Y Bn.tuple boot_tuple ?_
  intro pl
  refine getm_tuple (Kin KX K0 Y) ?_
  try dsimp only
  refine cwB ?_
  walk_at "go"
  refine wpAny_Tuple ?_
  walk_at "go"
  refine ⟨by show 3 ≤ sizeLine; rw [sizeLine_eq]; lia, ?_⟩
  have Y₂ := (Y.new (P := fun _ => True) { cls := .type "tuple", data := .seq (List.toArray [.int a ta, .int b tb, .int c tc]) } rfl trivial)
  walk_at "go"
  try dsimp only
  refine tuple_new (P := P) (d := d) K0 KX Y₂ ⟨_, Heap.get?_push_size _ rfl, rfl, _, rfl⟩ (by show 3 ≤ 100; lia) fun B' x dd h' le hx W => ?_
  try dsimp only
  replace W := W.drop.drop
  have KI' := Kin KX (K0.le le) W
  have L0 := mObj_type (M := model pw w) (W.sub _ _ hx)
  have L1 := looks_mroIn (M := model pw w) KI' q_self
  have L5 := looks_findIn (M := model pw w) KI' q_init
  refine wpAny_bind (wpAny_bind (L0.at (L1.at ?_)))
  simp only [Bool.not_true, Bool.false_eq_true, if_false]
  refine wpAny_bind (wpAny_holding ?_)
  unfold callSpecial? specialOf
  refine wpAny_bind (wpAny_bind (L0.at (L5.at ?_)))
  try dsimp only
  refine wpAny_holding ?_
  rw [oi_bind]
  refine wpAny_bind (wpAny_pure ?_)
  try dsimp only
  refine wpAny_bind (call_init (P := P) (d := d) KI' (W.sub _ _ hx) ?_)
  refine wpAny_pure ?_
  try dsimp only
  rw [if_neg (by decide)]
  exact wpAny_pure (hQ B' x dd h' _ le hx W)
end
end
section
open PySem PySem.W PyProof.Rows
set_option Elab.async false
set_option maxRecDepth 100000
def whTest : Stmt → Expr | .While t _ _ _ => t | _ => .Constant .none 0 default
def wt (i : Nat) : Expr := whTest (nth (fnBody (mth 5 6)) i)
section
variable {prog : Program} {w : World} {A : Around} {E : Value → Shared → Prop} {s : Shared} {B : PM} {r : Cs}
theorem whileF {env : Env} {test : Expr} {body : List Stmt} {pos : Pos} {Q : Flow → Shared → Prop} (h : wpAny (model prog w) A (isTrue test env (eval test env)) (fun b s₂ => b = false ∧ ∃ tk, s₂ = { s with toks := tk }) noE s) (k : ∀ tk, Q .next { s with toks := tk }) :
    wpAny (model prog w) A (exec (.While test body [] pos) env) Q E s := by
  refine whileW (fun _ s' => s' = s) (fun n s' e => ?_) 0 rfl
  subst e
  refine wpAny_mono h (fun b s₂ hb => ?_) fun _ _ z => z
  obtain ⟨rfl, tk, rfl⟩ := hb
  exact iteF (k tk)
variable {la lb dj qj ln L sj : Addr} {alo ahi blo bhi bi bj bk na nb : Nat} {m : Str → Option Value} {vas vbs : List Value} {as bs : List Int} {h : Heap} {tk : Nat} {osj : Obj}
theorem best_left (hb : Best as bs alo ahi blo bhi bi bj bk) (h1 : alo < bi) (h2 : blo < bj) {x y : Int} (ha : as[bi - 1]? = some x) (hb' : bs[bj - 1]? = some y) : x ≠ y := by
  intro e
  subst e
  have := (hb.most (bi - 1) (bj - 1) (bk + 1) (by lia) (by lia) (by have := hb.hi1; lia) (by have := hb.hi2; lia) fun t ht => ?_).1
  · lia
  · cases t with
    | zero => exact ⟨x, by simpa using ha, by simpa using hb'⟩
    | succ t =>
      obtain ⟨z, z1, z2⟩ := hb.mt t (by lia)
      exact ⟨z, by rw [show bi - 1 + (t + 1) = bi + t by lia]; exact z1, by rw [show bj - 1 + (t + 1) = bj + t by lia]; exact z2⟩
theorem best_right (hb : Best as bs alo ahi blo bhi bi bj bk) (h1 : bi + bk < ahi) (h2 : bj + bk < bhi) {x y : Int} (ha : as[bi + bk]? = some x) (hb' : bs[bj + bk]? = some y) : x ≠ y := by
  intro e
  subst e
  have := (hb.most bi bj (bk + 1) hb.lo1 hb.lo2 (by lia) (by lia) fun t ht => ?_).1
  · lia
  · by_cases e : t < bk
    · exact hb.mt t e
    · have : t = bk := by lia
      subst this
      exact ⟨x, ha, hb'⟩
set_option maxHeartbeats 4000000 in
theorem wt8 (Z : St B ((L, NsP m) :: r) h) (N : Nm m la lb dj qj ln alo ahi blo bhi) (m1 : IsI (m "besti") bi) (m2 : IsI (m "bestj") bj) (hqj : B qj = some (bnd "set.__contains__" sj)) (hsj : B sj = some osj) (psj : SetP osj)
    (ha : B la = some { cls := .type "list", data := .seq vas.toArray na }) (hva : IsInts vas as) (hb : B lb = some { cls := .type "list", data := .seq vbs.toArray nb }) (hvb : IsInts vbs bs) (hsa : as.length ≤ 100) (hsb : bs.length ≤ 100) (h2 : ahi ≤ as.length) (h4 : bhi ≤ bs.length)
    (hBs : Best as bs alo ahi blo bhi bi bj bk) :
    wpAny (model pw w) A (isTrue (wt 8) (flmE L) (eval (wt 8) (flmE L))) (fun b s₂ => b = false ∧ ∃ tk', s₂ = { s with heap := h, toks := tk' }) noE { s with heap := h, toks := tk } := by
  obtain ⟨ea, eb, ej, eq, en, ⟨ta, eal⟩, ⟨th, eah⟩, ⟨tb, ebl⟩, ⟨tc, ebh⟩⟩ := id N
  obtain ⟨u1, em1⟩ := id m1
  obtain ⟨u2, em2⟩ := id m2
  refine wpAny_isTrue_BoolOp ?_
  walk_at "go"
  by_cases c1 : (alo : Int) < bi
  rotate_left
  · rw [decide_eq_false c1]
    walk_at "go"
    exact ⟨rfl, _, rfl⟩
  rw [decide_eq_true c1]
  walk_at "go"
  by_cases c2 : (blo : Int) < bj
  rotate_left
  · rw [decide_eq_false c2]
    walk_at "go"
    exact ⟨rfl, _, rfl⟩
  rw [decide_eq_true c2]
  walk_at "go"
  have hA : as[bi - 1]? = some (as[bi - 1]'(by have := hBs.hi1; lia)) := List.getElem?_eq_getElem _
  have hB : bs[bj - 1]? = some (bs[bj - 1]'(by have := hBs.hi2; lia)) := List.getElem?_eq_getElem _
  obtain ⟨tx, hx⟩ := hva.get hA
  obtain ⟨ty, hy⟩ := hvb.get hB
  have hne := best_left hBs (by lia) (by lia) hA hB
  have i1 : ((bi : Int) - 1).toNat = bi - 1 := by lia
  have i2 : ((bj : Int) - 1).toNat = bj - 1 := by lia
  refine wpAny_isTrue_value ?_
  refine callBnd (bi := "set.__contains__") (d := sj) Z (by walk_at "lk") ?_
  walk_at "go"
  refine subL ⟨_, Z.sub _ _ hb, rfl, nb, rfl⟩ (by lia) (by have := hBs.hi2; lia) (by rw [i2]; exact hy) ?_
  walk_at "go"
  refine ⟨Z.sub _ _ hqj, ?_⟩
  refine shasB (Z.sub _ _ hsj) psj (Z.sub _ _ hqj) ?_
  walk_at "go"
  rw [Bool.not_false]
  walk_at "go"
  refine subL ⟨_, Z.sub _ _ ha, rfl, na, rfl⟩ (by lia) (by have := hBs.hi1; lia) (by rw [i1]; exact hx) ?_
  walk_at "go"
  refine subL ⟨_, Z.sub _ _ hb, rfl, nb, rfl⟩ (by lia) (by have := hBs.hi2; lia) (by rw [i2]; exact hy) ?_
  try refine eq_int ?_
  rw [beq_eq_false_iff_ne.mpr hne]
  walk_at "go"
  exact ⟨rfl, _, rfl⟩
set_option maxHeartbeats 4000000 in
theorem wt9 (Z : St B ((L, NsP m) :: r) h) (N : Nm m la lb dj qj ln alo ahi blo bhi) (m1 : IsI (m "besti") bi) (m2 : IsI (m "bestj") bj) (m3 : IsI (m "bestsize") bk) (hqj : B qj = some (bnd "set.__contains__" sj)) (hsj : B sj = some osj) (psj : SetP osj)
    (ha : B la = some { cls := .type "list", data := .seq vas.toArray na }) (hva : IsInts vas as) (hb : B lb = some { cls := .type "list", data := .seq vbs.toArray nb }) (hvb : IsInts vbs bs) (hsa : as.length ≤ 100) (hsb : bs.length ≤ 100) (h2 : ahi ≤ as.length) (h4 : bhi ≤ bs.length)
    (hBs : Best as bs alo ahi blo bhi bi bj bk) :
    wpAny (model pw w) A (isTrue (wt 9) (flmE L) (eval (wt 9) (flmE L))) (fun b s₂ => b = false ∧ ∃ tk', s₂ = { s with heap := h, toks := tk' }) noE { s with heap := h, toks := tk } := by
  obtain ⟨ea, eb, ej, eq, en, ⟨ta, eal⟩, ⟨th, eah⟩, ⟨tb, ebl⟩, ⟨tc, ebh⟩⟩ := id N
  obtain ⟨u1, em1⟩ := id m1
  obtain ⟨u2, em2⟩ := id m2
  obtain ⟨u3, em3⟩ := id m3
  refine wpAny_isTrue_BoolOp ?_
  walk_at "go"
  by_cases c1 : (bi : Int) + bk < ahi
  rotate_left
  · rw [decide_eq_false c1]
    walk_at "go"
    exact ⟨rfl, _, rfl⟩
  rw [decide_eq_true c1]
  walk_at "go"
  by_cases c2 : (bj : Int) + bk < bhi
  rotate_left
  · rw [decide_eq_false c2]
    walk_at "go"
    exact ⟨rfl, _, rfl⟩
  rw [decide_eq_true c2]
  walk_at "go"
  have hA : as[bi + bk]? = some (as[bi + bk]'(by lia)) := List.getElem?_eq_getElem _
  have hB : bs[bj + bk]? = some (bs[bj + bk]'(by lia)) := List.getElem?_eq_getElem _
  obtain ⟨tx, hx⟩ := hva.get hA
  obtain ⟨ty, hy⟩ := hvb.get hB
  have hne := best_right hBs (by lia) (by lia) hA hB
  have i1 : ((bi : Int) + bk).toNat = bi + bk := by lia
  have i2 : ((bj : Int) + bk).toNat = bj + bk := by lia
  refine wpAny_isTrue_value ?_
  refine callBnd (bi := "set.__contains__") (d := sj) Z (by walk_at "lk") ?_
  walk_at "go"
  refine subL ⟨_, Z.sub _ _ hb, rfl, nb, rfl⟩ (by lia) (by have := hBs.hi2; lia) (by rw [i2]; exact hy) ?_
  walk_at "go"
  refine ⟨Z.sub _ _ hqj, ?_⟩
  refine shasB (Z.sub _ _ hsj) psj (Z.sub _ _ hqj) ?_
  walk_at "go"
  rw [Bool.not_false]
  walk_at "go"
  refine subL ⟨_, Z.sub _ _ ha, rfl, na, rfl⟩ (by lia) (by have := hBs.hi1; lia) (by rw [i1]; exact hx) ?_
  walk_at "go"
  refine subL ⟨_, Z.sub _ _ hb, rfl, nb, rfl⟩ (by lia) (by have := hBs.hi2; lia) (by rw [i2]; exact hy) ?_
  try refine eq_int ?_
  rw [beq_eq_false_iff_ne.mpr hne]
  walk_at "go"
  exact ⟨rfl, _, rfl⟩
set_option maxHeartbeats 4000000 in
theorem wt10 (Z : St B ((L, NsP m) :: r) h) (N : Nm m la lb dj qj ln alo ahi blo bhi) (m1 : IsI (m "besti") bi) (m2 : IsI (m "bestj") bj) (hqj : B qj = some (bnd "set.__contains__" sj)) (hsj : B sj = some osj) (psj : SetP osj)
    (ha : B la = some { cls := .type "list", data := .seq vas.toArray na }) (hva : IsInts vas as) (hb : B lb = some { cls := .type "list", data := .seq vbs.toArray nb }) (hvb : IsInts vbs bs) (hsa : as.length ≤ 100) (hsb : bs.length ≤ 100) (h2 : ahi ≤ as.length) (h4 : bhi ≤ bs.length)
    (hBs : Best as bs alo ahi blo bhi bi bj bk) :
    wpAny (model pw w) A (isTrue (wt 10) (flmE L) (eval (wt 10) (flmE L))) (fun b s₂ => b = false ∧ ∃ tk', s₂ = { s with heap := h, toks := tk' }) noE { s with heap := h, toks := tk } := by
  obtain ⟨ea, eb, ej, eq, en, ⟨ta, eal⟩, ⟨th, eah⟩, ⟨tb, ebl⟩, ⟨tc, ebh⟩⟩ := id N
  obtain ⟨u1, em1⟩ := id m1
  obtain ⟨u2, em2⟩ := id m2
  refine wpAny_isTrue_BoolOp ?_
  walk_at "go"
  by_cases c1 : (alo : Int) < bi
  rotate_left
  · rw [decide_eq_false c1]
    walk_at "go"
    exact ⟨rfl, _, rfl⟩
  rw [decide_eq_true c1]
  walk_at "go"
  by_cases c2 : (blo : Int) < bj
  rotate_left
  · rw [decide_eq_false c2]
    walk_at "go"
    exact ⟨rfl, _, rfl⟩
  rw [decide_eq_true c2]
  walk_at "go"
  have hA : as[bi - 1]? = some (as[bi - 1]'(by have := hBs.hi1; lia)) := List.getElem?_eq_getElem _
  have hB : bs[bj - 1]? = some (bs[bj - 1]'(by have := hBs.hi2; lia)) := List.getElem?_eq_getElem _
  obtain ⟨tx, hx⟩ := hva.get hA
  obtain ⟨ty, hy⟩ := hvb.get hB
  have hne := best_left hBs (by lia) (by lia) hA hB
  have i1 : ((bi : Int) - 1).toNat = bi - 1 := by lia
  have i2 : ((bj : Int) - 1).toNat = bj - 1 := by lia
  refine wpAny_isTrue_value ?_
  refine callBnd (bi := "set.__contains__") (d := sj) Z (by walk_at "lk") ?_
  walk_at "go"
  refine subL ⟨_, Z.sub _ _ hb, rfl, nb, rfl⟩ (by lia) (by have := hBs.hi2; lia) (by rw [i2]; exact hy) ?_
  walk_at "go"
  refine ⟨Z.sub _ _ hqj, ?_⟩
  refine shasB (Z.sub _ _ hsj) psj (Z.sub _ _ hqj) ?_
  walk_at "go"
  exact ⟨rfl, _, rfl⟩
set_option maxHeartbeats 4000000 in
theorem wt11 (Z : St B ((L, NsP m) :: r) h) (N : Nm m la lb dj qj ln alo ahi blo bhi) (m1 : IsI (m "besti") bi) (m2 : IsI (m "bestj") bj) (m3 : IsI (m "bestsize") bk) (hqj : B qj = some (bnd "set.__contains__" sj)) (hsj : B sj = some osj) (psj : SetP osj)
    (ha : B la = some { cls := .type "list", data := .seq vas.toArray na }) (hva : IsInts vas as) (hb : B lb = some { cls := .type "list", data := .seq vbs.toArray nb }) (hvb : IsInts vbs bs) (hsa : as.length ≤ 100) (hsb : bs.length ≤ 100) (h2 : ahi ≤ as.length) (h4 : bhi ≤ bs.length)
    (hBs : Best as bs alo ahi blo bhi bi bj bk) :
    wpAny (model pw w) A (isTrue (wt 11) (flmE L) (eval (wt 11) (flmE L))) (fun b s₂ => b = false ∧ ∃ tk', s₂ = { s with heap := h, toks := tk' }) noE { s with heap := h, toks := tk } := by
  obtain ⟨ea, eb, ej, eq, en, ⟨ta, eal⟩, ⟨th, eah⟩, ⟨tb, ebl⟩, ⟨tc, ebh⟩⟩ := id N
  obtain ⟨u1, em1⟩ := id m1
  obtain ⟨u2, em2⟩ := id m2
  obtain ⟨u3, em3⟩ := id m3
  refine wpAny_isTrue_BoolOp ?_
  walk_at "go"
  by_cases c1 : (bi : Int) + bk < ahi
  rotate_left
  · rw [decide_eq_false c1]
    walk_at "go"
    exact ⟨rfl, _, rfl⟩
  rw [decide_eq_true c1]
  walk_at "go"
  by_cases c2 : (bj : Int) + bk < bhi
  rotate_left
  · rw [decide_eq_false c2]
    walk_at "go"
    exact ⟨rfl, _, rfl⟩
  rw [decide_eq_true c2]
  walk_at "go"
  have hA : as[bi + bk]? = some (as[bi + bk]'(by lia)) := List.getElem?_eq_getElem _
  have hB : bs[bj + bk]? = some (bs[bj + bk]'(by lia)) := List.getElem?_eq_getElem _
  obtain ⟨tx, hx⟩ := hva.get hA
  obtain ⟨ty, hy⟩ := hvb.get hB
  have hne := best_right hBs (by lia) (by lia) hA hB
  have i1 : ((bi : Int) + bk).toNat = bi + bk := by lia
  have i2 : ((bj : Int) + bk).toNat = bj + bk := by lia
  refine wpAny_isTrue_value ?_
  refine callBnd (bi := "set.__contains__") (d := sj) Z (by walk_at "lk") ?_
  walk_at "go"
  refine subL ⟨_, Z.sub _ _ hb, rfl, nb, rfl⟩ (by lia) (by have := hBs.hi2; lia) (by rw [i2]; exact hy) ?_
  walk_at "go"
  refine ⟨Z.sub _ _ hqj, ?_⟩
  refine shasB (Z.sub _ _ hsj) psj (Z.sub _ _ hqj) ?_
  walk_at "go"
  exact ⟨rfl, _, rfl⟩
end
end
section
open PySem PySem.W PyProof.Rows
set_option Elab.async false
set_option maxRecDepth 100000
section
variable {w : World} {A : Around} {E : Value → Shared → Prop} {s : Shared} {B : PM} {cs : Cs} {h₀ : Heap} {mg : Str → Option Value} {P : Params} {d : Nat → Value} {x : Addr} {Q : Value → Shared → Prop}
theorem is_int_no {M : Model} {a : Int} {t : Tok} {Q : Value → Shared → Prop} (h : Q (.bool false) s) : wpAny M A (compareOp .Is (.int a t) .none) Q E s := is_int_none h
theorem rangeSt2 {prog : Program} {a b : Int} {t u : Tok} {Q : Value → Shared → Prop} (X : St B cs s.heap) (h : ∀ r h' tk t u v, IsRange h' r a b 1 t u v → St B cs h' → Q (.ref r) { s with heap := h', toks := tk }) :
    wpAny (model prog w) A (call (.type "range") [.int a t, .int b u]) Q E s :=
  call_range_2 (h _ _ _ _ _ _ (Heap.get?_push_size _ rfl) (X.new (P := fun _ => True) _ rfl trivial).drop)
theorem rangeSt1 {prog : Program} {b : Int} {u : Tok} {Q : Value → Shared → Prop} (X : St B cs s.heap) (h : ∀ r h' tk t u v, IsRange h' r 0 b 1 t u v → St B cs h' → Q (.ref r) { s with heap := h', toks := tk }) :
    wpAny (model prog w) A (call (.type "range") [.int b u]) Q E s :=
  call_range_1 (h _ _ _ _ _ _ (Heap.get?_push_size _ rfl) (X.new (P := fun _ => True) _ rfl trivial).drop)
theorem range_size {a b : Nat} (h : a ≤ b) : Builtin.Range.rangeSize a b 1 = ((b - a : Nat) : Int) := by
  unfold Builtin.Range.rangeSize
  rw [if_pos (by decide)]
  by_cases e : (a : Int) < b
  · rw [if_pos e, Int.ediv_one]; lia
  · rw [if_neg e]; lia
theorem small_ok {a b : Nat} (h : a ≤ b) (hb : b ≤ 1000) : Builtin.Range.small a b 1 = true := by
  unfold Builtin.Range.small
  rw [range_size h]
  unfold Builtin.Range.rangeFitsLong
  simp only [Bool.and_eq_true, decide_eq_true_eq, Bool.or_eq_true]
  refine ⟨⟨⟨⟨?_, ?_⟩, ?_⟩, ?_⟩, .inr ?_⟩
  all_goals first | lia | (rw [if_pos (by decide)]; simp only [Bool.and_eq_true, decide_eq_true_eq]; lia)
set_option maxHeartbeats 8000000 in
theorem flm_spec {la lb : Addr} {vas vbs : List Value} {as bs : List Int} {na nb alo ahi blo bhi : Nat} {t1 t2 t3 t4 : Tok} (R : Rm A 8 200) (G : G0 h₀ mg) (Bn : Bi mg) (mM : mg "Match" = some (.ref 135)) (K0 : In0 h₀ B) (KX : (KD P d).In h₀) (Sx : Stat h₀) (X : St B cs s.heap) (S : SM B x la lb bs)
    (ha : B la = some { cls := .type "list", data := .seq vas.toArray na }) (hva : IsInts vas as) (hb : B lb = some { cls := .type "list", data := .seq vbs.toArray nb }) (hvb : IsInts vbs bs) (hsa : as.length ≤ 100) (hsb : bs.length ≤ 100)
    (h1 : alo ≤ ahi) (h2 : ahi ≤ as.length) (h3 : blo ≤ bhi) (h4 : bhi ≤ bs.length)
    (hQ : ∀ i j k B' T dd ti tj tz h' tk, Best as bs alo ahi blo bhi i j k → Le B B' → B' T = some (mObj dd #[.int (i : Nat) ti, .int (j : Nat) tj, .int (k : Nat) tz]) → St B' cs h' → Q (.ref T) { s with heap := h', toks := tk }) :
    wpAny (model pw w) A (call (.ref 196) [.ref x, .int alo t1, .int ahi t2, .int blo t3, .int bhi t4]) Q E s := by
  obtain ⟨dx, od, l, k, dj, sj, osj, hx, hdx, hod, la1, lb1, lj1, ls1, -, hB, hsj, psj⟩ := S.h
  refine callM (d := 7) (binds := [("self", .ref x), ("alo", .int alo t1), ("ahi", .int ahi t2), ("blo", .int blo t3), ("bhi", .int bhi t4)]) R G K0 KX X kl_196 kc_196 ?_ (locs (by rfl)) (fun h₁ L tk Y => ?_) (by rfl) (by rfl) (by rfl) (by decide +kernel)
  · exact binds_K (Kin KX K0 X) rfl (o := { cls := .type "tuple", data := .seq (List.toArray [.int 0 464, .none, .int 0 465, .none]) }) (T := 189) (by kernel_rfl) rfl (by rfl) (by rfl)
  refine wpAny_execs_cons ?_
  walk_at "go"
  refine Assign_Tuple ?_
  refine wpAny_Tuple ?_
  walk_at "go"
  refine getB KX K0 Y hdx hod hx kn_a la1 rfl ?_
  walk_at "go"
  refine getB KX K0 Y hdx hod hx kn_b lb1 rfl ?_
  walk_at "go"
  refine getB KX K0 Y hdx hod hx kn_b2j lj1 rfl ?_
  walk_at "go"
  refine getB KX K0 Y hdx hod hx kn_bjunk ls1 rfl ?_
  walk_at "go"
  refine shasBound (Y.sub _ _ hsj) psj ?_
  obtain ⟨Y₂, le₂⟩ := Y.newB (bnd "set.__contains__" sj) rfl
  walk_at "go"
  refine ⟨by show 4 ≤ sizeLine; rw [sizeLine_eq]; lia, ?_⟩
  try dsimp only
  refine unpackT R.handled (Y₂.new (P := fun _ => True) _ rfl trivial).swap ⟨_, Heap.get?_push_size _ rfl, rfl, _, rfl⟩ (by rfl) (by rfl) fun h₃ Y₃ => ?_
  try refine shN s h₃ fun tkn1 => ?_
  replace Y₃ := Y₃.swap.drop
  have hqj : (B.add h₁.objs.size (bnd "set.__contains__" sj)) h₁.objs.size = some (bnd "set.__contains__" sj) := PM.add_self
  clear Y₂ Y
  revert le₂ Y₃ hqj
  generalize B.add h₁.objs.size (bnd "set.__contains__" sj) = B₁
  generalize h₁.objs.size = qj
  intro le₂ Y₃ hqj
  refine PyProof.Rows.assignInOrder_cons (wpAny_assign_Name ?_)
  walk_at "go"
  refine PyProof.Rows.assignInOrder_cons (wpAny_assign_Name ?_)
  walk_at "go"
  refine PyProof.Rows.assignInOrder_cons (wpAny_assign_Name ?_)
  walk_at "go"
  refine PyProof.Rows.assignInOrder_cons (wpAny_assign_Name ?_)
  walk_at "go"
  refine PyProof.Rows.assignInOrder_nil ?_
  walk_at "go"
  refine is_int_no ?_
  walk_at "go"
  refine is_int_no ?_
  walk_at "go"
  refine Assign_Tuple_swapped (names := ["besti", "bestj", "bestsize"]) ?_
  refine wpAny_Tuple ?_
  walk_at "go"
  refine ⟨by show 3 ≤ sizeLine; rw [sizeLine_eq]; lia, ?_⟩
  try dsimp only
  rename_i h₄ Y₄
  refine unpackIt R.handled (Y₄.new (P := fun _ => True) _ rfl trivial).swap ⟨_, Heap.get?_push_size _ rfl, rfl, _, rfl⟩ (by rfl) fun h₅ Y₅ => ?_
  try refine shN s h₅ fun tkn2 => ?_
  replace Y₅ := Y₅.swap.drop
  refine PyProof.Rows.assignInOrder_cons (bindName_ ?_)
  walk_at "go"
  refine PyProof.Rows.assignInOrder_cons (bindName_ ?_)
  walk_at "go"
  refine PyProof.Rows.assignInOrder_cons (bindName_ ?_)
  walk_at "go"
  refine PyProof.Rows.assignInOrder_nil ?_
  walk_at "go"
  try dsimp only
  rename_i h₆ Y₆
  refine wpAny_Dict_empty ?_
  have h242 : B₁ 242 = some _ := le₂ _ _ (K0 _ _ (KX 242 _ (by rfl)))
  have hsm := notSysB Y₆ h242
  have Y₇ := (Y₆.new (P := MapP (fun _ => none) 0) _ rfl MapP.new).swap
  revert hsm Y₇
  generalize h₆.objs.size = dj2
  intro hsm Y₇
  walk_at "go"
  refine wpAny_List ?_
  walk_at "go"
  refine ⟨Nat.zero_le _, ?_⟩
  rename_i h₈ Y₈
  obtain ⟨Y₉, le₉⟩ := Y₈.newB { cls := .type "list", data := .seq (List.toArray []) } rfl
  have hln : (B₁.add h₈.objs.size { cls := .type "list", data := .seq (List.toArray []) }) h₈.objs.size = some { cls := .type "list", data := .seq (List.toArray []) } := PM.add_self
  revert le₉ Y₉ hln
  generalize B₁.add h₈.objs.size { cls := .type "list", data := .seq (List.toArray []) } = B₂
  generalize h₈.objs.size = ln
  intro Y₉ le₉ hln
  walk_at "go"
  try dsimp only
  have le := le₂.trans le₉
  have K2 := K0.le le
  rename_i h₁₀ Y₁₀
  refine wpAny_For ?_
  refine callT G K2 Y₁₀ Bn.range boot_range ?_
  walk_at "go"
  refine rangeSt2 Y₁₀ fun r h₁₁ tk₁₁ u1 u2 u3 hr Y₁₁ => ?_
  try refine shN s h₁₁ fun tkn3 => ?_
  have hB2 : B2J B₂ dj bs := by
    obtain ⟨q0, odj, f, n, q1, q2, q3⟩ := hB
    refine ⟨q0, odj, f, n, le _ _ q1, q2, fun z => ?_⟩
    rcases q3 z with q | ⟨a, ps, nn, r1, r2, r3⟩
    · exact .inl q
    · exact .inr ⟨a, ps, nn, r1, le _ _ r2, r3⟩
  have hdj : (dj == sysModules) = false := hB.1
  refine forR (a := alo) (b := ahi) (c := 1) (N := ahi - alo) R.handled hr (small_ok h1 (by lia)) (range_size h1)
    (fun i B' m' cs' => B' = B₂ ∧ ∃ (f : Int → Option Value) (n : Nat) (dj2 : Addr) (a b k : Nat), cs' = (dj2, MapP f n) :: cs ∧ Nm m' la lb dj qj ln alo ahi blo bhi ∧ (dj2 == sysModules) = false ∧ m' "j2len" = some (.ref dj2) ∧ IsI (m' "besti") a ∧ IsI (m' "bestj") b ∧ IsI (m' "bestsize") k ∧ MapOk as bs alo blo bhi (alo + i) f ∧ Bst as bs alo ahi blo bhi (Dn bhi (alo + i)) a b k)
    Y₁₁ ⟨rfl, _, 0, dj2, alo, blo, 0, rfl, ⟨by walk_at "lk", by walk_at "lk", by walk_at "lk", by walk_at "lk", by walk_at "lk", ⟨_, by walk_at "lk"⟩, ⟨_, by walk_at "lk"⟩, ⟨_, by walk_at "lk"⟩, ⟨_, by walk_at "lk"⟩⟩, hsm, by walk_at "lk", ⟨_, by walk_at "lk"⟩, ⟨_, by walk_at "lk"⟩, ⟨_, by walk_at "lk"⟩, MapOk.start, Bst.start h1 h3⟩ ?turn ?done
  case turn =>
    rintro i B' m' cs' it h' tk' tv hi le' ⟨rfl, f, n, dj2', a, b, k', rfl, N, hsm', mj, m1, m2, m3, hf, hbs⟩ W
    have e : ((alo : Int) + 1 * (i : Int)) = ((alo + i : Nat) : Int) := by push_cast; lia
    rw [e]
    refine wpAny_mono (outer_turn (s := s) (I := alo + i) R.handled W N hsm' hdj (le₉ _ _ h242) mj m1 m2 m3 hB2 (le _ _ ha) hva hln (by lia) (by lia) (by lia) hsa hsb hf hbs) (fun _ s₂ hb => wpAny_mono hb (fun fl s₃ hfl => ?_) fun _ _ z => z) fun _ _ z => z
    cases fl with
    | next =>
      obtain ⟨f', n', dj', a', b', k'', m'', h'', tk'', rfl, W', r1, r2, r3, r4, r5, r6, r7, r8⟩ := hfl
      exact ⟨B', m'', _, h'', tk'', rfl, Le.refl _, ⟨rfl, f', n', dj', a', b', k'', rfl, r1, r2, r3, r4, r5, r6, r7, r8⟩, W'⟩
    | cont =>
      obtain ⟨f', n', dj', a', b', k'', m'', h'', tk'', rfl, W', r1, r2, r3, r4, r5, r6, r7, r8⟩ := hfl
      exact ⟨B', m'', _, h'', tk'', rfl, Le.refl _, ⟨rfl, f', n', dj', a', b', k'', rfl, r1, r2, r3, r4, r5, r6, r7, r8⟩, W'⟩
    | brk => exact hfl.elim
    | ret v => exact hfl.elim
  case done =>
    rintro B' m' cs' h' tk' le' ⟨rfl, f, n, dj2', bi, bj, bk, rfl, N, hsm', mj, m1, m2, m3, hf, hbs⟩ W
    rw [show alo + (ahi - alo) = ahi by lia] at hbs
    have hBest := hbs.best
    obtain ⟨u1, em1⟩ := id m1
    obtain ⟨u2, em2⟩ := id m2
    obtain ⟨u3, em3⟩ := id m3
    try dsimp only
    refine wpAny_execs_cons ?_
    refine whileF (wt8 (s := s) W N m1 m2 (le₉ _ _ hqj) (le _ _ hsj) psj (le _ _ ha) hva (le _ _ hb) hvb hsa hsb h2 h4 hBest) fun tk₁ => ?_
    try dsimp only
    refine wpAny_execs_cons ?_
    refine whileF (wt9 (s := s) W N m1 m2 m3 (le₉ _ _ hqj) (le _ _ hsj) psj (le _ _ ha) hva (le _ _ hb) hvb hsa hsb h2 h4 hBest) fun tk₂ => ?_
    try dsimp only
    refine wpAny_execs_cons ?_
    refine whileF (wt10 (s := s) W N m1 m2 (le₉ _ _ hqj) (le _ _ hsj) psj (le _ _ ha) hva (le _ _ hb) hvb hsa hsb h2 h4 hBest) fun tk₃ => ?_
    try dsimp only
    refine wpAny_execs_cons ?_
    refine whileF (wt11 (s := s) W N m1 m2 m3 (le₉ _ _ hqj) (le _ _ hsj) psj (le _ _ ha) hva (le _ _ hb) hvb hsa hsb h2 h4 hBest) fun tk₄ => ?_
    try dsimp only
    walk_at "go"
    refine wpAny_Call_NameR (ldG G K2 W mM ?_)
    refine callWith_K (h₀ := h₀) (K := KD P d) KX (by kernel_rfl) ?_
    walk_at "go"
    refine ⟨Kin KX K2 W, ?_⟩
    try dsimp only
    refine mkMatch (R.deep (by lia) (by lia)) G Bn K2 KX Sx W.drop.drop fun B₃ T dd h'' tk'' le₃ hT W₃ => ?_
    try dsimp only
    exact hQ bi bj bk B₃ T dd _ _ _ h'' _ hBest (le.trans le₃) hT W₃
end
end
section
open PySem PySem.W PyProof.Rows
set_option Elab.async false
set_option maxRecDepth 100000
theorem IsInts.to : ∀ {vs : List Value} {xs : List Int}, IsInts vs xs → IntsAre vs xs
  | [], [], _ => .nil
  | _ :: _, _ :: _, ⟨⟨t, e⟩, h⟩ => by subst e; exact .cons _ t h.to
  | [], _ :: _, h => h.elim
  | _ :: _, [], h => h.elim
theorem IsInts.of {vs : List Value} {xs : List Int} (h : IntsAre vs xs) : IsInts vs xs := by
  induction h with
  | nil => trivial
  | cons n t _ ih => exact ⟨⟨t, rfl⟩, ih⟩
theorem IsInts.sm {vs : List Value} {xs : List Int} {n m : Nat} (h : IsInts vs xs) (hn : xs.length ≤ n) (hm : n ≤ m) : vs.length ≤ m := h.length ▸ Nat.le_trans hn hm
theorem IsInts.sl {vs : List Value} {xs : List Int} {n m : Nat} (h : IsInts vs xs) (hn : xs.length ≤ n) (hm : n < m) : vs.length < m := Nat.lt_of_le_of_lt (h.length ▸ hn) hm
section
variable {prog : Program} {w : World} {A : Around} {E : Value → Shared → Prop} {s : Shared} {B : PM} {cs : Cs} {env : Env}
theorem St.kept {h h' : Heap} (X : St B cs h) (k : ∀ b o, h.get? b = some o → h'.get? b = some o) : St B cs h' :=
  ⟨fun b o e => k _ _ (X.sub b o e), fun p hp => let ⟨o, e, q⟩ := X.cells p hp; ⟨o, k _ _ e, q⟩, X.off, X.nd⟩
/-- xs[a:b], a new list -/
theorem sliceSt {value : Expr} {lower upper : Option Expr} {p pos : Pos} {Q : Value → Shared → Prop}
    (h : wpAny (model prog w) A (eval value env) (fun o s₁ => wpAny (model prog w) A (evalPart lower env) (fun vl s₂ => wpAny (model prog w) A (evalPart upper env) (fun vu s₃ =>
      ∃ l vs lo hi B' cs', o = .ref l ∧ s₃.heap.IsList l (List.toArray vs) ∧ vs.length ≤ 1000 ∧ IsPart vl lo ∧ IsPart vu hi ∧ St B' cs' s₃.heap ∧
        ∀ h' D, (∀ b o, s₃.heap.get? b = some o → h'.get? b = some o) → St B' ((D, LstP (slicePick vs.toArray lo hi none).toList) :: cs') h' → Q (.ref D) { s₃ with heap := h' }) E s₂) E s₁) E s)
    (ht : ∀ o r, letTemporaryGo value o r = pure () := by intro _ _; rfl) :
    wpAny (model prog w) A (eval (.Subscript value (.Slice lower upper none p) pos) env) Q E s := by
  refine wpAny_Subscript_list_slice (wpAny_mono h (fun o s₁ h₁ => wpAny_mono h₁ (fun vl s₂ h₂ => wpAny_mono h₂ (fun vu s₃ h₃ => ?_) fun _ _ e => e) fun _ _ e => e) fun _ _ e => e) ht
  obtain ⟨l, vs, lo, hi, B', cs', rfl, hl, hsz, pl, pu, X, hQ⟩ := h₃
  refine ⟨l, vs.toArray, lo, hi, rfl, hl, by rw [List.size_toArray, sizeLine_eq]; lia, pl, pu, ?_⟩
  have X1 := (X.new (P := fun _ => True) { cls := .type "slice", data := .fields #[vl, vu, .none] } rfl trivial).drop
  have X2 := X1.new (P := LstP (slicePick vs.toArray lo hi none).toList) { cls := .type "list", data := .seq (slicePick vs.toArray lo hi none) } rfl ⟨0, by simp⟩
  rw [Heap.size_push] at X2
  exact hQ _ _ (fun b o e => Heap.get?_push_of_some _ (Heap.get?_push_of_some _ e)) X2
theorem sumSt {l : Addr} {vs : List Value} {xs : List Int} {Q : Value → Shared → Prop} (hh : A.handled = none) (X : St B cs s.heap) (hl : s.heap.IsList l vs.toArray) (hv : IsInts vs xs)
    (h : ∀ h' tk t z, St B cs h' → Q (.int z t) { s with heap := h', toks := tk }) : wpAny (model prog w) A (call (.builtin "sum") [.ref l]) Q E s := by
  have ha : AllInts vs.toArray := fun v hm => by
    obtain ⟨i, hi⟩ := List.getElem?_of_mem (by simpa using hm : v ∈ vs)
    obtain ⟨x, t, _, e⟩ := hv.getV hi
    exact ⟨x, t, e⟩
  obtain ⟨ys, e⟩ := ha.items
  rw [e] at hl
  exact sum_intListG hh hl fun h' tk t' k => h h' tk t' _ (X.kept k)
theorem addSt {l b : Addr} {vs ws : List Value} {Q : Value → Shared → Prop} (X : St B cs s.heap) (hl : s.heap.IsList l vs.toArray) (hb : s.heap.IsList b ws.toArray) (hsz : vs.length + ws.length ≤ 1000)
    (h : ∀ h' D, St B ((D, LstP (vs ++ ws)) :: cs) h' → Q (.ref D) { s with heap := h' }) : wpAny (model prog w) A (binaryOp .Add (.ref l) (.ref b)) Q E s := by
  obtain ⟨⟨cls, dd, data, sl⟩, ho, hc, n, hd⟩ := id hl
  obtain ⟨⟨cls2, dd2, data2, sl2⟩, ho2, hc2, n2, hd2⟩ := id hb
  simp only at hc hd hc2 hd2
  subst hc hd hc2 hd2
  have e : vs.toArray ++ ws.toArray = (vs ++ ws).toArray := by simp
  refine concat_meets ⟨_, ho, rfl⟩ ⟨_, ho2, rfl⟩ noFill_list_add seq_list_add PySem.F.slot_list_add PySem.F.entry_list_add (PySem.F.args_list_add_2 _ _) (list_addW l b vs.toArray ws.toArray n n2 dd dd2 sl sl2 (by simp; rw [sizeLine_eq]; lia)) ⟨ho, ho2, ?_⟩
  rw [e]
  exact h _ _ (X.new (P := LstP (vs ++ ws)) _ rfl ⟨0, rfl⟩)
theorem minSt {a b : Int} {t u : Tok} {Q : Value → Shared → Prop} (hh : A.handled = none) (X : St B cs s.heap) (h : ∀ h' tk t, St B cs h' → Q (.int (if b < a then b else a) t) { s with heap := h', toks := tk }) :
    wpAny (model prog w) A (call (.builtin "min") [.int a t, .int b u]) Q E s := by
  refine min_two_ints hh fun h' tk k => ?_
  have := h h' tk
  split
  · rename_i c; rw [if_pos c] at this; exact this _ (X.kept k)
  · rename_i c; rw [if_neg c] at this; exact this _ (X.kept k)
/-- a new list display -/
theorem newL {vs : List Value} {h : Heap} (X : St B cs h) : St B ((h.objs.size, LstP vs) :: cs) (h.push { cls := .type "list", data := .seq vs.toArray }) := X.new _ rfl ⟨0, rfl⟩
theorem newT {vs : List Value} {h : Heap} (X : St B cs h) : St B ((h.objs.size, IsP { cls := .type "tuple", data := .seq vs.toArray }) :: cs) (h.push { cls := .type "tuple", data := .seq vs.toArray }) := X.new _ rfl rfl
theorem listSt {elts : List Expr} {pos : Pos} {Q : Value → Shared → Prop}
    (h : wpAny (model prog w) A (spliced (backTo pos (starEach elts env))) (fun vs s₁ => vs.length ≤ 1000 ∧ ∃ B' cs', St B' cs' s₁.heap ∧ ∀ D h', St B' ((D, LstP vs) :: cs') h' → Q (.ref D) { s₁ with heap := h' }) E s) :
    wpAny (model prog w) A (eval (.List elts pos) env) Q E s :=
  wpAny_List (wpAny_mono h (fun vs s₁ hv => ⟨by rw [sizeLine_eq]; lia, let ⟨B', cs', X, k⟩ := hv.2; k _ _ (newL X)⟩) fun _ _ z => z)
theorem tupSt {elts : List Expr} {k : Nat} {pos : Pos} {Q : Value → Shared → Prop}
    (h : wpAny (model prog w) A (spliced (backTo pos (starEach elts env))) (fun vs s₁ => vs.length ≤ 1000 ∧ ∃ B' cs', St B' cs' s₁.heap ∧ ∀ D h', St B' ((D, IsP { cls := .type "tuple", data := .seq vs.toArray }) :: cs') h' → Q (.ref D) { s₁ with heap := h' }) E s) :
    wpAny (model prog w) A (eval (.Tuple elts k pos) env) Q E s :=
  wpAny_Tuple (wpAny_mono h (fun vs s₁ hv => ⟨by rw [sizeLine_eq]; lia, let ⟨B', cs', X, k⟩ := hv.2; k _ _ (newT X)⟩) fun _ _ z => z)
end
end
section
open PySem PySem.W PyProof.Rows
set_option Elab.async false
set_option maxRecDepth 100000
/-- a list that stands -/
def IsL (B : PM) (a : Addr) (vs : List Value) : Prop := ∃ o, B a = some o ∧ o.cls = .type "list" ∧ ∃ n, o.data = .seq vs.toArray n
theorem IsL.at {B : PM} {cs : Cs} {h : Heap} {a : Addr} {vs : List Value} (x : IsL B a vs) (X : St B cs h) : h.IsList a vs.toArray := let ⟨o, e, c, n, d⟩ := x; ⟨o, X.sub _ _ e, c, n, d⟩
theorem IsL.le {B B' : PM} {a : Addr} {vs : List Value} (x : IsL B a vs) (l : Le B B') : IsL B' a vs := let ⟨o, e, r⟩ := x; ⟨o, l _ _ e, r⟩
section
variable {w : World} {A : Around} {E : Value → Shared → Prop} {s : Shared} {B : PM} {cs : Cs} {h₀ : Heap} {mg : Str → Option Value} {Q : Value → Shared → Prop}
set_option maxHeartbeats 8000000 in
theorem rows_spec {f sc : Addr} {o : Obj} {pm cd doc : Value} {vs : List Value} {xs : List Int} (R : Rm A 2 100) (G : G0 h₀ mg) (Bn : Bi mg) (K0 : In0 h₀ B) (ho : h₀.get? f = some o) (hd : o.data = .func (Calls.docDef "_law_rows" (fnParams (stAt pw 12)) (fnBody (stAt pw 12)) (fnScope (stAt pw 12)) pm cd doc)) (hcd : h₀.CodeRec cd "_law_rows")
    (X : St B cs s.heap) (hs : IsL B sc vs) (hv : IsInts vs xs) (hlen : xs.length ≤ 63)
    (hQ : ∀ B' r a0 a1 a2 v0 v1 v2 x0 x1 x2 n n0 n1 n2 h' tk, Le B B' → B' r = some { cls := .type "list", data := .seq (List.toArray [.ref a0, .ref a1, .ref a2]) n } → B' a0 = some { cls := .type "list", data := .seq (List.toArray v0) n0 } → B' a1 = some { cls := .type "list", data := .seq (List.toArray v1) n1 } → B' a2 = some { cls := .type "list", data := .seq (List.toArray v2) n2 } →
      IsInts v0 x0 → IsInts v1 x1 → IsInts v2 x2 → 2 ≤ x0.length → x0.length ≤ 30 → x1.length ≤ 30 → x2.length ≤ 30 → St B' cs h' → Q (.ref r) { s with heap := h', toks := tk }) :
    wpAny (model pw w) A (call (.ref f) [.ref sc]) Q E s := by
  refine callF (d := 1) (binds := [("script", .ref sc)]) R G K0 X ho hd hcd (by rfl) (locs (by rfl)) (fun h₁ L tk Y => ?_) (by rfl) (by rfl) (by rfl) (by decide +kernel)
  refine wpAny_execs_cons ?_
  walk_at "go"
  refine callB G K0 Y Bn.sum boot_sum ?_
  walk_at "go"
  refine sliceSt ?_
  walk_at "go"
  refine wpAny_evalPart_none ?_
  refine wpAny_evalPart_some ?_
  walk_at "go"
  refine ⟨sc, vs, none, some 18, B, _, rfl, hs.at Y, by rw [hv.length]; lia, .none, .int _ _, Y, fun h₂ D _ Y₂ => ?_⟩
  have hsl := IsInts.of (slice_ints_uptoW hv.to (y := 18) (by lia))
  walk_at "go"
  refine sumSt R.handled Y₂ (by simpa using (Y₂.lst (i := 0) rfl).isList) hsl fun h₃ tk₃ t₃ z Y₃ => ?_
  replace Y₃ := Y₃.drop
  walk_at "go"
  refine PyProof.Rows.mod_int (by decide) ?_
  try dsimp only
  have hk0 : 0 ≤ z.fmod 4 := Int.fmod_nonneg_of_pos _ (by decide)
  generalize z.fmod 4 = kd at hk0
  refine stL Y₃ fun h₄ Y₄ => ?_
  try dsimp only
  refine wpAny_execs_cons ?_
  refine wpAny_Assign_Name ?_ (by rfl)
  obtain ⟨mk, tkd, Y₄, e1, e2⟩ : ∃ (mk : Str → Option Value) (tkd : Tok), St B ((L, NsP mk) :: cs) h₄ ∧ mk "script" = some (.ref sc) ∧ mk "kind" = some (.int kd tkd) := ⟨_, _, Y₄, by walk_at "lk", by walk_at "lk"⟩
  refine wpAny_mono (Q := fun v s' => ∃ (D : Addr) (vs' : List Value) (xs' : List Int) (h' : Heap) (tk' : Nat), v = .ref D ∧ s' = { s with heap := h', toks := tk' } ∧ St B ((L, NsP mk) :: (D, LstP vs') :: cs) h' ∧ IsInts vs' xs' ∧ 6 ≤ xs'.length ∧ xs'.length ≤ 18) ?_ (fun v s' hv' => ?_) fun _ _ z => z
  · walk_at "go"
    refine callB G K0 Y₄ Bn.len boot_len ?_
    walk_at "go"
    refine lenL (vs := vs) (hs.at Y₄) (by rw [hv.length]; lia) fun tl tkl => ?_
    walk_at "go"
    rw [hv.length]
    by_cases c : (xs.length : Int) < 6
    · rw [decide_eq_true c]
      walk_at "go"
      refine listSt ?_
      walk_at "go"
      refine ⟨by simp, B, _, Y₄, fun D₄ h₅ Y₅ => ?_⟩
      replace Y₅ := Y₅.swap
      walk_at "go"
      refine addSt Y₅ (Y₅.lst (i := 1) rfl).isList (hs.at Y₅) (by rw [hv.length]; simp; lia) fun h₅ D₅ Y₅ => ?_
      refine ⟨D₅, _, [0, 1, 1, 1, 2, 0] ++ xs, h₅, _, rfl, rfl, (Y₅.perm ((List.Perm.cons _ (List.Perm.swap ..)).trans (List.Perm.swap ..))).drop.swap, IsInts.append ⟨⟨_, rfl⟩, ⟨_, rfl⟩, ⟨_, rfl⟩, ⟨_, rfl⟩, ⟨_, rfl⟩, ⟨_, rfl⟩, trivial⟩ hv, by simp, by simp; lia⟩
    · rw [decide_eq_false c]
      walk_at "go"
      refine sliceSt ?_
      walk_at "go"
      refine wpAny_evalPart_none ?_
      refine wpAny_evalPart_some ?_
      walk_at "go"
      refine ⟨sc, vs, none, some 18, B, _, rfl, hs.at Y₄, by rw [hv.length]; lia, .none, .int _ _, Y₄, fun h₅ D₅ _ Y₅ => ?_⟩
      try dsimp only
      exact ⟨D₅, _, _, h₅, _, rfl, rfl, Y₅.swap, hsl, by rw [List.length_take]; lia, by rw [List.length_take]; lia⟩
  obtain ⟨D₆, vs', xs', h₆, tk₆, rfl, rfl, Y₆, hv6, hlo, hhi⟩ := hv'
  refine stL Y₆ fun h₇ Y₇ => ?_
  try dsimp only
  have Y₈ := Y₇.swap
  obtain ⟨oD, ⟨nD, pD⟩, -, Y₉, le₉⟩ := Y₈.freeze
  have hD : (B.add D₆ oD) D₆ = some { cls := .type "list", data := .seq vs'.toArray nD } := by rw [PM.add_self, pD]
  have K9 := K0.le le₉
  revert Y₉ le₉ hD K9
  generalize B.add D₆ oD = B₁
  intro Y₉ le₉ hD K9
  clear Y₈ Y₇ Y₆ Y₄ Y₃ Y₂ Y
  walk_at "go"
  refine listSt ?_
  walk_at "go"
  refine listSt ?_
  walk_at "go"
  refine ⟨by simp, B₁, _, Y₉, fun a0 h₁₀ Y₁₀ => ?_⟩
  replace Y₁₀ := Y₁₀.swap
  walk_at "go"
  refine listSt ?_
  walk_at "go"
  refine ⟨by simp, B₁, _, Y₁₀, fun a1 h₁₁ Y₁₁ => ?_⟩
  replace Y₁₁ := Y₁₁.swap
  walk_at "go"
  refine listSt ?_
  walk_at "go"
  refine ⟨by simp, B₁, _, Y₁₁, fun a2 h₁₂ Y₁₂ => ?_⟩
  replace Y₁₂ := Y₁₂.swap
  walk_at "go"
  refine ⟨by simp, B₁, _, Y₁₂, fun r h₁₃ Y₁₃ => ?_⟩
  obtain ⟨oR, ⟨nR, pR⟩, -, Y₁₄, le₁₄⟩ := Y₁₃.freeze
  have hR : (B₁.add r oR) r = some { cls := .type "list", data := .seq (List.toArray [.ref a0, .ref a1, .ref a2]) nR } := by rw [PM.add_self, pR]
  replace hD := le₁₄ _ _ hD
  have le₂ := le₉.trans le₁₄
  have K2 := K0.le le₂
  revert Y₁₄ le₁₄ hR hD K2 le₂
  generalize B₁.add r oR = B₂
  intro Y₁₄ le₁₄ hR hD le₂ K2
  clear Y₁₃ Y₁₂ Y₁₁ Y₁₀ Y₉
  replace Y₁₄ : St B₂ ((L, NsP _) :: ((([(a0, []), (a1, []), (a2, [])] : List (Addr × List Value)).map fun p => (p.1, LstP p.2)) ++ cs)) h₁₃ := Y₁₄.perm (.cons _ ((List.Perm.swap ..).trans ((List.Perm.cons _ (List.Perm.swap ..)).trans (List.Perm.swap ..))))
  walk_at "go"
  rename_i h₁₅ Y₁₅
  try dsimp only
  refine wpAny_For ?_
  refine callT G K2 Y₁₅ Bn.enumerate boot_enumerate ?_
  walk_at "go"
  refine forE (vs := vs') R.handled hD (fun i B' m' cs' => B' = B₂ ∧ ∃ l3 : List (Addr × List Value), cs' = (l3.map fun p => (p.1, LstP p.2)) ++ cs ∧ l3.map (·.1) = [a0, a1, a2] ∧ (∀ j p, l3[j]? = some p → ∃ x, IsInts p.2 x ∧ x.length = (i + 2 - j) / 3) ∧ m' "rows" = some (.ref r) ∧ m' "kind" = some (.int kd tkd)) Y₁₅ ⟨rfl, _, rfl, rfl, ?_, by walk_at "lk", by walk_at "lk"⟩ ?turn ?done
  · intro j p hp
    match j, hp with
    | 0, hp => injection hp with hp; subst hp; exact ⟨[], trivial, rfl⟩
    | 1, hp => injection hp with hp; subst hp; exact ⟨[], trivial, rfl⟩
    | 2, hp => injection hp with hp; subst hp; exact ⟨[], trivial, rfl⟩
    | j + 3, hp => simp at hp
  case turn =>
    rintro i v B' m' cs' e it T t h' tk' hv' le ⟨rfl, l3, rfl, hl3, hin, m1, m2⟩ Z
    obtain ⟨xv, tv, hxv, rfl⟩ := hv6.getV hv'
    obtain ⟨oT, hT, rfl⟩ := Z.at_ (i := 1) (a := T) rfl
    refine unpackT R.handled Z ⟨_, hT, rfl, _, rfl⟩ (by rfl) (by rfl) fun h₂' Z₂ => ?_
    refine PyProof.Rows.assignInOrder_cons (wpAny_assign_Name ?_)
    walk_at "go"
    refine PyProof.Rows.assignInOrder_cons (wpAny_assign_Name ?_)
    walk_at "go"
    refine PyProof.Rows.assignInOrder_nil ?_
    rename_i _ _ h₃' Z₃
    replace Z₃ := Z₃.swap.drop
    walk_at "go"
    refine wpAny_Call_method (by rfl) (by rfl) (by rfl) PySem.F.plainAttrs_list PySem.F.slot_list_append PySem.F.type_list_append ?_
    walk_at "go"
    refine PyProof.Rows.mod_int (by decide) ?_
    have ei : ((i : Int).fmod 3) = ((i % 3 : Nat) : Int) := by rw [Int.fmod_eq_emod_of_nonneg _ (by decide)]; lia
    rw [ei]
    have hl3n : l3.length = 3 := by have := congrArg List.length hl3; simpa using this
    have hj : i % 3 < l3.length := by lia
    obtain ⟨p, hp⟩ : ∃ p, l3[i % 3]? = some p := ⟨_, List.getElem?_eq_getElem hj⟩
    have hp1 : ([.ref a0, .ref a1, .ref a2] : List Value)[i % 3]? = some (.ref p.1) := by
      have : (l3.map (·.1))[i % 3]? = some p.1 := by rw [List.getElem?_map, hp]; rfl
      rw [hl3] at this
      have h2 := congrArg (Option.map Value.ref) this
      rw [← List.getElem?_map] at h2
      exact h2
    refine subL ⟨_, Z₃.sub _ _ hR, rfl, nR, rfl⟩ (by lia) (by lia) (x := .ref p.1) (by rw [Int.toNat_natCast]; exact hp1) ?_
    have hidx : (((L, NsP (upd (upd m' "k" (.int i t)) "x" (.int xv tv))) :: (e, EnP it ((i : Int) + 1)) :: (it, LiP D₆ (i + 1)) :: ((l3.map fun p => (p.1, LstP p.2)) ++ cs)) : Cs)[(i % 3) + 3]? = some (p.1, LstP p.2) := by
      show ((l3.map fun p => (p.1, LstP p.2)) ++ cs)[i % 3]? = _
      rw [List.getElem?_append_left (by rw [List.length_map]; exact hj), List.getElem?_map, hp]; rfl
    refine lst_meth (Z₃.lst hidx) ?_
    refine cwB ?_
    refine wpAny_mono (Q := fun vs s' => ∃ (y : Int) (ty tk' : Nat), vs = [.int y ty] ∧ s' = { s with heap := h₃', toks := tk' }) ?_ (fun vs s' hvs => ?_) fun _ _ z => z
    · walk_at "go"
      by_cases c : (kd == 0) = true
      · rw [c]
        walk_at "go"
        exact ⟨_, _, _, rfl, rfl⟩
      · rw [Bool.not_eq_true] at c
        rw [c]
        walk_at "go"
        refine PyProof.Rows.mod_int (by lia) ?_
        walk_at "go"
        exact ⟨_, _, _, rfl, rfl⟩
    obtain ⟨y, ty, tk5, rfl, rfl⟩ := hvs
    obtain ⟨px, hpx, hpl⟩ := hin _ _ hp
    refine appL Z₃ hidx (by rw [hpx.length, hpl]; have := (List.getElem?_eq_some_iff.mp hxv).1; lia) fun h₅ Z₅ => ?_
    have Z₆ : St B' ((L, NsP (upd (upd m' "k" (.int i t)) "x" (.int xv tv))) :: (e, EnP it ((i : Int) + 1)) :: (it, LiP D₆ (i + 1)) :: (((l3.set (i % 3) (p.1, p.2 ++ [.int y ty])).map fun p => (p.1, LstP p.2)) ++ cs)) h₅ := by
      have eq : ((l3.map fun p => (p.1, LstP p.2)) ++ cs).set (i % 3) (p.1, LstP (p.2 ++ [.int y ty])) = (((l3.set (i % 3) (p.1, p.2 ++ [.int y ty])).map fun p => (p.1, LstP p.2)) ++ cs) := by
        rw [List.set_append_left _ _ (by rw [List.length_map]; exact hj), List.map_set]
      rw [← eq]; exact Z₅
    try dsimp only
    walk_at "go"
    refine ⟨B', _, _, h₅, _, rfl, Le.refl _, ⟨rfl, _, rfl, ?_, ?_, ?_, ?_⟩, Z₆⟩
    · rw [List.map_set, hl3]
      have : ([a0, a1, a2] : List Addr)[i % 3]? = some p.1 := by rw [← hl3, List.getElem?_map, hp]; rfl
      exact List.ext_getElem? fun q => by
        rw [List.getElem?_set]
        split
        · rename_i e; subst e; split
          · exact this.symm
          · rename_i z; exact absurd (List.getElem?_eq_some_iff.mp this).1 z
        · rfl
    · intro j q hq
      rw [List.getElem?_set] at hq
      split at hq
      · rename_i e
        subst e
        try rw [if_pos hj] at hq
        injection hq with hq
        subst hq
        exact ⟨px ++ [y], hpx.append ⟨⟨_, rfl⟩, trivial⟩, by rw [List.length_append, hpl]; simp; lia⟩
      · rename_i e
        obtain ⟨x, h1, h2⟩ := hin j q hq
        have hj3 : j < 3 := by have := (List.getElem?_eq_some_iff.mp hq).1; lia
        refine ⟨x, h1, ?_⟩
        rw [h2]
        lia
    · walk_at "lk"
    · walk_at "lk"
  case done =>
    rintro B' m' cs' h' tk' le ⟨rfl, l3, rfl, hl3, hin, m1, m2⟩ W
    walk_at "go"
    match l3, hl3, hin, W with
    | [(b0, v0), (b1, v1), (b2, v2)], hl3, hin, W =>
      simp at hl3
      obtain ⟨rfl, rfl, rfl⟩ := hl3
      obtain ⟨x0, i0, l0⟩ := hin 0 _ rfl
      obtain ⟨x1, i1, l1⟩ := hin 1 _ rfl
      obtain ⟨x2, i2, l2⟩ := hin 2 _ rfl
      have hlv := hv6.length
      obtain ⟨B₃, le₃, W₃, fr⟩ := St.freezeAll _ W.drop
      obtain ⟨o0, q0, n0, r0⟩ := fr (b0, LstP v0) (by simp)
      obtain ⟨o1, q1, n1, r1⟩ := fr (b1, LstP v1) (by simp)
      obtain ⟨o2, q2, n2, r2⟩ := fr (b2, LstP v2) (by simp)
      refine hQ B₃ r b0 b1 b2 v0 v1 v2 x0 x1 x2 nR n0 n1 n2 h' _ (le₂.trans le₃) (le₃ _ _ hR) (by rw [q0, r0]) (by rw [q1, r1]) (by rw [q2, r2]) i0 i1 i2 (by lia) (by lia) (by lia) (by lia) W₃
end
end
section
open PySem PySem.W PyProof.Rows
set_option Elab.async false
set_option maxRecDepth 100000
section
variable {M : Model} {A : Around} {E : Value → Shared → Prop} {s : Shared} {env : Env} {B : PM} {cs : Cs}
theorem ldCe {x : Str} {pos : Pos} {v : Value} {c : Addr} {i : Nat} {Q : Value → Shared → Prop} (X : St B cs s.heap) (hi : cs[i]? = some (c, CellP (some v))) (hc : env.cells.lookup x = some c) (h : Q v s)
    (hk : env.scope.kind = .function := by rfl) (hl : env.kindOf x = some .cell := by rfl) (hd : (x == ("__debug__" : Str)) = false := by decide) :
    wpAny M A (eval (.Name x pos) env) Q E s := wpAny_Name (wpAny_loadName_cell hk hl hc (X.cell hi) h) hd
theorem stCe {x : Str} {v : Value} {v₀ : Option Value} {c : Addr} {i : Nat} {Q : Unit → Shared → Prop} (X : St B cs s.heap) (hi : cs[i]? = some (c, CellP v₀)) (hc : env.cells.lookup x = some c)
    (h : ∀ h', St B (cs.set i (c, CellP (some v))) h' → Q () { s with heap := h' })
    (hk : env.scope.kind = .function := by rfl) (hl : env.kindOf x = some .cell := by rfl) : wpAny M A (storeName env x v) Q E s :=
  wpAny_storeName_cell hk hl hc (X.cell hi) fun h' hv hs => h h' (X.upd hi hs (let ⟨o, a, b⟩ := hv; ⟨o, a, b⟩))
end
section
variable {prog : Program} {w : World} {A : Around} {E : Value → Shared → Prop} {s : Shared} {B : PM} {cs : Cs} {h₀ : Heap} {mg : Str → Option Value}
/-- a def with cell variables, called -/
theorem callC {name : Str} {params : Arguments} {body : List Stmt} {scope : Scope} {pm cd doc : Value} {a : Addr} {o : Obj} {args : List Value} {binds : List (Str × Value)} {Q : Value → Shared → Prop} {d u : Nat}
    (R : Rm A (d + 1) u) (G : G0 h₀ mg) (K : In0 h₀ B) (X : St B cs s.heap) (ho : h₀.get? a = some o) (hdata : o.data = .func (Calls.docDef name params body scope pm cd doc)) (hcd : h₀.CodeRec cd name)
    (hbind : bindArgs (Calls.docDef name params body scope pm cd doc) ⟨args, []⟩ = pure binds)
    (hkind : ∀ L, ∀ x ∈ binds, scope.names.lookup x.1 = some .local ∨ (scope.names.lookup x.1 = some .cell ∧ ((cellsFrom (L + 1) scope.names []).lookup x.1).isSome = true))
    (hcn : ∀ L : Nat, ∀ p ∈ cellsFrom (L + 1) scope.names [], (cellsFrom (L + 1) scope.names []).lookup p.1 = some p.2)
    (h : ∀ h₁ L tk, St B ((L, NsP (bindL (envOfC name scope L a cd).kindOf binds fun _ => none)) :: ((cellsFrom (L + 1) scope.names []).map fun p => (p.2, CellP (bindC (envOfC name scope L a cd).kindOf binds (fun _ => none) p.1))) ++ cs) h₁ →
      wpAny (model prog w) (A.deeper (envOfC name scope L a cd)) (execs body (envOfC name scope L a cd))
        (fun f s' => Q (match f with | .ret v => v | _ => .none) s') (fun _ _ => False) { s with heap := h₁, toks := tk })
    (hco : scope.isCoroutine = false := by rfl) (hgen : scope.isGenerator = false := by rfl) (hk : scope.kind = .function := by rfl) : wpAny (model prog w) A (call (.ref a) args) Q E s := by
  have hkeep := K.keep X
  refine wpAny_call (call_cells (by have := R.depth; show A.depth < 1000; lia) (hkeep _ _ ho) hdata (G.nolimit.keeps hkeep) (hcd.keeps hkeep) hbind (hkind _) (fun h₁ tk F C => ?_) hco hgen hk)
  refine wpAny_mono (h h₁ s.heap.objs.size tk ?_) (fun f s' q => q) fun _ _ q => q.elim
  have X1 : St B cs h₁ := X.kept F.keep
  have hnew : ∀ c, s.heap.objs.size ≤ c → B c = none ∧ c ∉ cs.map (·.1) := fun c hc => by
    refine ⟨?_, fun q => ?_⟩
    · cases e : B c with
      | none => rfl
      | some ob => exact absurd (X.ltB e) (Nat.not_lt.mpr hc)
    · obtain ⟨p, hp, e⟩ := List.mem_map.mp q
      obtain ⟨ob, e', _⟩ := X.cells p hp
      exact absurd (Heap.lt_size e') (Nat.not_lt.mpr (e ▸ hc))
  have X2 : ∀ (l : List (Str × Addr)), (∀ p ∈ l, p ∈ cellsFrom (s.heap.objs.size + 1) scope.names []) → (l.Pairwise fun x y => x.2 ≠ y.2) →
      St B ((l.map fun p => (p.2, CellP (bindC (envOfC name scope s.heap.objs.size a cd).kindOf binds (fun _ => none) p.1))) ++ cs) h₁ := by
    intro l
    induction l with
    | nil => intro _ _; exact X1
    | cons p l ih =>
      intro hm hpw
      rw [List.pairwise_cons] at hpw
      have ih := ih (fun q hq => hm q (List.mem_cons_of_mem _ hq)) hpw.2
      have hp := hm p List.mem_cons_self
      have hc := C.above p.1 p.2 hp
      obtain ⟨n1, n2⟩ := hnew p.2 (Nat.le_of_lt hc)
      refine ih.put n1 ?_ (let ⟨o, a, b⟩ := C.cell p.1 p.2 (hcn _ p hp); ⟨o, a, b⟩)
      rw [List.map_append, List.mem_append, not_or]
      refine ⟨fun q => ?_, n2⟩
      obtain ⟨z, hz, e⟩ := List.mem_map.mp q
      obtain ⟨y, hy, rfl⟩ := List.mem_map.mp hz
      exact hpw.1 y hy e.symm
  have X3 := X2 _ (fun _ h => h) C.apart
  obtain ⟨n1, n2⟩ := hnew s.heap.objs.size (Nat.le_refl _)
  refine X3.put n1 ?_ (NsP_of F.ns)
  rw [List.map_append, List.mem_append, not_or]
  refine ⟨fun q => ?_, n2⟩
  obtain ⟨z, hz, e⟩ := List.mem_map.mp q
  obtain ⟨y, hy, rfl⟩ := List.mem_map.mp hz
  exact absurd (C.above y.1 y.2 hy) (by rw [show y.2 = s.heap.objs.size from e]; exact Nat.lt_irrefl _)
def pV (p : Int → Bool) : Value → Bool | .int z _ => p z | _ => false
theorem IsInts.filter {p : Int → Bool} : ∀ {vs : List Value} {xs : List Int}, IsInts vs xs → IsInts (vs.filter (pV p)) (xs.filter p)
  | [], [], _ => trivial
  | _ :: _, x :: _, ⟨⟨t, e⟩, h⟩ => by
    subst e
    rw [List.filter_cons, List.filter_cons]
    show IsInts (if p x = true then _ else _) _
    split
    · exact ⟨⟨t, rfl⟩, h.filter⟩
    · exact h.filter
  | [], _ :: _, h => h.elim
  | _ :: _, [], h => h.elim
theorem paired_eq {a b : List Value} (h : Paired (fun v y => y = v) a b) : b = a := by
  induction h with
  | nil => rfl
  | cons e _ ih => rw [e, ih]
def rangeI (a N : Nat) : List Int := (List.range N).map fun i => ((a + i : Nat) : Int)
theorem isInts_of_get : ∀ {vs : List Value} {xs : List Int}, vs.length = xs.length → (∀ (i : Nat) v, vs[i]? = some v → ∃ x t, xs[i]? = some x ∧ v = .int x t) → IsInts vs xs
  | [], [], _, _ => trivial
  | v :: vs, x :: xs, hl, h => by
    obtain ⟨x', t, e1, e2⟩ := h 0 v rfl
    simp at e1
    subst e1
    refine ⟨⟨t, e2⟩, isInts_of_get (by simpa using hl) fun i u hu => ?_⟩
    have := h (i + 1) u (by simpa using hu)
    simpa using this
  | [], _ :: _, hl, _ => by simp at hl
  | _ :: _, [], hl, _ => by simp at hl
section
variable {env : Env}
theorem range_sizeZ {z : Int} (h : z ≤ 1000) : Builtin.Range.rangeSize 0 z 1 = ((z.toNat : Nat) : Int) := by
  unfold Builtin.Range.rangeSize
  rw [if_pos (by decide)]
  by_cases e : (0 : Int) < z
  · rw [if_pos e, Int.ediv_one]; lia
  · rw [if_neg e]; lia
theorem small_okZ {z : Int} (h1 : -1000 ≤ z) (h : z ≤ 1000) : Builtin.Range.small 0 z 1 = true := by
  unfold Builtin.Range.small
  rw [range_sizeZ h]
  unfold Builtin.Range.rangeFitsLong
  simp only [Bool.and_eq_true, decide_eq_true_eq, Bool.or_eq_true]
  refine ⟨⟨⟨⟨?_, ?_⟩, ?_⟩, ?_⟩, .inr ?_⟩
  all_goals first | lia | (rw [if_pos (by decide)]; simp only [Bool.and_eq_true, decide_eq_true_eq]; lia)
theorem walksB {I : Addr} {a N : Nat} (hh : A.handled = none) : Walks prog w A I [I] [I] N (fun i v => i < N ∧ ∃ t, v = .int ((a + i : Nat) : Int) t) (fun i h => IsRangeIter h I ((a : Int) + (i : Nat) * 1) ((N : Int) - (i : Nat)) 1) :=
  let W := Walks.range (prog := prog) (w := w) hh I (a : Int) 1 N
  { W with item := fun i s Q E hi st hQ => W.item i s Q E hi st fun v h' tk hp => hQ v h' tk ⟨hi, let ⟨t, e⟩ := hp; ⟨t, by rw [e]; push_cast; rw [Int.mul_one]⟩⟩ }
theorem ints_of {a N : Nat} {vs : List Value} (hl : vs.length = N) (h : ∀ (j : Nat) v, vs[j]? = some v → j < N ∧ ∃ t, v = .int ((a + j : Nat) : Int) t) : IsInts vs (rangeI a N) := by
  refine isInts_of_get (by simp [rangeI, hl]) fun i v hv => ?_
  obtain ⟨hi, t, e⟩ := h i v hv
  exact ⟨_, t, by simp [rangeI, hi], e⟩
/-- a comprehension's test, run in a state of ours -/
def TestOk (prog : Program) (w : World) (A : Around) (env : Env) (scope : Scope) (cl : List (Str × Addr)) (x : Str) (ifs : List Expr) (a N : Nat) (p : Int → Bool) (B : PM) (cs : Cs) : Prop :=
  ∀ (C : Addr) (j : Nat) (t : Tok) (m₃ : Str → Option Value) (s₃ : Shared) (E' : Value → Shared → Prop), a ≤ j → j < a + N → St B ((C, NsP m₃) :: cs) s₃.heap → m₃ x = some (.int j t) →
    wpAny (model prog w) A (forIn ifs true fun c r => if r = true then do let ok ← isTrue c (compEnvC scope cl C env) (eval c (compEnvC scope cl C env)); pure (ForInStep.yield ok) else pure (ForInStep.yield r))
      (fun ok s₄ => ok = p j ∧ Keeps s₃ s₄) E' s₃
theorem quietSt {scope : Scope} {cl : List (Str × Addr)} {x : Str} {pe : Pos} {ifs : List Expr} {a N : Nat} {p : Int → Bool} {s₁ : Shared} {io : Obj} {I : Addr} (hI : I = s₁.heap.objs.size) (X : St B cs s₁.heap)
    (hkind : scope.kind = .function) (hx : scope.names.lookup x = some .local) (hd : (x == ("__debug__" : Str)) = false) (hT : TestOk prog w A env scope cl x ifs a N p B cs) :
    QuietOnC prog w A env scope cl x ifs (.Name x pe) [I] (fun i v => i < N ∧ ∃ t, v = .int ((a + i : Nat) : Int) t) (pV p) (fun v y => y = v) { s₁ with heap := s₁.heap.push io } := by
  have key : ∀ (C : Addr) (s₃ : Shared) (m₃ : Str → Option Value), (s₁.heap.push io).objs.size ≤ C → s₃.heap.Ns C m₃ → (∀ b o, b ∉ [I] → (s₁.heap.push io).get? b = some o → s₃.heap.get? b = some o) → St B ((C, NsP m₃) :: cs) s₃.heap := by
    intro C s₃ m₃ hC hn hk
    rw [Heap.size_push] at hC
    have X1 : St B cs s₃.heap := X.kept fun b o e => hk b o (by rw [List.mem_singleton, hI]; exact Nat.ne_of_lt (Heap.lt_size e)) (Heap.get?_push_of_some _ e)
    refine X1.put ?_ (fun q => ?_) (NsP_of hn)
    · cases e : B C with
      | none => rfl
      | some ob => exact absurd (X.ltB e) (Nat.not_lt.mpr (Nat.le_of_succ_le hC))
    · obtain ⟨p, hp, e⟩ := List.mem_map.mp q
      obtain ⟨ob, e', _⟩ := X.cells p hp
      exact absurd (Heap.lt_size e') (Nat.not_lt.mpr (by rw [e]; exact Nat.le_of_succ_le hC))
  refine ⟨fun C i v s₃ m₃ E' hC hP hn hm hk htk => ?_, fun C i v s₃ m₃ E' hC hP hp hn hm hk htk => ?_⟩
  · obtain ⟨hi, t, rfl⟩ := hP
    exact hT C (a + i) t m₃ s₃ E' (by lia) (by lia) (key C s₃ m₃ hC hn hk) hm
  · have K := key C s₃ m₃ hC hn hk
    refine wpAny_Name (wpAny_loadName_local (by simp [compEnvC, relabel, hkind]) (lookup_relabel_local hx) (K.ns (i := 0) rfl) hm ⟨rfl, s₃.heap, s₃.toks, rfl, fun _ _ e => e⟩) hd
theorem compSt {x : Str} {px pe : Pos} {iter : Expr} {ifs : List Expr} {scope : Scope} {cl : List (Str × Addr)} {pos : Pos} {Q : Value → Shared → Prop} (p : Int → Bool) (hh : A.handled = none)
    (hclos : closureFor scope env = pure cl) (hcell : ∀ y ∈ scope.names, y.2 ≠ .cell) (hkind : scope.kind = .function)
    (hnames : ∀ y ∈ scope.names, y.2 = .local → scope.names.lookup y.1 = some .local) (hx : scope.names.lookup x = some .local) (hd : (x == ("__debug__" : Str)) = false)
    (h : wpAny (model prog w) A (eval iter env) (fun xv s₁ => ∃ (r : Addr) (a N : Nat) (b : Int) (t u v : Tok) (B : PM) (cs : Cs), xv = .ref r ∧ IsRange s₁.heap r a b 1 t u v ∧ Builtin.Range.small a b 1 = true ∧ Builtin.Range.rangeSize a b 1 = (N : Int) ∧ N ≤ 1000 ∧ St B cs s₁.heap ∧ TestOk prog w A env scope cl x ifs a N p B cs ∧
      ∀ D ys h' tk, IsInts ys ((rangeI a N).filter p) → St B ((D, LstP ys) :: cs) h' → Q (.ref D) { s₁ with heap := h', toks := tk }) E s)
    (hs : ∀ x, foldedSetIterable iter env x = pure x := by intro _; rfl) :
    wpAny (model prog w) A (eval (.ListComp (.Name x pe) [⟨.Name x px, iter, ifs, 0⟩] scope pos) env) Q E s := by
  refine wpAny_ListComp_free (pV p) (fun v y => y = v) hclos hcell hkind hnames hx (wpAny_mono h (fun xv s₁ h₁ => ?_) fun _ _ e => e) hs
  obtain ⟨r, a, N, b, t, u, v, B, cs, rfl, hr, hsm, hN, hN2, X, hT, hQ⟩ := h₁
  refine wpAny_pyIter_range hr hsm ?_
  rw [hN]
  refine ⟨_, _, _, N, _, _, rfl, walksB (a := a) hh, by rw [sizeLine_eq]; lia, ?_, ?_, quietSt rfl X hkind hx hd hT, ?_⟩
  · have e := Heap.get?_push_size s₁.heap (o := { cls := .type "range_iterator", data := .fields #[rawInt a, rawInt (N : Int), rawInt 1] }) rfl
    simpa using e
  · intro b hb; rw [List.mem_singleton] at hb; subst hb; rw [Heap.size_push]; exact Nat.lt_succ_self _
  · intro D h' tk ys vs hD hl hpl hlen hP hF hk
    have e := paired_eq hF
    have hi := (ints_of hlen hP).filter (p := p)
    rw [← e] at hi
    refine hQ D ys.toList h' tk hi ?_
    have X1 : St B cs h' := X.kept fun b o q => hk b o (by rw [List.mem_singleton]; exact Nat.ne_of_lt (Heap.lt_size q)) (Heap.get?_push_of_some _ q)
    refine X1.put ?_ (fun q => ?_) (lstP_of (by simpa using hpl))
    · cases e : B D with
      | none => rfl
      | some ob => have := Heap.get?_push_of_some { cls := .type "range_iterator", data := .fields #[rawInt a, rawInt (N : Int), rawInt 1] } (X.sub _ _ e); rw [hD] at this; cases this
    · obtain ⟨p, hp, e⟩ := List.mem_map.mp q
      obtain ⟨ob, e', _⟩ := X.cells p hp
      have := Heap.get?_push_of_some { cls := .type "range_iterator", data := .fields #[rawInt a, rawInt (N : Int), rawInt 1] } e'
      rw [e, hD] at this; cases this
theorem compAsg {x y : Str} {px pe py : Pos} {iter : Expr} {ifs : List Expr} {scope : Scope} {cl : List (Str × Addr)} {pos spos : Pos} {Q : Flow → Shared → Prop} (p : Int → Bool) (hh : A.handled = none)
    (hsw : swapsWith (.ListComp (.Name x pe) [⟨.Name x px, iter, ifs, 0⟩] scope pos) (some (.Name y py)) spos.line env = pure true)
    (hclos : closureFor scope env = pure cl) (hcell : ∀ y ∈ scope.names, y.2 ≠ .cell) (hkind : scope.kind = .function)
    (hnames : ∀ y ∈ scope.names, y.2 = .local → scope.names.lookup y.1 = some .local) (hx : scope.names.lookup x = some .local) (hd : (x == ("__debug__" : Str)) = false)
    (hy : env.kindOf y = some .local) (hpk : (env.scope.kind == .class || (env.scope.kind == .module && env.locals != env.globals)) = false)
    (h : wpAny (model prog w) A (eval iter env) (fun xv s₁ => ∃ (r : Addr) (a N : Nat) (b : Int) (t u v : Tok) (B : PM) (m : Str → Option Value) (cs : Cs), xv = .ref r ∧ IsRange s₁.heap r a b 1 t u v ∧ Builtin.Range.small a b 1 = true ∧ Builtin.Range.rangeSize a b 1 = (N : Int) ∧ N ≤ 1000 ∧ St B ((env.locals, NsP m) :: cs) s₁.heap ∧ TestOk prog w A env scope cl x ifs a N p B ((env.locals, NsP m) :: cs) ∧
      ∀ D ys h' tk, IsInts ys ((rangeI a N).filter p) → St B ((env.locals, NsP (upd m y (.ref D))) :: (D, LstP ys) :: cs) h' → Q .next { s₁ with heap := h', toks := tk }) E s)
    (hs : ∀ x, foldedSetIterable iter env x = pure x := by intro _; rfl) :
    wpAny (model prog w) A (exec (.Assign [.Name y py] (.ListComp (.Name x pe) [⟨.Name x px, iter, ifs, 0⟩] scope pos) spos) env) Q E s := by
  refine wpAny_Assign_ListComp_free (pV p) (fun v y => y = v) hsw hclos hcell hkind hnames hx hy hpk (wpAny_mono h (fun xv s₁ h₁ => ?_) fun _ _ e => e) hs
  obtain ⟨r, a, N, b, t, u, v, B, m, cs, rfl, hr, hsm, hN, hN2, X, hT, hQ⟩ := h₁
  refine wpAny_pyIter_range hr hsm ?_
  rw [hN]
  have hL : env.locals < s₁.heap.objs.size := X.lt (i := 0) rfl
  refine ⟨_, _, _, N, _, _, m, rfl, walksB (a := a) hh, by rw [sizeLine_eq]; lia, ?_, ?_, ?_, (X.ns (i := 0) rfl).push _, quietSt rfl X hkind hx hd hT, ?_⟩
  · have e := Heap.get?_push_size s₁.heap (o := { cls := .type "range_iterator", data := .fields #[rawInt a, rawInt (N : Int), rawInt 1] }) rfl
    simpa using e
  · intro b hb; rw [List.mem_singleton] at hb; subst hb; rw [Heap.size_push]; exact Nat.lt_succ_self _
  · rw [List.mem_singleton]; exact Nat.ne_of_lt hL
  · intro D h' tk ys vs hD hl hpl hlen hP hF hn hk
    have e := paired_eq hF
    have hi := (ints_of hlen hP).filter (p := p)
    rw [← e] at hi
    refine hQ D ys.toList h' tk hi ?_
    have hnd := X.nd
    rw [List.map_cons, List.nodup_cons] at hnd
    have hoff := X.off (env.locals, NsP m) List.mem_cons_self
    have X1 : St B cs h' := by
      refine ⟨fun b o q => hk b o (fun z => by subst z; rw [hoff] at q; cases q) (by rw [List.mem_singleton]; exact Nat.ne_of_lt (X.ltB q)) (Heap.get?_push_of_some _ (X.sub _ _ q)), fun p hp => ?_, fun p hp => X.off p (List.mem_cons_of_mem _ hp), hnd.2⟩
      obtain ⟨o, q, z⟩ := X.cells p (List.mem_cons_of_mem _ hp)
      exact ⟨o, hk _ _ (fun q' => hnd.1 (List.mem_map.mpr ⟨p, hp, q'⟩)) (by rw [List.mem_singleton]; exact Nat.ne_of_lt (Heap.lt_size q)) (Heap.get?_push_of_some _ q), z⟩
    have X2 : St B ((D, LstP ys.toList) :: cs) h' := by
      refine X1.put ?_ (fun q => ?_) (lstP_of (by simpa using hpl))
      · cases e : B D with
        | none => rfl
        | some ob => have := Heap.get?_push_of_some { cls := .type "range_iterator", data := .fields #[rawInt a, rawInt (N : Int), rawInt 1] } (X.sub _ _ e); rw [hD] at this; cases this
      · obtain ⟨p, hp, e⟩ := List.mem_map.mp q
        obtain ⟨ob, e', _⟩ := X.cells p (List.mem_cons_of_mem _ hp)
        have := Heap.get?_push_of_some { cls := .type "range_iterator", data := .fields #[rawInt a, rawInt (N : Int), rawInt 1] } e'
        rw [e, hD] at this; cases this
    refine X2.put hoff ?_ (NsP_of hn)
    rw [List.map_cons, List.mem_cons, not_or]
    refine ⟨fun q => ?_, hnd.1⟩
    obtain ⟨oL, hoL, _⟩ := X.at_ (i := 0) (a := env.locals) (P := NsP m) rfl
    have e' := Heap.get?_push_of_some { cls := .type "range_iterator", data := .fields #[rawInt a, rawInt (N : Int), rawInt 1] } hoL
    rw [show env.locals = D from q, hD] at e'
    cases e'
end
end
end
section
open PySem PySem.W PyProof.Rows PySem.SeqAt
set_option Elab.async false
set_option maxRecDepth 100000
theorem all_eq {α : Type} [DecidableEq α] (xs ys : List α) (h : xs.length = ys.length) : (List.range xs.length).all (fun j => decide (xs[j]? = ys[j]?)) = decide (xs = ys) := by
  rw [Bool.eq_iff_iff, List.all_eq_true, decide_eq_true_eq]
  constructor
  · intro k
    refine List.ext_getElem? fun i => ?_
    by_cases hi : i < xs.length
    · exact of_decide_eq_true (k i (List.mem_range.mpr hi))
    · rw [List.getElem?_eq_none (by lia), List.getElem?_eq_none (by lia)]
  · intro e j _
    rw [e]; exact decide_eq_true rfl
section
variable {prog : Program} {w : World} {A : Around} {E : Value → Shared → Prop} {s : Shared} {B : PM} {cs : Cs} {l b : Addr} {vs us : List Value} {xs ys : List Int} {Q : Value → Shared → Prop}
theorem eqAt_ints {j : Nat} (hv : IsInts vs xs) (hu : IsInts us ys) (h1 : j < vs.toArray.size) (h2 : j < us.toArray.size) : EqAt A s vs.toArray[j] us.toArray[j] (decide (xs[j]? = ys[j]?)) := by
  have h1' : j < vs.length := by simpa using h1
  have h2' : j < us.length := by simpa using h2
  obtain ⟨x, t, e1, e2⟩ := hv.getV (List.getElem?_eq_getElem h1')
  obtain ⟨y, u, e3, e4⟩ := hu.getV (List.getElem?_eq_getElem h2')
  have g1 : vs.toArray[j] = .int x t := by simpa using e2
  have g2 : us.toArray[j] = .int y u := by simpa using e4
  rw [g1, g2, e1, e3]
  have := EqAt_int (A := A) (s := s) x y t u
  rwa [show (x == y) = decide (some x = some y) by by_cases e : x = y <;> simp [e]] at this
theorem rc_ints (hl : s.heap.IsList l vs.toArray) (hb : s.heap.IsList b us.toArray) (hv : IsInts vs xs) (hu : IsInts us ys) (hc : A.units < cLine) : RcAt A s (.ref l) (.ref b) (decide (xs = ys)) := by
  by_cases h : xs.length = ys.length
  · have := RcAt.lists (A := A) (e := fun j => decide (xs[j]? = ys[j]?)) hl hb (by simp [hv.length, hu.length, h]) hc fun j h1 h2 => eqAt_ints hv hu h1 h2
    rwa [List.size_toArray, hv.length, all_eq _ _ h] at this
  · have := RcAt.lists_lengths (A := A) hl hb (by simp [hv.length, hu.length, h]) hc
    rwa [show decide (xs = ys) = false from decide_eq_false fun e => h (by rw [e])]
theorem eqInts (hl : s.heap.IsList l vs.toArray) (hb : s.heap.IsList b us.toArray) (hv : IsInts vs xs) (hu : IsInts us ys) (hc : A.units < cLine) (h : Q (.bool (decide (xs = ys))) s) : wpAny (model prog w) A (compareOp .Eq (.ref l) (.ref b)) Q E s :=
  rc_ints hl hb hv hu hc prog w E Q h
theorem neNil (hl : s.heap.IsList l vs.toArray) (hb : s.heap.IsList b (List.toArray [])) (hc : A.units < cLine) (h : Q (.bool (!vs.isEmpty)) s) : wpAny (model prog w) A (compareOp .NotEq (.ref l) (.ref b)) Q E s := by
  cases vs with
  | nil => exact RcNeAt.lists (A := A) (e := fun _ => true) hl hb rfl hc (fun j h1 _ => absurd h1 (by simp)) prog w E Q (by simpa using h)
  | cons v vs => exact RcNeAt.lists_lengths (A := A) hl hb (by simp) hc prog w E Q (by simpa using h)
theorem eqNil (hl : s.heap.IsList l vs.toArray) (hb : s.heap.IsList b (List.toArray [])) (hc : A.units < cLine) (h : Q (.bool vs.isEmpty) s) : wpAny (model prog w) A (compareOp .Eq (.ref l) (.ref b)) Q E s := by
  cases vs with
  | nil => exact RcAt.lists (A := A) (e := fun _ => true) hl hb rfl hc (fun j h1 _ => absurd h1 (by simp)) prog w E Q (by simpa using h)
  | cons v vs => exact RcAt.lists_lengths (A := A) hl hb (by simp) hc prog w E Q (by simpa using h)
/-- a tuple of ints that stands -/
def TupI (B : PM) (v : Value) (xs : List Int) : Prop := ∃ a n vs, v = .ref a ∧ B a = some { cls := .type "tuple", data := .seq (List.toArray vs) n } ∧ IsInts vs xs
theorem TupI.le {B' : PM} {v : Value} (h : TupI B v xs) (l : Le B B') : TupI B' v xs := let ⟨a, n, vs, e1, e2, e3⟩ := h; ⟨a, n, vs, e1, l _ _ e2, e3⟩
theorem isInts_uniq : ∀ {vs : List Value} {xs ys : List Int}, IsInts vs xs → IsInts vs ys → xs = ys
  | [], [], [], _, _ => rfl
  | _ :: _, _ :: _, _ :: _, ⟨⟨_, e1⟩, h1⟩, ⟨⟨_, e2⟩, h2⟩ => by
    rw [e1] at e2; injection e2 with e2 _; rw [e2, isInts_uniq h1 h2]
  | [], _ :: _, _, h, _ => h.elim
  | [], [], _ :: _, _, h => h.elim
  | _ :: _, [], _, h, _ => h.elim
  | _ :: _, _ :: _, [], _, h => h.elim
theorem eqAt_tup {v u : Value} (X : St B cs s.heap) (h1 : TupI B v xs) (h2 : TupI B u ys) (hc : A.units < cLine) : EqAt A s v u (decide (xs = ys)) := by
  obtain ⟨a, n, vs, rfl, e1, i1⟩ := h1
  obtain ⟨b, n', us, rfl, e2, i2⟩ := h2
  by_cases hab : a = b
  · subst hab
    rw [e1] at e2
    injection e2 with e2
    injection e2 with _ _ e2 _
    injection e2 with e2 _
    have e2 : vs = us := by simpa using e2
    subst e2
    rw [isInts_uniq i1 i2]
    have := EqAt.same (A := A) (s := s) (.ref a)
    simpa using this
  · refine EqAt.of_refs hab ?_
    have := RcAt.tuples (A := A) (s := s) (l := a) (b := b) (e := fun j => decide (xs[j]? = ys[j]?)) ⟨_, X.sub _ _ e1, rfl, n, rfl⟩ ⟨_, X.sub _ _ e2, rfl, n', rfl⟩ hc fun j h1 h2 => eqAt_ints i1 i2 h1 h2
    rw [List.size_toArray, List.size_toArray, i1.length, i2.length] at this
    by_cases h : xs.length = ys.length
    · rw [← h, Nat.min_self, all_eq _ _ h] at this
      simpa using this
    · rw [show decide (xs = ys) = false from decide_eq_false fun e => h (by rw [e])]
      rwa [show (xs.length == ys.length) = false by simpa using h, Bool.and_false] at this
/-- rows of ints, tuples that stand -/
def IsTs (B : PM) : List Value → List (List Int) → Prop
  | [], [] => True
  | v :: vs, x :: xs => TupI B v x ∧ IsTs B vs xs
  | _, _ => False
theorem IsTs.length : ∀ {vs : List Value} {ts : List (List Int)}, IsTs B vs ts → vs.length = ts.length
  | [], [], _ => rfl
  | _ :: _, _ :: _, h => by simp [IsTs.length h.2]
  | [], _ :: _, h => h.elim
  | _ :: _, [], h => h.elim
theorem IsTs.le {B' : PM} (l : Le B B') : ∀ {vs : List Value} {ts : List (List Int)}, IsTs B vs ts → IsTs B' vs ts
  | [], [], _ => trivial
  | _ :: _, _ :: _, h => ⟨h.1.le l, h.2.le l⟩
  | [], _ :: _, h => h.elim
  | _ :: _, [], h => h.elim
theorem IsTs.snoc {v : Value} {x : List Int} (hx : TupI B v x) : ∀ {vs : List Value} {ts : List (List Int)}, IsTs B vs ts → IsTs B (vs ++ [v]) (ts ++ [x])
  | [], [], _ => ⟨hx, trivial⟩
  | _ :: _, _ :: _, h => ⟨h.1, IsTs.snoc hx h.2⟩
  | [], _ :: _, h => h.elim
  | _ :: _, [], h => h.elim
theorem IsTs.get : ∀ {vs : List Value} {ts : List (List Int)} {i : Nat} {v : Value}, IsTs B vs ts → vs[i]? = some v → ∃ t, ts[i]? = some t ∧ TupI B v t
  | v :: _, _ :: _, 0, _, h, e => by simp at e; subst e; exact ⟨_, rfl, h.1⟩
  | _ :: _, _ :: _, i + 1, _, h, e => by
    obtain ⟨t, a, b⟩ := IsTs.get (i := i) h.2 (by simpa using e)
    exact ⟨t, by simpa using a, b⟩
  | [], _, _, _, _, e => by simp at e
  | _ :: _, [], _, _, h, _ => h.elim
theorem neTs {ts ss : List (List Int)} (X : St B cs s.heap) (hl : s.heap.IsList l vs.toArray) (hb : s.heap.IsList b us.toArray) (hv : IsTs B vs ts) (hu : IsTs B us ss) (hc : A.units + 1 < cLine) (h : Q (.bool (!decide (ts = ss))) s) :
    wpAny (model prog w) A (compareOp .NotEq (.ref l) (.ref b)) Q E s := by
  by_cases hn : ts.length = ss.length
  · have := RcNeAt.lists (A := A) (e := fun j => decide (ts[j]? = ss[j]?)) hl hb (by simp [hv.length, hu.length, hn]) (by lia) (fun j h1 h2 => by
      have h1' : j < vs.length := by simpa using h1
      have h2' : j < us.length := by simpa using h2
      obtain ⟨t, a1, a2⟩ := hv.get (List.getElem?_eq_getElem h1')
      obtain ⟨t', b1, b2⟩ := hu.get (List.getElem?_eq_getElem h2')
      have := eqAt_tup (A := A.in1) X a2 b2 hc
      rw [a1, b1]
      simpa using this)
    rw [List.size_toArray, hv.length, all_eq _ _ hn] at this
    exact this prog w E Q h
  · rw [show decide (ts = ss) = false from decide_eq_false fun e => hn (by rw [e])] at h
    exact RcNeAt.lists_lengths (A := A) hl hb (by simp [hv.length, hu.length, hn]) (by lia) prog w E Q h
theorem pairTup {v : Value} {k : Int × Int} : PairI B v k ↔ TupI B v [k.1, k.2] := by
  constructor
  · rintro ⟨a, n, t, u, rfl, e⟩
    exact ⟨a, n, _, rfl, e, ⟨⟨t, rfl⟩, ⟨u, rfl⟩, trivial⟩⟩
  · rintro ⟨a, n, vs, rfl, e, i⟩
    match vs, i with
    | [v1, v2], ⟨⟨t, e1⟩, ⟨u, e2⟩, _⟩ =>
      subst e1 e2
      exact ⟨a, n, t, u, rfl, e⟩
theorem notInPairs {v : Value} {k : Int × Int} {ps : List (Value × (Int × Int))} (X : St B cs s.heap) (hl : s.heap.IsList l (ps.map Prod.fst).toArray) (hp : ∀ p ∈ ps, PairI B p.1 p.2) (hv : PairI B v k) (hc : A.units + 1 < cLine) (h : Q (.bool (!(ps.any fun p => decide (p.2 = k)))) s) :
    wpAny (model prog w) A (compareOp .NotIn v (.ref l)) Q E s := by
  have uniq : ∀ (y : Value) (p q : Int × Int), PairI B y p → PairI B y q → p = q := by
    rintro y p q ⟨a, n, t, u, rfl, e1⟩ ⟨a', n', t', u', e0, e2⟩
    injection e0 with e0
    subst e0
    rw [e1] at e2
    injection e2 with e2
    injection e2 with _ _ e2 _
    injection e2 with e2 _
    injection e2 with e2
    injection e2 with e3 e4
    injection e3 with e3 _
    injection e4 with e4 _
    injection e4 with e4 _
    exact Prod.ext e3 e4
  let e : Value → Bool := fun y => ps.any fun p => decide (p.1 = y) && decide (p.2 = k)
  refine notIn_listAt e hl (fun y hy => ?_) ?_
  · simp only [List.mem_toArray, List.mem_map] at hy
    obtain ⟨p, hp1, rfl⟩ := hy
    have := eqAt_tup (A := A.in1) X (pairTup.mp (hp p hp1)) (pairTup.mp hv) hc
    rw [show e p.1 = decide ([p.2.1, p.2.2] = [k.1, k.2]) from ?_]
    · exact this
    · rw [Bool.eq_iff_iff, decide_eq_true_eq]
      simp only [e, List.any_eq_true, Bool.and_eq_true, decide_eq_true_eq]
      constructor
      · rintro ⟨q, hq, h1, h2⟩
        have := uniq p.1 p.2 q.2 (hp p hp1) (h1 ▸ hp q hq)
        rw [this, h2]
      · intro h1
        injection h1 with h1 h2
        injection h2 with h2 _
        exact ⟨p, hp1, rfl, Prod.ext h1 h2⟩
  · have e2 : (ps.map Prod.fst).toArray.any e = ps.any fun p => decide (p.2 = k) := by
      rw [List.any_toArray, List.any_map, Bool.eq_iff_iff, List.any_eq_true, List.any_eq_true]
      constructor
      · rintro ⟨p, hp1, h1⟩
        simp only [e, Function.comp, List.any_eq_true, Bool.and_eq_true, decide_eq_true_eq] at h1
        obtain ⟨q, hq, h2, h3⟩ := h1
        exact ⟨q, hq, decide_eq_true h3⟩
      · rintro ⟨p, hp1, h1⟩
        refine ⟨p, hp1, ?_⟩
        simp only [e, Function.comp, List.any_eq_true, Bool.and_eq_true, decide_eq_true_eq]
        exact ⟨p, hp1, rfl, of_decide_eq_true h1⟩
    rw [e2]; exact h
end
end
section
open PySem PySem.W PyProof.Rows
set_option Elab.async false
def cutI (xs : List Int) (b n : Nat) : List Int := (xs.drop b).take n
def occ (ys part : List Int) (size : Nat) : List Int := (rangeI 0 (ys.length + 1 - size)).filter fun j => decide (cutI ys j.toNat size = part)
def rowAt (xs ys zs : List Int) (size b : Nat) : Option (List Int) := match occ ys (cutI xs b size) size, occ zs (cutI xs b size) size with
  | h :: _, t :: _ => some [-(size : Int), b, h, b, (ys.length : Int) + t]
  | _, _ => none
def longAt (xs ys zs : List Int) (size : Nat) : List (List Int) := (List.range (xs.length + 1 - size)).filterMap (rowAt xs ys zs size)
def longest (xs ys zs : List Int) : Nat → List (List Int)
  | 0 => []
  | n + 1 => if longAt xs ys zs (n + 1) = [] then longest xs ys zs n else longAt xs ys zs (n + 1)
theorem clip_nat (n b : Nat) : clipAt n (b : Int) = min b n := by
  unfold clipAt
  rw [if_neg (by lia)]
  lia
theorem cut_clip (xs : List Int) (b n : Nat) : (xs.drop (clipAt xs.length (b : Int))).take (clipAt xs.length ((b + n : Nat) : Int) - clipAt xs.length (b : Int)) = cutI xs b n := by
  rw [clip_nat, clip_nat]
  unfold cutI
  by_cases h : b ≤ xs.length
  · rw [Nat.min_eq_left h]
    by_cases h2 : b + n ≤ xs.length
    · rw [Nat.min_eq_left h2, Nat.add_sub_cancel_left]
    · rw [Nat.min_eq_right (by lia), List.take_of_length_le (by rw [List.length_drop]; exact Nat.le_refl _), List.take_of_length_le (by rw [List.length_drop]; lia)]
  · rw [Nat.min_eq_right (by lia : xs.length ≤ b), List.drop_length, List.drop_of_length_le (by lia), List.take_nil, List.take_nil]
theorem sliceCut {vs : List Value} {xs : List Int} (h : IsInts vs xs) (b n : Nat) : IsInts (slicePick vs.toArray (some (b : Int)) (some ((b : Int) + (n : Int))) none).toList (cutI xs b n) := by
  have := IsInts.of (slice_ints_plain h.to (b : Int) ((b + n : Nat) : Int))
  rw [cut_clip] at this
  push_cast at this
  exact this
end
section
open PySem PySem.W PyProof.Rows
set_option Elab.async false
/-! the plain law 1: rows, the best of either, the stretches that all have -/
section
variable {xs ys zs : List Int}
theorem mt_left {p j l : Nat} (h : j + l ≤ ys.length) : Mt xs (ys ++ zs) p j l ↔ Mt xs ys p j l := by
  constructor
  · intro m t ht
    obtain ⟨x, a, b⟩ := m t ht
    exact ⟨x, a, by rwa [List.getElem?_append_left (by lia)] at b⟩
  · intro m t ht
    obtain ⟨x, a, b⟩ := m t ht
    exact ⟨x, a, by rwa [List.getElem?_append_left (by lia)]⟩
theorem mt_right {p j l : Nat} : Mt xs (ys ++ zs) p (ys.length + j) l ↔ Mt xs zs p j l := by
  constructor
  · intro m t ht
    obtain ⟨x, a, b⟩ := m t ht
    refine ⟨x, a, ?_⟩
    rw [List.getElem?_append_right (by lia)] at b
    rwa [show ys.length + j + t - ys.length = j + t by lia] at b
  · intro m t ht
    obtain ⟨x, a, b⟩ := m t ht
    refine ⟨x, a, ?_⟩
    rw [List.getElem?_append_right (by lia), show ys.length + j + t - ys.length = j + t by lia]
    exact b
theorem cut_get (ys : List Int) (j size t : Nat) : (cutI ys j size)[t]? = if t < size then ys[j + t]? else none := by
  unfold cutI
  rw [List.getElem?_take, List.getElem?_drop]
theorem cut_mt {b j size : Nat} (h1 : b + size ≤ xs.length) (h2 : j + size ≤ ys.length) : cutI ys j size = cutI xs b size ↔ Mt xs ys b j size := by
  constructor
  · intro e t ht
    have := congrArg (·[t]?) e
    simp only [cut_get, if_pos ht] at this
    have hx : xs[b + t]? = some (xs[b + t]'(by lia)) := List.getElem?_eq_getElem _
    exact ⟨_, hx, this.trans hx⟩
  · intro m
    refine List.ext_getElem? fun t => ?_
    rw [cut_get, cut_get]
    split
    · rename_i ht
      obtain ⟨x, a, b⟩ := m t ht
      rw [a, b]
    · rfl
theorem occ_eq (ys part : List Int) (size : Nat) : occ ys part size = ((List.range (ys.length + 1 - size)).filter fun j => decide (cutI ys j size = part)).map (fun j : Nat => (j : Int)) := by
  unfold occ rangeI
  rw [List.filter_map]
  have e : (fun i : Nat => ((0 + i : Nat) : Int)) = fun j : Nat => (j : Int) := by funext i; simp
  rw [e]
  congr 1
theorem occ_nil {part : List Int} {size : Nat} (h : occ ys part size = []) : ∀ j, j + size ≤ ys.length → cutI ys j size ≠ part := by
  intro j hj e
  rw [occ_eq] at h
  have : j ∈ (List.range (ys.length + 1 - size)).filter fun j => decide (cutI ys j size = part) := List.mem_filter.mpr ⟨List.mem_range.mpr (by lia), decide_eq_true e⟩
  have h2 := List.map_eq_nil_iff.mp h
  rw [h2] at this
  cases this
theorem occ_cons {part : List Int} {size : Nat} {h : Int} {l : List Int} (e : occ ys part size = h :: l) : ∃ j : Nat, h = j ∧ j + size ≤ ys.length ∧ cutI ys j size = part ∧ ∀ j', j' < j → cutI ys j' size ≠ part := by
  rw [occ_eq] at e
  obtain ⟨j, r, e1, e2, e3⟩ := List.map_eq_cons_iff.mp e
  have hh : ((List.range (ys.length + 1 - size)).filter fun j => decide (cutI ys j size = part)).head? = some j := by rw [e1]; rfl
  rw [List.head?_filter, List.find?_range_eq_some] at hh
  obtain ⟨a, b, c⟩ := hh
  refine ⟨j, e2.symm, ?_, of_decide_eq_true a, fun j' hj' => ?_⟩
  · have := List.mem_range.mp b; lia
  · have := c j' hj'
    simpa using this
/-- what the two questions say of a stretch -/
theorem best_row {b l i j k x y k' : Nat} (hb : b + l ≤ xs.length) (h1 : Best xs (ys ++ zs) b (b + l) 0 ys.length i j k) (h2 : Best xs (ys ++ zs) b (b + l) ys.length (ys.length + zs.length) x y k') (hl : 1 ≤ l) :
    rowAt xs ys zs l b = if k = l ∧ k' = l then some [-(l : Int), i, j, x, y] else none := by
  have hk : k ≤ l := by have := h1.hi1; have := h1.lo1; lia
  have hk' : k' ≤ l := by have := h2.hi1; have := h2.lo1; lia
  unfold rowAt
  cases e1 : occ ys (cutI xs b l) l with
  | nil =>
    have : k ≠ l := by
      rintro rfl
      have hi : i = b := by have := h1.hi1; have := h1.lo1; lia
      subst hi
      exact occ_nil e1 j h1.hi2 ((cut_mt hb h1.hi2).mpr ((mt_left h1.hi2).mp h1.mt))
    rw [if_neg (fun z => this z.1)]
  | cons a l1 =>
    obtain ⟨ja, rfl, a1, a2, a3⟩ := occ_cons e1
    have m1 : Mt xs ys b ja l := (cut_mt hb a1).mp a2
    have hkl : k = l := by
      have := (h1.most b ja l (Nat.le_refl _) (Nat.zero_le _) (Nat.le_refl _) a1 ((mt_left a1).mpr m1)).1
      lia
    have hi : i = b := by have := h1.hi1; have := h1.lo1; lia
    have hj : j = ja := by
      have := (h1.most b ja l (Nat.le_refl _) (Nat.zero_le _) (Nat.le_refl _) a1 ((mt_left a1).mpr m1)).2 hkl.symm (by lia)
      have hle : j ≤ ja := by lia
      rcases Nat.lt_or_ge j ja with z | z
      · exfalso
        refine a3 j z ((cut_mt hb (by have := h1.hi2; lia)).mpr ?_)
        have := h1.mt
        rw [hi, hkl] at this
        exact (mt_left (by have := h1.hi2; lia)).mp this
      · lia
    cases e2 : occ zs (cutI xs b l) l with
    | nil =>
      have : k' ≠ l := by
        rintro rfl
        have hx : x = b := by have := h2.hi1; have := h2.lo1; lia
        subst hx
        have hy := h2.lo2
        obtain ⟨q, rfl⟩ : ∃ q, y = ys.length + q := ⟨y - ys.length, by lia⟩
        have hq : q + k' ≤ zs.length := by have := h2.hi2; lia
        exact occ_nil e2 q hq ((cut_mt hb hq).mpr (mt_right.mp h2.mt))
      rw [if_neg (fun z => this z.2)]
    | cons c l2 =>
      obtain ⟨jc, rfl, c1, c2, c3⟩ := occ_cons e2
      have m2 : Mt xs zs b jc l := (cut_mt hb c1).mp c2
      have hkl' : k' = l := by
        have := (h2.most b (ys.length + jc) l (Nat.le_refl _) (by lia) (Nat.le_refl _) (by lia) (mt_right.mpr m2)).1
        lia
      have hx : x = b := by have := h2.hi1; have := h2.lo1; lia
      have hy : y = ys.length + jc := by
        have := (h2.most b (ys.length + jc) l (Nat.le_refl _) (by lia) (Nat.le_refl _) (by lia) (mt_right.mpr m2)).2 hkl'.symm (by lia)
        have hle : y ≤ ys.length + jc := by lia
        rcases Nat.lt_or_ge y (ys.length + jc) with z | z
        · exfalso
          have hy := h2.lo2
          obtain ⟨q, rfl⟩ : ∃ q, y = ys.length + q := ⟨y - ys.length, by lia⟩
          refine c3 q (by lia) ((cut_mt hb (by have := h2.hi2; lia)).mpr ?_)
          have := h2.mt
          rw [hx, hkl'] at this
          exact mt_right.mp this
        · lia
      rw [if_pos ⟨hkl, hkl'⟩, hi, hj, hx, hy]
      push_cast
      rfl
/-- a stretch that all have, within what was asked: both answers are as long -/
theorem best_cover {b l i j k x y k' p m : Nat} (h1 : Best xs (ys ++ zs) b (b + l) 0 ys.length i j k) (h2 : Best xs (ys ++ zs) b (b + l) ys.length (ys.length + zs.length) x y k')
    (hbp : b ≤ p) (hpm : p + m ≤ b + l) (hx : p + m ≤ xs.length) (hc : (rowAt xs ys zs m p).isSome = true) : m ≤ k ∧ m ≤ k' := by
  unfold rowAt at hc
  cases e1 : occ ys (cutI xs p m) m with
  | nil => rw [e1] at hc; cases hc
  | cons a l1 =>
    cases e2 : occ zs (cutI xs p m) m with
    | nil => rw [e1, e2] at hc; cases hc
    | cons c l2 =>
      obtain ⟨ja, rfl, a1, a2, -⟩ := occ_cons e1
      obtain ⟨jc, rfl, c1, c2, -⟩ := occ_cons e2
      exact ⟨(h1.most p ja m hbp (Nat.zero_le _) hpm a1 ((mt_left a1).mpr ((cut_mt hx a1).mp a2))).1, (h2.most p (ys.length + jc) m hbp (by lia) hpm (by lia) (mt_right.mpr ((cut_mt hx c1).mp c2))).1⟩
end
end
section
open PySem PySem.W PyProof.Rows
set_option Elab.async false
theorem asc_ext : ∀ {l1 l2 : List Nat}, l1.Pairwise (· < ·) → l2.Pairwise (· < ·) → (∀ x, x ∈ l1 ↔ x ∈ l2) → l1 = l2
  | [], [], _, _, _ => rfl
  | [], b :: _, _, _, h => by have := (h b).mpr List.mem_cons_self; cases this
  | a :: _, [], _, _, h => by have := (h a).mp List.mem_cons_self; cases this
  | a :: l1, b :: l2, h1, h2, h => by
    rw [List.pairwise_cons] at h1 h2
    have hab : a = b := by
      rcases List.mem_cons.mp ((h a).mp List.mem_cons_self) with e | e
      · exact e
      · rcases List.mem_cons.mp ((h b).mpr List.mem_cons_self) with e' | e'
        · exact e'.symm
        · have := h2.1 a e; have := h1.1 b e'; lia
    subst hab
    congr 1
    refine asc_ext h1.2 h2.2 fun x => ⟨fun hx => ?_, fun hx => ?_⟩
    · rcases List.mem_cons.mp ((h x).mp (List.mem_cons_of_mem _ hx)) with e | e
      · have := h1.1 x hx; lia
      · exact e
    · rcases List.mem_cons.mp ((h x).mpr (List.mem_cons_of_mem _ hx)) with e | e
      · have := h2.1 x hx; lia
      · exact e
section
variable {xs ys zs : List Int}
/-- the stretch of length l at p stands in all -/
abbrev Cm (xs ys zs : List Int) (l p : Nat) : Prop := p + l ≤ xs.length ∧ (rowAt xs ys zs l p).isSome = true
theorem longAt_nil {l : Nat} : longAt xs ys zs l = [] ↔ ∀ p, ¬ Cm xs ys zs l p ∨ xs.length < l := by
  unfold longAt
  rw [List.filterMap_eq_nil_iff]
  constructor
  · intro h p
    by_cases hl : xs.length < l
    · exact .inr hl
    · refine .inl fun hc => ?_
      have := h p (List.mem_range.mpr (by have := hc.1; lia))
      have h2 := hc.2
      rw [this] at h2; cases h2
  · intro h p hp
    have hp := List.mem_range.mp hp
    cases e : rowAt xs ys zs l p with
    | none => rfl
    | some r =>
      rcases h p with z | z
      · exact absurd ⟨by lia, by rw [e]; rfl⟩ z
      · lia
theorem longest_cases : ∀ (k : Nat), k ≤ xs.length → (∀ l, k < l → l ≤ xs.length → longAt xs ys zs l = []) →
    (longest xs ys zs k = [] ∧ ∀ l, 1 ≤ l → l ≤ xs.length → longAt xs ys zs l = []) ∨
    ∃ m, 1 ≤ m ∧ m ≤ k ∧ longest xs ys zs k = longAt xs ys zs m ∧ longAt xs ys zs m ≠ [] ∧ ∀ l, m < l → l ≤ xs.length → longAt xs ys zs l = []
  | 0, _, h => .inl ⟨rfl, fun l h1 h2 => h l (by lia) h2⟩
  | k + 1, hk, h => by
    by_cases e : longAt xs ys zs (k + 1) = []
    · have ih := longest_cases k (by lia) fun l h1 h2 => by
        by_cases e' : l = k + 1
        · subst e'; exact e
        · exact h l (by lia) h2
      rw [longest, if_pos e]
      rcases ih with ih | ⟨m, a, b, c⟩
      · exact .inl ih
      · exact .inr ⟨m, a, by lia, c⟩
    · exact .inr ⟨k + 1, by lia, Nat.le_refl _, by rw [longest, if_neg e], e, h⟩
structure IsMax (xs ys zs : List Int) (m : Nat) : Prop where
  pos : 1 ≤ m
  has : ∃ p, Cm xs ys zs m p
  top : ∀ l p, m < l → ¬ Cm xs ys zs l p
theorem longest_max {m : Nat} (h : IsMax xs ys zs m) : longest xs ys zs xs.length = longAt xs ys zs m := by
  obtain ⟨p, hp⟩ := h.has
  rcases longest_cases (xs := xs) (ys := ys) (zs := zs) xs.length (Nat.le_refl _) (fun l h1 h2 => by lia) with ⟨_, h2⟩ | ⟨m', a, b, c, d, e⟩
  · exfalso
    have := longAt_nil.mp (h2 m h.pos (by have := hp.1; lia)) p
    rcases this with z | z
    · exact z hp
    · have := hp.1; lia
  · have : m' = m := by
      rcases Nat.lt_trichotomy m' m with z | z | z
      · have := longAt_nil.mp (e m z (by have := hp.1; lia)) p
        rcases this with y | y
        · exact absurd hp y
        · have := hp.1; lia
      · exact z
      · exfalso
        refine d (longAt_nil.mpr fun q => .inl (h.top m' q z))
    subst this; exact c
theorem longest_none (h : ¬ ∃ m, IsMax xs ys zs m) : longest xs ys zs xs.length = [] := by
  rcases longest_cases (xs := xs) (ys := ys) (zs := zs) xs.length (Nat.le_refl _) (fun l h1 h2 => by lia) with ⟨h1, _⟩ | ⟨m', a, b, c, d, e⟩
  · exact h1
  · exfalso
    refine h ⟨m', a, ?_, fun l p hl hc => ?_⟩
    · by_cases q : ∃ p, Cm xs ys zs m' p
      · exact q
      · exact absurd (longAt_nil.mpr fun p => .inl fun hc => q ⟨p, hc⟩) d
    · have := longAt_nil.mp (e l hl (by have := hc.1; lia)) p
      rcases this with z | z
      · exact z hc
      · have := hc.1; lia
theorem longAt_of {m : Nat} {T : List Nat} (hT : T.Pairwise (· < ·)) (h : ∀ p, p ∈ T ↔ Cm xs ys zs m p) : T.filterMap (rowAt xs ys zs m) = longAt xs ys zs m := by
  have e : T = (List.range (xs.length + 1 - m)).filter fun p => (rowAt xs ys zs m p).isSome := by
    refine asc_ext hT (List.Pairwise.filter _ List.pairwise_lt_range) fun p => ?_
    rw [h p, List.mem_filter, List.mem_range]
    constructor
    · intro hc
      exact ⟨by have := hc.1; lia, hc.2⟩
    · intro hc
      exact ⟨by lia, hc.2⟩
  rw [e]
  unfold longAt
  generalize List.range (xs.length + 1 - m) = L
  induction L with
  | nil => rfl
  | cons a L ih =>
    rw [List.filter_cons]
    cases e : rowAt xs ys zs m a with
    | none => simp [e, ih]
    | some r => simp [e, ih]
/-! the loop -/
def kk (l b : Nat) : Int × Int := (-(l : Int), (b : Int))
def Valid (n : Nat) (k : Int × Int) : Prop := ∃ l b, k = kk l b ∧ 1 ≤ l ∧ b + l ≤ n
def codeN (n : Nat) (k : Int × Int) : Nat := (n - (-k.1).toNat) * (n + 1) + k.2.toNat
theorem code_kk (n l b : Nat) : codeN n (kk l b) = (n - l) * (n + 1) + b := by
  unfold codeN kk
  simp
theorem lt_kk {l b l' b' : Nat} : ltII (kk l b) (kk l' b') = true ↔ l' < l ∨ (l = l' ∧ b < b') := by
  unfold ltII kk
  dsimp only
  by_cases h : l = l'
  · subst h; simp
  · have : ¬ (-(l : Int)) = -(l' : Int) := by lia
    simp [this]
    lia
theorem code_lt {n l b l' b' : Nat} (hb : b ≤ n) (hl : l ≤ n) (h : ltII (kk l b) (kk l' b') = true) : codeN n (kk l b) < codeN n (kk l' b') := by
  rw [code_kk, code_kk]
  rcases lt_kk.mp h with z | ⟨rfl, z⟩
  · have : n - l + 1 ≤ n - l' := by lia
    have h2 := Nat.mul_le_mul_right (n + 1) this
    rw [Nat.add_mul, Nat.one_mul] at h2
    lia
  · lia
theorem code_bound {n l b : Nat} (hl : 1 ≤ l) (h : b + l ≤ n) : codeN n (kk l b) < (n + 1) * (n + 1) := by
  rw [code_kk]
  have h2 := Nat.mul_le_mul_right (n + 1) (show n - l ≤ n by lia)
  rw [Nat.add_mul, Nat.one_mul]
  lia
theorem ltII_iff {a b : Int × Int} : ltII a b = true ↔ a.1 < b.1 ∨ (a.1 = b.1 ∧ a.2 < b.2) := by
  unfold ltII
  by_cases h : a.1 = b.1
  · rw [if_pos (by simpa using h), decide_eq_true_eq]; lia
  · rw [if_neg (by simpa using h), decide_eq_true_eq]; lia
theorem lt_trans_kk {a b c : Int × Int} (h1 : ltII a b = true) (h2 : ltII b c = true) : ltII a c = true := by
  rw [ltII_iff] at *
  lia
structure Loop (xs ys zs : List Int) (H asked : List (Int × Int)) (told : List (List Int)) (c : Nat) : Prop where
  val : ∀ k ∈ H, Valid xs.length k
  nd : H.Nodup
  cod : ∀ k ∈ H, c ≤ codeN xs.length k
  srt : asked.Pairwise fun a b => ltII a b = true
  bef : ∀ a ∈ asked, ∀ k ∈ H, ltII a k = true
  hl : H.length ≤ 1 + (xs.length + 1) * c
  al : asked.length ≤ c
  tl : told.length ≤ c
  ph : (told = [] ∧ ∀ m, IsMax xs ys zs m → ∀ p, Cm xs ys zs m p → ∃ l b, kk l b ∈ H ∧ b ≤ p ∧ p + m ≤ b + l) ∨
    (∃ m T, IsMax xs ys zs m ∧ T ≠ [] ∧ T.Pairwise (· < ·) ∧ (∀ p ∈ T, Cm xs ys zs m p) ∧ told = T.filterMap (rowAt xs ys zs m) ∧ (∀ p, Cm xs ys zs m p → p ∈ T ∨ kk m p ∈ H) ∧ ∀ p ∈ T, ∀ k ∈ H, ltII (kk m p) k = true)
theorem Loop.start (h : 1 ≤ xs.length) : Loop xs ys zs [kk xs.length 0] [] [] 0 := by
  refine ⟨fun k hk => ?_, by simp, fun _ _ => Nat.zero_le _, List.Pairwise.nil, (fun _ h => nomatch h), by simp, Nat.le_refl _, Nat.le_refl _, .inl ⟨rfl, fun m hm p hp => ⟨xs.length, 0, by simp, Nat.zero_le _, by have := hp.1; lia⟩⟩⟩
  rw [List.mem_singleton] at hk
  subst hk
  exact ⟨_, _, rfl, h, by lia⟩
/-- nothing is left -/
theorem Loop.done {asked : List (Int × Int)} {told : List (List Int)} {c : Nat} (h : Loop xs ys zs [] asked told c) : told = longest xs ys zs xs.length := by
  rcases h.ph with ⟨rfl, hp⟩ | ⟨m, T, hm, _, hT, hc, rfl, hall, _⟩
  · refine (longest_none ?_).symm
    rintro ⟨m, hm⟩
    obtain ⟨p, hp'⟩ := hm.has
    obtain ⟨l, b, hb, _⟩ := hp m hm p hp'
    cases hb
  · rw [longest_max hm]
    refine longAt_of hT fun p => ⟨fun hp => hc p hp, fun hp => ?_⟩
    rcases hall p hp with z | z
    · exact z
    · cases z
end
end
section
open PySem PySem.W PyProof.Rows
set_option Elab.async false
section
variable {xs ys zs : List Int} {H H' asked : List (Int × Int)} {told : List (List Int)} {c l b : Nat}
theorem kk_inj {l b l' b' : Nat} (h : kk l b = kk l' b') : l = l' ∧ b = b' := by
  unfold kk at h
  injection h with h1 h2
  lia
/-- what is popped: a valid key -/
theorem Loop.top {t : Int × Int} (h : Loop xs ys zs H asked told c) (hp : (t :: H').Perm H) : ∃ l b, t = kk l b ∧ 1 ≤ l ∧ b + l ≤ xs.length ∧ c ≤ codeN xs.length t := by
  have hm : t ∈ H := hp.mem_iff.mp List.mem_cons_self
  obtain ⟨l, b, e, h1, h2⟩ := h.val t hm
  exact ⟨l, b, e, h1, h2, h.cod t hm⟩
theorem Loop.next (h : Loop xs ys zs H asked told c) (hp : (kk l b :: H').Perm H) (hmin : ∀ k ∈ H', ltII (kk l b) k = true) (h1 : 1 ≤ l) (h2 : b + l ≤ xs.length) {G : List (Int × Int)} {told' : List (List Int)}
    (hG : ∀ k ∈ G, Valid xs.length k) (hGn : G.Nodup) (hGl : ∀ k ∈ G, ltII (kk l b) k = true) (hGlen : G.length ≤ H'.length + (xs.length + 1)) (ht : told'.length ≤ told.length + 1)
    (ph : (told' = [] ∧ ∀ m, IsMax xs ys zs m → ∀ p, Cm xs ys zs m p → ∃ l b, kk l b ∈ G ∧ b ≤ p ∧ p + m ≤ b + l) ∨
      (∃ m T, IsMax xs ys zs m ∧ T ≠ [] ∧ T.Pairwise (· < ·) ∧ (∀ p ∈ T, Cm xs ys zs m p) ∧ told' = T.filterMap (rowAt xs ys zs m) ∧ (∀ p, Cm xs ys zs m p → p ∈ T ∨ kk m p ∈ G) ∧ ∀ p ∈ T, ∀ k ∈ G, ltII (kk m p) k = true)) :
    Loop xs ys zs G (asked ++ [kk l b]) told' (codeN xs.length (kk l b) + 1) := by
  have hm : kk l b ∈ H := hp.mem_iff.mp List.mem_cons_self
  have hc := h.cod _ hm
  have hlen := hp.length_eq
  rw [List.length_cons] at hlen
  have hHl := h.hl
  have hmul : (xs.length + 1) * (c + 1) ≤ (xs.length + 1) * (codeN xs.length (kk l b) + 1) := Nat.mul_le_mul_left _ (by lia)
  rw [Nat.mul_add, Nat.mul_one] at hmul
  refine ⟨hG, hGn, fun k hk => ?_, ?_, fun a ha k hk => ?_, by lia, ?_, by have := h.tl; lia, ph⟩
  · obtain ⟨l', b', rfl, _, _⟩ := hG k hk
    have := code_lt (n := xs.length) (by lia) (by lia) (hGl _ hk)
    lia
  · rw [List.pairwise_append]
    refine ⟨h.srt, by simp, fun a ha q hq => ?_⟩
    rw [List.mem_singleton] at hq
    subst hq
    exact h.bef a ha _ hm
  · rcases List.mem_append.mp ha with z | z
    · exact lt_trans_kk (h.bef a z _ hm) (hGl k hk)
    · rw [List.mem_singleton] at z
      subst z
      exact hGl k hk
  · rw [List.length_append, List.length_singleton]
    have := h.al
    lia
theorem Loop.sub (h : Loop xs ys zs H asked told c) {t : Int × Int} (hp : (t :: H').Perm H) : (∀ k ∈ H', Valid xs.length k) ∧ H'.Nodup := by
  have nd := hp.nodup_iff.mpr h.nd
  exact ⟨fun k hk => h.val k (hp.mem_iff.mp (List.mem_cons_of_mem _ hk)), (List.nodup_cons.mp nd).2⟩
theorem row_head {m p : Nat} {r : List Int} (h : rowAt xs ys zs m p = some r) : ∃ r', r = -(m : Int) :: r' := by
  unfold rowAt at h
  split at h
  · injection h with h; exact ⟨_, h.symm⟩
  · cases h
theorem told_head {m : Nat} {T : List Nat} (hT : T ≠ []) (hc : ∀ p ∈ T, Cm xs ys zs m p) : ∃ r rs, T.filterMap (rowAt xs ys zs m) = (-(m : Int) :: r) :: rs := by
  cases T with
  | nil => exact absurd rfl hT
  | cons p T =>
    obtain ⟨row, e⟩ := Option.isSome_iff_exists.mp (hc p List.mem_cons_self).2
    obtain ⟨r, rfl⟩ := row_head e
    exact ⟨r, _, by rw [List.filterMap_cons, e]⟩
/-- what is left is shorter -/
theorem Loop.brk (h : Loop xs ys zs H asked told c) (hp : (kk l b :: H').Perm H) (hmin : ∀ k ∈ H', ltII (kk l b) k = true) {z : Int} {r : List Int} {rs : List (List Int)} (ht : told = (z :: r) :: rs) (hz : z < -(l : Int)) : told = longest xs ys zs xs.length := by
  rcases h.ph with ⟨e, _⟩ | ⟨m, T, hm, hT0, hT, hc, e, hall, _⟩
  · rw [e] at ht; cases ht
  · obtain ⟨r', rs', e2⟩ := told_head hT0 hc
    rw [e, e2] at ht
    injection ht with ht _
    injection ht with ht _
    rw [e, longest_max hm]
    refine longAt_of hT fun p => ⟨fun hp => hc p hp, fun hp' => ?_⟩
    rcases hall p hp' with y | y
    · exact y
    · exfalso
      rcases List.mem_cons.mp (hp.mem_iff.mpr y) with e3 | e3
      · have := kk_inj e3; lia
      · have := lt_kk.mp (hmin _ e3); lia
/-- asked, not told, nothing pushed -/
theorem Loop.pass (h : Loop xs ys zs H asked told c) (hp : (kk l b :: H').Perm H) (hmin : ∀ k ∈ H', ltII (kk l b) k = true) (h1 : 1 ≤ l) (h2 : b + l ≤ xs.length) (hr : rowAt xs ys zs l b = none)
    (hq : told ≠ [] ∨ ∀ m p, 1 ≤ m → Cm xs ys zs m p → b ≤ p → p + m ≤ b + l → False) : Loop xs ys zs H' (asked ++ [kk l b]) told (codeN xs.length (kk l b) + 1) := by
  obtain ⟨hv, hnd⟩ := h.sub hp
  refine h.next hp hmin h1 h2 hv hnd hmin (by lia) (by lia) ?_
  rcases h.ph with ⟨e, hcov⟩ | ⟨m, T, hm, hT0, hT, hc, e, hall, hbe⟩
  · refine .inl ⟨e, fun m hm p hcp => ?_⟩
    obtain ⟨l', b', a1, a2, a3⟩ := hcov m hm p hcp
    rcases List.mem_cons.mp (hp.mem_iff.mpr a1) with e3 | e3
    · obtain ⟨rfl, rfl⟩ := kk_inj e3
      rcases hq with q | q
      · exact absurd e q
      · exact (q m p hm.pos hcp a2 a3).elim
    · exact ⟨l', b', e3, a2, a3⟩
  · refine .inr ⟨m, T, hm, hT0, hT, hc, e, fun p hcp => ?_, fun p hpT k hk => hbe p hpT k (hp.mem_iff.mp (List.mem_cons_of_mem _ hk))⟩
    rcases hall p hcp with y | y
    · exact .inl y
    · rcases List.mem_cons.mp (hp.mem_iff.mpr y) with e3 | e3
      · obtain ⟨rfl, rfl⟩ := kk_inj e3
        have := hcp.2
        rw [hr] at this
        cases this
      · exact .inr e3
theorem exists_max (h1 : 1 ≤ l) (hc : Cm xs ys zs l b) : ∃ m, IsMax xs ys zs m := by
  rcases longest_cases (xs := xs) (ys := ys) (zs := zs) xs.length (Nat.le_refl _) (fun l h1 h2 => by lia) with ⟨_, h2⟩ | ⟨m', a, _, _, d, e⟩
  · exfalso
    rcases longAt_nil.mp (h2 l h1 (by have := hc.1; lia)) b with z | z
    · exact z hc
    · have := hc.1; lia
  · refine ⟨m', a, ?_, fun l p hl hc => ?_⟩
    · by_cases q : ∃ p, Cm xs ys zs m' p
      · exact q
      · exact absurd (longAt_nil.mpr fun p => .inl fun hc => q ⟨p, hc⟩) d
    · rcases longAt_nil.mp (e l hl (by have := hc.1; lia)) p with z | z
      · exact z hc
      · have := hc.1; lia
/-- told -/
theorem Loop.tell (h : Loop xs ys zs H asked told c) (hp : (kk l b :: H').Perm H) (hmin : ∀ k ∈ H', ltII (kk l b) k = true) (h1 : 1 ≤ l) (h2 : b + l ≤ xs.length) {row : List Int} (hr : rowAt xs ys zs l b = some row)
    (hnb : ∀ z r rs, told = (z :: r) :: rs → ¬ z < -(l : Int)) : Loop xs ys zs H' (asked ++ [kk l b]) (told ++ [row]) (codeN xs.length (kk l b) + 1) := by
  obtain ⟨hv, hnd⟩ := h.sub hp
  have hC : Cm xs ys zs l b := ⟨h2, by rw [hr]; rfl⟩
  refine h.next hp hmin h1 h2 hv hnd hmin (by lia) (by simp) (.inr ?_)
  rcases h.ph with ⟨e, hcov⟩ | ⟨m, T, hm, hT0, hT, hc, e, hall, hbe⟩
  · obtain ⟨m, hm⟩ := exists_max h1 hC
    have hlm : l ≤ m := by
      rcases Nat.lt_or_ge m l with z | z
      · exact absurd hC (hm.top l b z)
      · exact z
    have hcov' : ∀ p, Cm xs ys zs m p → m ≤ l ∧ (p = b ∨ kk m p ∈ H') := by
      intro p hcp
      obtain ⟨l', b', a1, a2, a3⟩ := hcov m hm p hcp
      rcases List.mem_cons.mp (hp.mem_iff.mpr a1) with e3 | e3
      · obtain ⟨rfl, rfl⟩ := kk_inj e3
        exact ⟨by lia, .inl (by lia)⟩
      · have := lt_kk.mp (hmin _ e3)
        have hl' : l' = m := by lia
        subst hl'
        exact ⟨by lia, .inr (by rw [show p = b' by lia]; exact e3)⟩
    obtain ⟨p0, hp0⟩ := hm.has
    have hml : l = m := by have := (hcov' p0 hp0).1; lia
    subst hml
    refine ⟨l, [b], hm, by simp, by simp, fun p hpT => ?_, ?_, fun p hcp => ?_, fun p hpT k hk => ?_⟩
    · rw [List.mem_singleton] at hpT; subst hpT; exact hC
    · rw [e]; simp [hr]
    · rcases (hcov' p hcp).2 with y | y
      · exact .inl (by simp [y])
      · exact .inr y
    · rw [List.mem_singleton] at hpT; subst hpT; exact hmin k hk
  · obtain ⟨r', rs', e2⟩ := told_head hT0 hc
    have hz := hnb (-(m : Int)) r' rs' (e.trans e2)
    have hlm : l = m := by
      rcases Nat.lt_or_ge m l with z | z
      · exact absurd hC (hm.top l b z)
      · lia
    subst hlm
    have hmH : kk l b ∈ H := hp.mem_iff.mp List.mem_cons_self
    refine ⟨l, T ++ [b], hm, by simp, ?_, fun p hpT => ?_, ?_, fun p hcp => ?_, fun p hpT k hk => ?_⟩
    · rw [List.pairwise_append]
      refine ⟨hT, by simp, fun p hpT q hq => ?_⟩
      rw [List.mem_singleton] at hq
      subst hq
      have := lt_kk.mp (hbe p hpT _ hmH)
      lia
    · rcases List.mem_append.mp hpT with y | y
      · exact hc p y
      · rw [List.mem_singleton] at y; subst y; exact hC
    · rw [e, List.filterMap_append]; simp [hr]
    · rcases hall p hcp with y | y
      · exact .inl (List.mem_append_left _ y)
      · rcases List.mem_cons.mp (hp.mem_iff.mpr y) with e3 | e3
        · obtain ⟨_, rfl⟩ := kk_inj e3; exact .inl (by simp)
        · exact .inr e3
    · rcases List.mem_append.mp hpT with y | y
      · exact hbe p y k (hp.mem_iff.mp (List.mem_cons_of_mem _ hk))
      · rw [List.mem_singleton] at y; subst y; exact hmin k hk
/-- parts pushed -/
theorem Loop.push (h : Loop xs ys zs H asked [] c) (hp : (kk l b :: H').Perm H) (hmin : ∀ k ∈ H', ltII (kk l b) k = true) (h1 : 1 ≤ l) (h2 : b + l ≤ xs.length) {g : Nat} (hg1 : 1 ≤ g) (hg : g < l)
    (hcv : ∀ m p, 1 ≤ m → Cm xs ys zs m p → b ≤ p → p + m ≤ b + l → m ≤ g) {G : List (Int × Int)} (g1 : ∀ k ∈ H', k ∈ G) (g2 : ∀ k ∈ G, k ∈ H' ∨ ∃ q, b ≤ q ∧ q + g ≤ b + l ∧ k = kk g q) (g3 : ∀ q, b ≤ q → q + g ≤ b + l → kk g q ∈ G) (hGn : G.Nodup)
    (hGlen : G.length ≤ H'.length + (xs.length + 1)) : Loop xs ys zs G (asked ++ [kk l b]) [] (codeN xs.length (kk l b) + 1) := by
  obtain ⟨hv, hnd⟩ := h.sub hp
  refine h.next hp hmin h1 h2 (fun k hk => ?_) hGn (fun k hk => ?_) hGlen (by simp) (.inl ⟨rfl, fun m hm p hcp => ?_⟩)
  · rcases g2 k hk with y | ⟨q, q1, q2, rfl⟩
    · exact hv k y
    · exact ⟨g, q, rfl, hg1, by lia⟩
  · rcases g2 k hk with y | ⟨q, q1, q2, rfl⟩
    · exact hmin k y
    · exact lt_kk.mpr (.inl hg)
  · rcases h.ph with ⟨_, hcov⟩ | ⟨m', T, hm', hT0, hT, hc, e, _⟩
    · obtain ⟨l', b', a1, a2, a3⟩ := hcov m hm p hcp
      rcases List.mem_cons.mp (hp.mem_iff.mpr a1) with e3 | e3
      · obtain ⟨rfl, rfl⟩ := kk_inj e3
        have hmg := hcv m p hm.pos hcp a2 a3
        by_cases hcase : p + g ≤ b' + l'
        · exact ⟨g, p, g3 p a2 hcase, Nat.le_refl _, by lia⟩
        · exact ⟨g, b' + l' - g, g3 _ (by lia) (by lia), by lia, by lia⟩
      · exact ⟨l', b', g1 _ e3, a2, a3⟩
    · exfalso
      obtain ⟨r', rs', e2⟩ := told_head hT0 hc
      rw [e2] at e; cases e
end
end
section
open PySem PySem.W PyProof.Rows
set_option Elab.async false
set_option maxRecDepth 100000
def asgVal : Stmt → Expr | .Assign _ v _ => v | _ => .Constant .none 0 default
def compScope : Expr → Scope | .ListComp _ _ s _ => s | _ => default
def compIfs : Expr → List Expr | .ListComp _ (g :: _) _ _ => g.ifs | _ => []
/-- _law_longest: the statements of the loops -/
def loOut : List Stmt := forBody (nth (fnBody (stAt pw 13)) 0)
def loIn : List Stmt := forBody (nth loOut 1)
abbrev loE (L f : Addr) (cd : Value) : Env := envOfC "_law_longest" (fnScope (stAt pw 13)) L f cd
section
variable {w : World} {A : Around} {E : Value → Shared → Prop} {s : Shared} {B : PM} {cs : Cs} {h₀ : Heap} {mg : Str → Option Value} {Q : Value → Shared → Prop}
theorem forIn_one {M : Model} {c : Expr} {env : Env} {P : Bool → Shared → Prop} (h : wpAny M A (isTrue c env (eval c env)) P E s) :
    wpAny M A (forIn [c] true fun c r => if r = true then do let ok ← isTrue c env (eval c env); pure (ForInStep.yield ok) else pure (ForInStep.yield r)) P E s := by
  rw [List.forIn_cons]
  refine wpAny_bind ?_
  rw [if_pos rfl]
  refine wpAny_bind (wpAny_mono h (fun b s' hb => wpAny_pure ?_) fun _ _ z => z)
  dsimp only
  rw [List.forIn_nil]
  exact wpAny_pure hb
set_option maxHeartbeats 4000000 in
theorem lo_test1 {L f ly lp : Addr} {cd : Value} {vy vp : List Value} {ys part : List Int} {size N i1 i2 i3 : Nat} {ts : Tok} {r : Cs} (hu : A.units < cLine) (hy : IsL B ly vy) (iy : IsInts vy ys) (ny : ys.length ≤ 60) (ip : IsInts vp part)
    (e1 : r[i1]? = some (L + 1, CellP (some (.ref ly)))) (e3 : r[i2]? = some (L + 3, CellP (some (.int size ts)))) (e4 : r[i3]? = some (L + 4, CellP (some (.ref lp)))) (hp : IsL B lp vp) :
    TestOk pw w A (loE L f cd) (compScope (asgVal (nth loIn 1))) [("size", L + 3), ("second", L + 1), ("part", L + 4)] "j" (compIfs (asgVal (nth loIn 1))) 0 N (fun j => decide (cutI ys j.toNat size = part)) B r := by
  intro C j t m₃ s₃ E' _ _ Z hj
  refine forIn_one ?_
  refine wpAny_isTrue_Compare1 ?_ (by with_unfolding_all rfl)
  refine sliceSt ?_
  refine ldCe Z (i := i1 + 1) e1 (by rfl) ?_
  refine wpAny_evalPart_some ?_
  walk_at "go"
  refine wpAny_evalPart_some ?_
  walk_at "go"
  refine ldCe Z (i := i2 + 1) e3 (by rfl) ?_
  walk_at "go"
  refine ⟨ly, vy, some (j : Int), some ((j : Int) + (size : Int)), B, _, rfl, hy.at Z, by rw [iy.length]; lia, .int _ _, .int _ _, Z, fun h' D hk Z' => ?_⟩
  replace Z' := Z'.swap
  refine ldCe Z' (i := i3 + 2) e4 (by rfl) ?_
  refine eqInts (by simpa using (Z'.lst (i := 1) rfl).isList) (hp.at Z') (sliceCut iy j size) ip hu ?_
  refine wpAny_truthy_bool ?_
  exact ⟨by simp, h', _, rfl, hk⟩
set_option maxHeartbeats 4000000 in
theorem lo_test2 {L f ly lp : Addr} {cd : Value} {vy vp : List Value} {ys part : List Int} {size N i1 i2 i3 : Nat} {ts : Tok} {r : Cs} (hu : A.units < cLine) (hy : IsL B ly vy) (iy : IsInts vy ys) (ny : ys.length ≤ 60) (ip : IsInts vp part)
    (e1 : r[i1]? = some (L + 2, CellP (some (.ref ly)))) (e3 : r[i2]? = some (L + 3, CellP (some (.int size ts)))) (e4 : r[i3]? = some (L + 4, CellP (some (.ref lp)))) (hp : IsL B lp vp) :
    TestOk pw w A (loE L f cd) (compScope (asgVal (nth loIn 2))) [("third", L + 2), ("size", L + 3), ("part", L + 4)] "j" (compIfs (asgVal (nth loIn 2))) 0 N (fun j => decide (cutI ys j.toNat size = part)) B r := by
  intro C j t m₃ s₃ E' _ _ Z hj
  refine forIn_one ?_
  refine wpAny_isTrue_Compare1 ?_ (by with_unfolding_all rfl)
  refine sliceSt ?_
  refine ldCe Z (i := i1 + 1) e1 (by rfl) ?_
  refine wpAny_evalPart_some ?_
  walk_at "go"
  refine wpAny_evalPart_some ?_
  walk_at "go"
  refine ldCe Z (i := i2 + 1) e3 (by rfl) ?_
  walk_at "go"
  refine ⟨ly, vy, some (j : Int), some ((j : Int) + (size : Int)), B, _, rfl, hy.at Z, by rw [iy.length]; lia, .int _ _, .int _ _, Z, fun h' D hk Z' => ?_⟩
  replace Z' := Z'.swap
  refine ldCe Z' (i := i3 + 2) e4 (by rfl) ?_
  refine eqInts (by simpa using (Z'.lst (i := 1) rfl).isList) (hp.at Z') (sliceCut iy j size) ip hu ?_
  refine wpAny_truthy_bool ?_
  exact ⟨by simp, h', _, rfl, hk⟩
end
end
section
open PySem PySem.W PyProof.Rows
set_option Elab.async false
set_option maxRecDepth 100000
section
variable {w : World} {A : Around} {E : Value → Shared → Prop} {s : Shared} {B : PM} {cs : Cs} {h₀ : Heap} {mg : Str → Option Value} {Q : Value → Shared → Prop}
theorem five {a b c d e : Int} {t1 t2 t3 t4 t5 : Tok} : IsInts [.int a t1, .int b t2, .int c t3, .int d t4, .int e t5] [a, b, c, d, e] := ⟨⟨_, rfl⟩, ⟨_, rfl⟩, ⟨_, rfl⟩, ⟨_, rfl⟩, ⟨_, rfl⟩, trivial⟩
set_option maxHeartbeats 8000000 in
theorem lo_turn {f L it ll lx ly lz : Addr} {Pit : Obj → Prop} {cd : Value} {vx vy vz us : List Value} {xs ys zs : List Int} {tt : List (List Int)} {size b : Nat} {ts tb : Tok} {p0 : Option Value} {m : Str → Option Value} {h : Heap} {tk : Nat} {pos : Pos} (hh : A.handled = none) (hu : A.units + 10 < cLine) (G : G0 h₀ mg) (Bn : Bi mg) (K0 : In0 h₀ B)
    (Z : St B ((L, NsP m) :: (it, Pit) :: (ll, LstP us) :: (L + 4, CellP p0) :: (L + 3, CellP (some (.int size ts))) :: (L + 2, CellP (some (.ref lz))) :: (L + 1, CellP (some (.ref ly))) :: cs) h)
    (hx : IsL B lx vx) (hy : IsL B ly vy) (hz : IsL B lz vz) (ix : IsInts vx xs) (iy : IsInts vy ys) (iz : IsInts vz zs) (nx : xs.length ≤ 60) (ny : ys.length ≤ 60) (nz : zs.length ≤ 60)
    (m1 : m "first" = some (.ref lx)) (m2 : m "longest" = some (.ref ll)) (hus : IsTs B us tt) (hul : us.length ≤ 1000) (hb : b + size ≤ xs.length) (hs1 : 1 ≤ size) :
    wpAny (model pw w) A (assign (.Name "begin" pos) (loE L f cd) (.int b tb)) (fun _ s₂ => wpAny (model pw w) A (execs loIn (loE L f cd)) (fun fl s₃ => match fl with
      | .next | .cont => ∃ (B' : PM) (us' : List Value) (m' : Str → Option Value) (p' : Option Value) (h' : Heap) (tk' : Nat), s₃ = { s with heap := h', toks := tk' } ∧ Le B B' ∧ IsTs B' us' (tt ++ (rowAt xs ys zs size b).toList) ∧
          St B' ((L, NsP m') :: (it, Pit) :: (ll, LstP us') :: (L + 4, CellP p') :: (L + 3, CellP (some (.int size ts))) :: (L + 2, CellP (some (.ref lz))) :: (L + 1, CellP (some (.ref ly))) :: cs) h' ∧ m' "first" = some (.ref lx) ∧ m' "longest" = some (.ref ll)
      | _ => False) noE s₂) noE { s with heap := h, toks := tk } := by
  refine cps2 fun Q₀ hQ₀ => ?_
  refine wpAny_assign_Name ?_
  walk_at "go"
  rename_i h₁ Z₁
  refine wpAny_execs_cons ?_
  walk_at "go"
  refine sliceSt ?_
  walk_at "go"
  refine wpAny_evalPart_some ?_
  walk_at "go"
  refine wpAny_evalPart_some ?_
  walk_at "go"
  refine ldCe Z₁ (i := 4) rfl (by rfl) ?_
  walk_at "go"
  refine ⟨lx, vx, some (b : Int), some ((b : Int) + (size : Int)), B, _, rfl, hx.at Z₁, by rw [ix.length]; lia, .int _ _, .int _ _, Z₁, fun h₂ D hk Z₂ => ?_⟩
  try dsimp only
  have ip := sliceCut ix b size
  obtain ⟨oD, ⟨nD, pD⟩, -, Z₃, le₁⟩ := Z₂.freeze
  have hD : IsL (B.add D oD) D (slicePick vx.toArray (some (b : Int)) (some ((b : Int) + (size : Int))) none).toList := ⟨_, PM.add_self, by rw [pD], nD, by rw [pD]⟩
  have K1 := K0.le le₁
  have hx1 := hx.le le₁
  have hy1 := hy.le le₁
  have hz1 := hz.le le₁
  have hus1 := hus.le le₁
  clear Z₂ Z₁
  revert Z₃ le₁ hD K1 hx1 hy1 hz1 hus1
  generalize B.add D oD = B₁
  intro Z₃ le₁ hD K1 hx1 hy1 hz1 hus1
  refine stCe Z₃ (i := 3) rfl (by rfl) fun h₄ Z₄ => ?_
  replace Z₄ : St B₁ ((L, NsP _) :: (it, Pit) :: (ll, LstP us) :: (L + 4, CellP (some (.ref D))) :: (L + 3, CellP (some (.int size ts))) :: (L + 2, CellP (some (.ref lz))) :: (L + 1, CellP (some (.ref ly))) :: cs) h₄ := Z₄
  clear Z₃
  try dsimp only
  refine wpAny_execs_cons ?_
  refine compAsg (cl := [("size", L + 3), ("second", L + 1), ("part", L + 4)]) (fun j => decide (cutI ys j.toNat size = cutI xs b size)) hh (by rfl) (by rfl) (by decide +kernel) (by rfl) (by decide +kernel) (by rfl) (by decide) (by rfl) (by rfl) ?_
  refine callT G K1 Z₄ Bn.range boot_range ?_
  walk_at "go"
  refine callB G K1 Z₄ Bn.len boot_len ?_
  walk_at "go"
  refine ldCe Z₄ (i := 6) rfl (by rfl) ?_
  walk_at "go"
  refine lenL (vs := vy) (hy1.at Z₄) (by rw [iy.length]; lia) fun tl tkl => ?_
  rw [iy.length]
  refine ldCe Z₄ (i := 4) rfl (by rfl) ?_
  walk_at "go"
  refine rangeSt1 Z₄ fun r h₅ tk₅ q1 q2 q3 hr Z₅ => ?_
  refine ⟨r, 0, ys.length + 1 - size, _, q1, q2, q3, B₁, _, _, rfl, hr, small_okZ (by lia) (by lia), (range_sizeZ (by lia)).trans (by congr 1; lia), by lia, Z₅, lo_test1 (i1 := 6) (i2 := 4) (i3 := 3) (by lia) hy1 iy ny ip rfl rfl rfl hD, fun D₂ hs h₆ tk₆ hi Z₆ => ?_⟩
  have hi : IsInts hs (occ ys (cutI xs b size) size) := hi
  clear Z₅ Z₄
  try dsimp only
  refine wpAny_execs_cons ?_
  refine compAsg (cl := [("third", L + 2), ("size", L + 3), ("part", L + 4)]) (fun j => decide (cutI zs j.toNat size = cutI xs b size)) hh (by rfl) (by rfl) (by decide +kernel) (by rfl) (by decide +kernel) (by rfl) (by decide) (by rfl) (by rfl) ?_
  refine callT G K1 Z₆ Bn.range boot_range ?_
  walk_at "go"
  refine callB G K1 Z₆ Bn.len boot_len ?_
  walk_at "go"
  refine ldCe Z₆ (i := 6) rfl (by rfl) ?_
  walk_at "go"
  refine lenL (vs := vz) (hz1.at Z₆) (by rw [iz.length]; lia) fun tl2 tkl2 => ?_
  rw [iz.length]
  refine ldCe Z₆ (i := 5) rfl (by rfl) ?_
  walk_at "go"
  refine rangeSt1 Z₆ fun r₂ h₇ tk₇ q4 q5 q6 hr₂ Z₇ => ?_
  refine ⟨r₂, 0, zs.length + 1 - size, _, q4, q5, q6, B₁, _, _, rfl, hr₂, small_okZ (by lia) (by lia), (range_sizeZ (by lia)).trans (by congr 1; lia), by lia, Z₇, lo_test2 (i1 := 6) (i2 := 5) (i3 := 4) (by lia) hz1 iz nz ip rfl rfl rfl hD, fun D₃ ht h₈ tk₈ hj Z₈ => ?_⟩
  have hj : IsInts ht (occ zs (cutI xs b size) size) := hj
  clear Z₇ Z₆
  try dsimp only
  walk_at "go"
  refine listSt ?_
  walk_at "go"
  refine ⟨by simp, B₁, _, Z₈, fun D₄ h₉ Z₉ => ?_⟩
  replace Z₉ := Z₉.swap
  refine neNil (Z₉.lst (i := 3) rfl).isList (Z₉.lst (i := 1) rfl).isList (by lia) ?_
  replace Z₉ := Z₉.swap.drop
  walk_at "go"
  have fin0 : rowAt xs ys zs size b = none → ∀ (hz' : Heap) (tk' : Nat) (vh vt : List Value), St B₁ ((L, NsP (upd (upd (upd m "begin" (.int b tb)) "here" (.ref D₂)) "there" (.ref D₃))) :: (D₃, LstP vt) :: (D₂, LstP vh) :: (it, Pit) :: (ll, LstP us) :: (L + 4, CellP (some (.ref D))) :: (L + 3, CellP (some (.int size ts))) :: (L + 2, CellP (some (.ref lz))) :: (L + 1, CellP (some (.ref ly))) :: cs) hz' → Q₀ .next { s with heap := hz', toks := tk' } := by
    intro e hz' tk' vh vt Zf
    refine hQ₀ _ _ ⟨B₁, us, _, _, hz', tk', rfl, le₁, by rw [e]; simpa using hus1, Zf.swap.drop.swap.drop, ?_, ?_⟩
    · walk_at "lk"
    · walk_at "lk"
  cases hs with
  | nil =>
    have e0 : rowAt xs ys zs size b = none := by
      unfold rowAt
      cases e : occ ys (cutI xs b size) size with
      | nil => rfl
      | cons a l => rw [e] at hi; exact hi.elim
    rw [show (!([] : List Value).isEmpty) = false from rfl]
    walk_at "go"
    exact fin0 e0 _ _ _ _ Z₉
  | cons hv hs =>
    rw [show (!(hv :: hs).isEmpty) = true from rfl]
    walk_at "go"
    refine listSt ?_
    walk_at "go"
    refine ⟨by simp, B₁, _, Z₉, fun D₅ h₁₀ Z₁₀ => ?_⟩
    replace Z₁₀ := Z₁₀.swap
    refine neNil (Z₁₀.lst (i := 2) rfl).isList (Z₁₀.lst (i := 1) rfl).isList (by lia) ?_
    replace Z₁₀ := Z₁₀.swap.drop
    walk_at "go"
    cases ht with
    | nil =>
      have e0 : rowAt xs ys zs size b = none := by
        unfold rowAt
        cases e : occ zs (cutI xs b size) size with
        | nil => cases occ ys (cutI xs b size) size <;> rfl
        | cons a l => rw [e] at hj; exact hj.elim
      rw [show (!([] : List Value).isEmpty) = false from rfl]
      walk_at "go"
      exact fin0 e0 _ _ _ _ Z₁₀
    | cons tv ht =>
      rw [show (!(tv :: ht).isEmpty) = true from rfl]
      obtain ⟨yh, yl, ey⟩ : ∃ yh yl, occ ys (cutI xs b size) size = yh :: yl := by
        cases e : occ ys (cutI xs b size) size with
        | nil => rw [e] at hi; exact hi.elim
        | cons a l => exact ⟨a, l, rfl⟩
      obtain ⟨zh, zl, ez⟩ : ∃ zh zl, occ zs (cutI xs b size) size = zh :: zl := by
        cases e : occ zs (cutI xs b size) size with
        | nil => rw [e] at hj; exact hj.elim
        | cons a l => exact ⟨a, l, rfl⟩
      rw [ey] at hi
      rw [ez] at hj
      obtain ⟨⟨t1, rfl⟩, -⟩ := hi
      obtain ⟨⟨t2, rfl⟩, -⟩ := hj
      walk_at "go"
      refine wpAny_Call_method (by rfl) (by rfl) (by rfl) PySem.F.plainAttrs_list PySem.F.slot_list_append PySem.F.type_list_append ?_
      walk_at "go"
      refine lst_meth (Z₁₀.lst (i := 4) rfl) ?_
      refine cwB ?_
      walk_at "go"
      refine tupSt ?_
      walk_at "go"
      refine ldCe Z₁₀ (i := 6) rfl (by rfl) ?_
      walk_at "go"
      refine subL (Z₁₀.lst (i := 2) rfl).isList (by lia) (by lia) (x := .int yh t1) (by rfl) ?_
      walk_at "go"
      refine callB G K1 Z₁₀ Bn.len boot_len ?_
      walk_at "go"
      refine ldCe Z₁₀ (i := 8) rfl (by rfl) ?_
      walk_at "go"
      refine lenL (vs := vy) (hy1.at Z₁₀) (by rw [iy.length]; lia) fun tl3 tkl3 => ?_
      rw [iy.length]
      walk_at "go"
      refine subL (Z₁₀.lst (i := 1) rfl).isList (by lia) (by lia) (x := .int zh t2) (by rfl) ?_
      walk_at "go"
      refine ⟨by simp, B₁, _, Z₁₀, fun T h₁₁ Z₁₁ => ?_⟩
      obtain ⟨oT, pT, -, Z₁₂, le₂⟩ := Z₁₁.freeze
      replace Z₁₂ := Z₁₂.swap.drop.swap.drop
      walk_at "go"
      refine appL Z₁₂ (i := 2) rfl (by lia) fun h₁₃ Z₁₃ => ?_
      replace Z₁₃ : St (B₁.add T oT) ((L, NsP _) :: (it, Pit) :: (ll, LstP (us ++ [.ref T])) :: (L + 4, CellP _) :: (L + 3, CellP (some (.int size ts))) :: (L + 2, CellP (some (.ref lz))) :: (L + 1, CellP (some (.ref ly))) :: cs) h₁₃ := Z₁₃
      try dsimp only
      walk_at "go"
      refine hQ₀ _ _ ⟨_, us ++ [.ref T], _, _, h₁₃, _, rfl, le₁.trans le₂, ?_, Z₁₃, ?_, ?_⟩
      · have er : rowAt xs ys zs size b = some [-(size : Int), b, yh, b, (ys.length : Int) + zh] := by unfold rowAt; rw [ey, ez]
        rw [er]
        exact (hus1.le le₂).snoc ⟨T, 0, _, rfl, PM.add_self.trans (congrArg some pT), five⟩
      · walk_at "lk"
      · walk_at "lk"
end
end
section
open PySem PySem.W PyProof.Rows
set_option Elab.async false
set_option maxRecDepth 100000
section
variable {w : World} {A : Around} {E : Value → Shared → Prop} {s : Shared} {B : PM} {cs : Cs} {h₀ : Heap} {mg : Str → Option Value} {Q : Value → Shared → Prop}
theorem range_sizeD {n : Nat} : Builtin.Range.rangeSize n 0 (-1) = (n : Int) := by
  unfold Builtin.Range.rangeSize
  rw [if_neg (by decide)]
  by_cases e : (n : Int) > 0
  · rw [if_pos e, show -(-1 : Int) = 1 by rfl, Int.ediv_one]; lia
  · rw [if_neg e]; lia
theorem small_okD {n : Nat} (h : n ≤ 1000) : Builtin.Range.small n 0 (-1) = true := by
  unfold Builtin.Range.small
  rw [range_sizeD]
  unfold Builtin.Range.rangeFitsLong
  simp only [Bool.and_eq_true, decide_eq_true_eq, Bool.or_eq_true]
  refine ⟨⟨⟨⟨?_, ?_⟩, ?_⟩, ?_⟩, .inr ?_⟩
  all_goals first | lia | (rw [if_neg (by decide)]; simp only [Bool.and_eq_true, decide_eq_true_eq]; lia)
theorem rangeSt3 {prog : Program} {a b c : Int} {t u v : Tok} {Q : Value → Shared → Prop} (hc : c ≠ 0) (hp : Builtin.divisionGoesByPylong (b - a) c = false) (X : St B cs s.heap) (h : ∀ r h' tk t u v, IsRange h' r a b c t u v → St B cs h' → Q (.ref r) { s with heap := h', toks := tk }) :
    wpAny (model prog w) A (call (.type "range") [.int a t, .int b u, .int c v]) Q E s :=
  call_range_3 hc (h _ _ _ _ _ _ (Heap.get?_push_size _ rfl) (X.new (P := fun _ => True) _ rfl trivial).drop) (.inl hp)
set_option maxHeartbeats 8000000 in
theorem longest_spec {f lx ly lz : Addr} {o : Obj} {pm cd doc : Value} {vx vy vz : List Value} {xs ys zs : List Int} (R : Rm A 2 300) (G : G0 h₀ mg) (Bn : Bi mg) (K0 : In0 h₀ B) (ho : h₀.get? f = some o) (hd : o.data = .func (Calls.docDef "_law_longest" (fnParams (stAt pw 13)) (fnBody (stAt pw 13)) (fnScope (stAt pw 13)) pm cd doc)) (hcd : h₀.CodeRec cd "_law_longest")
    (X : St B cs s.heap) (hx : IsL B lx vx) (hy : IsL B ly vy) (hz : IsL B lz vz) (ix : IsInts vx xs) (iy : IsInts vy ys) (iz : IsInts vz zs) (nx : xs.length ≤ 60) (ny : ys.length ≤ 60) (nz : zs.length ≤ 60)
    (hQ : ∀ B' r us h' tk, Le B B' → IsTs B' us (longest xs ys zs xs.length) → St B' ((r, LstP us) :: cs) h' → Q (.ref r) { s with heap := h', toks := tk }) :
    wpAny (model pw w) A (call (.ref f) [.ref lx, .ref ly, .ref lz]) Q E s := by
  refine callC (d := 1) (binds := [("first", .ref lx), ("second", .ref ly), ("third", .ref lz)]) R G K0 X ho hd hcd (by rfl) (fun L => ?_) (fun L => ?_) (fun h₁ L tk Y => ?_) (by rfl) (by rfl) (by rfl)
  · intro p hp
    simp only [List.mem_cons, List.not_mem_nil, or_false] at hp
    rcases hp with rfl | rfl | rfl
    · exact .inl (by rfl)
    · exact .inr ⟨by rfl, by rfl⟩
    · exact .inr ⟨by rfl, by rfl⟩
  · intro p hp
    have e : cellsFrom (L + 1) (fnScope (stAt pw 13)).names [] = ([(Str.ofString "part", L + 4), (Str.ofString "size", L + 3), (Str.ofString "third", L + 2), (Str.ofString "second", L + 1)] : List (Str × Addr)) := by rfl
    rw [e] at hp ⊢
    simp only [List.mem_cons, List.not_mem_nil, or_false] at hp
    rcases hp with rfl | rfl | rfl | rfl <;> rfl
  have Y₁ : St B ((L, NsP (bindL (loE L f cd).kindOf [("first", .ref lx), ("second", .ref ly), ("third", .ref lz)] fun _ => none)) :: (L + 4, CellP none) :: (L + 3, CellP none) :: (L + 2, CellP (some (.ref lz))) :: (L + 1, CellP (some (.ref ly))) :: cs) h₁ := Y
  clear Y
  have mf : bindL (loE L f cd).kindOf [("first", .ref lx), ("second", .ref ly), ("third", .ref lz)] (fun _ => none) "first" = some (.ref lx) := by rfl
  revert Y₁ mf
  generalize bindL (loE L f cd).kindOf [("first", .ref lx), ("second", .ref ly), ("third", .ref lz)] (fun _ => none) = m₀
  intro Y₁ mf
  refine wpAny_execs_cons ?_
  refine wpAny_For ?_
  refine callT G K0 Y₁ Bn.range boot_range ?_
  walk_at "go"
  refine callB G K0 Y₁ Bn.len boot_len ?_
  walk_at "go"
  refine lenL (vs := vx) (hx.at Y₁) (by rw [ix.length]; lia) fun tl tkl => ?_
  rw [ix.length]
  walk_at "go"
  refine rangeSt3 (by decide) (PyProof.noPylong_small (by lia)) Y₁ fun r h₂ tk₂ q1 q2 q3 hr Y₂ => ?_
  clear Y₁
  try dsimp only
  refine forR (a := xs.length) (b := 0) (c := -1) (N := xs.length) R.handled hr (small_okD (by lia)) range_sizeD
    (fun i B' m' cs' => ∃ p0 s0, cs' = (L + 4, CellP p0) :: (L + 3, CellP s0) :: (L + 2, CellP (some (.ref lz))) :: (L + 1, CellP (some (.ref ly))) :: cs ∧ m' "first" = some (.ref lx) ∧ longest xs ys zs xs.length = longest xs ys zs (xs.length - i)) Y₂ ⟨none, none, rfl, mf, rfl⟩ ?turn ?done
  case turn =>
    rintro i B' m' cs' it h' tk' tv hi le ⟨p0, s0, rfl, m1, hlo⟩ W
    have K1 := K0.le le
    obtain ⟨size, hsz⟩ : ∃ size, xs.length - i = size + 1 := ⟨xs.length - i - 1, by lia⟩
    rw [show ((xs.length : Int) + -1 * (i : Int)) = ((size + 1 : Nat) : Int) by lia]
    refine wpAny_assign_Name ?_
    refine stCe W (i := 3) rfl (by rfl) fun h₃ W₃ => ?_
    replace W₃ : St B' ((L, NsP m') :: (it, _) :: (L + 4, CellP p0) :: (L + 3, CellP (some (.int ((size + 1 : Nat) : Int) tv))) :: (L + 2, CellP (some (.ref lz))) :: (L + 1, CellP (some (.ref ly))) :: cs) h₃ := W₃
    refine wpAny_execs_cons ?_
    walk_at "go"
    refine listSt ?_
    walk_at "go"
    refine ⟨by simp, B', _, W₃, fun ll h₄ W₄ => ?_⟩
    replace W₄ := W₄.swap
    walk_at "go"
    rename_i h₅ W₅
    try dsimp only
    refine wpAny_For ?_
    refine callT G K1 W₅ Bn.range boot_range ?_
    walk_at "go"
    refine callB G K1 W₅ Bn.len boot_len ?_
    walk_at "go"
    refine lenL (vs := vx) ((hx.le le).at W₅) (by rw [ix.length]; lia) fun tl2 tkl2 => ?_
    rw [ix.length]
    refine ldCe W₅ (i := 4) rfl (by rfl) ?_
    walk_at "go"
    refine rangeSt1 W₅ fun r₂ h₆ tk₆ q4 q5 q6 hr₂ W₆ => ?_
    have W₇ : St B' ((L, NsP _) :: (ll, LstP []) :: (L + 4, CellP p0) :: (L + 3, CellP (some (.int ((size + 1 : Nat) : Int) tv))) :: (L + 2, CellP (some (.ref lz))) :: (L + 1, CellP (some (.ref ly))) :: (it, _) :: cs) h₆ :=
      W₆.perm (.cons _ (.cons _ ((List.Perm.swap ..).trans (.cons _ ((List.Perm.swap ..).trans (.cons _ ((List.Perm.swap ..).trans (.cons _ (List.Perm.swap ..)))))))))
    try dsimp only
    have hla : (List.range (xs.length - size)).filterMap (rowAt xs ys zs (size + 1)) = longAt xs ys zs (size + 1) := by
      unfold longAt; rw [show xs.length + 1 - (size + 1) = xs.length - size by lia]
    refine forR (a := 0) (c := 1) (N := xs.length - size) R.handled hr₂ (small_okZ (by lia) (by lia)) ((range_sizeZ (by lia)).trans (by congr 1; lia))
      (fun b B'' m'' cs'' => ∃ us p', cs'' = (ll, LstP us) :: (L + 4, CellP p') :: (L + 3, CellP (some (.int ((size + 1 : Nat) : Int) tv))) :: (L + 2, CellP (some (.ref lz))) :: (L + 1, CellP (some (.ref ly))) :: (it, RiP ((xs.length : Int) + -1 * ((i : Int) + 1)) ((xs.length : Int) - ((i : Int) + 1)) (-1)) :: cs ∧ IsTs B'' us ((List.range b).filterMap (rowAt xs ys zs (size + 1))) ∧ m'' "first" = some (.ref lx) ∧ m'' "longest" = some (.ref ll))
      W₇ ⟨[], p0, rfl, trivial, by walk_at "lk", by walk_at "lk"⟩ ?turn2 ?done2
    case turn2 =>
      rintro b B'' m'' cs'' it2 h'' tk'' tv2 hb le2 ⟨us, p', rfl, hus, e1, e2⟩ V
      rw [show ((0 : Int) + 1 * (b : Int)) = (b : Int) by lia]
      have hul : us.length ≤ 1000 := by
        rw [hus.length]
        exact Nat.le_trans (List.length_filterMap_le _ _) (by simp; lia)
      refine wpAny_mono (lo_turn (s := s) R.handled (by have := R.units; show A.units + 3 + 10 < cLine; unfold cLine; lia) G Bn (K1.le le2) V (hx.le (le.trans le2)) (hy.le (le.trans le2)) (hz.le (le.trans le2)) ix iy iz nx ny nz e1 e2 hus hul (by lia) (by lia)) (fun _ s₂ hbd => wpAny_mono hbd (fun fl s₃ hfl => ?_) fun _ _ z => z) fun _ _ z => z
      have er : (List.range (b + 1)).filterMap (rowAt xs ys zs (size + 1)) = (List.range b).filterMap (rowAt xs ys zs (size + 1)) ++ (rowAt xs ys zs (size + 1) b).toList := by
        rw [List.range_succ, List.filterMap_append]
        cases e : rowAt xs ys zs (size + 1) b <;> simp [e]
      cases fl with
      | next =>
        obtain ⟨B3, us', m3, p3, h3, tk3, rfl, le3, hus', V', r1, r2⟩ := hfl
        exact ⟨B3, m3, _, h3, tk3, rfl, le2.trans le3, ⟨us', p3, rfl, er ▸ hus', r1, r2⟩, V'⟩
      | cont =>
        obtain ⟨B3, us', m3, p3, h3, tk3, rfl, le3, hus', V', r1, r2⟩ := hfl
        exact ⟨B3, m3, _, h3, tk3, rfl, le2.trans le3, ⟨us', p3, rfl, er ▸ hus', r1, r2⟩, V'⟩
      | brk => exact hfl.elim
      | ret v => exact hfl.elim
    case done2 =>
      rintro B'' m'' cs'' h'' tk'' le2 ⟨us, p', rfl, hus, e1, e2⟩ V
      rw [hla] at hus
      try dsimp only
      walk_at "go"
      refine listSt ?_
      walk_at "go"
      refine ⟨by simp, B'', _, V, fun D₅ h₁₀ V₁₀ => ?_⟩
      replace V₁₀ := V₁₀.swap
      refine neNil (V₁₀.lst (i := 2) rfl).isList (V₁₀.lst (i := 1) rfl).isList (by have := R.units; show A.units + 3 < cLine; unfold cLine; lia) ?_
      replace V₁₀ := V₁₀.swap.drop
      walk_at "go"
      have hul := hus.length
      cases us with
      | nil =>
        rw [show (!([] : List Value).isEmpty) = false from rfl]
        walk_at "go"
        have e0 : longAt xs ys zs (size + 1) = [] := List.eq_nil_of_length_eq_zero hul.symm
        have V₁₁ : St B'' ((L, NsP m'') :: (it, RiP ((xs.length : Int) + -1 * ((i : Int) + 1)) ((xs.length : Int) - ((i : Int) + 1)) (-1)) :: (L + 4, CellP p') :: (L + 3, CellP (some (.int ((size + 1 : Nat) : Int) tv))) :: (L + 2, CellP (some (.ref lz))) :: (L + 1, CellP (some (.ref ly))) :: cs) h₁₀ :=
          (V₁₀.swap.drop).perm (.cons _ (List.perm_middle (l₁ := [_, _, _, _])))
        refine ⟨B'', m'', _, h₁₀, _, rfl, le.trans le2, ⟨p', _, rfl, e1, ?_⟩, V₁₁⟩
        rw [hlo, hsz, longest, if_pos e0]
        congr 1
        lia
      | cons u us =>
        rw [show (!(u :: us).isEmpty) = true from rfl]
        walk_at "go"
        have e0 : longAt xs ys zs (size + 1) ≠ [] := fun e => by rw [e] at hul; simp at hul
        refine hQ B'' ll (u :: us) h₁₀ _ (le.trans le2) ?_ V₁₀.drop.swap.drop.swap.drop.swap.drop.swap.drop.swap.drop
        rw [hlo, hsz, longest, if_neg e0]
        exact hus
  case done =>
    rintro B' m' cs' h' tk' le ⟨p0, s0, rfl, m1, hlo⟩ W
    try dsimp only
    walk_at "go"
    refine listSt ?_
    walk_at "go"
    refine ⟨by simp, B', _, W, fun r h₄ W₄ => ?_⟩
    try dsimp only
    refine hQ B' r [] h₄ _ le ?_ W₄.swap.drop.swap.drop.swap.drop.swap.drop.swap.drop
    rw [hlo, Nat.sub_self]
    trivial
end
end
section
open PySem PySem.W PyProof.Rows
set_option Elab.async false
set_option maxRecDepth 100000
section
variable {prog : Program} {w : World} {A : Around} {E : Value → Shared → Prop} {s : Shared} {B : PM} {cs : Cs}
theorem asgU {env : Env} {elts : List Expr} {x1} {pos : Pos} {v : Value} {n : Nat} {Q : Unit → Shared → Prop} (hn : (assignEach elts env).length = n) (hstar : (assignEach elts env).findIdx? (·.1) = none)
    (h : wpAny (model prog w) A (unpackItems v n none) (fun items s' => wpAny (model prog w) A (assignInOrder ((assignEach elts env).map (·.2)) items) Q E s') E s) :
    wpAny (model prog w) A (assign (.Tuple elts x1 pos) env v) Q E s := by
  rw [arm_assign_Tuple]
  refine wpAny_bind (wpAny_standAt ?_)
  unfold unpack
  rw [hn, hstar]
  exact wpAny_bind (wpAny_holding h)
theorem l_items {l : Addr} {a b c : Value} {Q : List Value → Shared → Prop} (hh : A.handled = none) (X : St B cs s.heap) (hl : IsL B l [a, b, c])
    (hQ : ∀ h', St B cs h' → Q [a, b, c] { s with heap := h' }) : wpAny (model prog w) A (unpackItems (.ref l) 3 none) Q E s := by
  have hL : ∀ {cs' : Cs} {h' : Heap}, St B cs' h' → h'.IsList l #[a, b, c] := fun Y => hl.at Y
  have X1 := X.new (P := LiP l 0) { cls := .type "list_iterator", data := .fields #[.ref l, .int 0 0] } rfl ⟨rfl, rfl⟩
  unfold unpackItems
  refine wpAny_bind ?_
  unfold notIterableAtAll
  refine wpAny_bind (wpAny_specialOf (hL X).typeIs slot_list_iter.lookup ?_)
  refine wpAny_pure ?_
  simp only [Bool.false_eq_true, if_false]
  refine wpAny_bind (wpAny_holding (wpAny_pyIter_list (hL X) ?_))
  generalize hit : s.heap.objs.size = it at X1
  try dsimp only
  refine wpAny_bind (wpAny_holding ?_)
  refine wpAny_bind (m := pyNext (.ref it)) (wpAny_pyNext_list_item (X1.li (i := 0) rfl) (hL X1) (x := a) rfl fun h1 i1 s1 => ?_)
  have X2 : St B ((it, LiP l 1) :: cs) h1 := X1.upd (i := 0) rfl s1 (let ⟨o, e, p, q⟩ := i1; ⟨o, e, p, q⟩)
  try dsimp only
  refine wpAny_bind (wpAny_holding ?_)
  refine wpAny_bind (m := pyNext (.ref it)) (wpAny_pyNext_list_item (X2.li (i := 0) rfl) (hL X2) (x := b) rfl fun h2 i2 s2 => ?_)
  have X3 : St B ((it, LiP l 2) :: cs) h2 := X2.upd (i := 0) rfl s2 (let ⟨o, e, p, q⟩ := i2; ⟨o, e, p, q⟩)
  try dsimp only
  refine wpAny_bind (wpAny_holding ?_)
  refine wpAny_bind (m := pyNext (.ref it)) (wpAny_pyNext_list_item (X3.li (i := 0) rfl) (hL X3) (x := c) rfl fun h3 i3 s3 => ?_)
  have X4 : St B ((it, LiP l 3) :: cs) h3 := X3.upd (i := 0) rfl s3 (let ⟨o, e, p, q⟩ := i3; ⟨o, e, p, q⟩)
  try dsimp only
  refine wpAny_bind (wpAny_holding (wpAny_pure (wpAny_pure (wpAny_pure (wpAny_pure ?_)))))
  rw [if_neg (by simp)]
  refine wpAny_bind (wpAny_holding (wpAny_pyNext_list_end hh (X4.li (i := 0) rfl) (hL X4) rfl fun h4 he => ?_))
  simp only [Option.isSome_none, Bool.false_eq_true, if_false]
  exact wpAny_pure (hQ h4 (X4.ext he))
/-- the keys of law 1's heap -/
def kI (B : PM) : Keys B (Int × Int) := ⟨PairI B, ltII⟩
theorem kI_cmp {B : PM} : (kI B).Cmp w := by
  intro A s cs Q E v u a b R X h1 h2 hq
  exact ltAt_pairs (by have := R.units; unfold cLine; lia) X h1 h2 pw w E Q hq
theorem PairI.le {B B' : PM} {v : Value} {k : Int × Int} (h : PairI B v k) (l : Le B B') : PairI B' v k := let ⟨a, n, t, u, e1, e2⟩ := h; ⟨a, n, t, u, e1, l _ _ e2⟩
theorem ltII_false {a b : Int × Int} : ltII a b = false ↔ ¬ (a.1 < b.1 ∨ (a.1 = b.1 ∧ a.2 < b.2)) := by
  rw [← ltII_iff]; cases ltII a b <;> simp
theorem kI_ord {B : PM} : Ord (kI B).ltP := by
  refine ⟨fun a b h => ?_, fun a b c h1 h2 => ?_⟩
  · have h : ltII a.2 b.2 = true := h
    show ltII b.2 a.2 = false
    rw [ltII_iff] at h
    rw [ltII_false]
    lia
  · have h1 : ltII b.2 a.2 = false := h1
    have h2 : ltII c.2 b.2 = false := h2
    show ltII c.2 a.2 = false
    rw [ltII_false] at *
    lia
/-- the top of the heap is below all the rest, where no key comes twice -/
theorem top_min {B : PM} {ps : List (Value × (Int × Int))} {qs : List (Value × (Int × Int))} {top : Value × (Int × Int)} (H : IsHeap (kI B).ltP ps) (h0 : ps[0]? = some top) (hp : (top :: qs).Perm ps) (nd : (ps.map (·.2)).Nodup) : ∀ k ∈ qs.map (·.2), ltII top.2 k = true := by
  intro k hk
  obtain ⟨q, hq, rfl⟩ := List.mem_map.mp hk
  have hm : q ∈ ps := hp.mem_iff.mp (List.mem_cons_of_mem _ hq)
  obtain ⟨i, hi⟩ := List.getElem?_of_mem hm
  have := heap_top kI_ord H h0 (by show ltII top.2 top.2 = false; rw [ltII_false]; lia) i q hi
  have h1 : ltII q.2 top.2 = false := this
  have hne : q.2 ≠ top.2 := by
    have nd' := (hp.map (·.2)).nodup_iff.mpr nd
    rw [List.map_cons, List.nodup_cons] at nd'
    exact fun e => nd'.1 (e ▸ List.mem_map.mpr ⟨q, hq, rfl⟩)
  rw [ltII_false] at h1
  rw [ltII_iff]
  by_cases e : q.2.1 = top.2.1
  · have : q.2.2 ≠ top.2.2 := fun e2 => hne (Prod.ext e e2)
    lia
  · lia
end
end
section
open PySem PySem.W PyProof.Rows
set_option Elab.async false
set_option maxRecDepth 100000
def whBody : Stmt → List Stmt | .While _ b _ _ => b | _ => []
abbrev lawE (L f : Addr) (cd : Value) : Env := envOfC "law" (fnScope (stAt pw 14)) L f cd
/-- law's loop -/
def laB : List Stmt := whBody (nth (fnBody (stAt pw 14)) 7)
/-- what law leans on -/
structure Hv (h₀ : Heap) (mg : Str → Option Value) (P : Params) (d : Nat → Value) : Prop where
  G : G0 h₀ mg
  Bn : Bi mg
  HF : HFns h₀ mg
  KX : (KD P d).In h₀
  Sx : Stat h₀
  mM : mg "Match" = some (.ref 135)
  mS : mg "SequenceMatcher" = some (.ref 242)
  rows : GFn h₀ mg "_law_rows" (fnParams (stAt pw 12)) (fnBody (stAt pw 12)) (fnScope (stAt pw 12))
  long : GFn h₀ mg "_law_longest" (fnParams (stAt pw 13)) (fnBody (stAt pw 13)) (fnScope (stAt pw 13))
structure LawN (m : Str → Option Value) (lx ly lz lh lt x : Addr) (ny nz : Nat) : Prop where
  first : m "first" = some (.ref lx)
  second : m "second" = some (.ref ly)
  third : m "third" = some (.ref lz)
  heap : m "heap" = some (.ref lh)
  told : m "told" = some (.ref lt)
  matcher : m "matcher" = some (.ref x)
  cut : IsI (m "cut") ny
  last : IsI (m "last") (ny + nz : Nat)
theorem LawN.upd {m : Str → Option Value} {lx ly lz lh lt x : Addr} {ny nz : Nat} {y : Str} {v : Value} (h : LawN m lx ly lz lh lt x ny nz) (hx : (["first", "second", "third", "heap", "told", "matcher", "cut", "last"] : List Str).all (fun z => decide (z ≠ y)) = true) : LawN (Mine.upd m y v) lx ly lz lh lt x ny nz := by
  simp only [List.all_cons, List.all_nil, Bool.and_true, Bool.and_eq_true, decide_eq_true_eq] at hx
  obtain ⟨h1, h2, h3, h4, h5, h6, h7, h8⟩ := hx
  exact ⟨upd_other h1 h.first, upd_other h2 h.second, upd_other h3 h.third, upd_other h4 h.heap, upd_other h5 h.told, upd_other h6 h.matcher, h.cut.upd h7, h.last.upd h8⟩
section
variable {w : World} {A : Around} {E : Value → Shared → Prop} {s : Shared} {B : PM} {cs : Cs} {h₀ : Heap} {mg : Str → Option Value} {P : Params} {d : Nat → Value}
/-- the loop's state -/
structure LSt (B : PM) (L lh la lt : Addr) (cs : Cs) (lx ly lz x : Addr) (xs ys zs : List Int) (m : Str → Option Value) (ps : List (Value × (Int × Int))) (va vt : List Value) (asked : List (Int × Int)) (told : List (List Int)) (c : Nat) (h : Heap) : Prop where
  st : St B ((L, NsP m) :: (lh, LstP (ps.map Prod.fst)) :: (L + 1, CellP (some (Value.ref la))) :: (la, LstP va) :: (lt, LstP vt) :: cs) h
  nm : LawN m lx ly lz lh lt x ys.length zs.length
  ta : IsTs B va (asked.map fun k => [k.1, k.2])
  tt : IsTs B vt told
  pr : ∀ p ∈ ps, PairI B p.1 p.2
  hp : IsHeap (kI B).ltP ps
  lp : Loop xs ys zs (ps.map (·.2)) asked told c
  cb : c ≤ 961
/-- what stands -/
structure Std (B : PM) (lx ly lz x : Addr) (xs ys zs : List Int) : Prop where
  lists : ∃ vx vy vz vq lq nx nq, B lx = some { cls := .type "list", data := .seq (List.toArray vx) nx } ∧ IsL B ly vy ∧ IsL B lz vz ∧ IsInts vx xs ∧ IsInts vy ys ∧ IsInts vz zs ∧ SM B x lx lq (ys ++ zs) ∧ B lq = some { cls := .type "list", data := .seq (List.toArray vq) nq } ∧ IsInts vq (ys ++ zs)
  nx : xs.length ≤ 30
  ny : ys.length ≤ 30
  nz : zs.length ≤ 30
theorem two {a b : Int} {t1 t2 : Tok} : IsInts [.int a t1, .int b t2] [a, b] := ⟨⟨_, rfl⟩, ⟨_, rfl⟩, trivial⟩
theorem SM.le {B' : PM} {x la lb : Addr} {bs : List Int} (h : SM B x la lb bs) (le : Le B B') : SM B' x la lb bs := by
  obtain ⟨dx, od, l, k, dj, sj, osj, h1, h2, h3, h4, h5, h6, h7, h8, hB, h9, h10⟩ := h.h
  refine ⟨dx, od, l, k, dj, sj, osj, le _ _ h1, le _ _ h2, h3, h4, h5, h6, h7, h8, ?_, le _ _ h9, h10⟩
  obtain ⟨q0, odj, f, n, q1, q2, q3⟩ := hB
  refine ⟨q0, odj, f, n, le _ _ q1, q2, fun z => ?_⟩
  rcases q3 z with q | ⟨a, ps, nn, r1, r2, r3⟩
  · exact .inl q
  · exact .inr ⟨a, ps, nn, r1, le _ _ r2, r3⟩
/-- the pushing loop's body -/
def ifOr : Stmt → List Stmt | .If _ _ o _ => o | _ => []
def ifB : Stmt → List Stmt | .If _ b _ _ => b | _ => []
def laIn : List Stmt := forBody (nth (ifB (nth (ifOr (nth laB 5)) 0)) 1)
structure Push (B : PM) (H' : List (Int × Int)) (b l g i : Nat) (ps : List (Value × (Int × Int))) : Prop where
  pr : ∀ p ∈ ps, PairI B p.1 p.2
  hp : IsHeap (kI B).ltP ps
  g1 : ∀ k ∈ H', k ∈ ps.map (·.2)
  g2 : ∀ k ∈ ps.map (·.2), k ∈ H' ∨ ∃ q, b ≤ q ∧ q < b + i ∧ k = kk g q
  g3 : ∀ q, b ≤ q → q < b + i → kk g q ∈ ps.map (·.2)
  nd : (ps.map (·.2)).Nodup
  ln : ps.length ≤ H'.length + i
set_option maxHeartbeats 8000000 in
theorem lp_turn {L f lh la lt lx ly lz x it : Addr} {Pit : Obj → Prop} {cd : Value} {ny nz : Nat} {m : Str → Option Value} {ps : List (Value × (Int × Int))} {va vt : List Value} {H' : List (Int × Int)} {b l g i : Nat} {tg tv : Tok} {h : Heap} {tk : Nat} {pos : Pos} (R : Rm A 20 800) (V : Hv h₀ mg P d) (K0 : In0 h₀ B)
    (Z : St B ((L, NsP m) :: (it, Pit) :: (lh, LstP (ps.map Prod.fst)) :: (L + 1, CellP (some (Value.ref la))) :: (la, LstP va) :: (lt, LstP vt) :: cs) h) (N : LawN m lx ly lz lh lt x ny nz) (eg : m "least" = some (.int (g : Int) tg)) (hP : Push B H' b l g i ps) (hlen : H'.length + i < 89999) :
    wpAny (model pw w) A (assign (.Name "place" pos) (lawE L f cd) (.int ((b + i : Nat) : Int) tv)) (fun _ s₂ => wpAny (model pw w) A (execs laIn (lawE L f cd)) (fun fl s₃ => match fl with
      | .next | .cont => ∃ (B' : PM) (m' : Str → Option Value) (ps' : List (Value × (Int × Int))) (h' : Heap) (tk' : Nat), s₃ = { s with heap := h', toks := tk' } ∧ Le B B' ∧ Push B' H' b l g (i + 1) ps' ∧ LawN m' lx ly lz lh lt x ny nz ∧ m' "least" = some (.int (g : Int) tg) ∧
          St B' ((L, NsP m') :: (it, Pit) :: (lh, LstP (ps'.map Prod.fst)) :: (L + 1, CellP (some (Value.ref la))) :: (la, LstP va) :: (lt, LstP vt) :: cs) h'
      | _ => False) noE s₂) noE { s with heap := h, toks := tk } := by
  refine cps2 fun Q₀ hQ₀ => ?_
  obtain ⟨ef, es, et, eh, eto, em, ⟨tc, ec⟩, ⟨tl, el⟩⟩ := id N
  refine wpAny_assign_Name ?_
  walk_at "go"
  rename_i h₁ Z₁
  have N₁ : LawN (upd m "place" (.int ((b + i : Nat) : Int) tv)) lx ly lz lh lt x ny nz := N.upd (by decide)
  refine wpAny_execs_cons ?_
  walk_at "go"
  refine tupSt ?_
  walk_at "go"
  refine ⟨by simp, B, _, Z₁, fun T h₂ Z₂ => ?_⟩
  obtain ⟨oT, pT, -, Z₃, le₁⟩ := Z₂.freeze
  have hT : PairI (B.add T oT) (.ref T) (kk g (b + i)) := ⟨T, 0, _, _, rfl, PM.add_self.trans (congrArg some pT)⟩
  clear Z₂ pT
  revert Z₃ le₁ hT
  generalize B.add T oT = B₁
  intro Z₃ le₁ hT
  have K1 := K0.le le₁
  have hpr1 : ∀ p ∈ ps, PairI B₁ p.1 p.2 := fun p hp => (hP.pr p hp).le le₁
  walk_at "go"
  refine notInPairs (k := kk g (b + i)) (ps := ps) Z₃ (Z₃.lst (i := 2) rfl).isList hpr1 hT (by have := R.units; unfold cLine; lia) ?_
  walk_at "go"
  cases hany : ps.any fun p => decide (p.2 = kk g (b + i)) with
  | true =>
    rw [show (!true) = false from rfl]
    walk_at "go"
    refine hQ₀ _ _ ⟨B₁, _, ps, h₂, _, rfl, le₁, ⟨hpr1, hP.hp, hP.g1, fun k hk => ?_, fun q q1 q2 => ?_, hP.nd, by have := hP.ln; lia⟩, N₁, by walk_at "lk", Z₃⟩
    · rcases hP.g2 k hk with y | ⟨q, q1, q2, rfl⟩
      · exact .inl y
      · exact .inr ⟨q, q1, by lia, rfl⟩
    · by_cases e : q = b + i
      · subst e
        obtain ⟨p, hp, e2⟩ := List.any_eq_true.mp hany
        exact List.mem_map.mpr ⟨p, hp, of_decide_eq_true e2⟩
      · exact hP.g3 q q1 (by lia)
  | false =>
    rw [show (!false) = true from rfl]
    walk_at "go"
    obtain ⟨fp, op, pmp, cdp, docp, hmp, hop, hdp, hcp⟩ := V.HF.push
    refine callN V.G K1 Z₃ hmp hop hdp ?_
    walk_at "go"
    refine tupSt ?_
    walk_at "go"
    refine ⟨by simp, B₁, _, Z₃, fun U h₄ Z₄ => ?_⟩
    obtain ⟨oU, pU, -, Z₅, le₂⟩ := Z₄.freeze
    have hU : PairI (B₁.add U oU) (.ref U) (kk g (b + i)) := ⟨U, 0, _, _, rfl, PM.add_self.trans (congrArg some pU)⟩
    clear Z₄ pU
    revert Z₅ le₂ hU
    generalize B₁.add U oU = B₂
    intro Z₅ le₂ hU
    walk_at "go"
    refine ⟨⟨B₂, _, le₂, Z₅⟩, ?_⟩
    have Z₆ := Z₅.perm ((List.Perm.swap ..).trans ((List.Perm.cons _ (List.Perm.swap ..)).trans (List.Perm.swap ..)))
    have hpr2 : ∀ p ∈ ps, PairI B₂ p.1 p.2 := fun p hp => (hpr1 p hp).le le₂
    refine heappush_spec (k := kI B₂) (ps := ps) (new := (.ref U, kk g (b + i))) ⟨R.handled, by have := R.depth; lia, by have := R.units; lia⟩ V.G V.HF (K1.le le₂) hop hdp hcp kI_cmp kI_ord Z₆ hP.hp (by have := hP.ln; lia) hpr2 hU fun h₇ tk₇ qs Z₇ hh hperm => ?_
    replace Z₇ := Z₇.perm ((List.Perm.swap ..).trans ((List.Perm.cons _ (List.Perm.swap ..)).trans (List.Perm.swap ..)))
    walk_at "go"
    have hmem : ∀ k, k ∈ qs.map (·.2) ↔ k ∈ ps.map (·.2) ∨ k = kk g (b + i) := by
      intro k
      rw [(hperm.map (·.2)).mem_iff, List.map_append, List.mem_append, List.map_singleton, List.mem_singleton]
    have hno : kk g (b + i) ∉ ps.map (·.2) := by
      intro hk
      obtain ⟨p, hp, e⟩ := List.mem_map.mp hk
      have := List.any_eq_false.mp hany p hp
      exact this (decide_eq_true e)
    refine hQ₀ _ _ ⟨B₂, _, qs, h₇, _, rfl, le₁.trans le₂, ⟨fun p hp => ?_, hh, fun k hk => (hmem k).mpr (.inl (hP.g1 k hk)), fun k hk => ?_, fun q q1 q2 => (hmem _).mpr ?_, ?_, ?_⟩, N₁, by walk_at "lk", Z₇⟩
    · rcases List.mem_append.mp (hperm.mem_iff.mp hp) with y | y
      · exact hpr2 p y
      · rw [List.mem_singleton] at y; subst y; exact hU
    · rcases (hmem k).mp hk with y | y
      · rcases hP.g2 k y with y | ⟨q, q1, q2, rfl⟩
        · exact .inl y
        · exact .inr ⟨q, q1, by lia, rfl⟩
      · exact .inr ⟨b + i, by lia, by lia, y⟩
    · by_cases e : q = b + i
      · subst e; exact .inr rfl
      · exact .inl (hP.g3 q q1 (by lia))
    · rw [(hperm.map (·.2)).nodup_iff, List.map_append, List.nodup_append]
      exact ⟨hP.nd, by simp, fun a ha c hc => by
        rw [List.map_singleton, List.mem_singleton] at hc
        subst hc
        exact fun (e : a = kk g (b + i)) => hno (by rw [← e]; exact ha)⟩
    · have := hperm.length_eq
      rw [List.length_append, List.length_singleton] at this
      have := hP.ln
      lia
set_option maxHeartbeats 8000000 in
theorem law_if {L f lh la lt lx ly lz x : Addr} {cd : Value} {xs ys zs : List Int} {m : Str → Option Value} {qs : List (Value × (Int × Int))} {va vt : List Value} {H asked : List (Int × Int)} {told : List (List Int)} {c l b i j k x' y' k' : Nat} {t1 t2 ti tj tz tx ty tm : Tok} {h : Heap} {tk : Nat} (R : Rm A 20 850) (V : Hv h₀ mg P d) (K0 : In0 h₀ B)
    (Z : St B ((L, NsP m) :: (lh, LstP (qs.map Prod.fst)) :: (L + 1, CellP (some (Value.ref la))) :: (la, LstP va) :: (lt, LstP vt) :: cs) h) (N : LawN m lx ly lz lh lt x ys.length zs.length)
    (g1 : m "minus" = some (.int (-(l : Int)) t1)) (g2 : m "begin" = some (.int (b : Int) t2)) (g3 : m "i" = some (.int (i : Int) ti)) (g4 : m "j" = some (.int (j : Int) tj)) (g5 : m "size" = some (.int (k : Int) tz)) (g6 : m "x" = some (.int (x' : Int) tx)) (g7 : m "y" = some (.int (y' : Int) ty)) (g8 : m "more" = some (.int (k' : Int) tm))
    (hta : IsTs B va ((asked ++ [kk l b]).map fun k => [k.1, k.2])) (htt : IsTs B vt told) (hpr : ∀ p ∈ qs, PairI B p.1 p.2) (hhp : IsHeap (kI B).ltP qs) (hlp : Loop xs ys zs H asked told c) (hperm : (kk l b :: qs.map (·.2)).Perm H) (hmin : ∀ k ∈ qs.map (·.2), ltII (kk l b) k = true) (hl1 : 1 ≤ l) (hlb : b + l ≤ xs.length)
    (hbest1 : Best xs (ys ++ zs) b (b + l) 0 ys.length i j k) (hbest2 : Best xs (ys ++ zs) b (b + l) ys.length (ys.length + zs.length) x' y' k') (hnb : ∀ z r rs, told = (z :: r) :: rs → ¬ z < -(l : Int)) (hnx : xs.length ≤ 30) (hc : c ≤ codeN xs.length (kk l b)) (hH : qs.length < 89000) (htl : told.length ≤ 1000) :
    wpAny (model pw w) A (exec (nth laB 5) (lawE L f cd)) (fun fl s₃ => match fl with
      | .next => ∃ B' m' ps' va' vt' asked' told' c' h' tk', s₃ = { s with heap := h', toks := tk' } ∧ Le B B' ∧ c < c' ∧ LSt B' L lh la lt cs lx ly lz x xs ys zs m' ps' va' vt' asked' told' c' h'
      | _ => False) noE { s with heap := h, toks := tk } := by
  refine cps fun Q₀ hQ₀ => ?_
  obtain ⟨ef, es, et, eh, eto, em, ⟨tc, ec⟩, ⟨tl, el⟩⟩ := id N
  have hrow := best_row (ys := ys) (zs := zs) hlb hbest1 hbest2 hl1
  have hk : k ≤ l := by have := hbest1.hi1; have := hbest1.lo1; lia
  have hk' : k' ≤ l := by have := hbest2.hi1; have := hbest2.lo1; lia
  have hu : A.units + 500 < cLine := by have := R.units; unfold cLine; lia
  have hcb : codeN xs.length (kk l b) + 1 ≤ 961 := by
    have := code_bound hl1 hlb
    have h5 := Nat.mul_le_mul (show xs.length + 1 ≤ 31 by lia) (show xs.length + 1 ≤ 31 by lia)
    lia
  refine wpAny_If (wpAny_mono (Q := fun bb s' => ∃ tk₄, s' = { s with heap := h, toks := tk₄ } ∧ bb = decide (k = l ∧ k' = l)) ?_ (fun bb s' hbb => ?_) fun _ _ z => z)
  · walk_at "go"
    by_cases e1 : k = l
    · rw [if_pos (by subst e1; simp)]
      walk_at "go"
      by_cases e2 : k' = l
      · rw [show ((k' : Int) == - -(l : Int)) = true by subst e2; simp]
        walk_at "go"
        exact ⟨_, rfl, by simp [e1, e2]⟩
      · rw [show ((k' : Int) == - -(l : Int)) = false by simp; lia]
        walk_at "go"
        exact ⟨_, rfl, by simp [e1, e2]⟩
    · rw [if_neg (by simp; lia)]
      walk_at "go"
      exact ⟨_, rfl, by simp [e1]⟩
  obtain ⟨tk₄, rfl, rfl⟩ := hbb
  by_cases hboth : k = l ∧ k' = l
  · rw [decide_eq_true hboth]
    rw [if_pos hboth] at hrow
    walk_at "go"
    refine wpAny_Call_method (by rfl) (by rfl) (by rfl) PySem.F.plainAttrs_list PySem.F.slot_list_append PySem.F.type_list_append ?_
    walk_at "go"
    refine lst_meth (Z.lst (i := 4) rfl) ?_
    refine cwB ?_
    walk_at "go"
    refine tupSt ?_
    walk_at "go"
    refine ⟨by simp, B, _, Z, fun T h₅ Z₅ => ?_⟩
    obtain ⟨oT, pT, -, Z₆, le₁⟩ := Z₅.freeze
    have hT : TupI (B.add T oT) (.ref T) [-(l : Int), i, j, x', y'] := ⟨T, 0, _, rfl, PM.add_self.trans (congrArg some pT), five⟩
    clear Z₅ pT
    revert Z₆ le₁ hT
    generalize B.add T oT = B₁
    intro Z₆ le₁ hT
    walk_at "go"
    refine appL Z₆ (i := 4) rfl (by rw [htt.length]; lia) fun h₇ Z₇ => ?_
    walk_at "go"
    exact hQ₀ _ _ ⟨B₁, m, qs, va, vt ++ [Value.ref T], _, _, _, h₇, _, rfl, le₁, by lia, Z₇, N, hta.le le₁, (htt.le le₁).snoc hT, fun p hp => (hpr p hp).le le₁, hhp, hlp.tell hperm hmin hl1 hlb hrow hnb, hcb⟩
  · rw [decide_eq_false hboth]
    rw [if_neg hboth] at hrow
    refine iteF ?_
    refine wpAny_execs_cons ?_
    refine wpAny_If (wpAny_mono (Q := fun bb s' => ∃ h₄ tk₄, s' = { s with heap := h₄, toks := tk₄ } ∧ St B ((L, NsP m) :: (lh, LstP (qs.map Prod.fst)) :: (L + 1, CellP (some (Value.ref la))) :: (la, LstP va) :: (lt, LstP vt) :: cs) h₄ ∧ bb = decide (told = [] ∧ 0 < k ∧ 0 < k')) ?_ (fun bb s' hbb => ?_) fun _ _ z => z)
    · walk_at "go"
      refine listSt ?_
      walk_at "go"
      refine ⟨by simp, B, _, Z, fun D₄ h₄ Z₄ => ?_⟩
      replace Z₄ := Z₄.swap
      refine eqNil (Z₄.lst (i := 5) rfl).isList (Z₄.lst (i := 1) rfl).isList (by lia) ?_
      replace Z₄ := Z₄.swap.drop
      walk_at "go"
      have hlen := htt.length
      cases hvt : vt with
      | cons v0 vt' =>
        subst hvt
        rw [show (v0 :: vt').isEmpty = false from rfl]
        walk_at "go"
        refine ⟨h₄, _, rfl, Z₄, (decide_eq_false ?_).symm⟩
        rintro ⟨e, _⟩
        rw [e] at hlen; simp at hlen
      | nil =>
        subst hvt
        have e0 : told = [] := List.eq_nil_of_length_eq_zero hlen.symm
        rw [show ([] : List Value).isEmpty = true from rfl]
        walk_at "go"
        by_cases e1 : 0 < k
        · rw [if_pos (by simp; lia)]
          walk_at "go"
          by_cases e2 : 0 < k'
          · rw [show decide ((k' : Int) > 0) = true by simp; lia]
            walk_at "go"
            exact ⟨h₄, _, rfl, Z₄, by simp [e0, e1, e2]⟩
          · rw [show decide ((k' : Int) > 0) = false by simp; lia]
            walk_at "go"
            exact ⟨h₄, _, rfl, Z₄, by simp [e2]⟩
        · rw [if_neg (by simp; lia)]
          walk_at "go"
          exact ⟨h₄, _, rfl, Z₄, by simp [e1]⟩
    obtain ⟨h₄, tk₅, rfl, Z₄, rfl⟩ := hbb
    by_cases hpu : told = [] ∧ 0 < k ∧ 0 < k'
    · rw [decide_eq_true hpu]
      walk_at "go"
      obtain ⟨e0, hk0, hk0'⟩ := hpu
      refine callB V.G K0 Z₄ V.Bn.min boot_min ?_
      walk_at "go"
      refine minSt R.handled Z₄ fun h₅ tk₆ tg Z₅ => ?_
      obtain ⟨g, eg, hgk⟩ : ∃ g : Nat, (if (k' : Int) < k then (k' : Int) else (k : Int)) = (g : Int) ∧ (g = k ∧ k ≤ k' ∨ g = k' ∧ k' ≤ k) := by
        by_cases e : (k' : Int) < k
        · exact ⟨k', by rw [if_pos e], .inr ⟨rfl, by lia⟩⟩
        · exact ⟨k, by rw [if_neg e], .inl ⟨rfl, by lia⟩⟩
      rw [eg]
      walk_at "go"
      rename_i h₆ Z₆
      have N₆ : LawN (upd m "least" (.int (g : Int) tg)) lx ly lz lh lt x ys.length zs.length := N.upd (by decide)
      refine wpAny_For ?_
      refine callT V.G K0 Z₆ V.Bn.range boot_range ?_
      walk_at "go"
      have hgl : g < l := by lia
      rw [show (b : Int) - -(l : Int) - (g : Int) + 1 = ((b + (l - g + 1) : Nat) : Int) by lia]
      refine rangeSt2 Z₆ fun r h₇ tk₇ q1 q2 q3 hr Z₇ => ?_
      try dsimp only
      have hmi : ∀ i, i ≤ l - g + 1 → i ≤ xs.length + 1 := fun i hi => by lia
      refine forR (a := b) (b := ((b + (l - g + 1) : Nat) : Int)) (c := 1) (N := l - g + 1) R.handled hr (small_ok (by lia) (by lia)) ((range_size (by lia)).trans (by congr 1; lia))
        (fun i B' m' cs' => ∃ ps', cs' = (lh, LstP (ps'.map Prod.fst)) :: (L + 1, CellP (some (Value.ref la))) :: (la, LstP va) :: (lt, LstP vt) :: cs ∧ LawN m' lx ly lz lh lt x ys.length zs.length ∧ m' "least" = some (.int (g : Int) tg) ∧ Push B' (qs.map (·.2)) b l g i ps') Z₇ ⟨qs, rfl, N₆, by walk_at "lk", hpr, hhp, fun k hk => hk, fun k hk => .inl hk, fun q q1 q2 => by lia, (hlp.sub hperm).2, by simp⟩ ?turn ?done
      case turn =>
        rintro i' B' m' cs' it h' tk' tv hi le ⟨ps', rfl, N', e', hP⟩ W
        rw [show ((b : Int) + 1 * (i' : Int)) = ((b + i' : Nat) : Int) by lia]
        refine wpAny_mono (lp_turn (s := s) ⟨R.handled, R.depth, by have := R.units; lia⟩ V (K0.le le) W N' e' hP (by rw [List.length_map]; lia)) (fun _ s₂ hbd => wpAny_mono hbd (fun fl s₃ hfl => ?_) fun _ _ z => z) fun _ _ z => z
        cases fl with
        | next =>
          obtain ⟨B3, m3, ps3, h3, tk3, rfl, le3, hP3, N3, r3, V3⟩ := hfl
          exact ⟨B3, m3, _, h3, tk3, rfl, le.trans le3, ⟨ps3, rfl, N3, r3, hP3⟩, V3⟩
        | cont =>
          obtain ⟨B3, m3, ps3, h3, tk3, rfl, le3, hP3, N3, r3, V3⟩ := hfl
          exact ⟨B3, m3, _, h3, tk3, rfl, le.trans le3, ⟨ps3, rfl, N3, r3, hP3⟩, V3⟩
        | brk => exact hfl.elim
        | ret v => exact hfl.elim
      case done =>
        rintro B' m' cs' h' tk' le ⟨ps', rfl, N', e', hP⟩ W
        try dsimp only
        walk_at "go"
        subst e0
        refine hQ₀ _ _ ⟨B', m', ps', va, vt, _, _, _, h', _, rfl, le, ?_, W, N', hta.le le, htt.le le, hP.pr, hP.hp, hlp.push hperm hmin hl1 hlb (g := g) (by lia) hgl (fun mm p hm hcm hbp hpl => ?_) hP.g1 (fun k hk => ?_) (fun q q1 q2 => hP.g3 q q1 (by lia)) hP.nd ?_, hcb⟩
        · lia
        · have := best_cover hbest1 hbest2 hbp hpl hcm.1 hcm.2
          lia
        · rcases hP.g2 k hk with y | ⟨q, q1, q2, e⟩
          · exact .inl y
          · exact .inr ⟨q, q1, by lia, e⟩
        · have := hP.ln
          rw [List.length_map]
          lia
    · rw [decide_eq_false hpu]
      walk_at "go"
      refine hQ₀ _ _ ⟨B, m, qs, va, vt, _, _, _, h₄, _, rfl, Le.refl _, by lia, Z₄, N, hta, htt, hpr, hhp, hlp.pass hperm hmin hl1 hlb hrow ?_, hcb⟩
      by_cases e : told = []
      · refine .inr fun mm p hm hcm hbp hpl => ?_
        have := best_cover hbest1 hbest2 hbp hpl hcm.1 hcm.2
        exact hpu ⟨e, by lia, by lia⟩
      · exact .inl e
end
end
section
open PySem PySem.W PyProof.Rows
set_option Elab.async false
set_option maxRecDepth 100000
section
variable {w : World} {A : Around} {E : Value → Shared → Prop} {s : Shared} {B : PM} {cs : Cs} {h₀ : Heap} {mg : Str → Option Value} {P : Params} {d : Nat → Value}
set_option maxHeartbeats 8000000 in
theorem law_turn {L f lh la lt lx ly lz x : Addr} {cd : Value} {xs ys zs : List Int} {m : Str → Option Value} {ps : List (Value × (Int × Int))} {va vt : List Value} {asked : List (Int × Int)} {told : List (List Int)} {c : Nat} {h : Heap} {tk : Nat} (R : Rm A 20 900) (V : Hv h₀ mg P d) (K0 : In0 h₀ B)
    (Z : LSt B L lh la lt cs lx ly lz x xs ys zs m ps va vt asked told c h) (S : Std B lx ly lz x xs ys zs) (hne : ps ≠ []) :
    wpAny (model pw w) A (execs laB (lawE L f cd)) (fun fl s₃ => match fl with
      | .next | .cont => ∃ B' m' ps' va' vt' asked' told' c' h' tk', s₃ = { s with heap := h', toks := tk' } ∧ Le B B' ∧ c < c' ∧ LSt B' L lh la lt cs lx ly lz x xs ys zs m' ps' va' vt' asked' told' c' h'
      | .brk => ∃ m' ps' h' tk', s₃ = { s with heap := h', toks := tk' } ∧ St B ((L, NsP m') :: (lh, LstP ps') :: (L + 1, CellP (some (Value.ref la))) :: (la, LstP va) :: (lt, LstP vt) :: cs) h' ∧ LawN m' lx ly lz lh lt x ys.length zs.length ∧ told = longest xs ys zs xs.length
      | .ret _ => False) noE { s with heap := h, toks := tk } := by
  refine cps fun Q₀ hQ₀ => ?_
  obtain ⟨Z0, N, hta, htt, hpr, hhp, hlp, -⟩ := Z
  obtain ⟨ef, es, et, eh, eto, em, ⟨tc, ec⟩, ⟨tl, el⟩⟩ := id N
  obtain ⟨top, h0⟩ : ∃ top, ps[0]? = some top := by
    cases ps with
    | nil => exact absurd rfl hne
    | cons a l => exact ⟨a, rfl⟩
  obtain ⟨vx, vy, vz, vq, lq, nvx, nvq, hBx, hBy, hBz, ix, iy, iz, hSM, hBq, iq⟩ := S.lists
  have hnx := S.nx
  have hny := S.ny
  have hnz := S.nz
  have hcb : c ≤ 960 := by
    have hm : top.2 ∈ ps.map (·.2) := List.mem_map.mpr ⟨top, List.mem_of_getElem? h0, rfl⟩
    obtain ⟨l, b, e, h1, h2⟩ := hlp.val _ hm
    have h3 := hlp.cod _ hm
    rw [e] at h3
    have h4 := code_bound h1 h2
    have h5 := Nat.mul_le_mul (show xs.length + 1 ≤ 31 by lia) (show xs.length + 1 ≤ 31 by lia)
    lia
  have hbig : ps.length < 90000 := by
    have := hlp.hl
    rw [List.length_map] at this
    have h5 := Nat.mul_le_mul (show xs.length + 1 ≤ 31 by lia) hcb
    lia
  refine wpAny_execs_cons ?_
  refine Assign_Tuple ?_
  obtain ⟨fp, op, pmp, cdp, docp, hmp, hop, hdp, hcp⟩ := V.HF.pop
  refine callN V.G K0 Z0 hmp hop hdp ?_
  walk_at "go"
  refine ⟨⟨B, _, Le.refl _, Z0⟩, ?_⟩
  refine heappop_spec (k := kI B) (ps := ps) ⟨R.handled, by have := R.depth; lia, by have := R.units; lia⟩ V.G V.HF K0 hop hdp hcp kI_cmp kI_ord Z0.swap h0 hhp hbig hpr fun h₁ tk₁ qs Z₁ hh₁ hperm => ?_
  replace Z₁ := Z₁.swap
  have hperm2 : (top.2 :: qs.map (·.2)).Perm (ps.map (·.2)) := by have := hperm.map Prod.snd; simpa using this
  have hmin := top_min hhp h0 hperm hlp.nd
  obtain ⟨l, b, etop, hl1, hlb, hct⟩ := hlp.top hperm2
  have hpt := hpr top (List.mem_of_getElem? h0)
  rw [etop] at hperm2 hmin hct hpt
  obtain ⟨T, nT, t1, t2, eT, hT⟩ := hpt
  rw [eT]
  refine unpackT R.handled Z₁ ⟨_, Z₁.sub _ _ hT, rfl, nT, rfl⟩ (by rfl) (by rfl) fun h₂ Z₂ => ?_
  refine PyProof.Rows.assignInOrder_cons (wpAny_assign_Name ?_)
  walk_at "go"
  refine PyProof.Rows.assignInOrder_cons (wpAny_assign_Name ?_)
  walk_at "go"
  refine PyProof.Rows.assignInOrder_nil ?_
  try dsimp only
  rename_i _ _ h₃ Z₃
  have N₃ : LawN (upd (upd m "minus" (.int (kk l b).1 t1)) "begin" (.int (kk l b).2 t2)) lx ly lz lh lt x ys.length zs.length := (N.upd (by decide)).upd (by decide)
  obtain ⟨m₃, Z₃, N₃, e1, e2⟩ : ∃ m₃, St B ((L, NsP m₃) :: (lh, LstP (qs.map Prod.fst)) :: (L + 1, CellP (some (Value.ref la))) :: (la, LstP va) :: (lt, LstP vt) :: cs) h₃ ∧ LawN m₃ lx ly lz lh lt x ys.length zs.length ∧ m₃ "minus" = some (.int (-(l : Int)) t1) ∧ m₃ "begin" = some (.int (b : Int) t2) := ⟨_, Z₃, N₃, by walk_at "lk", by walk_at "lk"⟩
  clear ef es et eh eto em ec el
  obtain ⟨ef, es, et, eh, eto, em, ⟨tc, ec⟩, ⟨tl, el⟩⟩ := id N₃
  refine wpAny_execs_cons ?_
  have hu : A.units + 500 < cLine := by have := R.units; unfold cLine; lia
  have htl : told.length ≤ 1000 := by have := hlp.tl; lia
  have hal : asked.length ≤ 1000 := by have := hlp.al; lia
  refine wpAny_If (wpAny_mono (Q := fun bb s' => ∃ h₄ tk₄, s' = { s with heap := h₄, toks := tk₄ } ∧ St B ((L, NsP m₃) :: (lh, LstP (qs.map Prod.fst)) :: (L + 1, CellP (some (Value.ref la))) :: (la, LstP va) :: (lt, LstP vt) :: cs) h₄ ∧ (bb = true → ∃ z r rs, told = (z :: r) :: rs ∧ z < -(l : Int)) ∧ (bb = false → ∀ z r rs, told = (z :: r) :: rs → ¬ z < -(l : Int))) ?_ (fun bb s' hbb => ?_) fun _ _ z => z)
  · walk_at "go"
    refine listSt ?_
    walk_at "go"
    refine ⟨by simp, B, _, Z₃, fun D₄ h₄ Z₄ => ?_⟩
    replace Z₄ := Z₄.swap
    refine neNil (Z₄.lst (i := 5) rfl).isList (Z₄.lst (i := 1) rfl).isList (by lia) ?_
    replace Z₄ := Z₄.swap.drop
    walk_at "go"
    cases hvt : vt with
    | nil =>
      subst hvt
      rw [show (!([] : List Value).isEmpty) = false from rfl]
      walk_at "go"
      have e0 : told = [] := List.eq_nil_of_length_eq_zero htt.length.symm
      exact ⟨h₄, _, rfl, Z₄, (fun z => nomatch z), fun _ z r rs e => by rw [e0] at e; cases e⟩
    | cons v0 vt' =>
      subst hvt
      rw [show (!(v0 :: vt').isEmpty) = true from rfl]
      walk_at "go"
      cases htold : told with
      | nil => rw [htold] at htt; exact htt.elim
      | cons r0 rs =>
        obtain ⟨z, r, rfl⟩ : ∃ z r, r0 = z :: r := by
          rcases hlp.ph with ⟨e, _⟩ | ⟨mm, TT, hm, hT0, hTp, hc, e, _⟩
          · rw [htold] at e; cases e
          · obtain ⟨r', rs', e2⟩ := told_head hT0 hc
            rw [htold, e2] at e
            injection e with e _
            exact ⟨_, _, e⟩
        rw [htold] at htt
        obtain ⟨a0, n0, us0, rfl, hB0, hi0⟩ := htt.1
        cases us0 with
        | nil => exact hi0.elim
        | cons u0 us0 =>
          obtain ⟨⟨tz, rfl⟩, hi0⟩ := hi0
          refine subL (Z₄.lst (i := 4) rfl).isList (by lia) (by lia) (x := .ref a0) (by rfl) ?_
          walk_at "go"
          refine PyProof.Rows.item_tupleT (l := .int z tz :: us0) (j := 0) (x := .int z tz) ⟨_, Z₄.sub _ _ hB0, rfl, n0, rfl⟩ (by lia) (by lia) (by unfold seqIndex?; simp) (by rfl) ?_
          walk_at "go"
          by_cases hz : z < -(l : Int)
          · rw [decide_eq_true hz]
            walk_at "go"
            exact ⟨h₄, _, rfl, Z₄, fun _ => ⟨z, r, rs, rfl, hz⟩, fun q => nomatch q⟩
          · rw [decide_eq_false hz]
            walk_at "go"
            exact ⟨h₄, _, rfl, Z₄, (fun q => nomatch q), fun _ z' r' rs' e => by injection e with e _; injection e with e _; rw [← e]; exact hz⟩
  obtain ⟨h₄, tk₄, rfl, Z₄, hb1, hb2⟩ := hbb
  cases bb with
  | true =>
    obtain ⟨z, r, rs, et', hz⟩ := hb1 rfl
    walk_at "go"
    exact hQ₀ _ _ ⟨m₃, _, h₄, _, rfl, Z₄, N₃, hlp.brk hperm2 hmin et' hz⟩
  | false =>
    have hnb := hb2 rfl
    walk_at "go"
    refine wpAny_Call_method (by rfl) (by rfl) (by rfl) PySem.F.plainAttrs_list PySem.F.slot_list_append PySem.F.type_list_append ?_
    refine ldCe Z₄ (i := 2) rfl (by rfl) ?_
    refine lst_meth (Z₄.lst (i := 3) rfl) ?_
    refine cwB ?_
    walk_at "go"
    refine tupSt ?_
    walk_at "go"
    refine ⟨by simp, B, _, Z₄, fun Ta h₅ Z₅ => ?_⟩
    obtain ⟨oa, pa, -, Z₆, le₁⟩ := Z₅.freeze
    have hTa : TupI (B.add Ta oa) (.ref Ta) [-(l : Int), b] := ⟨Ta, 0, _, rfl, PM.add_self.trans (congrArg some pa), two⟩
    clear Z₅ pa
    revert Z₆ le₁ hTa
    generalize B.add Ta oa = B₁
    intro Z₆ le₁ hTa
    walk_at "go"
    refine appL Z₆ (i := 3) rfl (by rw [hta.length, List.length_map]; lia) fun h₇ Z₇ => ?_
    replace Z₇ : St B₁ ((L, NsP m₃) :: (lh, LstP (qs.map Prod.fst)) :: (L + 1, CellP (some (Value.ref la))) :: (la, LstP (va ++ [Value.ref Ta])) :: (lt, LstP vt) :: cs) h₇ := Z₇
    clear Z₆ Z₄ Z₃ Z₂ Z₁ Z0
    have K1 := K0.le le₁
    have hSM1 := hSM.le le₁
    obtain ⟨dx, od, lI, kk', dj, sj, osj, hx, hdx, hod, -, -, -, -, lf, -⟩ := hSM1.h
    have hta1 : IsTs B₁ (va ++ [Value.ref Ta]) ((asked ++ [kk l b]).map fun k => [k.1, k.2]) := by rw [List.map_append]; exact (hta.le le₁).snoc hTa
    try dsimp only
    walk_at "go"
    refine Assign_Tuple ?_
    refine callMeth (by rfl) (by rfl) (by rfl) ?_
    walk_at "go"
    intro pl
    refine methB V.KX K1 Z₇ hdx hod hx km_196 kq_196 lf ?_
    try dsimp only
    refine cwM K1 (V.KX _ _ kl_196) rfl ?_
    walk_at "go"
    refine ⟨⟨B₁, _, Le.refl _, Z₇⟩, ?_⟩
    rw [show (b : Int) - -(l : Int) = ((b + l : Nat) : Int) by lia]
    have Rf : Rm A 8 200 := ⟨R.handled, by have := R.depth; lia, by have := R.units; lia⟩
    refine flm_spec (alo := b) (ahi := b + l) (blo := 0) (bhi := ys.length) Rf V.G V.Bn V.mM K1 V.KX V.Sx Z₇ hSM1 (le₁ _ _ hBx) ix (le₁ _ _ hBq) iq (by lia) (by rw [List.length_append]; lia) (by lia) hlb (Nat.zero_le _) (by rw [List.length_append]; lia) fun i j k B₂ T₂ dd ti tj tz h₈ tk₈ hbest1 le₂ hT₂ Z₈ => ?_
    have K2 := K1.le le₂
    refine asgU (n := 3) (by rfl) (by rfl) (m_items R.handled K2 V.KX Z₈ hT₂ fun h₉ Z₉ => ?_)
    refine PyProof.Rows.assignInOrder_cons (wpAny_assign_Name ?_)
    walk_at "go"
    refine PyProof.Rows.assignInOrder_cons (wpAny_assign_Name ?_)
    walk_at "go"
    refine PyProof.Rows.assignInOrder_cons (wpAny_assign_Name ?_)
    walk_at "go"
    refine PyProof.Rows.assignInOrder_nil ?_
    try dsimp only
    rename_i _ _ _ _ h₁₀ Z₁₀
    have N₁₀ : LawN (upd (upd (upd m₃ "i" (.int (i : Int) ti)) "j" (.int (j : Int) tj)) "size" (.int (k : Int) tz)) lx ly lz lh lt x ys.length zs.length := ((N₃.upd (by decide)).upd (by decide)).upd (by decide)
    obtain ⟨m₅, Z₁₀, N₅, f1, f2, f3, f4, f5⟩ : ∃ m₅, St B₂ ((L, NsP m₅) :: (lh, LstP (qs.map Prod.fst)) :: (L + 1, CellP (some (Value.ref la))) :: (la, LstP (va ++ [Value.ref Ta])) :: (lt, LstP vt) :: cs) h₁₀ ∧ LawN m₅ lx ly lz lh lt x ys.length zs.length ∧ m₅ "minus" = some (.int (-(l : Int)) t1) ∧ m₅ "begin" = some (.int (b : Int) t2) ∧ m₅ "i" = some (.int (i : Int) ti) ∧ m₅ "j" = some (.int (j : Int) tj) ∧ m₅ "size" = some (.int (k : Int) tz) :=
      ⟨_, Z₁₀, N₁₀, by walk_at "lk", by walk_at "lk", by walk_at "lk", by walk_at "lk", by walk_at "lk"⟩
    clear ef es et eh eto em ec el e1 e2 Z₉ Z₈ Z₇ N₁₀
    obtain ⟨ef, es, et, eh, eto, em, ⟨tc, ec⟩, ⟨tl, el⟩⟩ := id N₅
    refine wpAny_execs_cons ?_
    refine Assign_Tuple ?_
    refine callMeth (by rfl) (by rfl) (by rfl) ?_
    walk_at "go"
    intro pl
    refine methB V.KX K2 Z₁₀ (le₂ _ _ hdx) hod (le₂ _ _ hx) km_196 kq_196 lf ?_
    try dsimp only
    refine cwM K2 (V.KX _ _ kl_196) rfl ?_
    walk_at "go"
    refine ⟨⟨B₂, _, Le.refl _, Z₁₀⟩, ?_⟩
    rw [show (b : Int) - -(l : Int) = ((b + l : Nat) : Int) by lia]
    have le12 := le₁.trans le₂
    refine flm_spec (alo := b) (ahi := b + l) (blo := ys.length) (bhi := ys.length + zs.length) Rf V.G V.Bn V.mM K2 V.KX V.Sx Z₁₀ (hSM1.le le₂) (le12 _ _ hBx) ix (le12 _ _ hBq) iq (by lia) (by rw [List.length_append]; lia) (by lia) hlb (by lia) (by rw [List.length_append]; lia) fun x' y' k' B₃ T₃ dd' tx ty tm h₁₁ tk₁₁ hbest2 le₃ hT₃ Z₁₁ => ?_
    have K3 := K2.le le₃
    refine asgU (n := 3) (by rfl) (by rfl) (m_items R.handled K3 V.KX Z₁₁ hT₃ fun h₁₂ Z₁₂ => ?_)
    refine PyProof.Rows.assignInOrder_cons (wpAny_assign_Name ?_)
    walk_at "go"
    refine PyProof.Rows.assignInOrder_cons (wpAny_assign_Name ?_)
    walk_at "go"
    refine PyProof.Rows.assignInOrder_cons (wpAny_assign_Name ?_)
    walk_at "go"
    refine PyProof.Rows.assignInOrder_nil ?_
    try dsimp only
    rename_i _ _ _ _ h₁₃ Z₁₃
    have N₁₃ : LawN (upd (upd (upd m₅ "x" (.int (x' : Int) tx)) "y" (.int (y' : Int) ty)) "more" (.int (k' : Int) tm)) lx ly lz lh lt x ys.length zs.length := ((N₅.upd (by decide)).upd (by decide)).upd (by decide)
    obtain ⟨m₆, Z₁₃, N₆, g1, g2, g3, g4, g5, g6, g7, g8⟩ : ∃ m₆, St B₃ ((L, NsP m₆) :: (lh, LstP (qs.map Prod.fst)) :: (L + 1, CellP (some (Value.ref la))) :: (la, LstP (va ++ [Value.ref Ta])) :: (lt, LstP vt) :: cs) h₁₃ ∧ LawN m₆ lx ly lz lh lt x ys.length zs.length ∧ m₆ "minus" = some (.int (-(l : Int)) t1) ∧ m₆ "begin" = some (.int (b : Int) t2) ∧ m₆ "i" = some (.int (i : Int) ti) ∧ m₆ "j" = some (.int (j : Int) tj) ∧ m₆ "size" = some (.int (k : Int) tz) ∧ m₆ "x" = some (.int (x' : Int) tx) ∧ m₆ "y" = some (.int (y' : Int) ty) ∧ m₆ "more" = some (.int (k' : Int) tm) :=
      ⟨_, Z₁₃, N₁₃, by walk_at "lk", by walk_at "lk", by walk_at "lk", by walk_at "lk", by walk_at "lk", by walk_at "lk", by walk_at "lk", by walk_at "lk"⟩
    clear ef es et eh eto em ec el f1 f2 f3 f4 f5 Z₁₂ Z₁₁ Z₁₀ N₁₃
    obtain ⟨ef, es, et, eh, eto, em, ⟨tc, ec⟩, ⟨tl, el⟩⟩ := id N₆
    have le13 : Le B B₃ := le12.trans le₃
    have hta3 := hta1.le (le₂.trans le₃)
    have htt3 := htt.le le13
    have hprq : ∀ p ∈ qs, PairI B₃ p.1 p.2 := fun p hp => (hpr p (hperm.mem_iff.mp (List.mem_cons_of_mem _ hp))).le le13
    have hql : qs.length < 89000 := by
      have e1 := hlp.hl
      rw [List.length_map] at e1
      have e2 := hperm.length_eq
      rw [List.length_cons] at e2
      have h5 := Nat.mul_le_mul (show xs.length + 1 ≤ 31 by lia) hcb
      lia
    refine wpAny_execs_cons ?_
    refine wpAny_mono (law_if (s := s) ⟨R.handled, R.depth, by have := R.units; lia⟩ V K3 Z₁₃ N₆ g1 g2 g3 g4 g5 g6 g7 g8 hta3 htt3 hprq hh₁ hlp hperm2 hmin hl1 hlb hbest1 hbest2 hnb hnx hct hql htl) (fun fl s₃ hfl => ?_) fun _ _ z => z
    cases fl with
    | next =>
      obtain ⟨B4, m4, ps4, va4, vt4, as4, to4, c4, h4, tk4, rfl, le4, hc4, Z4⟩ := hfl
      exact wpAny_execs_nil (hQ₀ _ _ ⟨B4, m4, ps4, va4, vt4, as4, to4, c4, h4, tk4, rfl, le13.trans le4, hc4, Z4⟩)
    | cont => exact hfl.elim
    | brk => exact hfl.elim
    | ret v => exact hfl.elim
end
end
section
open PySem PySem.W PyProof.Rows
set_option Elab.async false
set_option maxRecDepth 100000
section
variable {w : World} {A : Around} {E : Value → Shared → Prop} {s : Shared} {B : PM} {cs : Cs} {h₀ : Heap} {mg : Str → Option Value} {P : Params} {d : Nat → Value} {Q : Value → Shared → Prop}
theorem Std.le {B' : PM} {lx ly lz x : Addr} {xs ys zs : List Int} (h : Std B lx ly lz x xs ys zs) (le : Le B B') : Std B' lx ly lz x xs ys zs := by
  obtain ⟨⟨vx, vy, vz, vq, lq, nx, nq, h1, h2, h3, h4, h5, h6, h7, h8, h9⟩, a, b, c⟩ := h
  exact ⟨⟨vx, vy, vz, vq, lq, nx, nq, le _ _ h1, h2.le le, h3.le le, h4, h5, h6, h7.le le, le _ _ h8, h9⟩, a, b, c⟩
/-- law's frame behind its loop -/
structure LEnd (B : PM) (L lh la lt : Addr) (cs : Cs) (lx ly lz x : Addr) (xs ys zs : List Int) (m : Str → Option Value) (hv va vt : List Value) (asked : List (Int × Int)) (h : Heap) : Prop where
  st : St B ((L, NsP m) :: (lh, LstP hv) :: (L + 1, CellP (some (Value.ref la))) :: (la, LstP va) :: (lt, LstP vt) :: cs) h
  nm : LawN m lx ly lz lh lt x ys.length zs.length
  ta : IsTs B va (asked.map fun k => [k.1, k.2])
  srt : asked.Pairwise fun a b => ltII a b = true
  ln : asked.length ≤ 1000
  tt : IsTs B vt (longest xs ys zs xs.length)
set_option maxHeartbeats 8000000 in
theorem law_loop {L f lh la lt lx ly lz x : Addr} {cd : Value} {xs ys zs : List Int} {m : Str → Option Value} {ps : List (Value × (Int × Int))} {va vt : List Value} {asked : List (Int × Int)} {told : List (List Int)} {c : Nat} {h : Heap} {tk : Nat} (R : Rm A 20 900) (V : Hv h₀ mg P d) (K0 : In0 h₀ B)
    (Z : LSt B L lh la lt cs lx ly lz x xs ys zs m ps va vt asked told c h) (S : Std B lx ly lz x xs ys zs) {Q : Flow → Shared → Prop}
    (hQ : ∀ B' m' hv' va' vt' asked' h' tk', Le B B' → LEnd B' L lh la lt cs lx ly lz x xs ys zs m' hv' va' vt' asked' h' → Q .next { s with heap := h', toks := tk' }) :
    wpAny (model pw w) A (exec (nth (fnBody (stAt pw 14)) 7) (lawE L f cd)) Q E { s with heap := h, toks := tk } := by
  have hK : ∀ {c : Nat} {H asked told}, Loop xs ys zs H asked told c → H ≠ [] → c < (xs.length + 1) * (xs.length + 1) := by
    intro c H asked told hlp hne
    cases H with
    | nil => exact absurd rfl hne
    | cons t H =>
      obtain ⟨l, b, e, h1, h2⟩ := hlp.val t List.mem_cons_self
      have h3 := hlp.cod t List.mem_cons_self
      rw [e] at h3
      have := code_bound h1 h2
      lia
  have hu : A.units + 500 < cLine := by have := R.units; unfold cLine; lia
  refine whileW (fun n s' => ∃ B' m' ps' va' vt' asked' told' c' h' tk', s' = { s with heap := h', toks := tk' } ∧ Le B B' ∧ LSt B' L lh la lt cs lx ly lz x xs ys zs m' ps' va' vt' asked' told' c' h' ∧ n = (xs.length + 1) * (xs.length + 1) + 1 - c') ?_ _ ⟨B, m, ps, va, vt, asked, told, c, h, tk, rfl, Le.refl _, Z, rfl⟩
  rintro n s' ⟨B', m', ps', va', vt', asked', told', c', h', tk', rfl, le, Z', rfl⟩
  obtain ⟨ef, es, et, eh, eto, em, -, -⟩ := id Z'.nm
  have Y := Z'.st
  walk_at "go"
  refine listSt ?_
  walk_at "go"
  refine ⟨by simp, B', _, Y, fun D₄ h₄ Z₄ => ?_⟩
  replace Z₄ := Z₄.swap
  refine neNil (Z₄.lst (i := 2) rfl).isList (Z₄.lst (i := 1) rfl).isList (by lia) ?_
  replace Z₄ := Z₄.swap.drop
  walk_at "go"
  by_cases hps : ps' = []
  · subst hps
    rw [show (!(([] : List (Value × (Int × Int))).map Prod.fst).isEmpty) = false from rfl]
    walk_at "go"
    refine hQ B' m' _ va' vt' asked' h₄ _ le ⟨Z₄, Z'.nm, Z'.ta, Z'.lp.srt, ?_, ?_⟩
    · have := Z'.lp.al
      have := Z'.cb
      lia
    · exact Z'.lp.done ▸ Z'.tt
  · rw [show (!(ps'.map Prod.fst).isEmpty) = true by cases ps' with | nil => exact absurd rfl hps | cons => rfl]
    refine iteT ?_
    refine wpAny_mono (law_turn (s := s) R V (K0.le le) ⟨Z₄, Z'.nm, Z'.ta, Z'.tt, Z'.pr, Z'.hp, Z'.lp, Z'.cb⟩ (S.le le) hps) (fun fl s₃ hfl => ?_) fun _ _ z => z
    have hc1 := hK Z'.lp (by simpa using hps)
    cases fl with
    | next =>
      obtain ⟨B4, m4, ps4, va4, vt4, as4, to4, c4, h4, tk4, rfl, le4, hc4, Z4⟩ := hfl
      exact ⟨_, by lia, B4, m4, ps4, va4, vt4, as4, to4, c4, h4, tk4, rfl, le.trans le4, Z4, rfl⟩
    | cont =>
      obtain ⟨B4, m4, ps4, va4, vt4, as4, to4, c4, h4, tk4, rfl, le4, hc4, Z4⟩ := hfl
      exact ⟨_, by lia, B4, m4, ps4, va4, vt4, as4, to4, c4, h4, tk4, rfl, le.trans le4, Z4, rfl⟩
    | brk =>
      obtain ⟨m4, ps4, h4, tk4, rfl, Z4, N4, e4⟩ := hfl
      refine hQ B' m4 _ va' vt' asked' h4 _ le ⟨Z4, N4, Z'.ta, Z'.lp.srt, ?_, e4 ▸ Z'.tt⟩
      have := Z'.lp.al
      have h5 := Nat.mul_le_mul (show xs.length + 1 ≤ 31 by have := S.nx; lia) (show xs.length + 1 ≤ 31 by have := S.nx; lia)
      lia
    | ret v => exact hfl.elim
end
end
section
open PySem PySem.W PyProof.Rows
set_option Elab.async false
set_option maxRecDepth 100000
section
variable {w : World} {A : Around} {E : Value → Shared → Prop} {s : Shared} {B : PM} {cs : Cs} {h₀ : Heap} {mg : Str → Option Value} {P : Params} {d : Nat → Value} {Q : Value → Shared → Prop}
def retVal : Stmt → Expr | .Return (some e) _ => e | _ => .Constant .none 0 default
def cmpL : Expr → Expr | .Compare l _ _ _ => l | _ => .Constant .none 0 default
def laC : Expr := cmpL (retVal (nth (fnBody (stAt pw 14)) 9))
set_option maxHeartbeats 4000000 in
theorem la_test {L f la : Addr} {cd : Value} {va : List Value} {asked : List (Int × Int)} {N i1 i2 : Nat} {r : Cs} (hu : A.units + 100 < cLine) (hta : IsTs B va (asked.map fun k => [k.1, k.2])) (srt : asked.Pairwise fun a b => ltII a b = true) (hl : asked.length ≤ 1000) (hN : N + 1 ≤ asked.length ∨ N = 0)
    (e1 : r[i1]? = some (L + 1, CellP (some (Value.ref la)))) (e2 : r[i2]? = some (la, LstP va)) :
    TestOk pw w A (lawE L f cd) (compScope laC) [("asked", L + 1)] "k" (compIfs laC) 1 N (fun _ => false) B r := by
  intro C j t m₃ s₃ E' hj1 hj2 Z hj
  refine forIn_one ?_
  refine wpAny_isTrue_Not ?_
  refine wpAny_isTrue_Compare1 ?_ (by with_unfolding_all rfl)
  refine Subscript_ ?_
  refine ldCe Z (i := i1 + 1) e1 (by rfl) ?_
  walk_at "go"
  have hla := hta.length
  rw [List.length_map] at hla
  obtain ⟨j, rfl⟩ : ∃ k, j = k + 1 := ⟨j - 1, by lia⟩
  rw [show ((j + 1 : Nat) : Int) - 1 = (j : Int) by lia]
  have hL := (Z.lst (i := i2 + 1) e2).isList
  obtain ⟨v1, ev1⟩ : ∃ v, va[j]? = some v := ⟨va[j]'(by lia), List.getElem?_eq_getElem (by lia)⟩
  obtain ⟨v2, ev2⟩ : ∃ v, va[j + 1]? = some v := ⟨va[j + 1]'(by lia), List.getElem?_eq_getElem (by lia)⟩
  obtain ⟨q1, f1, g1⟩ := hta.get ev1
  obtain ⟨q2, f2, g2⟩ := hta.get ev2
  rw [List.getElem?_map, Option.map_eq_some_iff] at f1 f2
  obtain ⟨k1, f1, rfl⟩ := f1
  obtain ⟨k2, f2, rfl⟩ := f2
  have hlt : ltII k1 k2 = true := by
    obtain ⟨p1, e1⟩ := List.getElem?_eq_some_iff.mp f1
    obtain ⟨p2, e2⟩ := List.getElem?_eq_some_iff.mp f2
    rw [← e1, ← e2]
    exact List.pairwise_iff_getElem.mp srt j (j + 1) p1 p2 (by lia)
  refine subL hL (by lia) (by lia) (x := v1) (by simpa using ev1) ?_
  try dsimp only
  refine Subscript_ ?_
  refine ldCe Z (i := i1 + 1) e1 (by rfl) ?_
  walk_at "go"
  refine subL hL (by lia) (by lia) (x := v2) (by simpa using ev2) ?_
  try dsimp only
  refine ltAt_pairs (A := A) (s := { heap := s₃.heap, gens := s₃.gens, drawn := s₃.drawn, toks := s₃.toks + 1 + 1, os := s₃.os }) (by lia) Z (pairTup.mpr g1) (pairTup.mpr g2) pw w _ _ ?_
  rw [hlt]
  walk_at "go"
  exact ⟨rfl, s₃.heap, _, rfl, fun _ _ e => e⟩
set_option maxHeartbeats 4000000 in
theorem law_tail {L f lh la lt lx ly lz x : Addr} {cd : Value} {xs ys zs : List Int} {m : Str → Option Value} {hv va vt : List Value} {asked : List (Int × Int)} {h : Heap} {tk : Nat} (R : Rm A 20 900) (V : Hv h₀ mg P d) (K0 : In0 h₀ B) (S : Std B lx ly lz x xs ys zs)
    (Z : LEnd B L lh la lt cs lx ly lz x xs ys zs m hv va vt asked h) {Q : Flow → Shared → Prop} (hQ : ∀ B' h' tk', Le B B' → St B' cs h' → Q (.ret (.bool true)) { s with heap := h', toks := tk' }) :
    wpAny (model pw w) A (execs ((fnBody (stAt pw 14)).drop 8) (lawE L f cd)) Q noE { s with heap := h, toks := tk } := by
  obtain ⟨ef, es, et, eh, eto, em, -, -⟩ := id Z.nm
  have Y := Z.st
  have hta := Z.ta
  have htt := Z.tt
  have hal := hta.length
  rw [List.length_map] at hal
  obtain ⟨vx, vy, vz, vq, lq, nvx, nvq, hBx, hBy, hBz, ix, iy, iz, -, -, -⟩ := S.lists
  have hnx := S.nx
  have hny := S.ny
  have hnz := S.nz
  have hu : A.units + 500 < cLine := by have := R.units; unfold cLine; lia
  refine wpAny_execs_cons ?_
  walk_at "go"
  obtain ⟨fp, op, pmp, cdp, docp, hmp, hop, hdp, hcp⟩ := V.long
  refine callN V.G K0 Y hmp hop hdp ?_
  walk_at "go"
  refine ⟨⟨B, _, Le.refl _, Y⟩, ?_⟩
  refine longest_spec ⟨R.handled, by have := R.depth; lia, by have := R.units; lia⟩ V.G V.Bn K0 hop hdp hcp Y ⟨_, hBx, rfl, nvx, rfl⟩ hBy hBz ix iy iz (by lia) (by lia) (by lia) fun B₁ r us h₁ tk₁ le₁ hus Y₁ => ?_
  replace Y₁ := Y₁.swap
  refine neTs Y₁ (Y₁.lst (i := 5) rfl).isList (Y₁.lst (i := 1) rfl).isList (htt.le le₁) hus (by lia) ?_
  rw [decide_eq_true rfl]
  rw [show (!true) = false from rfl]
  walk_at "go"
  have K1 := K0.le le₁
  refine compSt (cl := [("asked", L + 1)]) (fun _ => false) R.handled (by rfl) (by decide +kernel) (by rfl) (by decide +kernel) (by rfl) (by decide) ?_
  refine callT V.G K1 Y₁ V.Bn.range boot_range ?_
  walk_at "go"
  refine callB V.G K1 Y₁ V.Bn.len boot_len ?_
  walk_at "go"
  refine ldCe Y₁ (i := 3) rfl (by rfl) ?_
  walk_at "go"
  refine lenL (vs := va) (Y₁.lst (i := 4) rfl).isList (by have := Z.ln; lia) fun tl tkl => ?_
  try dsimp only
  walk_at "go"
  refine rangeSt2 Y₁ fun r₂ h₂ tk₂ q1 q2 q3 hr Y₂ => ?_
  have hN : va.length - 1 + 1 ≤ asked.length ∨ va.length - 1 = 0 := by lia
  have hsz : Builtin.Range.rangeSize ((1 : Nat) : Int) (va.length : Int) 1 = ((va.length - 1 : Nat) : Int) := by
    rcases Nat.eq_zero_or_pos va.length with e | e
    · rw [e]; decide
    · exact range_size e
  have hsm : Builtin.Range.small ((1 : Nat) : Int) (va.length : Int) 1 = true := by
    rcases Nat.eq_zero_or_pos va.length with e | e
    · rw [e]; decide
    · exact small_ok e (by have := Z.ln; lia)
  refine ⟨r₂, 1, va.length - 1, _, q1, q2, q3, B₁, _, rfl, hr, hsm, hsz, by have := Z.ln; lia, Y₂, la_test (i1 := 3) (i2 := 4) (by lia) (hta.le le₁) Z.srt Z.ln hN rfl rfl, fun D hs h₃ tk₃ hi Y₃ => ?_⟩
  have e0 : hs = [] := by
    rw [show (rangeI 1 (va.length - 1)).filter (fun _ => false) = [] by simp] at hi
    cases hs with
    | nil => rfl
    | cons => exact hi.elim
  subst e0
  try dsimp only
  walk_at "go"
  refine listSt ?_
  walk_at "go"
  refine ⟨by simp, B₁, _, Y₃, fun D₄ h₄ Y₄ => ?_⟩
  refine eqNil (Y₄.lst (i := 1) rfl).isList (Y₄.lst (i := 0) rfl).isList (by lia) ?_
  rw [show ([] : List Value).isEmpty = true from rfl]
  try dsimp only
  refine hQ B₁ h₄ _ le₁ Y₄.drop.drop.drop.drop.drop.drop.drop.drop
end
end
section
open PySem PySem.W PyProof.Rows
set_option Elab.async false
set_option maxRecDepth 100000
section
variable {w : World} {A : Around} {E : Value → Shared → Prop} {s : Shared} {B : PM} {cs : Cs} {h₀ : Heap} {mg : Str → Option Value} {P : Params} {d : Nat → Value} {Q : Value → Shared → Prop}
set_option maxHeartbeats 8000000 in
theorem law_spec {f sc : Addr} {o : Obj} {pm cd doc : Value} {vs : List Value} {ss : List Int} (R : Rm A 22 1000) (V : Hv h₀ mg P d) (K0 : In0 h₀ B) (ho : h₀.get? f = some o) (hd : o.data = .func (Calls.docDef "law" (fnParams (stAt pw 14)) (fnBody (stAt pw 14)) (fnScope (stAt pw 14)) pm cd doc)) (hcd : h₀.CodeRec cd "law")
    (X : St B cs s.heap) (hs : IsL B sc vs) (hv : IsInts vs ss) (hlen : ss.length ≤ 63)
    (hQ : ∀ B' h' tk, Le B B' → St B' cs h' → Q (.bool true) { s with heap := h', toks := tk }) :
    wpAny (model pw w) A (call (.ref f) [.ref sc]) Q E s := by
  refine callC (d := 21) (binds := [("script", .ref sc)]) R V.G K0 X ho hd hcd (by rfl) (fun L => ?_) (fun L => ?_) (fun h₁ L tk Y => ?_) (by rfl) (by rfl) (by rfl)
  · intro p hp
    simp only [List.mem_cons, List.not_mem_nil, or_false] at hp
    subst hp
    exact .inl (by rfl)
  · intro p hp
    have e : cellsFrom (L + 1) (fnScope (stAt pw 14)).names [] = ([(Str.ofString "asked", L + 1)] : List (Str × Addr)) := by rfl
    rw [e] at hp ⊢
    simp only [List.mem_cons, List.not_mem_nil, or_false] at hp
    subst hp
    rfl
  have Y₁ : St B ((L, NsP (bindL (lawE L f cd).kindOf [("script", .ref sc)] fun _ => none)) :: (L + 1, CellP none) :: cs) h₁ := Y
  clear Y
  have mf : bindL (lawE L f cd).kindOf [("script", .ref sc)] (fun _ => none) "script" = some (.ref sc) := by rfl
  revert Y₁ mf
  generalize bindL (lawE L f cd).kindOf [("script", .ref sc)] (fun _ => none) = m₀
  intro Y₁ mf
  have R' : Rm (A.deeper (lawE L f cd)) 20 990 := R.deep (by lia) (by lia)
  show wpAny _ (A.deeper (lawE L f cd)) (execs _ (lawE L f cd)) _ _ _
  revert R'
  generalize A.deeper (lawE L f cd) = A'
  intro R'
  refine wpAny_execs_cons ?_
  refine Assign_Tuple ?_
  obtain ⟨fr, or, pmr, cdr, docr, hmr, hor, hdr, hcr⟩ := V.rows
  refine callN V.G K0 Y₁ hmr hor hdr ?_
  walk_at "go"
  refine ⟨⟨B, _, Le.refl _, Y₁⟩, ?_⟩
  refine rows_spec ⟨R'.handled, by have := R'.depth; lia, by have := R'.units; lia⟩ V.G V.Bn K0 hor hdr hcr Y₁ hs hv hlen fun B₁ r a0 a1 a2 v0 v1 v2 xs ys zs n n0 n1 n2 h₂ tk₂ le₁ hr h0 h1 h2 i0 i1 i2 hx2 hx30 hy30 hz30 Y₂ => ?_
  refine asgU (n := 3) (by rfl) (by rfl) (l_items R'.handled Y₂ ⟨_, hr, rfl, n, rfl⟩ fun h₃ Y₃ => ?_)
  refine PyProof.Rows.assignInOrder_cons (wpAny_assign_Name ?_)
  walk_at "go"
  refine PyProof.Rows.assignInOrder_cons (wpAny_assign_Name ?_)
  walk_at "go"
  refine PyProof.Rows.assignInOrder_cons (wpAny_assign_Name ?_)
  walk_at "go"
  refine PyProof.Rows.assignInOrder_nil ?_
  try dsimp only
  rename_i _ _ _ _ h₄ Y₄
  have K1 := K0.le le₁
  obtain ⟨m₁, Y₄, c1, c2, c3⟩ : ∃ m₁, St B₁ ((L, NsP m₁) :: (L + 1, CellP none) :: cs) h₄ ∧ m₁ "first" = some (Value.ref a0) ∧ m₁ "second" = some (Value.ref a1) ∧ m₁ "third" = some (Value.ref a2) := ⟨_, Y₄, by walk_at "lk", by walk_at "lk", by walk_at "lk"⟩
  refine wpAny_execs_cons ?_
  walk_at "go"
  refine wpAny_Call_NameR (ldG V.G K1 Y₄ V.mS ?_)
  refine callWith_K (h₀ := h₀) (K := KD P d) V.KX (by kernel_rfl) ?_
  walk_at "go"
  refine addSt Y₄ (IsL.at ⟨_, h1, rfl, n1, rfl⟩ Y₄) (IsL.at ⟨_, h2, rfl, n2, rfl⟩ Y₄) (by rw [i1.length, i2.length]; lia) fun h₅ D Y₅ => ?_
  walk_at "go"
  obtain ⟨oq, ⟨nq, pq⟩, -, Y₆, le₂⟩ := Y₅.freeze
  have hq : (B₁.add D oq) D = some { cls := .type "list", data := .seq (v1 ++ v2).toArray nq } := PM.add_self.trans (congrArg some pq)
  clear Y₅ pq
  revert Y₆ le₂ hq
  generalize B₁.add D oq = B₂
  intro Y₆ le₂ hq
  have K2 := K1.le le₂
  have iq : IsInts (v1 ++ v2) (ys ++ zs) := i1.append i2
  refine ⟨Kin V.KX K2 Y₆, ?_⟩
  try dsimp only
  refine make_spec (la := a0) ⟨R'.handled, by have := R'.depth; lia, by have := R'.units; lia⟩ V.G V.Bn K2 V.KX Y₆ hq iq (by rw [List.length_append]; lia) fun B₃ x h₆ tk₆ le₃ hSM Y₇ => ?_
  have le13 := le₂.trans le₃
  have K3 := K2.le le₃
  have S : Std B₃ a0 a1 a2 x xs ys zs := ⟨⟨v0, v1, v2, v1 ++ v2, D, n0, nq, le13 _ _ h0, IsL.le ⟨_, h1, rfl, n1, rfl⟩ le13, IsL.le ⟨_, h2, rfl, n2, rfl⟩ le13, i0, i1, i2, hSM, le₃ _ _ hq, iq⟩, hx30, hy30, hz30⟩
  try dsimp only
  walk_at "go"
  rename_i h₇ Y₈
  try dsimp only
  refine callB V.G K3 Y₈ V.Bn.len boot_len ?_
  walk_at "go"
  refine lenL (vs := v1) (IsL.at (IsL.le ⟨_, h1, rfl, n1, rfl⟩ le13) Y₈) (by rw [i1.length]; lia) fun tl1 tkl1 => ?_
  rw [i1.length]
  try dsimp only
  walk_at "go"
  rename_i h₈ Y₉
  try dsimp only
  refine callB V.G K3 Y₉ V.Bn.len boot_len ?_
  walk_at "go"
  refine lenL (vs := v2) (IsL.at (IsL.le ⟨_, h2, rfl, n2, rfl⟩ le13) Y₉) (by rw [i2.length]; lia) fun tl2 tkl2 => ?_
  rw [i2.length]
  try dsimp only
  walk_at "go"
  rename_i h₉ Y₁₀
  try dsimp only
  obtain ⟨m₂, Y₁₀, d1, d2, d3, d4, d5, d6⟩ : ∃ m₂, St B₃ ((L, NsP m₂) :: (L + 1, CellP none) :: cs) h₉ ∧ m₂ "first" = some (Value.ref a0) ∧ m₂ "second" = some (Value.ref a1) ∧ m₂ "third" = some (Value.ref a2) ∧ m₂ "matcher" = some (Value.ref x) ∧ IsI (m₂ "cut") (ys.length : Int) ∧ IsI (m₂ "last") ((ys.length + zs.length : Nat) : Int) :=
    ⟨_, Y₁₀, by walk_at "lk", by walk_at "lk", by walk_at "lk", by walk_at "lk", ⟨_, by walk_at "lk"⟩, ⟨_, by walk_at "lk"⟩⟩
  refine listSt ?_
  walk_at "go"
  refine tupSt ?_
  walk_at "go"
  refine callB V.G K3 Y₁₀ V.Bn.len boot_len ?_
  walk_at "go"
  refine lenL (vs := v0) (IsL.at (IsL.le ⟨_, h0, rfl, n0, rfl⟩ le13) Y₁₀) (by rw [i0.length]; lia) fun tl0 tkl0 => ?_
  rw [i0.length]
  walk_at "go"
  refine ⟨by simp, B₃, _, Y₁₀, fun T h₁₀ Y₁₁ => ?_⟩
  obtain ⟨oT, pT, -, Y₁₂, le₄⟩ := Y₁₁.freeze
  have hT : PairI (B₃.add T oT) (.ref T) (kk xs.length 0) := ⟨T, 0, _, _, rfl, PM.add_self.trans (congrArg some pT)⟩
  clear Y₁₁ pT
  revert Y₁₂ le₄ hT
  generalize B₃.add T oT = B₄
  intro Y₁₂ le₄ hT
  walk_at "go"
  refine ⟨by simp, B₄, _, Y₁₂, fun lh h₁₁ Y₁₃ => ?_⟩
  replace Y₁₃ := Y₁₃.swap
  walk_at "go"
  rename_i h₁₂ Y₁₄
  refine listSt ?_
  walk_at "go"
  refine ⟨by simp, B₄, _, Y₁₄, fun la h₁₃ Y₁₅ => ?_⟩
  replace Y₁₅ := Y₁₅.swap
  refine stCe Y₁₅ (i := 3) rfl (by rfl) fun h₁₄ Y₁₆ => ?_
  replace Y₁₆ : St B₄ ((L, NsP (upd m₂ "heap" (Value.ref lh))) :: (la, LstP []) :: (lh, LstP [Value.ref T]) :: (L + 1, CellP (some (Value.ref la))) :: cs) h₁₄ := Y₁₆
  try dsimp only
  walk_at "go"
  refine listSt ?_
  walk_at "go"
  refine ⟨by simp, B₄, _, Y₁₆, fun lt h₁₅ Y₁₇ => ?_⟩
  replace Y₁₇ := Y₁₇.swap
  walk_at "go"
  rename_i h₁₆ Y₁₈
  have Y₁₉ : St B₄ ((L, NsP (upd (upd m₂ "heap" (Value.ref lh)) "told" (Value.ref lt))) :: (lh, LstP [Value.ref T]) :: (L + 1, CellP (some (Value.ref la))) :: (la, LstP []) :: (lt, LstP []) :: cs) h₁₆ :=
    Y₁₈.perm (.cons _ ((List.perm_middle (l₁ := [_, _, _]) (l₂ := cs)).symm.trans ((List.perm_middle (l₁ := [_, _]) (l₂ := _ :: cs)).symm)))
  have N : LawN (upd (upd m₂ "heap" (Value.ref lh)) "told" (Value.ref lt)) a0 a1 a2 lh lt x ys.length zs.length :=
    ⟨by walk_at "lk", by walk_at "lk", by walk_at "lk", by walk_at "lk", by walk_at "lk", by walk_at "lk", (d5.upd (by decide)).upd (by decide), (d6.upd (by decide)).upd (by decide)⟩
  have K4 := K3.le le₄
  have R9 : Rm A' 20 900 := ⟨R'.handled, R'.depth, by have := R'.units; lia⟩
  refine law_loop (s := s) R9 V K4 (ps := [(Value.ref T, kk xs.length 0)]) (va := []) (vt := []) (asked := []) (told := []) (c := 0) ⟨Y₁₉, N, trivial, trivial, fun p hp => ?_, ?_, Loop.start (by lia), by lia⟩ (S.le le₄) fun B₅ m₅ hv₅ va₅ vt₅ as₅ h₁₇ tk₁₇ le₅ Z₅ => ?_
  · rw [List.mem_singleton] at hp; subst hp; exact hT
  · intro i hi a c _ hb
    have := List.getElem?_eq_some_iff.mp hb
    obtain ⟨hb, _⟩ := this
    simp at hb
    lia
  refine wpAny_mono (law_tail (s := s) R9 V (K4.le le₅) ((S.le le₄).le le₅) Z₅ (Q := fun f s' => Q (match f with | .ret v => v | _ => .none) s') fun B₆ h₁₈ tk₁₈ le₆ Z₆ => ?_) (fun _ _ z => z) fun _ _ z => z
  exact hQ B₆ h₁₈ tk₁₈ (((((le₁.trans le₂).trans le₃).trans le₄).trans le₅).trans le₆) Z₆
end
end
end Mine
end
section
open PySem PySem.W PyProof.Rows
set_option Elab.async false
set_option maxRecDepth 100000
namespace Mine
theorem gfn {R : WRecords} {XP : (Str → Option Value) → Heap → Prop} {w : World} {s₀ : Shared} {mg mb : Str → Option Value} {h : Heap} (G : Ground qv lo R XP w s₀ mg mb h) {name : Str} {d : DefRec} (e : defOf qv name = some (d, [])) (hn : d.name = name) (hdf : d.params.defaults = []) : GFn h mg name d.params d.body d.scope := by
  obtain ⟨a, o, pm, cd, doc, dV, kV, h1, h2, h3, h4, h5⟩ := G.fn e
  rcases h5.pos with ⟨_, e1⟩ | ⟨e1, _⟩
  · rcases h5.kw with ⟨_, e2⟩ | ⟨e2, _⟩
    · subst e1 e2
      rw [hn] at h3 h4
      exact ⟨a, o, pm, cd, doc, h1, h2, h3, h4⟩
    · exact absurd rfl e2
  · exact absurd hdf e1
def fnRec (n : Str) (s : Stmt) : DefRec := ⟨n, fnParams s, fnBody s, fnScope s, match s with | .FunctionDef _ _ _ _ _ _ _ _ _ p => p | _ => default⟩
theorem def7 : defOf qv "heappush" = some (fnRec "heappush" (stAt pw 7), []) := by kernel_rfl
theorem def8 : defOf qv "heappop" = some (fnRec "heappop" (stAt pw 8), []) := by kernel_rfl
theorem def9 : defOf qv "_siftdown" = some (fnRec "_siftdown" (stAt pw 9), []) := by kernel_rfl
theorem def10 : defOf qv "_siftup" = some (fnRec "_siftup" (stAt pw 10), []) := by kernel_rfl
theorem def12 : defOf qv "_law_rows" = some (fnRec "_law_rows" (stAt pw 12), []) := by kernel_rfl
theorem def13 : defOf qv "_law_longest" = some (fnRec "_law_longest" (stAt pw 13), []) := by kernel_rfl
theorem lawD_is : lawD = fnRec "law" (stAt pw 14) := by kernel_rfl
theorem names_of {x : Str} {R : WRecords} {XP : (Str → Option Value) → Heap → Prop} {w : World} {s₀ : Shared} {mg mb : Str → Option Value} {h : Heap} (G : Ground qv lo R XP w s₀ mg mb h)
    (hx : (decide (x ∉ startupNames) && decide (x ∉ looseW qv lo) && decide (x ∉ (recsOf qv).map (·.name)) && decide (x ∉ (litsOf qv).map (·.1)) && decide (x ∉ (clssOf qv (looseW qv lo)).map (·.name))) = true) : mg x = none := by
  simp only [Bool.and_eq_true, decide_eq_true_eq] at hx
  exact G.T.free x hx.1.1.1.1 hx.1.1.1.2 hx.1.1.2 hx.1.2 hx.2
theorem hv_of {R : WRecords} {w : World} {s₀ : Shared} {mg mb : Str → Option Value} {h : Heap} (G : Ground qv lo R NamesK w s₀ mg mb h) (Y : GotK w h) : ∃ d, Hv h mg w.params d := by
  obtain ⟨d, K⟩ := kd_in Y
  have hl : mg "len" = none := names_of G (by kernel_rfl)
  refine ⟨d, ⟨G.T.g, ⟨mb, G.T.b, G.T.builtins⟩, G.T.nolimit⟩, ⟨hl, names_of G (by kernel_rfl), names_of G (by kernel_rfl), names_of G (by kernel_rfl), names_of G (by kernel_rfl), names_of G (by kernel_rfl), names_of G (by kernel_rfl)⟩,
    ⟨gfn G def7 rfl (by kernel_rfl), gfn G def8 rfl (by kernel_rfl), gfn G def9 rfl (by kernel_rfl), gfn G def10 rfl (by kernel_rfl), hl⟩, K, st_in Y, G.X.2, G.X.1, gfn G def12 rfl (by kernel_rfl), gfn G def13 rfl (by kernel_rfl)⟩
set_option maxHeartbeats 8000000 in
theorem walk1 : WalkO qv lo NamesK GotK PySem.Challenge.rw_nq0312_01.row.toRowW lawD [] fun f vs => PySem.call f vs := by
  intro w s₀ s₁ mg mb G Y fa o pm cd doc dV kV ho hd hcd hD hmg hg args vals as hpre hlay hrd hwl hlo
  obtain ⟨d, V⟩ := hv_of G Y
  rw [lawD_is] at hd hcd hD
  have T := G.T
  wrow_args hpre hlay hrd hwl hlo
  rename_i ns _ _ _ _ _ _ _ sc vs _ hL _ _ _ hI _ hlen _
  rcases hD.pos with ⟨_, e1⟩ | ⟨e1, _⟩
  case inr => exact absurd (by kernel_rfl) e1
  rcases hD.kw with ⟨_, e2⟩ | ⟨e2, _⟩
  case inr => exact absurd rfl e2
  subst e1 e2
  have X : St (fun a => s₁.heap.get? a) [] s₁.heap := ⟨fun _ _ e => e, fun p hp => (nomatch hp), fun p hp => (nomatch hp), List.nodup_nil⟩
  refine law_spec (B := fun a => s₁.heap.get? a) (cs := []) (ss := ns) ⟨rfl, by decide, by decide⟩ V (fun _ _ e => e) ho hd hcd X hL (.of hI) (by lia) fun B' h' tk le Z => ?_
  exact ⟨.inl ⟨_, _, _, rfl, fun _ => rfl, .bool true, by kernel_rfl, fun _ => ⟨List.nodup_nil, fun a ha => (nomatch ha)⟩⟩, .of_keep fun b o e => Z.sub _ _ (le _ _ e), rfl, .of_eq hg⟩
end Mine
theorem PySem.Challenge.cw_nq0312_01_holds : PySem.Challenge.rw_nq0312_01.Holds :=
  Mine.head1 Mine.walk1

end
