import PyProof.Rows.All
import Wide.All
import OpenK.AllK
import Wide.FinOn
import PySem.Challenge.RW_ik0083_01
set_option Elab.async false
set_option linter.unusedVariables false
set_option linter.all false
section
namespace Mine
/-- the goal under one name: what is taken apart ahead of it then carries the name alone -/
theorem fold_G {P : Prop} (H : let G := P; G) : P := H
end Mine
end
section
open PySem PySem.W PyProof.Rows
set_option maxRecDepth 100000
namespace Mine
/-- a step that one may put in another form -/
noncomputable abbrev StepF := SharedT → Thread → Option (SharedT × Thread)
noncomputable def impEndT (stp : StepF) : Nat → SharedT → Thread → Option SharedT
  | 0, _, _ => none
  | n + 1, s, t => match t.atExitBegin with
    | some [] => some s
    | some (_ :: _) => none
    | none => match stp s t with
      | some (s', t') => impEndT stp n s' t'
      | none => none
noncomputable def topRunT (stp : StepF) (ok : Thread → Bool) : Nat → SharedT → Thread → Option SharedT
  | 0, _, _ => none
  | n + 1, s, t => match through t with
    | true => some s
    | false => match ok t with
      | false => none
      | true => match stp s t with
        | some (s', t') => topRunT stp ok n s' t'
        | none => none
theorem impEnd_of {tb : String → Option Builtin} {p : Program} {w : World} : ∀ {n : Nat} {s s' : SharedT} {t : Thread}, impEndT (stepT (denote tb) p w) n s t = some s' → importEnds tb p w n s.abs t = some s'.abs
  | 0, _, _, _, h => by cases h
  | n + 1, s, s', t, h => by
    unfold impEndT at h
    unfold importEnds
    cases he : t.atExitBegin with
    | some x =>
      rw [he] at h
      cases x with
      | nil => cases h; rfl
      | cons _ _ => cases h
    | none =>
      rw [he] at h
      cases hs : stepT (denote tb) p w s t with
      | none => rw [hs] at h; cases h
      | some r => obtain ⟨s₂, t₂⟩ := r; rw [hs] at h; dsimp only; rw [stepT_spec hs]; exact impEnd_of h
theorem topRun_of {tb : String → Option Builtin} {p : Program} {w : World} {n₀ : Nat} {ann : Option Value} : ∀ {n : Nat} {s s' : SharedT} {t : Thread}, topRunT (stepT (denote tb) p w) (stepOk n₀ ann) n s t = some s' → topRun tb p w n₀ ann n s.abs t = some s'.abs
  | 0, _, _, _, h => by cases h
  | n + 1, s, s', t, h => by
    unfold topRunT at h
    unfold topRun
    cases he : through t with
    | true => rw [he] at h; cases h; rfl
    | false =>
      rw [he] at h
      (try dsimp only at h)
      (try dsimp only)
      cases ho : stepOk n₀ ann t with
      | false => rw [ho] at h; cases h
      | true =>
        rw [ho] at h
        (try dsimp only at h)
        (try dsimp only)
        cases hs : stepT (denote tb) p w s t with
        | none => rw [hs] at h; cases h
        | some r =>
          obtain ⟨s₂, t₂⟩ := r
          rw [hs] at h
          rw [stepT_spec hs]
          exact topRun_of h
/-- a list of objects as a tree -/
noncomputable def mkT (os : List Obj) : Nat → Nat → Nat → BT
  | 0, _, _ => .nil
  | f + 1, a, b => match os[b]? with
    | some o => .node o (mkT os f (2 * a) (a + b)) (mkT os f (2 * a) (2 * a + b))
    | none => .nil
theorem mkT_get (os : List Obj) : ∀ (f a b i : Nat), i + 1 < 2 ^ f → a * i + b < os.length → b < os.length → (mkT os f a b).get i = os[a * i + b]?
  | 0, a, b, i, h, _, _ => by simp at h
  | f + 1, a, b, i, h, hl, hb => by
    unfold mkT
    rw [List.getElem?_eq_getElem hb]
    dsimp only
    rw [BT.get_node]
    by_cases h0 : i = 0
    · subst h0
      rw [if_pos rfl, Nat.mul_zero, Nat.zero_add, List.getElem?_eq_getElem hb]
    · rw [if_neg h0]
      rw [Nat.pow_succ] at h
      have hm : a * i = a * i := rfl
      by_cases h1 : i % 2 = 1
      · rw [if_pos h1]
        obtain ⟨j, rfl⟩ : ∃ j, i = 2 * j + 1 := ⟨i / 2, by (first | lia | omega)⟩
        have e : 2 * a * j + (a + b) = a * (2 * j + 1) + b := by rw [Nat.mul_add, Nat.mul_one, Nat.mul_comm 2 a, Nat.mul_assoc]; (first | lia | omega)
        have e2 : (2 * j + 1) / 2 = j := by (first | lia | omega)
        rw [e2, mkT_get os f (2 * a) (a + b) j (by (first | lia | omega)) (by rw [e]; exact hl) (by have : a ≤ a * (2 * j + 1) := Nat.le_mul_of_pos_right _ (by (first | lia | omega)); (first | lia | omega)), e]
      · rw [if_neg h1]
        obtain ⟨j, rfl⟩ : ∃ j, i = 2 * j + 2 := ⟨i / 2 - 1, by (first | lia | omega)⟩
        have e : 2 * a * j + (2 * a + b) = a * (2 * j + 2) + b := by rw [Nat.mul_add, Nat.mul_comm 2 a, Nat.mul_assoc]; (first | lia | omega)
        have e2 : (2 * j + 2) / 2 - 1 = j := by (first | lia | omega)
        have g : 2 * a ≤ a * (2 * j + 2) := by
          rw [Nat.mul_comm 2 a]
          exact Nat.mul_le_mul_left _ (by (first | lia | omega))
        rw [e2, mkT_get os f (2 * a) (2 * a + b) j (by (first | lia | omega)) (by rw [e]; exact hl) (by (first | lia | omega)), e]
/-- a state with its heap as a tree -/
noncomputable def toT (s : Shared) : SharedT := ⟨mkT s.heap.objs.toList 12 1 0, s.heap.objs.size, s.heap.life, s.gens, s.drawn, s.toks, s.os⟩
theorem toT_abs {s : Shared} (h : s.heap.objs.size ≤ 4000) : (toT s).abs = s := by
  obtain ⟨⟨⟨l⟩, life⟩, gens, drawn, toks, os⟩ := s
  have hl : l.length ≤ 4000 := h
  have e : absHeap (mkT l 12 1 0) l.length life = ⟨l.toArray, life⟩ := by
    unfold absHeap
    congr 1
    congr 1
    refine List.ext_getElem? fun i => ?_
    unfold BT.list
    by_cases hi : i < l.length
    · have h12 : (2 : Nat) ^ 12 = 4096 := by decide
      rw [List.getElem?_map, List.getElem?_range hi, Option.map_some, mkT_get l 12 1 0 i (by (first | lia | omega)) (by (first | lia | omega)) (by (first | lia | omega)), Nat.one_mul, Nat.add_zero, List.getElem?_eq_getElem hi]
      rfl
    · rw [List.getElem?_eq_none (by rw [List.length_map, List.length_range]; (first | lia | omega)), List.getElem?_eq_none (by (first | lia | omega))]
  show Shared.mk (absHeap (mkT l 12 1 0) l.length life) gens drawn toks os = _
  rw [e]
/-- the start as a tree -/
noncomputable def startT (p : Program) : SharedT := ⟨.nil, 0, (start p).1.heap.life, (start p).1.gens, (start p).1.drawn, (start p).1.toks, (start p).1.os⟩
theorem startT_abs (p : Program) : (startT p).abs = (start p).1 := rfl
end Mine
end
section
open PySem PySem.W PyProof.Rows
set_option maxRecDepth 100000
namespace Mine
noncomputable abbrev PW : PySem.Program := PySem.Challenge.pw_ik0083_01
/-- the body of a def, the members of a class -/
noncomputable def defAt (l : List Stmt) (i : Nat) : List Stmt := match l[i]? with
  | some (.FunctionDef (body := b) ..) => b
  | _ => []
noncomputable def memAt (l : List Stmt) (i : Nat) : List Stmt := match l[i]? with
  | some (.ClassDef (body := b) ..) => b
  | _ => []
@[reducible] noncomputable def PB46 : { b : List Stmt // (defAt PW.main.body 3) = b } := ⟨_ :: _, rfl⟩
@[reducible] noncomputable def PB53 : { b : List Stmt // (defAt PW.main.body 4) = b } := ⟨_ :: _, rfl⟩
@[reducible] noncomputable def PB80 : { b : List Stmt // (defAt (memAt PW.main.body 6) 1) = b } := ⟨_ :: _, rfl⟩
@[reducible] noncomputable def PB357 : { b : List Stmt // (defAt (memAt PW.main.body 10) 1) = b } := ⟨_ :: _, rfl⟩
@[reducible] noncomputable def PB364 : { b : List Stmt // (defAt (memAt PW.main.body 10) 2) = b } := ⟨_ :: _, rfl⟩
@[reducible] noncomputable def PB371 : { b : List Stmt // (defAt (memAt PW.main.body 10) 3) = b } := ⟨_ :: _, rfl⟩
@[reducible] noncomputable def PB533 : { b : List Stmt // (defAt (memAt PW.main.body 10) 25) = b } := ⟨_ :: _, rfl⟩
@[reducible] noncomputable def PB646 : { b : List Stmt // (defAt (memAt PW.main.body 21) 0) = b } := ⟨_ :: _, rfl⟩
@[reducible] noncomputable def PB653 : { b : List Stmt // (defAt (memAt PW.main.body 21) 1) = b } := ⟨_ :: _, rfl⟩
@[reducible] noncomputable def PB683 : { b : List Stmt // (defAt (memAt PW.main.body 21) 5) = b } := ⟨_ :: _, rfl⟩
@[reducible] noncomputable def PB690 : { b : List Stmt // (defAt (memAt PW.main.body 21) 6) = b } := ⟨_ :: _, rfl⟩
@[reducible] noncomputable def PB733 : { b : List Stmt // (defAt PW.main.body 23) = b } := ⟨_ :: _, rfl⟩
@[reducible] noncomputable def PB806 : { b : List Stmt // (defAt PW.main.body 32) = b } := ⟨_ :: _, rfl⟩
@[reducible] noncomputable def PB820 : { b : List Stmt // (defAt PW.main.body 37) = b } := ⟨_ :: _, rfl⟩
@[reducible] noncomputable def PB827 : { b : List Stmt // (defAt PW.main.body 38) = b } := ⟨_ :: _, rfl⟩
@[reducible] noncomputable def PB834 : { b : List Stmt // (defAt PW.main.body 40) = b } := ⟨_ :: _, rfl⟩
@[reducible] noncomputable def PB839 : { b : List Stmt // (defAt PW.main.body 41) = b } := ⟨_ :: _, rfl⟩
@[reducible] noncomputable def PB846 : { b : List Stmt // (defAt PW.main.body 43) = b } := ⟨_ :: _, rfl⟩
@[reducible] noncomputable def PB853 : { b : List Stmt // (defAt PW.main.body 44) = b } := ⟨_ :: _, rfl⟩
@[reducible] noncomputable def PB858 : { b : List Stmt // (defAt PW.main.body 45) = b } := ⟨_ :: _, rfl⟩
@[reducible] noncomputable def PB863 : { b : List Stmt // (defAt PW.main.body 46) = b } := ⟨_ :: _, rfl⟩

/-- the objects of the text that the walks look at -/
noncomputable def K (P : Params) : Frag := (
  (nat_lit 2, ({ cls := Value.none, data := Data.dict #[{ hash := PyData.keyHash P "\x69mport.loaded._collections", key := Value.str "\x69mport.loaded._collections" 185, val := Value.bool true }, { hash := PyData.keyHash P "class._frozen_importlib.BuiltinImporter", key := Value.str "class._frozen_importlib.BuiltinImporter" 187, val := Value.ref 15 }, { hash := PyData.keyHash P "watched.\x69mport", key := Value.str "watched.\x69mport" 208, val := Value.ref 19 }, { hash := PyData.keyHash P "class._frozen_importlib.ModuleSpec", key := Value.str "class._frozen_importlib.ModuleSpec" 218, val := Value.ref 23 }, { hash := PyData.keyHash P "sys.modules.booked-epoch", key := Value.str "sys.modules.booked-epoch" 247, val := Value.int 3 0 }, { hash := PyData.keyHash P "sys.modules.landed._collections", key := Value.str "sys.modules.landed._collections" 248, val := Value.bool true }, { hash := PyData.keyHash P "\x69mport.later-laid._collections", key := Value.str "\x69mport.later-laid._collections" 263, val := Value.bool true }, { hash := PyData.keyHash P "watched.library", key := Value.str "watched.library" 265, val := Value.ref 28 }, { hash := PyData.keyHash P "watched.library-objects", key := Value.str "watched.library-objects" 0, val := Value.str "\x0d" 0 }, { hash := PyData.keyHash P "watched.library-deep._collections", key := Value.str "watched.library-deep._collections" 266, val := Value.str "\x04\x00\x00\x0c\x04\x00\x00\x0c\x04\x00\x00\x03\x04\x00\x00\x0c\x08\x04dict\x02" 0 }, { hash := PyData.keyHash P "type.__subclasses__.OSError.0", key := Value.str "type.__subclasses__.OSError.0" 322, val := Value.int 63 0 }, { hash := PyData.keyHash P "type.__subclasses__.OSError.n", key := Value.str "type.__subclasses__.OSError.n" 323, val := Value.int 1 0 }] 12 } : Obj))
  :: (nat_lit 3, ({ cls := Value.type "dict", data := Data.dict #[{ hash := PyData.keyHash P "__name__", key := Value.str "__name__" 165, val := Value.str "law_ik0083_01" 1305 }, { hash := PyData.keyHash P "__doc__", key := Value.str "__doc__" 166, val := Value.none }, { hash := PyData.keyHash P "__package__", key := Value.str "__package__" 167, val := Value.none }, { hash := PyData.keyHash P "__loader__", key := Value.str "__loader__" 168, val := Value.builtin "__main__.__loader__#opaque" }, { hash := PyData.keyHash P "__spec__", key := Value.str "__spec__" 169, val := Value.none }, { hash := PyData.keyHash P "__annotations__", key := Value.str "__annotations__" 170, val := Value.ref 6 }, { hash := PyData.keyHash P "__builtins__", key := Value.str "__builtins__" 171, val := Value.ref 4 }, { hash := PyData.keyHash P "__file__", key := Value.str "__file__" 173, val := Value.str "/claim/cut.py" 172 }, { hash := PyData.keyHash P "__cached__", key := Value.str "__cached__" 174, val := Value.none }, { hash := PyData.keyHash P "deque", key := Value.str "deque" 272, val := Value.type "collections.deque" }, { hash := PyData.keyHash P "_wall", key := Value.str "_wall" 285, val := Value.ref 39 }, { hash := PyData.keyHash P "_whence", key := Value.str "_whence" 295, val := Value.ref 46 }, { hash := PyData.keyHash P "_index", key := Value.str "_index" 303, val := Value.ref 53 }, { hash := PyData.keyHash P "UnsupportedOperation", key := Value.str "UnsupportedOperation" 325, val := Value.ref 63 }, { hash := PyData.keyHash P "IOBase", key := Value.str "IOBase" 357, val := Value.ref 83 }, { hash := PyData.keyHash P "BufferedIOBase", key := Value.str "BufferedIOBase" 375, val := Value.ref 98 }, { hash := PyData.keyHash P "TextIOBase", key := Value.str "TextIOBase" 393, val := Value.ref 110 }, { hash := PyData.keyHash P "BytesIO", key := Value.str "BytesIO" 655, val := Value.ref 340 }, { hash := PyData.keyHash P "StringIO", key := Value.str "StringIO" 942, val := Value.ref 587 }, { hash := PyData.keyHash P "_kind", key := Value.str "_kind" 953, val := Value.ref 596 }, { hash := PyData.keyHash P "_fspath", key := Value.str "_fspath" 962, val := Value.ref 603 }, { hash := PyData.keyHash P "_check_arg_types", key := Value.str "_check_arg_types" 972, val := Value.ref 813 }, { hash := PyData.keyHash P "check_arg_types_path", key := Value.str "check_arg_types_path" 973, val := Value.ref 610 }, { hash := PyData.keyHash P "isabs", key := Value.str "isabs" 980, val := Value.ref 617 }, { hash := PyData.keyHash P "join", key := Value.str "join" 991, val := Value.ref 827 }, { hash := PyData.keyHash P "join_path", key := Value.str "join_path" 992, val := Value.ref 624 }, { hash := PyData.keyHash P "dirname", key := Value.str "dirname" 1002, val := Value.ref 631 }, { hash := PyData.keyHash P "shlex", key := Value.str "shlex" 1143, val := Value.ref 722 }, { hash := PyData.keyHash P "Int2AP", key := Value.str "Int2AP" 1155, val := Value.ref 733 }, { hash := PyData.keyHash P "_plain_name", key := Value.str "_plain_name" 1166, val := Value.ref 740 }, { hash := PyData.keyHash P "ABCMeta", key := Value.str "ABCMeta" 1192, val := Value.ref 757 }, { hash := PyData.keyHash P "_ABCLike", key := Value.str "_ABCLike" 1235, val := Value.ref 790 }, { hash := PyData.keyHash P "_abc_plain_meta", key := Value.str "_abc_plain_meta" 1242, val := Value.ref 799 }, { hash := PyData.keyHash P "fspath", key := Value.str "fspath" 1254, val := Value.ref 806 }, { hash := PyData.keyHash P "check_arg_types_genericpath", key := Value.str "check_arg_types_genericpath" 1268, val := Value.ref 813 }, { hash := PyData.keyHash P "_get_sep", key := Value.str "_get_sep" 1277, val := Value.ref 820 }, { hash := PyData.keyHash P "join_posixpath", key := Value.str "join_posixpath" 1289, val := Value.ref 827 }, { hash := PyData.keyHash P "basename", key := Value.str "basename" 1298, val := Value.ref 834 }, { hash := PyData.keyHash P "commonpath", key := Value.str "commonpath" 1304, val := Value.ref 839 }, { hash := PyData.keyHash P "_law_line", key := Value.str "_law_line" 1317, val := Value.ref 846 }, { hash := PyData.keyHash P "_law_read", key := Value.str "_law_read" 1329, val := Value.ref 853 }, { hash := PyData.keyHash P "_law_path", key := Value.str "_law_path" 1335, val := Value.ref 858 }, { hash := PyData.keyHash P "law", key := Value.str "law" 1341, val := Value.ref 863 }] 43 } : Obj))
  :: (nat_lit 45, ({ cls := Value.type "code", data := Data.fields #[Value.str "_whence" 288, Value.str "_whence" 289, Value.str "/claim/cut.py" 290, Value.int 6 0, Value.int 2 0, Value.int 0 0, Value.int 0 0, Value.int 3 0, Value.ref 40, Value.bool true, Value.int 273 0, Value.ref 41, Value.none, Value.ref 42, Value.ref 43, Value.ref 44, Value.int 293 0, Value.int 6 0, Value.str "/claim/cut.py" 294] } : Obj))
  :: (nat_lit 46, ({ cls := Value.type "function", data := Data.func { name := "_whence", qualname := "_whence", params := { posonlyargs := [], args := [{ arg := "n", annotation := none, pos := { line := 6, col := 12, endLine := 6, endCol := 13 } }, { arg := "what", annotation := none, pos := { line := 6, col := 15, endLine := 6, endCol := 19 } }], vararg := none, kwonlyargs := [], kw_defaults := [], kwarg := none, defaults := [] }, body := FuncBody.stmts PB46.1, scope := { kind := ScopeKind.function, names := [("n", NameKind.local), ("what", NameKind.local), ("_index", NameKind.globalImplicit), ("_wall", NameKind.globalImplicit)], isGenerator := false, isCoroutine := false }, globals := 3, closure := [], defaults := Value.none, kwdefaults := Value.none, pyModule := Value.str "io" 286, code := Value.ref 45 } } : Obj))
  :: (nat_lit 52, ({ cls := Value.type "code", data := Data.fields #[Value.str "_index" 296, Value.str "_index" 297, Value.str "/claim/cut.py" 298, Value.int 11 0, Value.int 2 0, Value.int 0 0, Value.int 0 0, Value.int 3 0, Value.ref 47, Value.bool true, Value.int 273 0, Value.ref 48, Value.none, Value.ref 49, Value.ref 50, Value.ref 51, Value.int 301 0, Value.int 11 0, Value.str "/claim/cut.py" 302] } : Obj))
  :: (nat_lit 53, ({ cls := Value.type "function", data := Data.func { name := "_index", qualname := "_index", params := { posonlyargs := [], args := [{ arg := "n", annotation := none, pos := { line := 11, col := 11, endLine := 11, endCol := 12 } }, { arg := "what", annotation := none, pos := { line := 11, col := 14, endLine := 11, endCol := 18 } }], vararg := none, kwonlyargs := [], kw_defaults := [], kwarg := none, defaults := [] }, body := FuncBody.stmts PB53.1, scope := { kind := ScopeKind.function, names := [("n", NameKind.local), ("what", NameKind.local), ("type", NameKind.globalImplicit), ("int", NameKind.globalImplicit), ("bool", NameKind.globalImplicit), ("_wall", NameKind.globalImplicit)], isGenerator := false, isCoroutine := false }, globals := 3, closure := [], defaults := Value.none, kwdefaults := Value.none, pyModule := Value.str "io" 286, code := Value.ref 52 } } : Obj))
  :: (nat_lit 62, ({ cls := Value.type "dict", data := Data.dict #[{ hash := PyData.keyHash P "__module__", key := Value.str "__module__" 311, val := Value.str "io" 316 }, { hash := PyData.keyHash P "__firstlineno__", key := Value.str "__firstlineno__" 315, val := Value.int 18 314 }, { hash := PyData.keyHash P "__static_attributes__", key := Value.str "__static_attributes__" 318, val := Value.ref 61 }, { hash := PyData.keyHash P "__weakref__", key := Value.str "__weakref__" 320, val := Value.ref 64 }, { hash := PyData.keyHash P "__doc__", key := Value.str "__doc__" 321, val := Value.none }] 3 } : Obj))
  :: (nat_lit 63, ({ cls := Value.type "type", data := Data.cls { name := "UnsupportedOperation", bases := [Value.type "OSError", Value.type "ValueError"], mro := [Value.ref 63, Value.type "OSError", Value.type "ValueError", Value.type "Exception", Value.type "BaseException", Value.type "object"], ns := 62, qualname := "UnsupportedOperation" }, slots := #[some (Value.ref 54), none, some (Value.str "UnsupportedOperation" 304), some (Value.str "UnsupportedOperation" 312), some (Value.builtin "OSError.__new__"), some (Value.bool true)] } : Obj))
  :: (nat_lit 64, ({ cls := Value.type "getset_descriptor", data := Data.fields #[Value.str "__weakref__" 319, Value.ref 63, Value.builtin "ExceptionGroup.__weakref__", Value.none] } : Obj))
  :: (nat_lit 79, ({ cls := Value.type "code", data := Data.fields #[Value.str "__new__" 340, Value.str "IOBase.__new__" 341, Value.str "/claim/cut.py" 342, Value.int 23 0, Value.int 1 0, Value.int 1 0, Value.int 0 0, Value.int 15 0, Value.ref 74, Value.bool true, Value.int 273 0, Value.ref 75, Value.none, Value.ref 76, Value.ref 77, Value.ref 78, Value.int 346 0, Value.int 23 0, Value.str "/claim/cut.py" 347] } : Obj))
  :: (nat_lit 80, ({ cls := Value.type "function", data := Data.func { name := "__new__", qualname := "IOBase.__new__", params := { posonlyargs := [{ arg := "cls", annotation := none, pos := { line := 23, col := 16, endLine := 23, endCol := 19 } }], args := [], vararg := some { arg := "args", annotation := none, pos := { line := 23, col := 25, endLine := 23, endCol := 29 } }, kwonlyargs := [], kw_defaults := [], kwarg := some { arg := "kwargs", annotation := none, pos := { line := 23, col := 33, endLine := 23, endCol := 39 } }, defaults := [] }, body := FuncBody.stmts PB80.1, scope := { kind := ScopeKind.function, names := [("cls", NameKind.local), ("args", NameKind.local), ("kwargs", NameKind.local), ("BytesIO", NameKind.globalImplicit), ("StringIO", NameKind.globalImplicit), ("_wall", NameKind.globalImplicit), ("object", NameKind.globalImplicit)], isGenerator := false, isCoroutine := false }, globals := 3, closure := [], defaults := Value.none, kwdefaults := Value.none, pyModule := Value.str "io" 286, code := Value.ref 79 } } : Obj))
  :: (nat_lit 82, ({ cls := Value.type "dict", data := Data.dict #[{ hash := PyData.keyHash P "__module__", key := Value.str "__module__" 333, val := Value.str "io" 338 }, { hash := PyData.keyHash P "__firstlineno__", key := Value.str "__firstlineno__" 337, val := Value.int 20 336 }, { hash := PyData.keyHash P "__new__", key := Value.str "__new__" 348, val := Value.ref 84 }, { hash := PyData.keyHash P "__static_attributes__", key := Value.str "__static_attributes__" 349, val := Value.ref 81 }, { hash := PyData.keyHash P "__dict__", key := Value.str "__dict__" 352, val := Value.ref 85 }, { hash := PyData.keyHash P "__weakref__", key := Value.str "__weakref__" 354, val := Value.ref 86 }, { hash := PyData.keyHash P "__doc__", key := Value.str "__doc__" 355, val := Value.none }] 4 } : Obj))
  :: (nat_lit 83, ({ cls := Value.type "type", data := Data.cls { name := "IOBase", bases := [Value.type "object"], mro := [Value.ref 83, Value.type "object"], ns := 82, qualname := "IOBase", subclasses := [Value.ref 98, Value.ref 110] }, slots := #[none, none, some (Value.str "IOBase" 326), some (Value.str "IOBase" 334), some Value.none, some (Value.bool true)] } : Obj))
  :: (nat_lit 84, ({ cls := Value.type "staticmethod", data := Data.fields #[Value.ref 80] } : Obj))
  :: (nat_lit 85, ({ cls := Value.type "getset_descriptor", data := Data.fields #[Value.str "__dict__" 351, Value.ref 83, Value.builtin "function.__dict__", Value.builtin "function.__dict__#set"] } : Obj))
  :: (nat_lit 86, ({ cls := Value.type "getset_descriptor", data := Data.fields #[Value.str "__weakref__" 353, Value.ref 83, Value.builtin "ExceptionGroup.__weakref__", Value.none] } : Obj))
  :: (nat_lit 97, ({ cls := Value.type "dict", data := Data.dict #[{ hash := PyData.keyHash P "__module__", key := Value.str "__module__" 365, val := Value.str "io" 370 }, { hash := PyData.keyHash P "__firstlineno__", key := Value.str "__firstlineno__" 369, val := Value.int 27 368 }, { hash := PyData.keyHash P "__static_attributes__", key := Value.str "__static_attributes__" 372, val := Value.ref 96 }, { hash := PyData.keyHash P "__doc__", key := Value.str "__doc__" 373, val := Value.none }] 2 } : Obj))
  :: (nat_lit 98, ({ cls := Value.type "type", data := Data.cls { name := "BufferedIOBase", bases := [Value.ref 83], mro := [Value.ref 98, Value.ref 83, Value.type "object"], ns := 97, qualname := "BufferedIOBase", subclasses := [Value.ref 340] }, slots := #[some (Value.ref 89), none, some (Value.str "BufferedIOBase" 358), some (Value.str "BufferedIOBase" 366), some Value.none, some (Value.bool true)] } : Obj))
  :: (nat_lit 109, ({ cls := Value.type "dict", data := Data.dict #[{ hash := PyData.keyHash P "__module__", key := Value.str "__module__" 383, val := Value.str "io" 388 }, { hash := PyData.keyHash P "__firstlineno__", key := Value.str "__firstlineno__" 387, val := Value.int 29 386 }, { hash := PyData.keyHash P "__static_attributes__", key := Value.str "__static_attributes__" 390, val := Value.ref 108 }, { hash := PyData.keyHash P "__doc__", key := Value.str "__doc__" 391, val := Value.none }] 2 } : Obj))
  :: (nat_lit 110, ({ cls := Value.type "type", data := Data.cls { name := "TextIOBase", bases := [Value.ref 83], mro := [Value.ref 110, Value.ref 83, Value.type "object"], ns := 109, qualname := "TextIOBase", subclasses := [Value.ref 587] }, slots := #[some (Value.ref 101), none, some (Value.str "TextIOBase" 376), some (Value.str "TextIOBase" 384), some Value.none, some (Value.bool true)] } : Obj))
  :: (nat_lit 149, ({ cls := Value.type "property", data := Data.fields #[Value.ref 148, Value.none, Value.none, Value.none, Value.str "closed" 441, Value.bool false] } : Obj))
  :: (nat_lit 339, ({ cls := Value.type "dict", data := Data.dict #[{ hash := PyData.keyHash P "__module__", key := Value.str "__module__" 401, val := Value.str "_io" 406 }, { hash := PyData.keyHash P "__firstlineno__", key := Value.str "__firstlineno__" 405, val := Value.int 31 404 }, { hash := PyData.keyHash P "__init__", key := Value.str "__init__" 415, val := Value.ref 127 }, { hash := PyData.keyHash P "_BytesIO__check", key := Value.str "_BytesIO__check" 422, val := Value.ref 134 }, { hash := PyData.keyHash P "_BytesIO__line", key := Value.str "_BytesIO__line" 433, val := Value.ref 141 }, { hash := PyData.keyHash P "closed", key := Value.str "closed" 441, val := Value.ref 149 }, { hash := PyData.keyHash P "close", key := Value.str "close" 448, val := Value.ref 156 }, { hash := PyData.keyHash P "__enter__", key := Value.str "__enter__" 455, val := Value.ref 163 }, { hash := PyData.keyHash P "__exit__", key := Value.str "__exit__" 463, val := Value.ref 170 }, { hash := PyData.keyHash P "readable", key := Value.str "readable" 470, val := Value.ref 177 }, { hash := PyData.keyHash P "writable", key := Value.str "writable" 477, val := Value.ref 184 }, { hash := PyData.keyHash P "seekable", key := Value.str "seekable" 484, val := Value.ref 191 }, { hash := PyData.keyHash P "isatty", key := Value.str "isatty" 491, val := Value.ref 198 }, { hash := PyData.keyHash P "flush", key := Value.str "flush" 498, val := Value.ref 205 }, { hash := PyData.keyHash P "fileno", key := Value.str "fileno" 505, val := Value.ref 212 }, { hash := PyData.keyHash P "detach", key := Value.str "detach" 512, val := Value.ref 219 }, { hash := PyData.keyHash P "getvalue", key := Value.str "getvalue" 519, val := Value.ref 226 }, { hash := PyData.keyHash P "getbuffer", key := Value.str "getbuffer" 526, val := Value.ref 233 }, { hash := PyData.keyHash P "tell", key := Value.str "tell" 533, val := Value.ref 240 }, { hash := PyData.keyHash P "seek", key := Value.str "seek" 543, val := Value.ref 248 }, { hash := PyData.keyHash P "truncate", key := Value.str "truncate" 551, val := Value.ref 256 }, { hash := PyData.keyHash P "read", key := Value.str "read" 563, val := Value.ref 264 }, { hash := PyData.keyHash P "read1", key := Value.str "read1" 573, val := Value.ref 272 }, { hash := PyData.keyHash P "readinto", key := Value.str "readinto" 583, val := Value.ref 279 }, { hash := PyData.keyHash P "readinto1", key := Value.str "readinto1" 591, val := Value.ref 286 }, { hash := PyData.keyHash P "readline", key := Value.str "readline" 601, val := Value.ref 294 }, { hash := PyData.keyHash P "readlines", key := Value.str "readlines" 609, val := Value.ref 302 }, { hash := PyData.keyHash P "__iter__", key := Value.str "__iter__" 616, val := Value.ref 309 }, { hash := PyData.keyHash P "__next__", key := Value.str "__next__" 624, val := Value.ref 316 }, { hash := PyData.keyHash P "write", key := Value.str "write" 634, val := Value.ref 323 }, { hash := PyData.keyHash P "writelines", key := Value.str "writelines" 642, val := Value.ref 330 }, { hash := PyData.keyHash P "__repr__", key := Value.str "__repr__" 649, val := Value.ref 337 }, { hash := PyData.keyHash P "__static_attributes__", key := Value.str "__static_attributes__" 652, val := Value.ref 338 }, { hash := PyData.keyHash P "__doc__", key := Value.str "__doc__" 653, val := Value.none }] 2 } : Obj))
  :: (nat_lit 340, ({ cls := Value.type "type", data := Data.cls { name := "BytesIO", bases := [Value.ref 98], mro := [Value.ref 340, Value.ref 98, Value.ref 83, Value.type "object"], ns := 339, qualname := "BytesIO" }, slots := #[some (Value.ref 113), none, some (Value.str "BytesIO" 394), some (Value.str "BytesIO" 402), some Value.none, some (Value.bool true)] } : Obj))
  :: (nat_lit 350, ({ cls := Value.type "tuple", data := Data.seq #[Value.str "" 670, Value.str "\n" 671] } : Obj))
  :: (nat_lit 356, ({ cls := Value.type "code", data := Data.fields #[Value.str "__init__" 672, Value.str "StringIO.__init__" 673, Value.str "/claim/cut.py" 674, Value.int 204 0, Value.int 3 0, Value.int 0 0, Value.int 0 0, Value.int 3 0, Value.ref 351, Value.bool true, Value.int 273 0, Value.ref 352, Value.none, Value.ref 353, Value.ref 354, Value.ref 355, Value.int 678 0, Value.int 204 0, Value.str "/claim/cut.py" 679] } : Obj))
  :: (nat_lit 357, ({ cls := Value.type "function", data := Data.func { name := "__init__", qualname := "StringIO.__init__", params := { posonlyargs := [], args := [{ arg := "self", annotation := none, pos := { line := 204, col := 17, endLine := 204, endCol := 21 } }, { arg := "initial_value", annotation := none, pos := { line := 204, col := 23, endLine := 204, endCol := 36 } }, { arg := "newline", annotation := none, pos := { line := 204, col := 41, endLine := 204, endCol := 48 } }], vararg := none, kwonlyargs := [], kw_defaults := [], kwarg := none, defaults := [Expr.Constant (Const.str "") 0 { line := 204, col := 37, endLine := 204, endCol := 39 }, Expr.Constant (Const.str "\n") 0 { line := 204, col := 49, endLine := 204, endCol := 53 }] }, body := FuncBody.stmts PB357.1, scope := { kind := ScopeKind.function, names := [("self", NameKind.local), ("initial_value", NameKind.local), ("newline", NameKind.local), ("type", NameKind.globalImplicit), ("str", NameKind.globalImplicit), ("_wall", NameKind.globalImplicit), ("ValueError", NameKind.globalImplicit)], isGenerator := false, isCoroutine := false }, globals := 3, closure := [], defaults := Value.ref 350, kwdefaults := Value.none, pyModule := Value.str "io" 286, code := Value.ref 356 } } : Obj))
  :: (nat_lit 363, ({ cls := Value.type "code", data := Data.fields #[Value.str "__translated" 681, Value.str "StringIO.__translated" 682, Value.str "/claim/cut.py" 683, Value.int 217 0, Value.int 2 0, Value.int 0 0, Value.int 0 0, Value.int 3 0, Value.ref 358, Value.bool true, Value.int 273 0, Value.ref 359, Value.none, Value.ref 360, Value.ref 361, Value.ref 362, Value.int 687 0, Value.int 217 0, Value.str "/claim/cut.py" 688] } : Obj))
  :: (nat_lit 364, ({ cls := Value.type "function", data := Data.func { name := "__translated", qualname := "StringIO.__translated", params := { posonlyargs := [], args := [{ arg := "self", annotation := none, pos := { line := 217, col := 21, endLine := 217, endCol := 25 } }, { arg := "s", annotation := none, pos := { line := 217, col := 27, endLine := 217, endCol := 28 } }], vararg := none, kwonlyargs := [], kw_defaults := [], kwarg := none, defaults := [] }, body := FuncBody.stmts PB364.1, scope := { kind := ScopeKind.function, names := [("self", NameKind.local), ("s", NameKind.local), ("newline", NameKind.local)], isGenerator := false, isCoroutine := false }, globals := 3, closure := [], defaults := Value.none, kwdefaults := Value.none, pyModule := Value.str "io" 286, code := Value.ref 363 } } : Obj))
  :: (nat_lit 370, ({ cls := Value.type "code", data := Data.fields #[Value.str "__check" 690, Value.str "StringIO.__check" 691, Value.str "/claim/cut.py" 692, Value.int 225 0, Value.int 1 0, Value.int 0 0, Value.int 0 0, Value.int 3 0, Value.ref 365, Value.bool true, Value.int 273 0, Value.ref 366, Value.none, Value.ref 367, Value.ref 368, Value.ref 369, Value.int 694 0, Value.int 225 0, Value.str "/claim/cut.py" 695] } : Obj))
  :: (nat_lit 371, ({ cls := Value.type "function", data := Data.func { name := "__check", qualname := "StringIO.__check", params := { posonlyargs := [], args := [{ arg := "self", annotation := none, pos := { line := 225, col := 16, endLine := 225, endCol := 20 } }], vararg := none, kwonlyargs := [], kw_defaults := [], kwarg := none, defaults := [] }, body := FuncBody.stmts PB371.1, scope := { kind := ScopeKind.function, names := [("self", NameKind.local), ("ValueError", NameKind.globalImplicit)], isGenerator := false, isCoroutine := false }, globals := 3, closure := [], defaults := Value.none, kwdefaults := Value.none, pyModule := Value.str "io" 286, code := Value.ref 370 } } : Obj))
  :: (nat_lit 393, ({ cls := Value.type "property", data := Data.fields #[Value.ref 392, Value.none, Value.none, Value.none, Value.str "closed" 726, Value.bool false] } : Obj))
  :: (nat_lit 401, ({ cls := Value.type "property", data := Data.fields #[Value.ref 400, Value.none, Value.none, Value.none, Value.str "line_buffering" 734, Value.bool false] } : Obj))
  :: (nat_lit 409, ({ cls := Value.type "property", data := Data.fields #[Value.ref 408, Value.none, Value.none, Value.none, Value.str "newlines" 742, Value.bool false] } : Obj))
  :: (nat_lit 417, ({ cls := Value.type "property", data := Data.fields #[Value.ref 416, Value.none, Value.none, Value.none, Value.str "encoding" 750, Value.bool false] } : Obj))
  :: (nat_lit 425, ({ cls := Value.type "property", data := Data.fields #[Value.ref 424, Value.none, Value.none, Value.none, Value.str "errors" 758, Value.bool false] } : Obj))
  :: (nat_lit 526, ({ cls := Value.type "tuple", data := Data.seq #[Value.int (-1) 863] } : Obj))
  :: (nat_lit 532, ({ cls := Value.type "code", data := Data.fields #[Value.str "read" 864, Value.str "StringIO.read" 865, Value.str "/claim/cut.py" 866, Value.int 347 0, Value.int 2 0, Value.int 2 0, Value.int 0 0, Value.int 3 0, Value.ref 527, Value.bool true, Value.int 273 0, Value.ref 528, Value.none, Value.ref 529, Value.ref 530, Value.ref 531, Value.int 871 0, Value.int 347 0, Value.str "/claim/cut.py" 872] } : Obj))
  :: (nat_lit 533, ({ cls := Value.type "function", data := Data.func { name := "read", qualname := "StringIO.read", params := { posonlyargs := [{ arg := "self", annotation := none, pos := { line := 347, col := 13, endLine := 347, endCol := 17 } }, { arg := "size", annotation := none, pos := { line := 347, col := 19, endLine := 347, endCol := 23 } }], args := [], vararg := none, kwonlyargs := [], kw_defaults := [], kwarg := none, defaults := [Expr.UnaryOp UnaryOp.USub (Expr.Constant (Const.int 1) 0 { line := 347, col := 25, endLine := 347, endCol := 26 }) { line := 347, col := 24, endLine := 347, endCol := 26 }] }, body := FuncBody.stmts PB533.1, scope := { kind := ScopeKind.function, names := [("self", NameKind.local), ("size", NameKind.local), ("start", NameKind.local), ("stop", NameKind.local), ("_index", NameKind.globalImplicit), ("len", NameKind.globalImplicit)], isGenerator := false, isCoroutine := false }, globals := 3, closure := [], defaults := Value.ref 526, kwdefaults := Value.none, pyModule := Value.str "io" 286, code := Value.ref 532 } } : Obj))
  :: (nat_lit 586, ({ cls := Value.type "dict", data := Data.dict #[{ hash := PyData.keyHash P "__module__", key := Value.str "__module__" 663, val := Value.str "_io" 668 }, { hash := PyData.keyHash P "__firstlineno__", key := Value.str "__firstlineno__" 667, val := Value.int 201 666 }, { hash := PyData.keyHash P "__init__", key := Value.str "__init__" 680, val := Value.ref 357 }, { hash := PyData.keyHash P "_StringIO__translated", key := Value.str "_StringIO__translated" 689, val := Value.ref 364 }, { hash := PyData.keyHash P "_StringIO__check", key := Value.str "_StringIO__check" 696, val := Value.ref 371 }, { hash := PyData.keyHash P "_StringIO__check_dot", key := Value.str "_StringIO__check_dot" 703, val := Value.ref 378 }, { hash := PyData.keyHash P "_StringIO__line", key := Value.str "_StringIO__line" 718, val := Value.ref 385 }, { hash := PyData.keyHash P "closed", key := Value.str "closed" 726, val := Value.ref 393 }, { hash := PyData.keyHash P "line_buffering", key := Value.str "line_buffering" 734, val := Value.ref 401 }, { hash := PyData.keyHash P "newlines", key := Value.str "newlines" 742, val := Value.ref 409 }, { hash := PyData.keyHash P "encoding", key := Value.str "encoding" 750, val := Value.ref 417 }, { hash := PyData.keyHash P "errors", key := Value.str "errors" 758, val := Value.ref 425 }, { hash := PyData.keyHash P "close", key := Value.str "close" 765, val := Value.ref 432 }, { hash := PyData.keyHash P "__enter__", key := Value.str "__enter__" 772, val := Value.ref 439 }, { hash := PyData.keyHash P "__exit__", key := Value.str "__exit__" 780, val := Value.ref 446 }, { hash := PyData.keyHash P "readable", key := Value.str "readable" 787, val := Value.ref 453 }, { hash := PyData.keyHash P "writable", key := Value.str "writable" 794, val := Value.ref 460 }, { hash := PyData.keyHash P "seekable", key := Value.str "seekable" 801, val := Value.ref 467 }, { hash := PyData.keyHash P "isatty", key := Value.str "isatty" 808, val := Value.ref 474 }, { hash := PyData.keyHash P "flush", key := Value.str "flush" 815, val := Value.ref 481 }, { hash := PyData.keyHash P "fileno", key := Value.str "fileno" 822, val := Value.ref 488 }, { hash := PyData.keyHash P "detach", key := Value.str "detach" 829, val := Value.ref 495 }, { hash := PyData.keyHash P "getvalue", key := Value.str "getvalue" 836, val := Value.ref 502 }, { hash := PyData.keyHash P "tell", key := Value.str "tell" 843, val := Value.ref 509 }, { hash := PyData.keyHash P "seek", key := Value.str "seek" 853, val := Value.ref 517 }, { hash := PyData.keyHash P "truncate", key := Value.str "truncate" 861, val := Value.ref 525 }, { hash := PyData.keyHash P "read", key := Value.str "read" 873, val := Value.ref 533 }, { hash := PyData.keyHash P "readline", key := Value.str "readline" 883, val := Value.ref 541 }, { hash := PyData.keyHash P "readlines", key := Value.str "readlines" 893, val := Value.ref 549 }, { hash := PyData.keyHash P "__iter__", key := Value.str "__iter__" 900, val := Value.ref 556 }, { hash := PyData.keyHash P "__next__", key := Value.str "__next__" 908, val := Value.ref 563 }, { hash := PyData.keyHash P "write", key := Value.str "write" 920, val := Value.ref 570 }, { hash := PyData.keyHash P "writelines", key := Value.str "writelines" 928, val := Value.ref 577 }, { hash := PyData.keyHash P "__repr__", key := Value.str "__repr__" 935, val := Value.ref 584 }, { hash := PyData.keyHash P "__static_attributes__", key := Value.str "__static_attributes__" 939, val := Value.ref 585 }, { hash := PyData.keyHash P "__doc__", key := Value.str "__doc__" 940, val := Value.none }] 2 } : Obj))
  :: (nat_lit 587, ({ cls := Value.type "type", data := Data.cls { name := "StringIO", bases := [Value.ref 110], mro := [Value.ref 587, Value.ref 110, Value.ref 83, Value.type "object"], ns := 586, qualname := "StringIO" }, slots := #[some (Value.ref 343), none, some (Value.str "StringIO" 656), some (Value.str "StringIO" 664), some Value.none, some (Value.bool true)] } : Obj))
  :: (nat_lit 639, ({ cls := Value.type "tuple", data := Data.seq #[Value.none, Value.none, Value.bool false, Value.bool false] } : Obj))
  :: (nat_lit 645, ({ cls := Value.type "code", data := Data.fields #[Value.str "__init__" 1017, Value.str "shlex.__init__" 1018, Value.str "/claim/cut.py" 1019, Value.int 474 0, Value.int 5 0, Value.int 0 0, Value.int 0 0, Value.int 3 0, Value.ref 640, Value.bool true, Value.int 273 0, Value.ref 641, Value.none, Value.ref 642, Value.ref 643, Value.ref 644, Value.int 1026 0, Value.int 474 0, Value.str "/claim/cut.py" 1027] } : Obj))
  :: (nat_lit 646, ({ cls := Value.type "function", data := Data.func { name := "__init__", qualname := "shlex.__init__", params := { posonlyargs := [], args := [{ arg := "self", annotation := none, pos := { line := 474, col := 17, endLine := 474, endCol := 21 } }, { arg := "instream", annotation := none, pos := { line := 474, col := 23, endLine := 474, endCol := 31 } }, { arg := "infile", annotation := none, pos := { line := 474, col := 38, endLine := 474, endCol := 44 } }, { arg := "posix", annotation := none, pos := { line := 474, col := 51, endLine := 474, endCol := 56 } }, { arg := "punctuation_chars", annotation := none, pos := { line := 474, col := 64, endLine := 474, endCol := 81 } }], vararg := none, kwonlyargs := [], kw_defaults := [], kwarg := none, defaults := [Expr.Constant Const.none 0 { line := 474, col := 32, endLine := 474, endCol := 36 }, Expr.Constant Const.none 0 { line := 474, col := 45, endLine := 474, endCol := 49 }, Expr.Constant (Const.bool false) 0 { line := 474, col := 57, endLine := 474, endCol := 62 }, Expr.Constant (Const.bool false) 0 { line := 474, col := 82, endLine := 474, endCol := 87 }] }, body := FuncBody.stmts PB646.1, scope := { kind := ScopeKind.function, names := [("self", NameKind.local), ("instream", NameKind.local), ("infile", NameKind.local), ("posix", NameKind.local), ("punctuation_chars", NameKind.local), ("t", NameKind.local), ("isinstance", NameKind.globalImplicit), ("str", NameKind.globalImplicit), ("StringIO", NameKind.globalImplicit), ("_wall", NameKind.globalImplicit), ("deque", NameKind.globalImplicit), ("dict", NameKind.globalImplicit)], isGenerator := false, isCoroutine := false }, globals := 3, closure := [], defaults := Value.ref 639, kwdefaults := Value.none, pyModule := Value.str "cpy313.shlex" 1003, code := Value.ref 645 } } : Obj))
  :: (nat_lit 652, ({ cls := Value.type "code", data := Data.fields #[Value.str "punctuation_chars" 1029, Value.str "shlex.punctuation_chars" 1030, Value.str "/claim/cut.py" 1031, Value.int 515 0, Value.int 1 0, Value.int 0 0, Value.int 0 0, Value.int 3 0, Value.ref 647, Value.bool true, Value.int 273 0, Value.ref 648, Value.none, Value.ref 649, Value.ref 650, Value.ref 651, Value.int 1033 0, Value.int 515 0, Value.str "/claim/cut.py" 1034] } : Obj))
  :: (nat_lit 653, ({ cls := Value.type "function", data := Data.func { name := "punctuation_chars", qualname := "shlex.punctuation_chars", params := { posonlyargs := [], args := [{ arg := "self", annotation := none, pos := { line := 516, col := 26, endLine := 516, endCol := 30 } }], vararg := none, kwonlyargs := [], kw_defaults := [], kwarg := none, defaults := [] }, body := FuncBody.stmts PB653.1, scope := { kind := ScopeKind.function, names := [("self", NameKind.local)], isGenerator := false, isCoroutine := false }, globals := 3, closure := [], defaults := Value.none, kwdefaults := Value.none, pyModule := Value.str "cpy313.shlex" 1003, code := Value.ref 652 } } : Obj))
  :: (nat_lit 654, ({ cls := Value.type "property", data := Data.fields #[Value.ref 653, Value.none, Value.none, Value.none, Value.str "punctuation_chars" 1036, Value.bool false] } : Obj))
  :: (nat_lit 682, ({ cls := Value.type "code", data := Data.fields #[Value.str "get_token" 1061, Value.str "shlex.get_token" 1062, Value.str "/claim/cut.py" 1063, Value.int 542 0, Value.int 1 0, Value.int 0 0, Value.int 0 0, Value.int 3 0, Value.ref 677, Value.bool true, Value.int 273 0, Value.ref 678, Value.none, Value.ref 679, Value.ref 680, Value.ref 681, Value.int 1070 0, Value.int 542 0, Value.str "/claim/cut.py" 1071] } : Obj))
  :: (nat_lit 683, ({ cls := Value.type "function", data := Data.func { name := "get_token", qualname := "shlex.get_token", params := { posonlyargs := [], args := [{ arg := "self", annotation := none, pos := { line := 542, col := 18, endLine := 542, endCol := 22 } }], vararg := none, kwonlyargs := [], kw_defaults := [], kwarg := none, defaults := [] }, body := FuncBody.stmts PB683.1, scope := { kind := ScopeKind.function, names := [("self", NameKind.local), ("tok", NameKind.local), ("raw", NameKind.local), ("spec", NameKind.local), ("newfile", NameKind.local), ("newstream", NameKind.local), ("print", NameKind.globalImplicit), ("repr", NameKind.globalImplicit)], isGenerator := false, isCoroutine := false }, globals := 3, closure := [], defaults := Value.none, kwdefaults := Value.none, pyModule := Value.str "cpy313.shlex" 1003, code := Value.ref 682 } } : Obj))
  :: (nat_lit 689, ({ cls := Value.type "code", data := Data.fields #[Value.str "read_token" 1073, Value.str "shlex.read_token" 1074, Value.str "/claim/cut.py" 1075, Value.int 569 0, Value.int 1 0, Value.int 0 0, Value.int 0 0, Value.int 3 0, Value.ref 684, Value.bool true, Value.int 273 0, Value.ref 685, Value.none, Value.ref 686, Value.ref 687, Value.ref 688, Value.int 1081 0, Value.int 569 0, Value.str "/claim/cut.py" 1082] } : Obj))
  :: (nat_lit 690, ({ cls := Value.type "function", data := Data.func { name := "read_token", qualname := "shlex.read_token", params := { posonlyargs := [], args := [{ arg := "self", annotation := none, pos := { line := 569, col := 19, endLine := 569, endCol := 23 } }], vararg := none, kwonlyargs := [], kw_defaults := [], kwarg := none, defaults := [] }, body := FuncBody.stmts PB690.1, scope := { kind := ScopeKind.function, names := [("self", NameKind.local), ("quoted", NameKind.local), ("escapedstate", NameKind.local), ("nextchar", NameKind.local), ("result", NameKind.local), ("print", NameKind.globalImplicit), ("ValueError", NameKind.globalImplicit), ("repr", NameKind.globalImplicit)], isGenerator := false, isCoroutine := false }, globals := 3, closure := [], defaults := Value.none, kwdefaults := Value.none, pyModule := Value.str "cpy313.shlex" 1003, code := Value.ref 689 } } : Obj))
  :: (nat_lit 721, ({ cls := Value.type "dict", data := Data.dict #[{ hash := PyData.keyHash P "__module__", key := Value.str "__module__" 1012, val := Value.str "cpy313.shlex" 1003 }, { hash := PyData.keyHash P "__firstlineno__", key := Value.str "__firstlineno__" 1016, val := Value.int 472 1015 }, { hash := PyData.keyHash P "__init__", key := Value.str "__init__" 1028, val := Value.ref 646 }, { hash := PyData.keyHash P "punctuation_chars", key := Value.str "punctuation_chars" 1036, val := Value.ref 654 }, { hash := PyData.keyHash P "push_token", key := Value.str "push_token" 1044, val := Value.ref 661 }, { hash := PyData.keyHash P "push_source", key := Value.str "push_source" 1053, val := Value.ref 669 }, { hash := PyData.keyHash P "pop_source", key := Value.str "pop_source" 1060, val := Value.ref 676 }, { hash := PyData.keyHash P "get_token", key := Value.str "get_token" 1072, val := Value.ref 683 }, { hash := PyData.keyHash P "read_token", key := Value.str "read_token" 1083, val := Value.ref 690 }, { hash := PyData.keyHash P "sourcehook", key := Value.str "sourcehook" 1091, val := Value.ref 697 }, { hash := PyData.keyHash P "error_leader", key := Value.str "error_leader" 1100, val := Value.ref 705 }, { hash := PyData.keyHash P "__iter__", key := Value.str "__iter__" 1107, val := Value.ref 712 }, { hash := PyData.keyHash P "__next__", key := Value.str "__next__" 1115, val := Value.ref 719 }, { hash := PyData.keyHash P "__static_attributes__", key := Value.str "__static_attributes__" 1136, val := Value.ref 720 }, { hash := PyData.keyHash P "__dict__", key := Value.str "__dict__" 1138, val := Value.ref 723 }, { hash := PyData.keyHash P "__weakref__", key := Value.str "__weakref__" 1140, val := Value.ref 724 }, { hash := PyData.keyHash P "__doc__", key := Value.str "__doc__" 1141, val := Value.none }] 4 } : Obj))
  :: (nat_lit 722, ({ cls := Value.type "type", data := Data.cls { name := "shlex", bases := [Value.type "object"], mro := [Value.ref 722, Value.type "object"], ns := 721, qualname := "shlex" }, slots := #[none, none, some (Value.str "shlex" 1005), some (Value.str "shlex" 1013), some (Value.builtin "object.__new__"), some (Value.bool true)] } : Obj))
  :: (nat_lit 723, ({ cls := Value.type "getset_descriptor", data := Data.fields #[Value.str "__dict__" 1137, Value.ref 722, Value.builtin "function.__dict__", Value.builtin "function.__dict__#set"] } : Obj))
  :: (nat_lit 724, ({ cls := Value.type "getset_descriptor", data := Data.fields #[Value.str "__weakref__" 1139, Value.ref 722, Value.builtin "ExceptionGroup.__weakref__", Value.none] } : Obj))
  :: (nat_lit 732, ({ cls := Value.type "code", data := Data.fields #[Value.str "Int2AP" 1146, Value.str "Int2AP" 1147, Value.str "/claim/cut.py" 1148, Value.int 725 0, Value.int 1 0, Value.int 0 0, Value.int 0 0, Value.int 3 0, Value.ref 727, Value.bool true, Value.int 273 0, Value.ref 728, Value.none, Value.ref 729, Value.ref 730, Value.ref 731, Value.int 1153 0, Value.int 725 0, Value.str "/claim/cut.py" 1154] } : Obj))
  :: (nat_lit 733, ({ cls := Value.type "function", data := Data.func { name := "Int2AP", qualname := "Int2AP", params := { posonlyargs := [], args := [{ arg := "num", annotation := none, pos := { line := 725, col := 11, endLine := 725, endCol := 14 } }], vararg := none, kwonlyargs := [], kw_defaults := [], kwarg := none, defaults := [] }, body := FuncBody.stmts PB733.1, scope := { kind := ScopeKind.function, names := [("num", NameKind.local), ("val", NameKind.local), ("AP", NameKind.local), ("mod", NameKind.local), ("int", NameKind.globalImplicit), ("abs", NameKind.globalImplicit), ("divmod", NameKind.globalImplicit)], isGenerator := false, isCoroutine := false }, globals := 3, closure := [], defaults := Value.none, kwdefaults := Value.none, pyModule := Value.str "cpy313.imaplib" 1144, code := Value.ref 732 } } : Obj))
  :: (nat_lit 756, ({ cls := Value.type "dict", data := Data.dict #[{ hash := PyData.keyHash P "__module__", key := Value.str "__module__" 1176, val := Value.str "abc" 1167 }, { hash := PyData.keyHash P "__firstlineno__", key := Value.str "__firstlineno__" 1180, val := Value.int 740 1179 }, { hash := PyData.keyHash P "register", key := Value.str "register" 1188, val := Value.ref 754 }, { hash := PyData.keyHash P "__static_attributes__", key := Value.str "__static_attributes__" 1189, val := Value.ref 755 }, { hash := PyData.keyHash P "__doc__", key := Value.str "__doc__" 1190, val := Value.none }] 2 } : Obj))
  :: (nat_lit 757, ({ cls := Value.type "type", data := Data.cls { name := "ABCMeta", bases := [Value.type "type"], mro := [Value.ref 757, Value.type "type", Value.type "object"], ns := 756, qualname := "ABCMeta", subclasses := [Value.ref 790] }, slots := #[some (Value.ref 741), none, some (Value.str "ABCMeta" 1169), some (Value.str "ABCMeta" 1177), some (Value.builtin "type.__new__"), some (Value.bool true)] } : Obj))
  :: (nat_lit 789, ({ cls := Value.type "dict", data := Data.dict #[{ hash := PyData.keyHash P "__module__", key := Value.str "__module__" 1202, val := Value.str "collections.abc" 1193 }, { hash := PyData.keyHash P "__firstlineno__", key := Value.str "__firstlineno__" 1206, val := Value.int 745 1205 }, { hash := PyData.keyHash P "__instancecheck__", key := Value.str "__instancecheck__" 1215, val := Value.ref 773 }, { hash := PyData.keyHash P "__subclasscheck__", key := Value.str "__subclasscheck__" 1223, val := Value.ref 780 }, { hash := PyData.keyHash P "register", key := Value.str "register" 1231, val := Value.ref 787 }, { hash := PyData.keyHash P "__static_attributes__", key := Value.str "__static_attributes__" 1232, val := Value.ref 788 }, { hash := PyData.keyHash P "__doc__", key := Value.str "__doc__" 1233, val := Value.none }] 2 } : Obj))
  :: (nat_lit 790, ({ cls := Value.type "type", data := Data.cls { name := "_ABCLike", bases := [Value.ref 757], mro := [Value.ref 790, Value.ref 757, Value.type "type", Value.type "object"], ns := 789, qualname := "_ABCLike" }, slots := #[some (Value.ref 760), none, some (Value.str "_ABCLike" 1195), some (Value.str "_ABCLike" 1203), some (Value.builtin "type.__new__"), some (Value.bool true)] } : Obj))
  :: (nat_lit 805, ({ cls := Value.type "code", data := Data.fields #[Value.str "fspath" 1245, Value.str "fspath" 1246, Value.str "/claim/cut.py" 1247, Value.int 764 0, Value.int 1 0, Value.int 0 0, Value.int 0 0, Value.int 3 0, Value.ref 800, Value.bool true, Value.int 273 0, Value.ref 801, Value.none, Value.ref 802, Value.ref 803, Value.ref 804, Value.int 1252 0, Value.int 764 0, Value.str "/claim/cut.py" 1253] } : Obj))
  :: (nat_lit 806, ({ cls := Value.type "function", data := Data.func { name := "fspath", qualname := "fspath", params := { posonlyargs := [], args := [{ arg := "path", annotation := none, pos := { line := 764, col := 11, endLine := 764, endCol := 15 } }], vararg := none, kwonlyargs := [], kw_defaults := [], kwarg := none, defaults := [] }, body := FuncBody.stmts PB806.1, scope := { kind := ScopeKind.function, names := [("path", NameKind.local), ("kind", NameKind.local), ("hook", NameKind.local), ("given", NameKind.local), ("type", NameKind.globalImplicit), ("issubclass", NameKind.globalImplicit), ("str", NameKind.globalImplicit), ("bytes", NameKind.globalImplicit), ("_abc_plain_meta", NameKind.globalImplicit), ("getattr", NameKind.globalImplicit), ("TypeError", NameKind.globalImplicit), ("_plain_name", NameKind.globalImplicit), ("_wall", NameKind.globalImplicit), ("len", NameKind.globalImplicit)], isGenerator := false, isCoroutine := false }, globals := 3, closure := [], defaults := Value.none, kwdefaults := Value.none, pyModule := Value.str "os" 1243, code := Value.ref 805 } } : Obj))
  :: (nat_lit 819, ({ cls := Value.type "code", data := Data.fields #[Value.str "_get_sep" 1271, Value.str "_get_sep" 1272, Value.str "/claim/cut.py" 1273, Value.int 794 0, Value.int 1 0, Value.int 0 0, Value.int 0 0, Value.int 3 0, Value.ref 814, Value.bool true, Value.int 273 0, Value.ref 815, Value.none, Value.ref 816, Value.ref 817, Value.ref 818, Value.int 1275 0, Value.int 794 0, Value.str "/claim/cut.py" 1276] } : Obj))
  :: (nat_lit 820, ({ cls := Value.type "function", data := Data.func { name := "_get_sep", qualname := "_get_sep", params := { posonlyargs := [], args := [{ arg := "path", annotation := none, pos := { line := 794, col := 13, endLine := 794, endCol := 17 } }], vararg := none, kwonlyargs := [], kw_defaults := [], kwarg := none, defaults := [] }, body := FuncBody.stmts PB820.1, scope := { kind := ScopeKind.function, names := [("path", NameKind.local), ("isinstance", NameKind.globalImplicit), ("bytes", NameKind.globalImplicit)], isGenerator := false, isCoroutine := false }, globals := 3, closure := [], defaults := Value.none, kwdefaults := Value.none, pyModule := Value.str "cpy313.posixpath" 1269, code := Value.ref 819 } } : Obj))
  :: (nat_lit 826, ({ cls := Value.type "code", data := Data.fields #[Value.str "join" 1278, Value.str "join" 1279, Value.str "/claim/cut.py" 1280, Value.int 799 0, Value.int 1 0, Value.int 0 0, Value.int 0 0, Value.int 7 0, Value.ref 821, Value.bool true, Value.int 273 0, Value.ref 822, Value.none, Value.ref 823, Value.ref 824, Value.ref 825, Value.int 1286 0, Value.int 799 0, Value.str "/claim/cut.py" 1287] } : Obj))
  :: (nat_lit 827, ({ cls := Value.type "function", data := Data.func { name := "join", qualname := "join", params := { posonlyargs := [], args := [{ arg := "a", annotation := none, pos := { line := 799, col := 9, endLine := 799, endCol := 10 } }], vararg := some { arg := "p", annotation := none, pos := { line := 799, col := 13, endLine := 799, endCol := 14 } }, kwonlyargs := [], kw_defaults := [], kwarg := none, defaults := [] }, body := FuncBody.stmts PB827.1, scope := { kind := ScopeKind.function, names := [("a", NameKind.local), ("p", NameKind.local), ("sep", NameKind.local), ("path", NameKind.local), ("b", NameKind.local), ("fspath", NameKind.globalImplicit), ("_get_sep", NameKind.globalImplicit), ("TypeError", NameKind.globalImplicit), ("AttributeError", NameKind.globalImplicit), ("BytesWarning", NameKind.globalImplicit), ("check_arg_types_genericpath", NameKind.globalImplicit)], isGenerator := false, isCoroutine := false }, globals := 3, closure := [], defaults := Value.none, kwdefaults := Value.none, pyModule := Value.str "cpy313.posixpath" 1269, code := Value.ref 826 } } : Obj))
  :: (nat_lit 833, ({ cls := Value.type "code", data := Data.fields #[Value.str "basename" 1290, Value.str "basename" 1291, Value.str "/claim/cut.py" 1292, Value.int 817 0, Value.int 1 0, Value.int 0 0, Value.int 0 0, Value.int 3 0, Value.ref 828, Value.bool true, Value.int 273 0, Value.ref 829, Value.none, Value.ref 830, Value.ref 831, Value.ref 832, Value.int 1296 0, Value.int 817 0, Value.str "/claim/cut.py" 1297] } : Obj))
  :: (nat_lit 834, ({ cls := Value.type "function", data := Data.func { name := "basename", qualname := "basename", params := { posonlyargs := [], args := [{ arg := "p", annotation := none, pos := { line := 817, col := 13, endLine := 817, endCol := 14 } }], vararg := none, kwonlyargs := [], kw_defaults := [], kwarg := none, defaults := [] }, body := FuncBody.stmts PB834.1, scope := { kind := ScopeKind.function, names := [("p", NameKind.local), ("sep", NameKind.local), ("i", NameKind.local), ("fspath", NameKind.globalImplicit), ("_get_sep", NameKind.globalImplicit)], isGenerator := false, isCoroutine := false }, globals := 3, closure := [], defaults := Value.none, kwdefaults := Value.none, pyModule := Value.str "cpy313.posixpath" 1269, code := Value.ref 833 } } : Obj))
  :: (nat_lit 838, ({ cls := Value.type "code", data := Data.fields #[Value.str "commonpath" 1299, Value.str "commonpath" 1300, Value.str "/claim/cut.py" 1301, Value.int 822 0, Value.int 1 0, Value.int 0 0, Value.int 0 0, Value.int 3 0, Value.ref 835, Value.bool true, Value.int 273 0, Value.ref 836, Value.none, Value.none, Value.none, Value.ref 837, Value.int 1302 0, Value.int 822 0, Value.str "/claim/cut.py" 1303] } : Obj))
  :: (nat_lit 839, ({ cls := Value.type "function", data := Data.func { name := "commonpath", qualname := "commonpath", params := { posonlyargs := [], args := [{ arg := "paths", annotation := none, pos := { line := 822, col := 15, endLine := 822, endCol := 20 } }], vararg := none, kwonlyargs := [], kw_defaults := [], kwarg := none, defaults := [] }, body := FuncBody.stmts PB839.1, scope := { kind := ScopeKind.function, names := [("paths", NameKind.local), ("sep", NameKind.cell), ("curdir", NameKind.cell), ("split_paths", NameKind.local), ("isabs", NameKind.local), ("c", NameKind.local), ("s1", NameKind.local), ("s2", NameKind.local), ("common", NameKind.local), ("i", NameKind.local), ("prefix", NameKind.local), ("tuple", NameKind.globalImplicit), ("map", NameKind.globalImplicit), ("fspath", NameKind.globalImplicit), ("ValueError", NameKind.globalImplicit), ("isinstance", NameKind.globalImplicit), ("bytes", NameKind.globalImplicit), ("min", NameKind.globalImplicit), ("max", NameKind.globalImplicit), ("enumerate", NameKind.globalImplicit), ("TypeError", NameKind.globalImplicit), ("AttributeError", NameKind.globalImplicit), ("check_arg_types_genericpath", NameKind.globalImplicit)], isGenerator := false, isCoroutine := false, more := [("fast", Const.str "paths"), ("fast", Const.str "sep"), ("fast", Const.str "curdir"), ("fast", Const.str "path"), ("fast", Const.str "split_paths"), ("fast", Const.str "p"), ("fast", Const.str "isabs"), ("fast", Const.str "s"), ("fast", Const.str "c"), ("fast", Const.str "s1"), ("fast", Const.str "s2"), ("fast", Const.str "common"), ("fast", Const.str "i"), ("fast", Const.str "prefix")] }, globals := 3, closure := [], defaults := Value.none, kwdefaults := Value.none, pyModule := Value.str "cpy313.posixpath" 1269, code := Value.ref 838 } } : Obj))
  :: (nat_lit 845, ({ cls := Value.type "code", data := Data.fields #[Value.str "_law_line" 1307, Value.str "_law_line" 1308, Value.str "/claim/cut.py" 1309, Value.int 852 0, Value.int 2 0, Value.int 0 0, Value.int 0 0, Value.int 3 0, Value.ref 840, Value.bool true, Value.int 273 0, Value.ref 841, Value.none, Value.ref 842, Value.ref 843, Value.ref 844, Value.int 1315 0, Value.int 852 0, Value.str "/claim/cut.py" 1316] } : Obj))
  :: (nat_lit 846, ({ cls := Value.type "function", data := Data.func { name := "_law_line", qualname := "_law_line", params := { posonlyargs := [], args := [{ arg := "numbers", annotation := none, pos := { line := 852, col := 14, endLine := 852, endCol := 21 } }, { arg := "words", annotation := none, pos := { line := 852, col := 23, endLine := 852, endCol := 28 } }], vararg := none, kwonlyargs := [], kw_defaults := [], kwarg := none, defaults := [] }, body := FuncBody.stmts PB846.1, scope := { kind := ScopeKind.function, names := [("numbers", NameKind.local), ("words", NameKind.local), ("at", NameKind.local), ("ahead", NameKind.local), ("behind", NameKind.local), ("min", NameKind.globalImplicit), ("_law_line", NameKind.globalImplicit)], isGenerator := false, isCoroutine := false }, globals := 3, closure := [], defaults := Value.none, kwdefaults := Value.none, pyModule := Value.str "law_ik0083_01" 1305, code := Value.ref 845 } } : Obj))
  :: (nat_lit 852, ({ cls := Value.type "code", data := Data.fields #[Value.str "_law_read" 1318, Value.str "_law_read" 1319, Value.str "/claim/cut.py" 1320, Value.int 858 0, Value.int 1 0, Value.int 0 0, Value.int 0 0, Value.int 3 0, Value.ref 847, Value.bool true, Value.int 273 0, Value.ref 848, Value.none, Value.ref 849, Value.ref 850, Value.ref 851, Value.int 1327 0, Value.int 858 0, Value.str "/claim/cut.py" 1328] } : Obj))
  :: (nat_lit 853, ({ cls := Value.type "function", data := Data.func { name := "_law_read", qualname := "_law_read", params := { posonlyargs := [], args := [{ arg := "line", annotation := none, pos := { line := 858, col := 14, endLine := 858, endCol := 18 } }], vararg := none, kwonlyargs := [], kw_defaults := [], kwarg := none, defaults := [] }, body := FuncBody.stmts PB853.1, scope := { kind := ScopeKind.function, names := [("line", NameKind.local), ("lexer", NameKind.local), ("left", NameKind.local), ("depths", NameKind.local), ("told", NameKind.local), ("token", NameKind.local), ("shlex", NameKind.globalImplicit)], isGenerator := false, isCoroutine := false }, globals := 3, closure := [], defaults := Value.none, kwdefaults := Value.none, pyModule := Value.str "law_ik0083_01" 1305, code := Value.ref 852 } } : Obj))
  :: (nat_lit 857, ({ cls := Value.type "code", data := Data.fields #[Value.str "_law_path" 1330, Value.str "_law_path" 1331, Value.str "/claim/cut.py" 1332, Value.int 870 0, Value.int 3 0, Value.int 0 0, Value.int 0 0, Value.int 3 0, Value.ref 854, Value.bool true, Value.int 273 0, Value.ref 855, Value.none, Value.none, Value.none, Value.ref 856, Value.int 1333 0, Value.int 870 0, Value.str "/claim/cut.py" 1334] } : Obj))
  :: (nat_lit 858, ({ cls := Value.type "function", data := Data.func { name := "_law_path", qualname := "_law_path", params := { posonlyargs := [], args := [{ arg := "place", annotation := none, pos := { line := 870, col := 14, endLine := 870, endCol := 19 } }, { arg := "depths", annotation := none, pos := { line := 870, col := 21, endLine := 870, endCol := 27 } }, { arg := "told", annotation := none, pos := { line := 870, col := 29, endLine := 870, endCol := 33 } }], vararg := none, kwonlyargs := [], kw_defaults := [], kwarg := none, defaults := [] }, body := FuncBody.stmts PB858.1, scope := { kind := ScopeKind.function, names := [("place", NameKind.local), ("depths", NameKind.local), ("told", NameKind.local), ("above", NameKind.local), ("other", NameKind.local), ("depth", NameKind.local), ("enumerate", NameKind.globalImplicit), ("min", NameKind.globalImplicit), ("max", NameKind.globalImplicit), ("join_posixpath", NameKind.globalImplicit), ("sorted", NameKind.globalImplicit)], isGenerator := false, isCoroutine := false, more := [("fast", Const.str "place"), ("fast", Const.str "depths"), ("fast", Const.str "told"), ("fast", Const.str "above"), ("fast", Const.str "other"), ("fast", Const.str "depth"), ("fast", Const.str "name")] }, globals := 3, closure := [], defaults := Value.none, kwdefaults := Value.none, pyModule := Value.str "law_ik0083_01" 1305, code := Value.ref 857 } } : Obj))
  :: (nat_lit 862, ({ cls := Value.type "code", data := Data.fields #[Value.str "law" 1336, Value.str "law" 1337, Value.str "/claim/cut.py" 1338, Value.int 876 0, Value.int 1 0, Value.int 0 0, Value.int 0 0, Value.int 3 0, Value.ref 859, Value.bool true, Value.int 273 0, Value.ref 860, Value.none, Value.none, Value.none, Value.ref 861, Value.int 1339 0, Value.int 876 0, Value.str "/claim/cut.py" 1340] } : Obj))
  :: (nat_lit 863, ({ cls := Value.type "function", data := Data.func { name := "law", qualname := "law", params := { posonlyargs := [], args := [{ arg := "script", annotation := none, pos := { line := 876, col := 8, endLine := 876, endCol := 14 } }], vararg := none, kwonlyargs := [], kw_defaults := [], kwarg := none, defaults := [] }, body := FuncBody.stmts PB863.1, scope := { kind := ScopeKind.function, names := [("script", NameKind.local), ("cells", NameKind.local), ("numbers", NameKind.local), ("words", NameKind.cell), ("left", NameKind.local), ("depths", NameKind.cell), ("told", NameKind.cell), ("paths", NameKind.local), ("late", NameKind.local), ("early", NameKind.local), ("shared", NameKind.local), ("enumerate", NameKind.globalImplicit), ("_law_read", NameKind.globalImplicit), ("_law_line", NameKind.globalImplicit), ("range", NameKind.globalImplicit), ("commonpath", NameKind.globalImplicit), ("basename", NameKind.globalImplicit), ("min", NameKind.globalImplicit)], isGenerator := false, isCoroutine := false, more := [("fast", Const.str "script"), ("fast", Const.str "cell"), ("fast", Const.str "cells"), ("fast", Const.str "place"), ("fast", Const.str "numbers"), ("fast", Const.str "number"), ("fast", Const.str "words"), ("fast", Const.str "left"), ("fast", Const.str "depths"), ("fast", Const.str "told"), ("fast", Const.str "paths"), ("fast", Const.str "late"), ("fast", Const.str "early"), ("fast", Const.str "shared")] }, globals := 3, closure := [], defaults := Value.none, kwdefaults := Value.none, pyModule := Value.str "law_ik0083_01" 1305, code := Value.ref 862 } } : Obj))
  :: [] : List (Addr × Obj))
end Mine
end
section
open PySem PySem.W PyProof.Rows
set_option maxRecDepth 100000
namespace Mine
noncomputable abbrev stF (p : PySem.Program) (w : World) : StepF := PySem.W.Fast.tw10156331382660048174 (PySem.W.Fast.tw11892475500146522536 PySem.W.Fast.tw14364793385576792824) p w
theorem st_fast (p : PySem.Program) (w : World) : stF p w = stepT (denote treeTable) p w := by
  rw [PySem.W.Fast.te10156331382660048174, PySem.W.Fast.te11892475500146522536, PySem.W.Fast.te14364793385576792824]
noncomputable abbrev okF : Thread → Bool := PySem.W.Fast.tw6613529449190102663 29 (some (.ref 6))
/-- the law alone -/
noncomputable def V : PySem.Program := view PW [46]
noncomputable def LO0 : List PySem.Str := [PySem.Str.ofString "deque", PySem.Str.ofString "_wall", PySem.Str.ofString "__name__", PySem.Str.ofString "_whence", PySem.Str.ofString "_index", PySem.Str.ofString "UnsupportedOperation", PySem.Str.ofString "OSError", PySem.Str.ofString "ValueError", PySem.Str.ofString "IOBase", PySem.Str.ofString "BufferedIOBase", PySem.Str.ofString "TextIOBase", PySem.Str.ofString "BytesIO", PySem.Str.ofString "StringIO", PySem.Str.ofString "_kind", PySem.Str.ofString "_fspath", PySem.Str.ofString "_check_arg_types", PySem.Str.ofString "check_arg_types_path", PySem.Str.ofString "isabs", PySem.Str.ofString "join", PySem.Str.ofString "join_path", PySem.Str.ofString "dirname", PySem.Str.ofString "shlex", PySem.Str.ofString "Int2AP", PySem.Str.ofString "_plain_name", PySem.Str.ofString "ABCMeta", PySem.Str.ofString "type", PySem.Str.ofString "_ABCLike", PySem.Str.ofString "_abc_plain_meta", PySem.Str.ofString "fspath", PySem.Str.ofString "check_arg_types_genericpath", PySem.Str.ofString "_get_sep", PySem.Str.ofString "join_posixpath", PySem.Str.ofString "basename", PySem.Str.ofString "commonpath", PySem.Str.ofString "_law_line", PySem.Str.ofString "_law_read", PySem.Str.ofString "_law_path"]
noncomputable def KAS : List Addr := [2, 3, 45, 46, 52, 53, 62, 63, 64, 79, 80, 82, 83, 84, 85, 86, 97, 98, 109, 110, 149, 339, 340, 350, 356, 357, 363, 364, 370, 371, 393, 401, 409, 417, 425, 526, 532, 533, 586, 587, 639, 645, 646, 652, 653, 654, 682, 683, 689, 690, 721, 722, 723, 724, 732, 733, 756, 757, 789, 790, 805, 806, 819, 820, 826, 827, 833, 834, 838, 839, 845, 846, 852, 853, 857, 858, 862, 863]
theorem kas_eq : ∀ P, KAS = (K P).map (·.1) := fun _ => by kernel_rfl
noncomputable abbrev HK : Hook := kHook K KAS kas_eq
noncomputable abbrev XT : Shared → Bool := fun s => xlAt V [] s && recOk (RowW.records (OpenRow.toRowW (OpenLaw.row PySem.Challenge.rw_ik0083_01))) s
noncomputable def wholeF (w : World) : Option (Shared × SharedT) := (impEndT (stF (opening PW) w) 6000 (startT (opening PW)) (start (opening PW)).2).bind fun s1 => (PySem.W.Fast.tw14289696077712309145 PW s1.abs).bind fun s0 => (topRunT (stF PW w) okF 6000 (toT s0) (topStub PW)).map fun s2 => (s0, s2)
noncomputable abbrev MODS : List PySem.Str := importedModules PW.main.body
theorem look : ∀ w, (wholeF w).map (fun r => ((r.1.heap.objs.size, r.1.heap.nsMap mainGlobals "__annotations__", (r.1.heap.isNs mainGlobals && r.1.gens.size == 0)),
    (staticsOk MODS r.1.heap r.2.abs.heap && namesBound PW r.2.abs.heap && gensDone r.2.abs && laidKept r.1.heap r.2.abs.heap), PySem.W.Fast.tw4187177175401517315 V LO0 MODS XT true r.2.abs, HK.obs r.2.abs)) =
    some ((29, some (.ref 6), true), true, openGood V LO0, HK.val w) := by
  intro w
  kernel_rfl
theorem bare_vars : readsOut PW PW.main.body "vars" = false := by kernel_rfl
theorem bare_dir : readsOut PW PW.main.body "dir" = false := by kernel_rfl
theorem bare_locals : readsOut PW PW.main.body "locals" = false := by kernel_rfl
theorem bare_eq : ((["vars", "dir", "locals"] : List PySem.Str).filter (readsOut PW PW.main.body)) = [] := by
  rw [List.filter_cons_of_neg (by rw [bare_vars]; decide), List.filter_cons_of_neg (by rw [bare_dir]; decide), List.filter_cons_of_neg (by rw [bare_locals]; decide)]
  rfl
theorem strict_eq : (!(importedModules PW.main.body).all cThrough.contains) = false := by kernel_rfl
theorem road_eq : noRoadLSs { strict := false, foot := none, bare := [] } PW.main.body = true := by kernel_rfl
set_option maxHeartbeats 8000000 in
theorem looks_ok : looksOpen PW = true := by
  unfold looksOpen
  rw [bare_eq, strict_eq, road_eq]
  repeat' (with_reducible refine look_both ?_ ?_)
  all_goals decide +kernel
set_option maxHeartbeats 8000000 in
/-- the statement is well said: look by look -/
theorem said : PySem.Challenge.rw_ik0083_01.wellSaid = true := by
  delta OpenLaw.wellSaid OpenRow.wellSaid OpenRow.partSaid
  repeat' (with_reducible refine look_both ?_ ?_)
  · exact looks_ok
  all_goals decide +kernel
theorem parts_ok : (chainsOk V && opensWell (OpenLaw.row PySem.Challenge.rw_ik0083_01).prog && (frees (OpenLaw.row PySem.Challenge.rw_ik0083_01).toRowW && (OpenLaw.row PySem.Challenge.rw_ik0083_01).within.isEmpty)) = true := by decide +kernel
theorem whole_ok : (OpenLaw.row PySem.Challenge.rw_ik0083_01).prog.tablesWhole = true := by decide +kernel
end Mine
end
section
open PySem PySem.W PyProof.Rows
set_option maxRecDepth 100000
namespace Mine
theorem ok_fast : okF = stepOk 29 (some (.ref 6)) := by
  show PySem.W.Fast.tw6613529449190102663 29 (some (.ref 6)) = _
  rw [← PySem.W.Fast.te6613529449190102663]
theorem left : LeftO PW V LO0 XT HK.obs HK.val 6000 := by
  intro w
  obtain ⟨⟨u0, u2⟩, e1, e2⟩ := Option.map_eq_some_iff.mp (look w)
  unfold wholeF at e1
  obtain ⟨s1, a1, a2⟩ := Option.bind_eq_some_iff.mp e1
  obtain ⟨s0, b1, b2⟩ := Option.bind_eq_some_iff.mp a2
  obtain ⟨s2, c1, c2⟩ := Option.map_eq_some_iff.mp b2
  obtain ⟨rfl, rfl⟩ := Prod.mk.inj c2
  clear c2 b2 a2 e1
  obtain ⟨e3, e4⟩ := Prod.mk.inj e2
  obtain ⟨d1, e5⟩ := Prod.mk.inj e3
  obtain ⟨d2, d3⟩ := Prod.mk.inj e5
  obtain ⟨d4, e6⟩ := Prod.mk.inj e4
  obtain ⟨d5, d6⟩ := Prod.mk.inj e6
  dsimp only at d1 d2 d3 d4 d5 d6
  rw [st_fast] at a1 c1
  have a3 := impEnd_of a1
  rw [startT_abs] at a3
  rw [← PySem.W.Fast.te14289696077712309145] at b1
  rw [ok_fast, ← d1, ← d2] at c1
  have c3 := topRun_of c1
  rw [toT_abs (by rw [d1]; decide)] at c3
  rw [← PySem.W.Fast.te4187177175401517315] at d5
  unfold openEnds fencedOpening
  rw [a3]
  show (((fenceModules? PW s1.abs).bind (topFrom treeTable PW w 6000))).map _ = _
  rw [b1]
  show (topFrom treeTable PW w 6000 s0).map _ = _
  unfold topFrom
  rw [d3]
  dsimp only
  rw [c3]
  show (match staticsOk MODS s0.heap s2.abs.heap && namesBound PW s2.abs.heap && gensDone s2.abs && laidKept s0.heap s2.abs.heap with
      | true => some s2.abs
      | false => none).map _ = _
  rw [d4]
  show some (openSeen V LO0 MODS XT true s2.abs, HK.obs s2.abs) = _
  rw [d5, d6]
end Mine
end
section
open PySem PySem.W PyProof.Rows
set_option maxRecDepth 100000
namespace Mine
/-- a text by its signs -/
def st (l : List Nat) : PySem.Str := ⟨l.toArray⟩
theorem st_cps (l : List Nat) : (st l).cps.toList = l := by simp [st]
theorem st_len (l : List Nat) : (st l).length = l.length := by simp [st, PySem.Str.length]
theorem st_app (a b : List Nat) : st a ++ st b = st (a ++ b) := by
  show PySem.Str.append _ _ = _
  simp [st, PySem.Str.append]
theorem st_inj {a b : List Nat} (h : st a = st b) : a = b := by
  have := congrArg (fun x => x.cps.toList) h
  simpa [st] using this
theorem st_of (x : PySem.Str) : x = st x.cps.toList := by simp [st]
theorem st_nil : PySem.Str.ofString "" = st [] := by decide
theorem st_sl : PySem.Str.ofString "/" = st [47] := by decide +kernel
theorem st_sp : PySem.Str.ofString " " = st [32] := by decide +kernel

theorem slice_st {l : List Nat} {i j : Nat} (h : i ≤ j) (h2 : j ≤ l.length) : Txt.slice (st l) (some (i : Int)) (some (j : Int)) = st ((l.drop i).take (j - i)) := by
  have := beq_iff_eq.mp (slice_closes (x := st l) (i := i) (j := j) ⟨by (first | lia | omega), by (first | lia | omega), by rw [st_cps]; (first | lia | omega)⟩)
  rw [this, st_cps]
  show st _ = _
  have e1 : ((i : Int)).toNat = i := by (first | lia | omega)
  have e2 : ((j : Int) - (i : Int)).toNat = j - i := by (first | lia | omega)
  rw [e1, e2]
theorem slice_from {l : List Nat} {i : Nat} (h : i ≤ l.length) : Txt.slice (st l) (some (i : Int)) none = st (l.drop i) := by
  have := slice_from_eq (x := st l) (i := i) (b := l.length) (by (first | lia | omega)) (by rw [st_len]; (first | lia | omega)) (by rw [st_len])
  rw [this, st_cps]
  show st _ = _
  congr 1
  rw [List.take_of_length_le]
  · rw [Int.toNat_natCast]
  · simp only [List.length_drop]; (first | lia | omega)
theorem slice_drop1 {l : List Nat} (c : Nat) : Txt.slice (st (l ++ [c])) none (some (-1)) = st l := by
  have e : Txt.slice (st (l ++ [c])) none (some (-1)) = Txt.slice (st (l ++ [c])) none (some (l.length : Int)) := by
    unfold Txt.slice
    have : Builtin.Str.strSliceIndices none (some (-1)) 1 (st (l ++ [c])).length = Builtin.Str.strSliceIndices none (some (l.length : Int)) 1 (st (l ++ [c])).length := by
      rw [st_len]
      simp only [Builtin.Str.strSliceIndices, List.length_append, List.length_cons, List.length_nil]
      have h1 : ¬ ((l.length : Int) < 0) := by (first | lia | omega)
      have h2 : (1 : Int) > 0 := by decide
      have h3 : (-1 : Int) < 0 := by decide
      simp only [h1, h2, h3, if_true, if_false]
      congr 1
      (first | lia | omega)
    rw [this]
  rw [e]
  have := beq_iff_eq.mp (slice_closes_to (x := st (l ++ [c])) (j := l.length) ⟨by (first | lia | omega), by rw [st_cps]; simp; (first | lia | omega)⟩)
  rw [this, st_cps]
  show st _ = _
  congr 1
  simp
theorem read_one {l : List Nat} {p : Nat} (h : p < l.length) : Txt.slice (Txt.slice (st l) (some (p : Int)) (some ((p : Int) + 1)) ++ PySem.Str.ofString " ") none (some (-1)) = st ((l.drop p).take 1) := by
  have e : ((p : Int) + 1) = ((p + 1 : Nat) : Int) := by (first | lia | omega)
  rw [e, slice_st (by (first | lia | omega)) (by (first | lia | omega)), st_sp, st_app, slice_drop1]
  congr 2
  (first | lia | omega)
theorem read_last {l : List Nat} {p : Nat} (h : p + 1 = l.length) : Txt.slice (Txt.slice (st l) (some (p : Int)) (some (l.length : Int)) ++ PySem.Str.ofString " ") none (some (-1)) = st ((l.drop p).take 1) := by
  rw [slice_st (by (first | lia | omega)) (by (first | lia | omega)), st_sp, st_app, slice_drop1]
  congr 2
  (first | lia | omega)

theorem contains_st (l : List Nat) (c : Nat) : Txt.contains (st l) (st [c]) = l.contains c := by
  have h := StrLaws.found_one (st l) c
  unfold Txt.contains
  have e : st [c] = ⟨#[c]⟩ := rfl
  rw [e, h, st_cps]
  by_cases hc : c ∈ l <;> simp [hc]
theorem countIn_st (c : Nat) : ∀ l : List Nat, PySem.Spec.countIn (.str ⟨#[c]⟩) (l.map fun n => PyData.str ⟨#[n]⟩) = (l.count c : Nat)
  | [] => rfl
  | n :: r => by
    have ih := countIn_st c r
    rw [List.map_cons, PySem.Spec.countIn, ih, List.count_cons]
    by_cases h : n = c
    · subst h; simp [PySem.Spec.same]; (first | lia | omega)
    · have : (n == c) = false := by simp [h]
      simp [this, PySem.Spec.same, h]
theorem count_st (l : List Nat) (c : Nat) : Txt.count (st l) (st [c]) = (l.count c : Nat) := by
  have h := count_is (st l) c
  rw [st_cps, countIn_st] at h
  exact h
end Mine
end
section
open PySem PySem.W PyProof.Rows
set_option maxRecDepth 100000
namespace Mine
section
variable {prog : Program} {w : World} {A : Around} {E : Value → Shared → Prop} {s : Shared} {x y : PySem.Str} {t u : Tok} {b : Bool}
theorem in_known {Q : Value → Shared → Prop} (hb : Txt.contains x y = b) (h : Q (.bool b) s) : wpAny (model prog w) A (compareOp .In (.str y u) (.str x t)) Q E s := by
  subst hb; exact PyProof.Rows.in_str h
theorem notin_known {Q : Value → Shared → Prop} (hb : Txt.contains x y = b) (h : Q (.bool (!b)) s) : wpAny (model prog w) A (compareOp .NotIn (.str y u) (.str x t)) Q E s := by
  subst hb; exact PyProof.Rows.notIn_str h
theorem eq_known {Q : Value → Shared → Prop} (hb : (x == y) = b) (h : Q (.bool b) s) : wpAny (model prog w) A (compareOp .Eq (.str x t) (.str y u)) Q E s := by
  subst hb; exact PyProof.Rows.eq_str h
theorem truthy_cons {c : Nat} {l : List Nat} {Q : Bool → Shared → Prop} (hz : l.length < 4000) (h : ∀ k, Q true {s with toks := k}) : wpAny (model prog w) A (truthy (.str (st (c :: l)) t)) Q E s := by
  refine PySem.P.truthy_str ?_ ?_
  · rw [st_len]; simp; (first | lia | omega)
  · have : ((st (c :: l)).length != 0) = true := by rw [st_len]; rfl
    have e2 : (((st (c :: l)).length : Int) != 0) = true := by rw [st_len, List.length_cons]; exact bne_iff_ne.mpr (by (first | lia | omega))
    rw [e2]; exact h _
end
noncomputable abbrev lett (c : Nat) : Prop := 65 ≤ c ∧ c ≤ 80
noncomputable abbrev par (c : Nat) : Prop := c = 40 ∨ c = 41
theorem s_ws : PySem.Str.ofString " \t\r\n" = st [32, 9, 13, 10] := by decide +kernel
theorem s_hash : PySem.Str.ofString "#" = st [35] := by decide +kernel
theorem s_qu : PySem.Str.ofString "'\"" = st [39, 34] := by decide +kernel
theorem s_pa : PySem.Str.ofString "()" = st [40, 41] := by decide +kernel
theorem s_nl : PySem.Str.ofString "\n" = st [10] := by decide +kernel
noncomputable def wcl : List Nat := (PySem.Str.ofString "abcdfeghijklmnopqrstuvwxyzABCDEFGHIJKLMNOPQRSTUVWXYZ0123456789_~-./*?=").cps.toList
theorem s_wc : PySem.Str.ofString "abcdfeghijklmnopqrstuvwxyzABCDEFGHIJKLMNOPQRSTUVWXYZ0123456789_~-./*?=" = st wcl := st_of _
theorem wc_lett : ∀ c < 81, 65 ≤ c → wcl.contains c = true := by decide +kernel
theorem wc_par : wcl.contains 40 = false ∧ wcl.contains 41 = false := by decide +kernel
theorem st_beq (a b : List Nat) : (st a == st b) = decide (a = b) := by
  by_cases h : a = b
  · subst h; simp
  · have : st a ≠ st b := fun e => h (st_inj e)
    simp [h, this]
theorem lett_ws {c : Nat} (h : lett c) : Txt.contains (PySem.Str.ofString " \t\r\n") (st [c]) = false := by
  rw [s_ws, contains_st]; simp; (first | lia | omega)
theorem lett_hash {c : Nat} (h : lett c) : Txt.contains (PySem.Str.ofString "#") (st [c]) = false := by
  rw [s_hash, contains_st]; simp; (first | lia | omega)
theorem lett_qu {c : Nat} (h : lett c) : Txt.contains (PySem.Str.ofString "'\"") (st [c]) = false := by
  rw [s_qu, contains_st]; simp; (first | lia | omega)
theorem lett_pa {c : Nat} (h : lett c) : Txt.contains (PySem.Str.ofString "()") (st [c]) = false := by
  rw [s_pa, contains_st]; simp; (first | lia | omega)
theorem lett_wc {c : Nat} (h : lett c) : Txt.contains (PySem.Str.ofString "abcdfeghijklmnopqrstuvwxyzABCDEFGHIJKLMNOPQRSTUVWXYZ0123456789_~-./*?=") (st [c]) = true := by
  rw [s_wc, contains_st]; exact wc_lett c (by (first | lia | omega)) h.1
theorem lett_nl {c : Nat} (h : lett c) : (st [c] == PySem.Str.ofString "\n") = false := by
  rw [s_nl, st_beq]; simp; (first | lia | omega)
theorem par_ws {c : Nat} (h : par c) : Txt.contains (PySem.Str.ofString " \t\r\n") (st [c]) = false := by
  rw [s_ws, contains_st]; simp; (first | lia | omega)
theorem par_hash {c : Nat} (h : par c) : Txt.contains (PySem.Str.ofString "#") (st [c]) = false := by
  rw [s_hash, contains_st]; simp; (first | lia | omega)
theorem par_qu {c : Nat} (h : par c) : Txt.contains (PySem.Str.ofString "'\"") (st [c]) = false := by
  rw [s_qu, contains_st]; simp; (first | lia | omega)
theorem par_pa {c : Nat} (h : par c) : Txt.contains (PySem.Str.ofString "()") (st [c]) = true := by
  rw [s_pa, contains_st]; rcases h with rfl | rfl <;> decide
theorem par_wc {c : Nat} (h : par c) : Txt.contains (PySem.Str.ofString "abcdfeghijklmnopqrstuvwxyzABCDEFGHIJKLMNOPQRSTUVWXYZ0123456789_~-./*?=") (st [c]) = false := by
  rw [s_wc, contains_st]; rcases h with rfl | rfl; exact wc_par.1; exact wc_par.2
theorem par_nl {c : Nat} (h : par c) : (st [c] == PySem.Str.ofString "\n") = false := by
  rw [s_nl, st_beq]; simp; (first | lia | omega)
theorem nil_nl : (st [] == PySem.Str.ofString "\n") = false := by
  rw [s_nl, st_beq]; simp
end Mine
namespace Mine
open PySem PySem.W PyProof.Rows
theorem fa1 : (PySem.Str.ofString "a" == PySem.Str.ofString " ") = false := by decide +kernel
theorem fa2 : Txt.contains (PySem.Str.ofString "'\"") (PySem.Str.ofString "a") = false := by decide +kernel
theorem fa3 : Txt.contains (PySem.Str.ofString "\\") (PySem.Str.ofString "a") = false := by decide +kernel
theorem fa4 : (PySem.Str.ofString "a" == PySem.Str.ofString "c") = false := by decide +kernel
theorem fc1 : (PySem.Str.ofString "c" == PySem.Str.ofString " ") = false := by decide +kernel
theorem fc2 : Txt.contains (PySem.Str.ofString "'\"") (PySem.Str.ofString "c") = false := by decide +kernel
theorem fc3 : Txt.contains (PySem.Str.ofString "\\") (PySem.Str.ofString "c") = false := by decide +kernel
theorem fc4 : (PySem.Str.ofString "c" == PySem.Str.ofString "c") = true := by decide +kernel
theorem fs1 : (PySem.Str.ofString " " == PySem.Str.ofString " ") = true := by decide +kernel
end Mine
end
section
open PySem PySem.W PyProof.Rows
set_option maxRecDepth 100000
namespace Mine
theorem item_st0 {c : Nat} {l : List Nat} : Txt.item (st (c :: l)) 0 = st [c] := by
  have h : Txt.charAt (st (c :: l)) 0 = some c := by
    unfold Txt.charAt seqIndex?
    rw [st_len]
    simp
    rfl
  unfold Txt.item
  rw [h]
  rfl
theorem size_push' {α : Type} (pv : List α) (x : α) : (pv ++ [x]).length = pv.length + 1 := by simp
section
variable {prog : Program} {w : World} {A : Around} {E : Value → Shared → Prop} {s : Shared} {value slice : PySem.Expr}
theorem sub_first {c : Nat} {l : List Nat} {t u : Tok} {Q : Value → Shared → Prop} (hz : l.length < 4000) (h : ∀ t' k, Q (.str (st [c]) t') { s with toks := k })
    (hs : subscripted slice false (.str (st (c :: l)) t) (.int 0 u) = operate [.str (st (c :: l)) t, .int 0 u] (getItem (.str (st (c :: l)) t) (.int 0 u)) := by with_unfolding_all rfl)
    (ht : ∀ r, letTemporaryGo value (.str (st (c :: l)) t) r = pure () := by intro _; with_unfolding_all rfl) :
    wpAny (model prog w) A (subscriptTail value slice (.str (st (c :: l)) t) (.int 0 u)) Q E s := by
  refine KXi.item (n := l.length + 1) (by rw [st_len]; rfl) (by (first | lia | omega)) (by (first | lia | omega)) (by (first | lia | omega)) ?_ hs ht
  intro _
  rw [item_st0]
  exact h _ _
theorem sub_last {D : Addr} {pv : List Value} {x : Value} {n : Nat} {u : Tok} {h₀ : Heap} {L : Addr} {news : List (Addr × Obj)} {Q : Value → Shared → Prop} (N : News h₀ L s.heap news) (hm : (D, W.listOf (List.toArray (pv ++ [x])) n) ∈ news) (hz : pv.length < 100000) (h : Q x s)
    (hs : subscripted slice false (.ref D) (.int (-1) u) = operate [.ref D, .int (-1) u] (getItem (.ref D) (.int (-1) u)) := by with_unfolding_all rfl) :
    wpAny (model prog w) A (subscriptTail value slice (.ref D) (.int (-1) u)) Q E s := by
  refine kde_neg (News.isList N hm) (by decide) (by decide) (j := pv.length) ?_ ?_ h hs
  · unfold seqIndex?
    rw [List.length_append, List.length_singleton]
    simp
    (first | lia | omega)
  · simp
theorem app_snoc {D : Addr} {vs : List Value} {x : Value} {n : Nat} {h₀ : Heap} {L : Addr} {m : PySem.Str → Option Value} {news news' : List (Addr × Obj)} {Q : Value → Shared → Prop} (F : Fr h₀ L s.heap m) (N : News h₀ L s.heap news)
    (U : Upd D (W.listOf (List.toArray vs) n) (W.listOf (List.toArray (vs ++ [x])) (n + 1)) news news') (hz : vs.length ≤ 4000)
    (h : ∀ h', Fr h₀ L h' m → News h₀ L h' news' → Q .none { s with heap := h' }) : wpAny (model prog w) A (call (.builtin "list.append") [.ref D, x]) Q E s := by
  have e : List.toArray (vs ++ [x]) = (List.toArray vs).push x := by simp
  rw [e] at U
  exact append_K F N U h (by simp; have := sizeLine_eq; (first | lia | omega))
end
end Mine
end
section
open PySem PySem.W PyProof.Rows
set_option maxRecDepth 100000
namespace Mine
/-- names put together with slashes -/
noncomputable def joinP : List (List Nat) → List Nat
  | [] => [47]
  | x :: r => 47 :: x ++ r.flatMap (47 :: ·)
theorem sw_sl (c : Nat) (l : List Nat) : Txt.startswith (st (c :: l)) (st [47]) = decide (c = 47) := by
  unfold Txt.startswith
  rw [StrLaws.subAt_eq, st_len, st_len, st_cps, st_cps]
  simp [List.take]
  exact Bool.eq_iff_iff.mpr (by simp)
theorem ew_sl (c : Nat) (l : List Nat) : Txt.endswith (st (l ++ [c])) (st [47]) = decide (c = 47) := by
  unfold Txt.endswith
  rw [StrLaws.subAt_eq, st_len, st_len, st_cps, st_cps]
  simp [List.take]
  exact Bool.eq_iff_iff.mpr (by simp)
end Mine
end
section
open PySem PySem.W PyProof.Rows
set_option maxRecDepth 100000
namespace Mine
theorem at_st {l : List Nat} {c i : Nat} : StrLaws.At (st l) (st [c]) (st l).length i ↔ l[i]? = some c := by
  have := StrLaws.subAt_one (st l) c i
  rw [st_cps] at this
  exact this
theorem rfind_st {c : Nat} {f x : List Nat} (hx : c ∉ x) : Txt.rfind (st (f ++ c :: x)) (st [c]) = (f.length : Int) := by
  have hat : StrLaws.At (st (f ++ c :: x)) (st [c]) (st (f ++ c :: x)).length f.length := by
    rw [at_st, List.getElem?_append_right (Nat.le_refl _), Nat.sub_self]
    rfl
  rcases rfind_whole (st (f ++ c :: x)) (st [c]) with ⟨_, h⟩ | ⟨i, e, hi, hn⟩
  · exact absurd hat (h _)
  · rw [e]
    have h1 : ¬ i < f.length := fun h => hn _ h hat
    have h2 : ¬ f.length < i := by
      intro h
      rw [at_st, List.getElem?_append_right (by (first | lia | omega))] at hi
      obtain ⟨k, hk⟩ : ∃ k, i - f.length = k + 1 := ⟨i - f.length - 1, by (first | lia | omega)⟩
      rw [hk, List.getElem?_cons_succ] at hi
      exact hx (List.mem_of_getElem? hi)
    have : i = f.length := by (first | lia | omega)
    rw [this]
/-- rows put together by a sign -/
noncomputable def glue (c : Nat) : List (List Nat) → List Nat
  | [] => []
  | p :: r => p ++ r.flatMap (c :: ·)
theorem join_st (c : Nat) : ∀ ps : List (List Nat), PySem.Str.join (st [c]) (ps.map st) = st (glue c ps)
  | [] => rfl
  | [p] => by
    show st p = _
    simp [glue]
  | p :: q :: r => by
    have ih := join_st c (q :: r)
    show st p ++ st [c] ++ PySem.Str.join (st [c]) ((q :: r).map st) = _
    rw [ih, st_app, st_app]
    congr 1
    simp [glue]
theorem glue_step {c : Nat} {p q t1 t2 : List Nat} (hp : c ∉ p) (hq : c ∉ q) (h1 : t1 = [] ∨ ∃ r, t1 = c :: r) (h2 : t2 = [] ∨ ∃ r, t2 = c :: r) (e : p ++ t1 = q ++ t2) : p = q ∧ t1 = t2 := by
  induction p generalizing q with
  | nil =>
    cases q with
    | nil => exact ⟨rfl, e⟩
    | cons b q =>
      exfalso
      simp only [List.nil_append, List.cons_append] at e
      rcases h1 with rfl | ⟨r, rfl⟩
      · cases e
      · simp only [List.cons.injEq] at e
        exact hq (by rw [← e.1]; exact .head _)
  | cons a p ih =>
    cases q with
    | nil =>
      exfalso
      simp only [List.nil_append, List.cons_append] at e
      rcases h2 with rfl | ⟨r, rfl⟩
      · cases e
      · simp only [List.cons.injEq] at e
        exact hp (by rw [e.1]; exact .head _)
    | cons b q =>
      simp only [List.cons_append, List.cons.injEq] at e
      obtain ⟨rfl, e⟩ := e
      obtain ⟨e1, e2⟩ := ih (fun h => hp (.tail _ h)) (fun h => hq (.tail _ h)) e
      exact ⟨by rw [e1], e2⟩
theorem flat_head {c : Nat} (r : List (List Nat)) : r.flatMap (c :: ·) = [] ∨ ∃ t, r.flatMap (c :: ·) = c :: t := by
  cases r with
  | nil => exact .inl rfl
  | cons p r => exact .inr ⟨p ++ r.flatMap (c :: ·), by simp⟩
theorem flat_inj {c : Nat} : ∀ {r1 r2 : List (List Nat)}, (∀ p ∈ r1, c ∉ p) → (∀ p ∈ r2, c ∉ p) → r1.flatMap (c :: ·) = r2.flatMap (c :: ·) → r1 = r2
  | [], [], _, _, _ => rfl
  | [], q :: r2, _, _, e => by simp at e
  | p :: r1, [], _, _, e => by simp at e
  | p :: r1, q :: r2, h1, h2, e => by
    simp only [List.flatMap_cons, List.cons_append, List.cons.injEq, true_and] at e
    obtain ⟨e1, e2⟩ := glue_step (h1 p (.head _)) (h2 q (.head _)) (flat_head r1) (flat_head r2) e
    rw [e1, flat_inj (fun x hx => h1 x (.tail _ hx)) (fun x hx => h2 x (.tail _ hx)) e2]
theorem glue_inj {c : Nat} {p q : List Nat} {r1 r2 : List (List Nat)} (h1 : ∀ x ∈ p :: r1, c ∉ x) (h2 : ∀ x ∈ q :: r2, c ∉ x) (e : glue c (p :: r1) = glue c (q :: r2)) : p :: r1 = q :: r2 := by
  obtain ⟨e1, e2⟩ := glue_step (h1 p (.head _)) (h2 q (.head _)) (flat_head r1) (flat_head r2) e
  rw [e1, flat_inj (fun x hx => h1 x (.tail _ hx)) (fun x hx => h2 x (.tail _ hx)) e2]
theorem split_st {c : Nat} {p : List Nat} {r : List (List Nat)} (h : ∀ x ∈ p :: r, c ∉ x) : Txt.split (st (glue c (p :: r))) (st [c]) = (p :: r).map st := by
  have hj := StrLaws.join_split (st (glue c (p :: r))) (st [c])
  have hf : ∀ x ∈ Txt.split (st (glue c (p :: r))) (st [c]), c ∉ x.cps.toList := StrLaws.split_free (st (glue c (p :: r))) c
  have hp := split_pos (st (glue c (p :: r))) (st [c])
  generalize Txt.split (st (glue c (p :: r))) (st [c]) = L at hj hf hp
  have hL : L = (L.map fun x => x.cps.toList).map st := by
    rw [List.map_map]
    conv => lhs; rw [← List.map_id L]
    refine List.map_congr_left (fun x _ => ?_)
    exact st_of x
  rw [hL, join_st] at hj
  have hj' := st_inj hj
  cases L with
  | nil => simp at hp
  | cons x L =>
    rw [List.map_cons] at hj'
    have := glue_inj (c := c) (fun y hy => ?_) h hj'
    · rw [hL, List.map_cons, this]
    · rcases List.mem_cons.mp hy with rfl | hy
      · exact hf _ (.head _)
      · obtain ⟨z, hz, rfl⟩ := List.mem_map.mp hy
        exact hf _ (.tail _ hz)
theorem joinP_glue {names : List (List Nat)} (h : names ≠ []) : joinP names = glue 47 ([] :: names) := by
  cases names with
  | nil => exact absurd rfl h
  | cons x r => simp [joinP, glue]
theorem joinP_last {pre : List (List Nat)} {x : List Nat} : ∃ f, joinP (pre ++ [x]) = f ++ 47 :: x := by
  cases pre with
  | nil => exact ⟨[], by simp [joinP]⟩
  | cons y r => exact ⟨joinP (y :: r), by simp [joinP]⟩
theorem joinP_count {names : List (List Nat)} (hn : names ≠ []) (h : ∀ x ∈ names, 47 ∉ x) : (joinP names).count 47 = names.length := by
  have key : ∀ r : List (List Nat), (∀ x ∈ r, 47 ∉ x) → (r.flatMap (47 :: ·)).count 47 = r.length := by
    intro r
    induction r with
    | nil => intro _; rfl
    | cons x r ih =>
      intro h
      rw [List.flatMap_cons, List.count_append, List.count_cons_self, List.count_eq_zero.mpr (h x (.head _)), ih fun y hy => h y (.tail _ hy), List.length_cons]
      (first | lia | omega)
  cases names with
  | nil => exact absurd rfl hn
  | cons x r =>
    have : joinP (x :: r) = (x :: r).flatMap (47 :: ·) := by simp [joinP]
    rw [this, key _ h]
end Mine
end
section
open PySem PySem.W PyProof.Rows
set_option maxRecDepth 100000
set_option maxHeartbeats 4000000
namespace Mine
open PySem.Builtin
theorem dq_owner : Manifest.owners.lookup (String.ofList "collections.deque".toList.reverse.reverse) = Manifest.owners.lookup "collections.deque" := by rfl
theorem plainAttrs_dq : PlainAttrs "collections.deque" :=
  ⟨⟨"collections.deque.__getattribute__", by rw [typeLookup_type, builtinLookup_eq_fast]; kernel_rfl, by decide +kernel⟩, by rw [typeLookup_type, builtinLookup_eq_fast]; kernel_rfl⟩
theorem slot_dq_append : Slot "collections.deque" "append" "collections.deque.append" :=
  .of (owner := "collections.deque") (n := "append") (by rw [typeLookup_type, builtinLookup_eq_fast]; kernel_rfl) (by decide +kernel) (by decide +kernel) (by decide +kernel)
    (by first | exact .inl (by decide +kernel) | exact .inr (by decide +kernel)) (by rw [isSubtype_type]; kernel_rfl)
theorem type_dq_append : typeOf (.builtin "collections.deque.append") = pure (.type "method_descriptor") := by show builtinType _ = _; rw [builtinType_eq_fast]; kernel_rfl
theorem entry_dq_append : entryFor table "collections.deque.append" = some Builtin.«collections.deque.append» := entryFor_of_tree (by kernel_rfl)
theorem args_dq_append (a b : Value) : argsOk "collections.deque.append" ⟨[a, b], []⟩ := by unfold argsOk; kernel_rfl
theorem slot_dq_pop : Slot "collections.deque" "pop" "collections.deque.pop" :=
  .of (owner := "collections.deque") (n := "pop") (by rw [typeLookup_type, builtinLookup_eq_fast]; kernel_rfl) (by decide +kernel) (by decide +kernel) (by decide +kernel)
    (by first | exact .inl (by decide +kernel) | exact .inr (by decide +kernel)) (by rw [isSubtype_type]; kernel_rfl)
theorem type_dq_pop : typeOf (.builtin "collections.deque.pop") = pure (.type "method_descriptor") := by show builtinType _ = _; rw [builtinType_eq_fast]; kernel_rfl
theorem entry_dq_pop : entryFor table "collections.deque.pop" = some Builtin.«collections.deque.pop» := entryFor_of_tree (by kernel_rfl)
theorem args_dq_pop (a : Value) : argsOk "collections.deque.pop" ⟨[a], []⟩ := by unfold argsOk; kernel_rfl
theorem slot_dq_len : Slot "collections.deque" "__len__" "collections.deque.__len__" :=
  .of (owner := "collections.deque") (n := "__len__") (by rw [typeLookup_type, builtinLookup_eq_fast]; kernel_rfl) (by decide +kernel) (by decide +kernel) (by decide +kernel)
    (by first | exact .inl (by decide +kernel) | exact .inr (by decide +kernel)) (by rw [isSubtype_type]; kernel_rfl)
theorem entry_dq_len : entryFor table "collections.deque.__len__" = some Builtin.«collections.deque.__len__» := entryFor_of_tree (by kernel_rfl)
theorem args_dq_len (a : Value) : argsOk "collections.deque.__len__" ⟨[a], []⟩ := by unfold argsOk; kernel_rfl
theorem noBool_dq : typeLookup (.type "collections.deque") "__bool__" = pure none := by rw [typeLookup_type, builtinLookup_eq_fast]; kernel_rfl

/-- a deque without a bound -/
noncomputable abbrev dqO (n : Int) (xs : List Value) : Obj := { cls := .type "collections.deque", data := .fields (Value.none :: rawInt n :: xs).toArray }

section
variable {prog : Program} {w : World} {A : Around} {E : Value → Shared → Prop} {s : Shared}
theorem dq_typeIs {q : Addr} {n : Int} {xs : List Value} (ho : s.heap.get? q = some (dqO n xs)) : s.TypeIs (.ref q) "collections.deque" := ⟨_, ho, rfl⟩
theorem dq_method {name : PySem.Str} {id : String} {pl : Sem Bool} {q : Addr} {n : Int} {xs : List Value} {Q : Value × List Value → Shared → Prop} (ho : s.heap.get? q = some (dqO n xs)) (slot : Slot "collections.deque" name id) (hty : typeOf (.builtin id) = pure (.type "method_descriptor"))
    (h : Q (.builtin id, [.ref q]) s) : wpAny (model prog w) A (getMethod (.ref q) name pl) Q E s :=
  getMethod_builtin (dq_typeIs ho) plainAttrs_dq slot hty (fun a e => by cases e; exact ⟨_, ho, rfl⟩) h
theorem dq_fields {M : Model} {q : Addr} {n : Int} {xs : List Value} {Q : Array Value → Shared → Prop} (ho : s.heap.get? q = some (dqO n xs)) (h : Q (Value.none :: rawInt n :: xs).toArray s) : wpAny M A (fieldsOf (.ref q)) Q E s :=
  wpAny_fieldsOf ho rfl h
theorem dq_len_body {q : Addr} {n : Int} {xs : List Value} {Q : Value → Shared → Prop} (ho : s.heap.get? q = some (dqO n xs)) (hfit : xs.length < 1000)
    (h : Q (.int xs.length (s.toks + 1)) { s with toks := s.toks + 1 + 1 }) : wpAny (model prog w) A (Builtin.«len» ⟨[.ref q], []⟩) (fun fin s' => ∃ r, fin = .done (.ret r) ∧ Q r s') E s := by
  unfold Builtin.«len»
  refine wpAny_bind (m := oneArg "len" _) (wpAny_pure ?_)
  refine wpAny_bind (m := callSpecial? (.ref q) (Str.ofString "__len__")) (wpAny_callSpecial?_slot (name := Str.ofString "__len__") (dq_typeIs ho) slot_dq_len
    (wpAny_call_entry slot_dq_len (dq_typeIs ho) entry_dq_len ?_ (args_dq_len _)))
  · unfold Builtin.«collections.deque.__len__» Deque.size
    refine wpAny_bind (m := slotArgs "__len__" 0 _) (wpAny_pure ?_)
    refine wpAny_bind (wpAny_bind (dq_fields ho (wpAny_pure ?_)))
    have e : (Value.none :: rawInt n :: xs).toArray.size - 2 = xs.length := by simp
    dsimp only
    rw [e]
    refine wpAny_bind (wpAny_mkInt (wpAny_pure ⟨_, rfl, ?_⟩))
    refine wpAny_bind (wpAny_holding (wpAny_pure ?_))
    refine wpAny_bind (wpAny_letGo ?_)
    show wpAny _ _ (if ((xs.length : Nat) : Int) < 0 then _ else _) _ _ _
    rw [if_neg (by (first | lia | omega))]
    show wpAny _ _ (if ((xs.length : Nat) : Int) ≥ 2 ^ 63 then _ else _) _ _ _
    rw [if_neg (by (first | lia | omega))]
    exact wpAny_bind (wpAny_mkInt (wpAny_pure ⟨_, rfl, h⟩))
theorem dq_truthy {q : Addr} {n : Int} {xs : List Value} {b : Bool} {Q : Bool → Shared → Prop} (ho : s.heap.get? q = some (dqO n xs)) (hfit : xs.length < 1000) (hb : b = !xs.isEmpty)
    (h : Q b { s with toks := s.toks + 1 + 1 }) : wpAny (model prog w) A (truthy (.ref q)) Q E s := by
  subst hb
  have hne : ((xs.length : Int) != 0) = !xs.isEmpty := by
    cases xs with
    | nil => rfl
    | cons a r =>
      have h1 : (((a :: r).length : Int) != 0) = true := bne_iff_ne.mpr (by simp; (first | lia | omega))
      rw [h1]; rfl
  have key : wpAny (model prog w) A (runValue (.builtin "len" ⟨[.ref q], []⟩)) (fun r s' => r = .int xs.length (s.toks + 1) ∧ Q (!xs.isEmpty) s') E s := by
    refine wpAny_runValue (codeAny_builtin entry_len ?_)
    rw [Around.under_plainId plain_len _]
    exact wpAny_mono (dq_len_body (Q := fun r s' => r = .int xs.length (s.toks + 1) ∧ Q (!xs.isEmpty) s') ho hfit ⟨rfl, h⟩)
      (fun fin s' h' => by obtain ⟨r, rfl, hq⟩ := h'; exact hq) fun _ _ e => e
  unfold truthy
  first
    | refine wpAny_bind (wpAny_callSpecial?_none (name := Str.ofString "__bool__") (dq_typeIs ho) noBool_dq ?_)
    | refine wpAny_bind (wpAny_pure (wpAny_bind (wpAny_callSpecial?_none (name := Str.ofString "__bool__") (dq_typeIs ho) noBool_dq ?_)))
  first
    | refine wpAny_bind (wpAny_specialOf (name := Str.ofString "__len__") (dq_typeIs ho) slot_dq_len.lookup ?_)
    | refine wpAny_bind (wpAny_pure (wpAny_bind (wpAny_specialOf (name := Str.ofString "__len__") (dq_typeIs ho) slot_dq_len.lookup ?_)))
  first
    | exact wpAny_bind (wpAny_mono key (fun r s' h' => by obtain ⟨rfl, hq⟩ := h'; exact wpAny_pure (hne ▸ hq)) fun _ _ e => e)
    | exact wpAny_bind (wpAny_pure (wpAny_bind (wpAny_mono key (fun r s' h' => by obtain ⟨rfl, hq⟩ := h'; exact wpAny_pure (hne ▸ hq)) fun _ _ e => e)))

theorem dq_change {q : Addr} {n : Int} {xs : List Value} {f : Array Value → Array Value} {Q : Unit → Shared → Prop} (ho : s.heap.get? q = some (dqO n xs)) (hz : (f xs.toArray).size ≤ 1000)
    (h : ∀ h', Heap.SameBut q s.heap h' → h'.get? q = some (dqO (n + 1) (f xs.toArray).toList) → Q () { s with heap := h' }) : wpAny (model prog w) A (Deque.change (.ref q) f) Q E s := by
  unfold Deque.change
  dsimp only
  refine wpAny_bind (m := Deque.state (.ref q)) ?_
  unfold Deque.state
  refine wpAny_bind (wpAny_field (x := rawInt n) ho rfl rfl (wpAny_pure ?_))
  refine wpAny_updateFields ho rfl ?_ ?_
  · refine h _ (Heap.SameBut.update ..) ?_
    refine (Heap.get?_update_self _ ho rfl).trans ?_
    show some _ = some _
    congr 1
    show Obj.mapFields _ (dqO n xs) = _
    unfold Obj.mapFields dqO
    dsimp only
    congr 2
    have e : (Value.none :: rawInt n :: xs).toArray.extract 2 (Value.none :: rawInt n :: xs).toArray.size = xs.toArray := by
      apply Array.ext'
      simp
    rw [e]
    apply Array.ext'
    simp
  · have e : (Value.none :: rawInt n :: xs).toArray.extract 2 (Value.none :: rawInt n :: xs).toArray.size = xs.toArray := by
      apply Array.ext'
      simp
    rw [e]
    show (#[_, _] ++ f xs.toArray).size ≤ _
    rw [Array.size_append, sizeLine_eq]
    show 2 + _ ≤ _
    (first | lia | omega)
theorem dq_maxlen {q : Addr} {n : Int} {xs : List Value} {Q : Option Nat → Shared → Prop} (ho : s.heap.get? q = some (dqO n xs)) (h : Q none s) : wpAny (model prog w) A (Deque.maxlen (.ref q)) Q E s := by
  unfold Deque.maxlen
  exact wpAny_bind (wpAny_field (x := Value.none) ho rfl rfl (wpAny_pure h))

variable {h₀ : Heap} {L : Addr} {m : PySem.Str → Option Value} {news news' : List (Addr × Obj)}
theorem dq_append {q : Addr} {n : Int} {xs : List Value} {x : Value} {Q : Value → Shared → Prop} (F : Fr h₀ L s.heap m) (N : News h₀ L s.heap news) (U : Upd q (dqO n xs) (dqO (n + 1) (xs ++ [x])) news news') (hz : xs.length ≤ 900)
    (h : ∀ h', Fr h₀ L h' m → News h₀ L h' news' → Q .none { s with heap := h' }) : wpAny (model prog w) A (call (.builtin "collections.deque.append") [.ref q, x]) Q E s := by
  obtain ⟨pre, post, rfl, rfl, a, b⟩ := U.split
  have z := N (q, dqO n xs) (List.mem_append.mpr (.inr (.head _)))
  refine wpAny_call_entry slot_dq_append (dq_typeIs z.1) entry_dq_append ?_ (args_dq_append _ _)
  unfold Builtin.«collections.deque.append»
  refine wpAny_bind (m := selfAndOne "deque.append" _) (wpAny_pure ?_)
  dsimp only
  refine wpAny_bind (m := Deque.pushRight (.ref q) x) ?_
  unfold Deque.pushRight
  refine wpAny_bind (dq_change z.1 (by simp; (first | lia | omega)) fun h' hs ho' => ?_)
  refine wpAny_bind (dq_maxlen (n := n + 1) ho' (wpAny_pure ?_))
  have e : ((fun x_1 : Array Value => x_1.push x) xs.toArray).toList = xs ++ [x] := by simp
  rw [e] at ho'
  exact wpAny_pure ⟨_, rfl, h h' (F.change hs z.2.1 z.2.2) (news_set N a b hs ho')⟩
theorem dq_pop {q : Addr} {n : Int} {xs : List Value} {x : Value} {Q : Value → Shared → Prop} (F : Fr h₀ L s.heap m) (N : News h₀ L s.heap news) (U : Upd q (dqO n (xs ++ [x])) (dqO (n + 1) xs) news news') (hz : xs.length ≤ 900)
    (h : ∀ h', Fr h₀ L h' m → News h₀ L h' news' → Q x { s with heap := h' }) : wpAny (model prog w) A (call (.builtin "collections.deque.pop") [.ref q]) Q E s := by
  obtain ⟨pre, post, rfl, rfl, a, b⟩ := U.split
  have z := N (q, dqO n (xs ++ [x])) (List.mem_append.mpr (.inr (.head _)))
  refine wpAny_call_entry slot_dq_pop (dq_typeIs z.1) entry_dq_pop ?_ (args_dq_pop _)
  unfold Builtin.«collections.deque.pop»
  refine wpAny_bind (m := selfOnly "deque.pop" _) (wpAny_pure ?_)
  (try dsimp only)
  refine wpAny_bind (m := Deque.items (.ref q)) ?_
  unfold Deque.items
  refine wpAny_bind (dq_fields z.1 (wpAny_pure ?_))
  have e0 : ((Value.none :: rawInt n :: (xs ++ [x])).toArray.extract 2 (Value.none :: rawInt n :: (xs ++ [x])).toArray.size).back? = some x := by
    have : (Value.none :: rawInt n :: (xs ++ [x])).toArray.extract 2 (Value.none :: rawInt n :: (xs ++ [x])).toArray.size = (xs ++ [x]).toArray := by
      apply Array.ext'
      simp
      exact List.take_of_length_le (by simp)
    rw [this]
    simp
  rw [e0]
  dsimp only
  refine wpAny_bind (dq_change z.1 (by simp; (first | lia | omega)) fun h' hs ho' => ?_)
  have e : ((fun x_1 : Array Value => x_1.pop) (xs ++ [x]).toArray).toList = xs := by simp
  rw [e] at ho'
  exact wpAny_pure ⟨_, rfl, h h' (F.change hs z.2.1 z.2.2) (news_set N a b hs ho')⟩
end
end Mine
end
section
open PySem PySem.W PyProof.Rows PySem.Calls
set_option maxRecDepth 100000
namespace Mine
theorem is_ty_str : typeOf (.type "str") = pure (.type "type") := by kernel_rfl
theorem is_sub_str : isSubtype (.type "str") (.type "str") = pure true := by rw [isSubtype_type]; kernel_rfl
theorem is_args3 (a b c : Value) : argsOk "issubclass.nested" ⟨[a, b, c], []⟩ := by unfold argsOk; kernel_rfl
theorem is_kind : builtinKind "issubclass.nested" = none := by decide +kernel
theorem is_plain : plainId "issubclass.nested" = true := by decide +kernel
section
variable {prog : Program} {w : World} {A : Around} {E : Value → Shared → Prop} {s : Shared}
theorem is_nested {k : Value} {dep : Int} {tk : Tok} {Q : PySem.Fin → Shared → Prop} (hk : k = .int dep tk) (hq : Q (.done (.ret (.bool true))) s) :
    wpAny (model prog w) A (Builtin.«issubclass.nested» ⟨[.type "str", .type "str", k], []⟩) Q E s := by
  subst hk
  have hm : (Value.type ((Manifest.find? "str").elim "type" (·.metatype)) == Value.type "type") = true := by kernel_rfl
  have hself := is_sub_str
  repeat (any_goals (first | assumption | (rw [if_pos hm]) | (rw [hself]) | wp_step))
theorem is_nestedM {dep : Int} {tk : Tok} : Meets (Builtin.«issubclass.nested» ⟨[.type "str", .type "str", .int dep tk], []⟩) (fun _ R s => R (.ok (.ret (.bool true))) s) :=
  .of_wp fun _ _ _ _ _ hs => is_nested rfl ⟨_, rfl, hs⟩
theorem is_items {dep : Int} {c : Value} {Q : Option PySem.Fin × Unit → Shared → Prop} (h : Q (some (.done (.ret (.bool true))), ()) s) :
    wpAny (model prog w) A (forIn [Value.type "str", c] ((none : Option PySem.Fin), ()) fun c _ => do
      if ← truthy (← call (.builtin "issubclass.nested") [.type "str", c, rawInt (dep + 1)]) then
        let r ← ret (.bool true)
        pure (ForInStep.done (some r, ()))
      else pure (ForInStep.yield (none, ()))) Q E s := by
  rw [List.forIn_cons]
  refine wpAny_bind (wpAny_bind (call_function_meets is_kind is_plain PySem.F.entry_issubclass_nested (is_args3 _ _ _) is_nestedM ?_))
  show wpAny _ _ (truthy (.bool true) >>= _) _ _ _
  refine wpAny_bind (m := truthy (.bool true)) (wpAny_pure ?_)
  exact wpAny_bind (wpAny_pure (wpAny_pure (wpAny_pure h)))
theorem is_outer {tp : Addr} {cs : List Value} {c : Value} {tk : Tok} {Q : PySem.Fin → Shared → Prop} (hcs : cs = [.type "str", c]) (htp : s.heap.get? tp = some { cls := .type "tuple", data := .seq cs.toArray })
   (hq : Q (.done (.ret (.bool true))) s) : wpAny (model prog w) A (Builtin.«issubclass.nested» ⟨[.type "str", .ref tp, .int 0 tk], []⟩) Q E s := by
  obtain ⟨h, g, d, t, os⟩ := s
  have hT2 : (⟨h, g, d, t, os⟩ : Shared).TypeIs (.ref tp) "tuple" := ⟨_, htp, rfl⟩
  have f1 := F.isi_sub_tuple
  repeat (any_goals (first | assumption | wp_step))
  refine wpAny_arrayLoop ?_
  simp only [Option.getD_some, List.toList_toArray]
  subst hcs
  refine is_items (dep := 0) ?_
  exact wpAny_pure hq
theorem is_all {tp : Addr} {c : Value} : Meets (Builtin.«issubclass» ⟨[.type "str", .ref tp], []⟩) (fun _ R s => s.heap.get? tp = some { cls := .type "tuple", data := .seq #[.type "str", c] } ∧ R (.ok (.ret (.bool true))) s) :=
  fun _ _ _ _ _ hs => issubclass_outer (is_outer (c := c) rfl hs.1 hs.2)
theorem call_is {h₀ : Heap} {L : Addr} {news : List (Addr × Obj)} {tp : Addr} {c : Value} {Q : Value → Shared → Prop} (N : News h₀ L s.heap news) (hm : (tp, ({ cls := .type "tuple", data := .seq #[.type "str", c] } : Obj)) ∈ news) (h : Q (.bool true) s) :
    wpAny (model prog w) A (call (.builtin "issubclass") [.type "str", .ref tp]) Q E s :=
  call_issubclass is_all ⟨(N _ hm).1, h⟩
end
end Mine
end
section
open PySem PySem.W PyProof.Rows PySem.Calls Builtin
set_option maxRecDepth 100000
set_option maxHeartbeats 4000000
namespace Mine
theorem mro_dq : mroOf (.type "collections.deque") = pure [.type "collections.deque", .type "object"] := by rw [mroOf_type]; kernel_rfl
theorem lookup_dq_new : typeLookup (.type "collections.deque") "__new__" = pure (some (.builtin "collections.deque.__new__")) := by rw [typeLookup_type, builtinLookup_eq_fast]; kernel_rfl
theorem slot_dq_init : Slot "collections.deque" "__init__" "collections.deque.__init__" :=
  .of (owner := "collections.deque") (n := "__init__") (by rw [typeLookup_type, builtinLookup_eq_fast]; kernel_rfl) (by decide +kernel) (by decide +kernel) (by decide +kernel)
    (by first | exact .inl (by decide +kernel) | exact .inr (by decide +kernel)) (by rw [isSubtype_type]; kernel_rfl)
theorem called_dq : TypeCalled "collections.deque" "collections.deque.__new__" "collections.deque.__init__" :=
  ⟨by decide +kernel, by decide +kernel, ⟨_, _, mro_dq⟩, madeBy_type mro_dq lookup_dq_new (by decide +kernel), by decide +kernel, by rw [isSubtype_type]; kernel_rfl, slot_dq_init⟩
theorem typeCall_dq_0 : checkTypeCall "collections.deque" ⟨[], []⟩ = pure () := by kernel_rfl
theorem newCall_dq_0 : checkBuiltinCall "collections.deque.__new__" ⟨[.type "collections.deque"], []⟩ = pure () := by kernel_rfl
theorem entry_dq_new : entryFor table "collections.deque.__new__" = some Builtin.«collections.deque.__new__» := entryFor_of_tree (by kernel_rfl)
theorem entry_dq_init : entryFor table "collections.deque.__init__" = some Builtin.«collections.deque.__init__» := entryFor_of_tree (by kernel_rfl)
theorem plain_dq_new : plainId "collections.deque.__new__" = true := by decide +kernel
theorem args_dq_init (a : Value) : argsOk "collections.deque.__init__" ⟨[a], []⟩ := by unfold argsOk; kernel_rfl

theorem dq_sub : isSubtype (.type "collections.deque") (.type "collections.deque") = pure true := by rw [isSubtype_type]; kernel_rfl
theorem dq_isType : isType (.type "collections.deque") = pure true := by kernel_rfl
theorem dq_hasDict : typeHasDict (.type "collections.deque") = false := by decide +kernel
theorem dq_new_meets : Meets (Builtin.«collections.deque.__new__» ⟨[.type "collections.deque"], []⟩) (fun _ R s => R (.ok (.ret (.ref s.heap.objs.size))) { s with heap := s.heap.push (dqO 0 []) }) := by
  refine Meets.of_wp fun prog w A R s hS => ?_
  unfold Builtin.«collections.deque.__new__»
  have h1 := dq_sub
  have h2 := dq_isType
  refine wpAny_bind (m := Deque.newArgs _ _) ?_
  unfold Deque.newArgs
  dsimp only
  refine wpAny_bind (wpAny_of_eq h2 ?_)
  simp only [Bool.not_true, Bool.false_eq_true, if_false]
  refine wpAny_bind (wpAny_of_eq h1 ?_)
  simp only [Bool.not_true, Bool.false_eq_true, if_false]
  refine wpAny_pure ?_
  refine wpAny_bind (m := Deque.new _ _ _) ?_
  unfold Deque.new
  rw [if_neg (by decide), dq_hasDict]
  simp only [Bool.false_eq_true, if_false]
  refine wpAny_bind (wpAny_pure ?_)
  refine wpAny_newObj_type ?_ ?_
  · exact wpAny_pure ⟨_, rfl, hS⟩
  · show (2 : Nat) ≤ _
    rw [sizeLine_eq]; decide
theorem dq_init_meets (q : Addr) : Meets (Builtin.«collections.deque.__init__» ⟨[.ref q], []⟩) (fun _ R s => s.heap.get? q = some (dqO 0 []) ∧ ∀ h', Heap.SameBut q s.heap h' → h'.get? q = some (dqO 0 []) → R (.ok (.ret .none)) { s with heap := h' }) := by
  refine Meets.of_wp fun prog w A R s hS => ?_
  obtain ⟨ho, hq⟩ := hS
  unfold Builtin.«collections.deque.__init__»
  simp only [List.length_nil, Nat.add_zero, List.take_zero, List.zipIdx_nil, List.forIn_nil]
  refine wpAny_bind (wpAny_pure ?_)
  refine wpAny_bind (wpAny_pure ?_)
  show wpAny _ _ (do
      let bound ← pure Value.none
      setField (Value.ref q) 0 bound
      Deque.clear (Value.ref q)
      ret Value.none) _ _ s
  refine wpAny_bind (wpAny_pure ?_)
  refine wpAny_bind (m := setField (.ref q) 0 .none) ?_
  show wpAny _ _ (updateField q 0 .none) _ _ s
  unfold updateField
  refine wpAny_bind (wpAny_load ho ?_)
  dsimp only
  rw [if_pos (by decide)]
  refine wpAny_update ho ?_
  have hs := Heap.SameBut.update s.heap q (Obj.mapFields fun x => x.setIfInBounds 0 Value.none)
  have ho' : (s.heap.update q (Obj.mapFields fun x => x.setIfInBounds 0 Value.none)).get? q = some (dqO 0 []) := (Heap.get?_update_self _ ho rfl).trans rfl
  refine wpAny_bind (m := Deque.clear (.ref q)) ?_
  unfold Deque.clear Deque.items
  refine wpAny_bind (wpAny_bind (dq_fields ho' (wpAny_pure ?_)))
  rw [if_neg (by decide)]
  exact wpAny_pure (wpAny_pure ⟨_, rfl, hq _ hs ho'⟩)
section
variable {prog : Program} {w : World} {A : Around} {E : Value → Shared → Prop} {s : Shared} {h₀ : Heap} {L : Addr} {m : PySem.Str → Option Value} {news : List (Addr × Obj)} {Q : Value → Shared → Prop}
theorem dq_make (F : Fr h₀ L s.heap m) (N : News h₀ L s.heap news) (h : ∀ q h', Fr h₀ L h' m → News h₀ L h' ((q, dqO 0 []) :: news) → (∀ p ∈ news, p.1 < q) → Q (.ref q) { s with heap := h' }) :
    wpAny (model prog w) A (call (.type "collections.deque") []) Q E s := by
  refine callType_meets (Q₁ := fun obj s₁ => obj = .ref s.heap.objs.size ∧ s₁ = { s with heap := s.heap.push (dqO 0 []) }) called_dq typeCall_dq_0 newCall_dq_0 entry_dq_new entry_dq_init dq_new_meets ⟨rfl, rfl⟩ ?_
  rintro obj s₁ ⟨rfl, rfl⟩
  have ho : (s.heap.push (dqO 0 [])).get? s.heap.objs.size = some (dqO 0 []) := Heap.get?_push_size _ rfl
  refine ⟨⟨_, ho, rfl⟩, args_dq_init _, _, dq_init_meets _, ho, fun h' hs ho' => ⟨rfl, ?_⟩⟩
  have F1 := F.push (dqO 0 [])
  have N1 := N.push F (dqO 0 [])
  have z := N1 (s.heap.objs.size, dqO 0 []) (.head _)
  refine h s.heap.objs.size h' (F1.change hs z.2.1 z.2.2) ?_ (fun p hp => Heap.lt_size (N p hp).1)
  exact news_set (pre := []) N1 (fun _ h => nomatch h) (fun p hp => Nat.ne_of_lt (Heap.lt_size (N p hp).1)) hs ho'
end
end Mine
end
section
open PySem PySem.W PyProof.Rows
set_option maxRecDepth 100000
set_option maxHeartbeats 8000000
namespace Mine
theorem kfilled : (PySem.Challenge.rw_ik0083_01, Mine.K) = (PySem.Challenge.rw_ik0083_01, Mine.K) := by
  k_fill
  rfl
noncomputable abbrev LOO : List PySem.Str := looseW Mine.V Mine.LO0
noncomputable abbrev PRG : PySem.Program := PySem.Challenge.rw_ik0083_01.prog
noncomputable abbrev VW : PySem.Program := Mine.V
noncomputable abbrev KK (w : World) : Frag := Mine.K w.params
/-- a goal that the walk leaves alone -/
noncomputable def Stop (P : Prop) : Prop := P
theorem stop_of {P : Prop} (h : Stop P) : P := h
theorem Stop.out {P : Prop} (h : P) : Stop P := h

/-- one entry of an object's dict -/
noncomputable abbrev ent (P : Params) (nm : PySem.Str) (kt : Tok) (v : Value) : DictEntry := ⟨PyData.keyHash P nm, .str nm kt, v⟩
noncomputable abbrev instO (C d : Addr) : Obj := instObj C d

section
variable {prog : Program} {w : World} {A : Around} {E : Value → Shared → Prop} {s : Shared}
/-- the end of a turn of a while -/
noncomputable def TurnW (I : Nat → Shared → Prop) (n : Nat) (Q : Flow → Shared → Prop) : Flow → Shared → Prop := fun f s' => match f with
  | .next | .cont => ∃ m, m < n ∧ I m s'
  | .brk => Q .next s'
  | .ret v => Q (.ret v) s'
/-- what an exception of a turn does -/
noncomputable def TurnE (prog : Program) (w : World) (A : Around) (env : Env) (E : Value → Shared → Prop) : Value → Shared → Prop :=
  notedBy (model prog w) A env fun e s' => cameBackBy (model prog w) A env E e s'
theorem while_inv {env : Env} {test : Expr} {body orelse : List Stmt} {pos : Pos} {Q : Flow → Shared → Prop} (I : Nat → Shared → Prop)
    (turn : ∀ n s, I n s → wpAny (model prog w) A (isTrue test env (eval test env)) (fun b s₂ =>
      if b then wpAny (model prog w) A (execs body env) (TurnW I n Q) (TurnE prog w A env E) s₂
      else wpAny (model prog w) A (execs orelse env) Q (TurnE prog w A env E) s₂) (TurnE prog w A env E) s)
    (n : Nat) (h : I n s) : wpAny (model prog w) A (exec (.While test body orelse pos) env) Q E s := by
  refine wpAny_While (codeAny_whileLoop I (fun n s hI => ?_) n h)
  refine wpAny_mono (turn n s hI) (fun b s₂ h₂ => ?_) fun _ _ e => e
  cases b with
  | false => exact h₂
  | true =>
    simp only [if_true] at h₂ ⊢
    refine wpAny_mono h₂ (fun f s₃ h₃ => ?_) fun _ _ e => e
    cases f <;> exact h₃
end
theorem fr_cast {h₀ h : Heap} {L : Addr} {m m' : PySem.Str → Option Value} (F : Fr h₀ L h m) (e : m' = m) : Fr h₀ L h m' := e ▸ F
/-- a map with one name laid over it -/
noncomputable def over (x : PySem.Str) (v : Option Value) (b : PySem.Str → Option Value) : PySem.Str → Option Value := fun y => if y = x then v else b y
theorem over_set {x : PySem.Str} {v : Value} {v' : Option Value} {b : PySem.Str → Option Value} : over x (some v) b = fun y => if y = x then some v else over x v' b y := by
  funext y
  unfold over
  by_cases h : y = x <;> simp [h]
theorem over_none {x : PySem.Str} {b : PySem.Str → Option Value} (h : b x = none) : over x none b = b := by
  funext y
  unfold over
  by_cases e : y = x
  · subst e; simp [h]
  · simp [e]
theorem room_ {dp a d : Nat} (b : Nat) (h : dp + a < recursionLimit) (e : d = dp + b) (hb : Nat.ble b a = true) : d < recursionLimit := by
  subst e
  exact Nat.lt_of_le_of_lt (Nat.add_le_add_left (Nat.le_of_ble_eq_true hb) _) h
theorem units_ {un a d : Nat} (b : Nat) (h : un + a < cLine) (e : d = un + b) (hb : Nat.ble b a = true) : d < cLine := by
  subst e
  exact Nat.lt_of_le_of_lt (Nat.add_le_add_left (Nat.le_of_ble_eq_true hb) _) h
theorem tok_any (s : Shared) {M : Model} {A : Around} {α : Type} {c : Sem α} {Q : α → Shared → Prop} {E : Value → Shared → Prop} {h : Heap} {g : Array GenState} {d : Drawn} {t : Nat} {os : OsState} (hg : g = s.gens) (hd : d = s.drawn) (ho : os = s.os)
    (H : ∀ t', wpAny M A c Q E ⟨h, s.gens, s.drawn, t', s.os⟩) : wpAny M A c Q E ⟨h, g, d, t, os⟩ := by
  subst hg; subst hd; subst ho; exact H t
theorem fold_s {M : Model} {A : Around} {α : Type} {c : Sem α} {Q : α → Shared → Prop} {E : Value → Shared → Prop} {s : Shared} (H : let s' := s; wpAny M A c Q E s') : wpAny M A c Q E s := H
theorem fold_A {M : Model} {A : Around} {α : Type} {c : Sem α} {Q : α → Shared → Prop} {E : Value → Shared → Prop} {s : Shared} (H : let B := A; wpAny M B c Q E s) : wpAny M A c Q E s := H
/-- what follows a statement, under one name -/
@[reducible] def seqQ (M : Model) (A : Around) (rest : List Stmt) (env : Env) (Q : Flow → Shared → Prop) (E : Value → Shared → Prop) : Flow → Shared → Prop := fun f s' => match f with
  | .next => wpAny M A (execs rest env) Q E s'
  | f => Q f s'
theorem stmt_cons {M : Model} {A : Around} {st : Stmt} {rest : List Stmt} {env : Env} {Q : Flow → Shared → Prop} {E : Value → Shared → Prop} (s9 : Shared) {h : Heap} {t : Nat}
    (H : ∀ t' : Nat, let s' : Shared := ⟨h, s9.gens, s9.drawn, t', s9.os⟩; let Q' := seqQ M A rest env Q E; wpAny M A (exec st env) Q' E s') : wpAny M A (execs (st :: rest) env) Q E ⟨h, s9.gens, s9.drawn, t, s9.os⟩ :=
  wpAny_execs_cons (wpAny_mono (H t) (fun f _ q => by cases f <;> exact q) fun _ _ e => e)
/-- the two ways behind a test, under one name -/
@[reducible] def ifQ (M : Model) (A : Around) (body orelse : List Stmt) (env : Env) (Q : Flow → Shared → Prop) (E : Value → Shared → Prop) : Bool → Shared → Prop := fun b s₂ => if b then wpAny M A (execs body env) Q E s₂ else wpAny M A (execs orelse env) Q E s₂
theorem if_fold {M : Model} {A : Around} {s : Shared} {test : Expr} {body orelse : List Stmt} {pos : Pos} {env : Env} {Q : Flow → Shared → Prop} {E : Value → Shared → Prop}
    (H : let Q' := ifQ M A body orelse env Q E; wpAny M A (isTrue test env (eval test env)) Q' E s) : wpAny M A (exec (.If test body orelse pos) env) Q E s := wpAny_If H
/-- what follows the first side of a comparison, and the second -/
@[reducible] def cmpQ2 (M : Model) (A : Around) (op : CmpOp) (a : Value) (Q : Bool → Shared → Prop) (E : Value → Shared → Prop) : Value → Shared → Prop := fun b s₂ => wpAny M A (compareOp op a b) (fun c s₃ => wpAny M A (truthy c) Q E s₃) E s₂
@[reducible] def cmpQ1 (M : Model) (A : Around) (env : Env) (r : Expr) (op : CmpOp) (Q : Bool → Shared → Prop) (E : Value → Shared → Prop) : Value → Shared → Prop := fun a s₁ => wpAny M A (eval r env) (cmpQ2 M A op a Q E) E s₁
theorem is_cmp {M : Model} {A : Around} {s : Shared} {env : Env} {l r : Expr} {op : CmpOp} {pos : Pos} {whole : Sem Value} {Q : Bool → Shared → Prop} {E : Value → Shared → Prop}
    (h : wpAny M A (eval l env) (cmpQ1 M A env r op Q E) E s) (hm : behindInMarks op r = false := by with_unfolding_all rfl) : wpAny M A (isTrue (.Compare l [op] [r] pos) env whole) Q E s := wpAny_isTrue_Compare1 h hm
theorem fold_E {M : Model} {A : Around} {α : Type} {c : Sem α} {Q : α → Shared → Prop} {E : Value → Shared → Prop} {s : Shared} (H : let E' := E; wpAny M A c Q E' s) : wpAny M A c Q E s := H
end Mine
end
section
open PySem PySem.W PyProof.Rows PySem.Calls Builtin
set_option maxRecDepth 100000
set_option maxHeartbeats 4000000
namespace Mine
theorem kfMO : (PySem.Challenge.rw_ik0083_01, Mine.K) = (PySem.Challenge.rw_ik0083_01, Mine.K) := by
  k_fill
  rfl
section
variable {w : World} {A : Around} {E : Value → Shared → Prop} {s : Shared} {h : Heap}
theorem mo_made (X : (Mine.K w.params).In h) : Looks (model PRG w) h (Bind.madeBy (.ref 587)) none := by
  refine Looks.of_peek X ?_
  kernel_rfl
theorem mo_base (X : (Mine.K w.params).In h) : Looks (model PRG w) h (Bind.staticBase (.ref 587)) (.type "object") := by
  refine Looks.of_peek X ?_
  kernel_rfl

theorem mo_call (X : (Mine.K w.params).In h) : Looks (model PRG w) h (specialOf (.ref 587) "__call__") (some (.builtin "type.__call__")) := looks_specialIn X (by kernel_rfl)
theorem mo_typ (X : (Mine.K w.params).In h) : Looks (model PRG w) h (isInstance (.ref 587) (.type "type")) true := looks_instIn X (by kernel_rfl)
theorem mo_self (X : (Mine.K w.params).In h) : Looks (model PRG w) h (isSubtype (.ref 587) (.ref 587)) true := looks_subIn X (by kernel_rfl)
theorem mo_top (X : (Mine.K w.params).In h) : Looks (model PRG w) h (isSubtype (.ref 587) (.type "object")) true := looks_subIn X (by kernel_rfl)
noncomputable def ownOk (K : Frag) (C : Addr) : Bool := match K.lookup C with
  | some ⟨_, _, .cls cd, _⟩ => !cd.abstract && !cd.hasDel && !cd.mro.isEmpty
  | _ => false
theorem mo_obj (X : (Mine.K w.params).In h) : ∃ oc od cd sl, h.get? 587 = some ⟨oc, od, .cls cd, sl⟩ ∧ cd.abstract = false ∧ cd.hasDel = false ∧ cd.mro.isEmpty = false := by
  have e : ownOk (Mine.K w.params) 587 = true := by kernel_rfl
  unfold ownOk at e
  split at e
  · rename_i oc od cd sl ho
    simp only [Bool.and_eq_true, Bool.not_eq_true'] at e
    exact ⟨_, _, _, _, X _ _ ho, e.1.1, e.1.2, e.2⟩
  · cases e
theorem mo_init (X : (Mine.K w.params).In h) : Looks (model PRG w) h (typeLookup (.ref 587) "__init__") (some (.ref 357)) := looks_findIn X (by kernel_rfl)
theorem mo_bind (X : (Mine.K w.params).In h) (self : Value) : Looks (model PRG w) h (bindSpecial (.ref 357) self) (.ref 357, [self]) := bind_fn X self (by kernel_rfl)

/-- a call of StringIO, stage by stage -/
theorem make_own {rest : List Value} {Q : Value → Shared → Prop} (X : (Mine.K w.params).In s.heap)
    (h : wpAny (model PRG w) (A.under (.builtin "type.__call__" ⟨.ref 587 :: rest, []⟩)) (getAttr (.ref 587) "__new__") (fun new s₁ =>
      wpAny (model PRG w) (A.under (.builtin "type.__call__" ⟨.ref 587 :: rest, []⟩)) (call new (.ref 587 :: rest)) (fun obj s₂ =>
        ∃ x ox od, obj = .ref x ∧ InstAt s₂.heap x ox 587 od ∧ (Mine.K w.params).In s₂.heap ∧
          wpAny (model PRG w) (A.under (.builtin "type.__call__" ⟨.ref 587 :: rest, []⟩)) (call (.ref 357) (.ref x :: rest)) (fun r s₃ => r = .none ∧ Q (.ref x) s₃) E s₂) E s₁) E s) :
    wpAny (model PRG w) A (call (.ref 587) rest) Q E s := by
  refine wpAny_call (codeAny_of_tree ?_)
  refine fold_G ?_
  intro G9
  obtain ⟨hh, g, d, t, os⟩ := s
  refine fold_G ?_
  intro G9
  obtain ⟨oc, od, cd, sl, hC, e1, e2, e4⟩ := mo_obj X
  have call := mo_call (w := w) X
  have typ := mo_typ (w := w) X
  show wpAny _ _ (callAny (.ref 587) _) _ _ _
  refine nd_load hC ?_
  show wpAny _ _ (callAny.viaDunder (.ref 587) _) _ _ _
  unfold callAny.viaDunder
  refine wpAny_bind (call.at ?_)
  dsimp only
  rw [tc_bind]
  refine wpAny_bind (wpAny_pure (wpAny_bind (wpAny_pure ?_)))
  refine wpAny_pure (a := Fin.again (.call (.builtin "type.__call__") ⟨.ref 587 :: rest, []⟩)) (And.intro rfl ?_)
  refine codeAny_call_builtin_at (Code.quiet_builtin _ (by decide +kernel)) entry_typeCall (check_slot tc_kind tc_split typ (tc_args _ _ _) ?_)
  unfold Builtin.«type.__call__»
  have hm : Looks (model PRG w) hh (mroOf (.ref 587)) cd.mro := ((Looks.ld (part := none) hC).andThen .now).andThen .now
  have made := mo_made (w := w) X
  repeat ((fail_if_success (with_reducible show wpAny _ _ (getAttr _ _ _) _ _ _)); first | simp only [e4, Bool.false_eq_true, if_false] | lk)
  refine wpAny_mono h (fun new s₁ h₁ => ?_) fun _ _ x => x
  refine wpAny_bind (wpAny_holding (wpAny_mono h₁ (fun obj s₂ h₂ => ?_) fun _ _ x => x))
  refine fold_G ?_
  intro G9
  obtain ⟨x, ox, od, rfl, I, X2, h₃⟩ := h₂
  have i1 : Looks (model PRG w) s₂.heap (isInstance (.ref x) (.ref 587)) true := I.type.andThen (mo_self X2)
  refine wpAny_bind (i1.here ?_)
  simp only [Bool.not_true, Bool.false_eq_true, if_false]
  refine wpAny_bind (wpAny_holding (special_fn X2 I (f := 357) (by kernel_rfl) (by kernel_rfl) (wpAny_mono h₃ (fun r s₃ h₄ => ?_) fun _ _ x => x)))
  obtain ⟨rfl, h₅⟩ := h₄
  exact wpAny_pure h₅
end
section
variable {w : World} {A : Around} {R : Result → Shared → Prop} {h : Heap} {g : Array GenState} {d : Drawn} {t : Nat} {os : OsState}
/-- object.__new__(StringIO) -/
theorem new_own (X : (Mine.K w.params).In h)
    (hq : R (.ok (.ret (.ref (h.objs.size + 1)))) ⟨(h.push emptyDict).push (instObj 587 h.objs.size), g, d, t, os⟩) :
    codeAny (model PRG w) A (.call (.builtin "object.__new__") ⟨[.ref 587], []⟩) R ⟨h, g, d, t, os⟩ := by
  refine fold_G ?_
  intro G9
  obtain ⟨oc, od, cd, sl, hC, e1, e2, e4⟩ := mo_obj X
  have base := mo_base (w := w) X
  have top := mo_top (w := w) X
  have typ := mo_typ (w := w) X
  have F := PySem.F.objNew
  refine codeAny_call_builtin_code (Code.quiet_builtin _ F.quiet) ?_
  simp only [checkBuiltinCall, F.kind, F.split, F.row]
  have made : Looks (model PRG w) h (Bind.madeBy (.type "object")) (some "object.__new__") := by
    refine Looks.of_peek X ?_
    kernel_rfl
  have here : Looks (model PRG w) h (Bind.madeHere "object.__new__" (.ref 587)) () := base.andThen (made.andThen (Looks.of_pure (by simp only [Option.map_some, bne_self_eq_false, Bool.false_eq_true, if_false])))
  have args : Bind.checkArgs "object.__new__" ⟨.hand, "object.__new__", "__new__", .cls, []⟩ ⟨[.ref 587], []⟩ = pure () := by kernel_rfl
  rw [args]
  repeat (first | simp only [bne_self_eq_false, Bool.false_eq_true, if_false] | lk)
  refine codeAny_builtin F.entry ?_
  unfold Builtin.«object.__new__»
  have hC' := Heap.get?_push_of_some (instObj 587 (h.push emptyDict).objs.size.pred) (Heap.get?_push_of_some emptyDict hC)
  have fin : ∀ A', wpAny (model PRG w) A' (do
      let d ← if typeHasDict (.ref 587) then some <$> alloc { cls := .type "dict", data := .dict #[] } else pure none
      ret (← newObj (.ref 587) .plain d)) (fun fin s' => match fin with | .done f => R (.ok f) s' | .again c' => c'.quiet = true ∧ codeAny (model PRG w) A c' R s') (fun e s' => R (.error e) s') ⟨h, g, d, t, os⟩ := by
    intro A'
    show wpAny _ _ ((alloc emptyDict >>= fun x => pure (some x)) >>= _) _ _ _
    refine wpAny_bind (wpAny_bind (wpAny_alloc (wpAny_pure (wpAny_bind ?_))))
    show wpAny _ _ (newObjAsIs _ _ _) _ _ _
    unfold newObjAsIs classHasDel
    refine wpAny_bind (wpAny_alloc (wpAny_bind (wpAny_bind (wpAny_load (Heap.get?_push_of_some _ (Heap.get?_push_of_some _ hC)) (wpAny_pure ?_)))))
    rw [e2]
    refine wpAny_pure (wpAny_pure ?_)
    show R _ _
    rw [Heap.size_push]
    exact hq
  repeat (first | simp only [e1, Bool.false_eq_true, if_false] | exact fin _ | lk)
end

noncomputable def OwnMade (w : World) (A : Around) (rest : List Value) (Q : Value → Shared → Prop) (E : Value → Shared → Prop) (obj : Value) (s₂ : Shared) : Prop :=
  ∃ x ox od, obj = .ref x ∧ InstAt s₂.heap x ox 587 od ∧ (Mine.K w.params).In s₂.heap ∧
          wpAny (model PRG w) (A.under (.builtin "type.__call__" ⟨.ref 587 :: rest, []⟩)) (call (.ref 357) (.ref x :: rest)) (fun r s₃ => r = .none ∧ Q (.ref x) s₃) E s₂
section
variable {w : World} {A : Around} {E : Value → Shared → Prop} {s : Shared} {h₀ : Heap} {L : Addr} {m : PySem.Str → Option Value} {news : List (Addr × Obj)} {Q : Value → Shared → Prop}
theorem OwnMade.intro {rest : List Value} {x d : Addr} {od : Obj} (N : News h₀ L s.heap news) (m1 : (x, instObj 587 d) ∈ news) (m2 : (d, od) ∈ news) (X : (Mine.K w.params).In s.heap)
    (h : wpAny (model PRG w) (A.under (.builtin "type.__call__" ⟨.ref 587 :: rest, []⟩)) (call (.ref 357) (.ref x :: rest)) (fun r s₃ => r = .none ∧ Q (.ref x) s₃) E s) : OwnMade w A rest Q E (.ref x) s :=
  ⟨x, _, _, rfl, InstAt.of_news N m1 m2, X, h⟩
theorem make_own2 {rest : List Value} (X : (Mine.K w.params).In s.heap)
    (h : wpAny (model PRG w) (A.under (.builtin "type.__call__" ⟨.ref 587 :: rest, []⟩)) (getAttr (.ref 587) "__new__") (fun new s₁ =>
      wpAny (model PRG w) (A.under (.builtin "type.__call__" ⟨.ref 587 :: rest, []⟩)) (call new (.ref 587 :: rest)) (OwnMade w A rest Q E) E s₁) E s) :
    wpAny (model PRG w) A (call (.ref 587) rest) Q E s := make_own X h
theorem new_own_K (F : Fr h₀ L s.heap m) (N : News h₀ L s.heap news) (X : (Mine.K w.params).In s.heap)
    (h : ∀ x dx h', Fr h₀ L h' m → News h₀ L h' ((x, instObj 587 dx) :: (dx, dictOf [] 0) :: news) → (∀ p ∈ news, p.1 < dx) → dx < x → Q (.ref x) { s with heap := h' }) :
    wpAny (model PRG w) A (call (.builtin "object.__new__") [.ref 587]) Q E s := by
  obtain ⟨hh, g, d, t, os⟩ := s
  refine wpAny_call (new_own X ?_)
  refine h _ hh.objs.size _ ((F.push _).push _) ?_ (fun p hp => Heap.lt_size (N p hp).1) (Nat.lt_succ_self _)
  have := (N.push F emptyDict).push (F.push _) (instObj 587 hh.objs.size)
  rwa [Heap.size_push] at this
end
end Mine
end
section
open PySem PySem.W PyProof.Rows PySem.Calls Builtin
set_option maxRecDepth 100000
set_option maxHeartbeats 4000000
namespace Mine
section
variable {prog : Program} {w : World} {A : Around} {E : Value → Shared → Prop} {s : Shared}
theorem lk_mt : typeLookup (.type "str") "maketrans" = pure (some (.builtin "str.maketrans")) := by rw [typeLookup_type, builtinLookup_eq_fast]; kernel_rfl
theorem ty_mt : typeOf (.builtin "str.maketrans") = pure (.type "builtin_function_or_method") := by show builtinType _ = _; rw [builtinType_eq_fast]; kernel_rfl
theorem bf_noget : typeLookup (.type "builtin_function_or_method") "__get__" = pure none := by rw [typeLookup_type, builtinLookup_eq_fast]; kernel_rfl
theorem meets_mt (x : PySem.Str) (t u : Tok) : Meets (Builtin.«object.__getattribute__» ⟨[.str x t, .str "maketrans" u], []⟩) (fun _ R s => R (.ok (.ret (.builtin "str.maketrans"))) s) :=
  Meets.of_wp fun prog w A R s hs => by
    obtain ⟨hp, g, d, tk, os⟩ := s
    have hT : ∀ s' : Shared, s'.TypeIs (.str x t) "str" := fun _ => rfl
    have h1 := lk_mt
    have h2 := ty_mt
    have h3 := bf_noget
    unfold Builtin.«object.__getattribute__»
    repeat (any_goals (first | assumption | wp_step))
    exact ⟨_, rfl, hs⟩
theorem mt_method {x : PySem.Str} {t : Tok} {pl : Sem Bool} {Q : Value × List Value → Shared → Prop} (h : ∀ k, Q (.builtin "str.maketrans", []) { s with toks := k }) :
    wpAny (model prog w) A (getMethod (.str x t) (PySem.Str.ofString "maketrans") pl) Q E s := by
  have hT : ∀ s' : Shared, s'.TypeIs (.str x t) "str" := fun _ => rfl
  have f3 := F.slot_str_getattribute.lookup
  have f4 := F.slot_str_getattribute.bind (.str x t)
  have f5 := am_str_getattr_none
  unfold getMethod
  refine wpAny_bind (wpAny_specialOf (name := PySem.Str.ofString "__getattribute__") (hT s) f3 ?_)
  show wpAny _ _ (if (Manifest.canonical "object.__getattribute__" != "object.__getattribute__") = true then _ else _) _ _ _
  rw [if_neg (by decide +kernel)]
  refine wpAny_bind (wpAny_specialOf (name := PySem.Str.ofString "__getattr__") (hT s) f5 ?_)
  refine wpAny_bind (wpAny_specialOf (name := PySem.Str.ofString "maketrans") (hT s) lk_mt ?_)
  refine wpAny_bind (wpAny_of_eq ty_mt ?_)
  rw [if_pos (by decide +kernel)]
  refine wpAny_bind (m := getAttr _ _ _) ?_
  unfold getAttr getAttrBy
  refine wpAny_bind (wpAny_mkText (wpAny_holding (wpAny_bind (wpAny_of_eq (show typeOf (.str x t) = pure (.type "str") from rfl) (wpAny_bind (wpAny_of_eq f3 ?_))))))
  dsimp only
  rw [if_neg (by decide +kernel)]
  unfold getAttrByItsOwn
  refine wpAny_bind (m := hookBefore _) (wpAny_pure ?_)
  refine wpAny_bind (wpAny_attempt (wpAny_holding ?_))
  unfold callGetattribute
  rw [if_neg (by decide +kernel)]
  unfold boundAndCalled
  rw [f4]
  refine wpAny_bind (wpAny_pure ?_)
  show wpAny _ _ (call (.builtin "object.__getattribute__") [.str x t, .str (PySem.Str.ofString "maketrans") s.toks]) _ _ _
  refine call_meets F.slot_str_getattribute (hT _) F.entry_object_getattribute (F.args_object_getattribute_2 _ _) (meets_mt x t _) ?_
  show wpAny _ _ (handedOut _) _ _ _
  exact handed_on (by decide +kernel) (wpAny_pure (h _))
end
end Mine
end
section
open PySem PySem.W PyProof.Rows PySem.Calls Builtin
set_option maxRecDepth 100000
set_option maxHeartbeats 4000000
namespace Mine
section
variable {prog : Program} {w : World} {A : Around} {E : Value → Shared → Prop} {s : Shared}
theorem fk_tc : checkTypeCall "dict" ⟨[], []⟩ = pure () := by kernel_rfl
theorem fk_nc : checkBuiltinCall "dict.__new__" ⟨[.type "dict"], []⟩ = pure () := by kernel_rfl
theorem fk_code_dict_new {Q₁ : Value → Shared → Prop} (h : Q₁ (.ref s.heap.objs.size) { s with heap := s.heap.push emptyDict }) :
    codeAny (model prog w) A (.call (.builtin "dict.__new__") ⟨[.type "dict"], []⟩) (wants Q₁ E) s := by
  refine codeAny_call_builtin F.kt_plain_dict_new F.kt_entry_dict_new (wpAny_of_eq fk_nc ?_)
  have hsub := F.kt_sub_dict
  have hmro := F.kt_mro_dict
  obtain ⟨hp, g, d, tk, os⟩ := s
  unfold Builtin.«dict.__new__»
  wp_walk
  exact h
theorem args_dict_init_1 (a : Value) : argsOk "dict.__init__" ⟨[a], []⟩ := by unfold argsOk; kernel_rfl
theorem fk_dict0 {Q : Value → Shared → Prop} (h : Q (.ref s.heap.objs.size) { s with heap := s.heap.push emptyDict }) :
    wpAny (model prog w) A (call (.type "dict") []) Q E s := by
  refine callType_codes (Q₁ := fun obj s₁ => obj = .ref s.heap.objs.size ∧ s₁ = { s with heap := s.heap.push { cls := .type "dict", data := .dict #[] } }) F.kt_called_dict fk_tc F.entry_dict_init (fk_code_dict_new ⟨rfl, rfl⟩) ?_
  rintro obj s₁ ⟨rfl, rfl⟩
  have hnew : (s.heap.push { cls := .type "dict", data := .dict #[] }).DictOf (strKind prog w) s.heap.objs.size [] := Heap.DictOf.new s.heap
  refine ⟨hnew.typeIs, args_dict_init_1 _, ?_⟩
  unfold Builtin.«dict.__init__»
  refine wpAny_bind ?_
  unfold Builtin.Dict.selfAndRest
  refine wpAny_bind (wpAny_notOrdered_dict hnew.typeIs ?_)
  show wpAny _ _ (pure (s.heap.objs.size, [])) _ _ _
  refine wpAny_pure ?_
  show wpAny _ _ (Builtin.Dict.updateCommon "dict.__init__" "dict" s.heap.objs.size [] []) _ _ _
  unfold Builtin.Dict.updateCommon
  refine wpAny_bind (m := Builtin.Dict.addKeywords _ []) ?_
  unfold Builtin.Dict.addKeywords
  exact wpAny_pure (wpAny_pure ⟨rfl, h⟩)
end
noncomputable def fkBound : Obj := { cls := .type "builtin_function_or_method", data := .fields #[.builtin "dict.fromkeys", .type "dict"] }
theorem type_fk : typeOf (.builtin "dict.fromkeys") = pure (.type "classmethod_descriptor") := by show builtinType _ = _; rw [builtinType_eq_fast]; kernel_rfl
theorem entry_fk : entryFor table "dict.fromkeys" = some Builtin.«dict.fromkeys» := entryFor_of_tree (by kernel_rfl)
theorem entry_fkl : entryFor table "dict.fromkeys.loop" = some Builtin.«dict.fromkeys.loop» := entryFor_of_tree (by kernel_rfl)
theorem plain_fkl : plainId "dict.fromkeys.loop" = true := by decide +kernel
theorem plain_fk : plainId "dict.fromkeys" = true := by decide +kernel
theorem type_dict : isType (.type "dict") = pure true := by first | rfl | kernel_rfl | (unfold isType; rw [isSubtype_type]; kernel_rfl)
theorem owner_fk : (kfb_private% "ownerAndName") "dict.fromkeys" = ("dict", "fromkeys") := by first | decide +kernel | kernel_rfl
section
variable {prog : Program} {w : World} {M : Model} {A : Around} {E : Value → Shared → Prop} {s : Shared} {K : Frag} {h₀ : Heap} {L : Addr} {m : PySem.Str → Option Value} {news : List (Addr × Obj)}
theorem fk_run_get {P : Fin → Shared → Prop} (h : P (.done (.ret (.ref s.heap.objs.size))) { s with heap := s.heap.push fkBound }) :
    wpAny M A (Builtin.«classmethod_descriptor.__get__» ⟨[.builtin "dict.fromkeys", .none, .type "dict"], []⟩) P E s := by
  unfold Builtin.«classmethod_descriptor.__get__»
  refine wpAny_bind (wpAny_of_eq (a := (.builtin "dict.fromkeys", none, some (.type "dict"))) (by first | rfl | kernel_rfl) ?_)
  simp only [owner_fk]
  refine wpAny_bind (wpAny_of_eq (a := .type "dict") rfl ?_)
  refine wpAny_bind (wpAny_of_eq (a := true) type_dict ?_)
  refine KFB.if_not rfl ?_
  refine wpAny_bind (wpAny_of_eq (a := true) F.kt_sub_dict ?_)
  refine KFB.if_not rfl ?_
  exact wpAny_bind (wpAny_newObj_type (wpAny_pure h))
theorem fk_getm {pl : Sem Bool} {Q : Value × List Value → Shared → Prop} (F : Fr h₀ L s.heap m) (N : News h₀ L s.heap news) (X₀ : K.In h₀)
    (e : findCls K (.type "dict") (.type "type") (PySem.Str.ofString "fromkeys") = some (.get (.builtin "classmethod_descriptor.__get__") (.builtin "dict.fromkeys") .none (.type "dict")))
    (h : ∀ x h', Fr h₀ L h' m → News h₀ L h' ((x, fkBound) :: news) → (∀ p ∈ news, p.1 < x) → Q (.ref x, []) { s with heap := h', toks := s.toks + 1 }) :
    wpAny (model prog w) A (getMethod (.type "dict") (PySem.Str.ofString "fromkeys") pl) Q E s := by
  have X := X₀.keeps F.keep
  have hstub : opaqueClassAbove (.type "dict") = pure none := by unfold opaqueClassAbove; dsimp only; rw [show Manifest.isStub "dict" = false by decide +kernel]; rfl
  have ht : typeOf (.type "dict") = pure (.type "type") := by first | rfl | kernel_rfl
  have L0 : Looks (model prog w) s.heap (typeOf (.type "dict")) (.type "type") := Looks.of_pure ht
  have hg : findIn K (.type "type") "__getattribute__" = some (some (.builtin "type.__getattribute__")) := type_tga
  unfold getMethod specialOf
  refine wpAny_bind (wpAny_bind (L0.here ((looks_findIn X hg).here ?_)))
  dsimp only
  rw [if_pos canon_tga]
  refine wpAny_bind (wpAny_mono (Q := fun v => Q (v, [])) (E := E) ?_ (fun _ _ z => wpAny_pure z) fun _ _ z => z)
  have LO : Looks (model prog w) s.heap (opaqueClassAbove (.type "dict")) none := Looks.of_pure hstub
  refine cls_open X LO L0 hg (looks_hook X (r := none) (by rfl)) (by show subIn K _ _ = _; rfl) e ?_
  show wpAny _ _ (holding [.builtin "dict.fromkeys"] (call (.builtin "classmethod_descriptor.__get__") [.builtin "dict.fromkeys", .none, .type "dict"]) >>= fun v => ret v) _ _ _
  refine wpAny_bind (wpAny_holding (wpAny_call_entry KFB.slot_get type_fk KFB.entry_get (fk_run_get ⟨_, rfl, wpAny_pure (wpAny_pure (h _ _ (F.push _) (News.push F N _) fun p hp => Heap.lt_size (N p hp).1))⟩) (KFB.args_get _ _ _)))
noncomputable def FkAt (x : Addr) (h : Heap) : Prop := h.get? x = some fkBound
theorem fk_at {x : Addr} {h : Heap} (N : News h₀ L h news) (hm : (x, fkBound) ∈ news) : FkAt x h := N.get hm
theorem fk_callWith {pos : Pos} {u : Addr} {first : List Value} {env : Env} {e : Expr} {rest : List Expr} {Q : Value → Shared → Prop} (_N : News h₀ L s.heap news) (_hm : (u, fkBound) ∈ news)
    (h : wpAny M A (spliced (backTo pos (starEach (e :: rest) env))) (fun vs s₁ => FkAt u s₁.heap ∧ wpAny M A (call (.ref u) (first ++ vs)) Q E s₁) E s)
    (he : starEach (e :: rest) env = (false, eval e env) :: starEach rest env := by rfl) (hplain : (backTo pos (starEach rest env)).any (·.1) = false := by rfl) :
    wpAny M A (callWith pos (.ref u) first (backTo pos (starEach (e :: rest) env)) []) Q E s := by
  rw [he] at h ⊢
  refine callWith_of (P := FkAt u) (by show ((false || (backTo pos (starEach rest env)).any (·.1)) || false) = false; rw [hplain]; rfl) (fun h X => ⟨.machine, .inr (.inl rfl), ?_⟩) (evalArgs_plain h)
  unfold keeperOf
  refine (Looks.ld (part := none) X).andThen ?_
  exact .now
end
section
variable {prog : Program} {w : World} {A : Around} {E : Value → Shared → Prop} {s : Shared} {R : Result → Shared → Prop}
/-- all but two places stand as they stood -/
noncomputable def But2 (a b : Addr) (h h' : Heap) : Prop := ∀ c o, c ≠ a → c ≠ b → h.get? c = some o → h'.get? c = some o
theorem fk_step {it d : Addr} {x : PySem.Str} {t : Tok} {i c : Nat} {kvs : List (PySem.Str × Value)} (hit : s.heap.IsStrIter it "str_ascii_iterator" x t i) (hx : x.cps[i]? = some c) (hd : s.heap.DictOf (strKind prog w) d kvs) (hne : it ≠ d) (hsz : kvs.length ≤ 100)
    (h : ∀ h' tk', h'.IsStrIter it "str_ascii_iterator" x t (i + 1) → h'.DictOf (strKind prog w) d (stored kvs ⟨#[c]⟩ .none) → But2 it d s.heap h' →
      codeAny (model prog w) A (.builtin "dict.fromkeys.loop" ⟨[.ref d, .ref it, .none], []⟩) R { s with heap := h', toks := tk' }) :
    codeAny (model prog w) A (.builtin "dict.fromkeys.loop" ⟨[.ref d, .ref it, .none], []⟩) R s := by
  refine codeAny_builtin entry_fkl ?_
  rw [Around.under_plainId plain_fkl _]
  unfold Builtin.«dict.fromkeys.loop»
  dsimp only
  refine wpAny_bind (wpAny_pyNext_ascii_item hit hx fun h1 hit1 hs1 => ?_)
  dsimp only
  have hd1 : h1.DictOf (strKind prog w) d kvs := hd.sameBut hs1 (Ne.symm hne)
  refine wpAny_bind (wpAny_typeOf (s := { s with heap := h1, toks := s.toks + 1 }) hd1.typeIs ?_)
  rw [if_pos (by decide)]
  refine wpAny_bind (m := Builtin.Dict.addrOf (.ref d)) (wpAny_pure (a := d) ?_)
  refine wpAny_bind (wpAny_holding ?_)
  refine wpAny_dictSet_pairs (s := { s with heap := h1, toks := s.toks + 1 }) (k := ⟨#[c]⟩) (by simp [PySem.strKind, Value.isStrOf]) hd1 (fun h2 hd2 hs2 => ?_) (by rw [sizeLine_eq]; (first | lia | omega))
  refine wpAny_pure (And.intro (plainId_quiet plain_fkl _) (h h2 _ ?_ hd2 ?_))
  · exact hit1.extBut hs2.extBut hne
  · intro b o hb1 hb2 e
    exact hs2.extBut b o hb2 (hs1.extBut b o hb1 e)
theorem fk_end {it d : Addr} {x : PySem.Str} {t : Tok} {i : Nat} (hA : A.handled = none) (hit : s.heap.IsStrIter it "str_ascii_iterator" x t i) (hx : x.cps[i]? = none)
    (h : ∀ h', Heap.ExtBut it s.heap h' → R (.ok (.ret (.ref d))) { s with heap := h' }) :
    codeAny (model prog w) A (.builtin "dict.fromkeys.loop" ⟨[.ref d, .ref it, .none], []⟩) R s := by
  refine codeAny_builtin entry_fkl ?_
  rw [Around.under_plainId plain_fkl _]
  unfold Builtin.«dict.fromkeys.loop»
  dsimp only
  refine wpAny_bind (wpAny_pyNext_ascii_end (A := A.in1) hA hit hx fun h1 hs1 => ?_)
  exact wpAny_pure (h h1 hs1)

theorem src_str {u : Shared} {x : PySem.Str} {t : Tok} : typeOf (.str x t) = pure (.type "str") := rfl
variable {h₀ : Heap} {L : Addr} {m : PySem.Str → Option Value} {news : List (Addr × Obj)}
theorem fk_body {t : Tok} {P : Fin → Shared → Prop} (hA : A.handled = none)
    (h : ∀ d it h', h'.IsStrIter it "str_ascii_iterator" (PySem.Str.ofString "()") t 0 → h'.DictOf (PySem.strKind prog w) d [] → it ≠ d → s.heap.objs.size ≤ d → s.heap.objs.size ≤ it → (∀ b o, s.heap.get? b = some o → h'.get? b = some o) → P (.again (.builtin "dict.fromkeys.loop" ⟨[.ref d, .ref it, .none], []⟩)) { s with heap := h' }) :
    wpAny (model prog w) A (Builtin.«dict.fromkeys» ⟨[.type "dict", .str (PySem.Str.ofString "()") t], []⟩) P E s := by
  unfold Builtin.«dict.fromkeys»
  dsimp only
  refine wpAny_bind (wpAny_of_eq (a := true) type_dict ?_)
  refine KFB.if_not rfl ?_
  refine wpAny_bind (wpAny_of_eq (a := true) F.kt_sub_dict ?_)
  refine KFB.if_not rfl ?_
  refine KFB.if_not rfl ?_
  refine wpAny_bind (wpAny_rule ?_)
  refine wpAny_bind (wpAny_pure ?_)
  dsimp only
  refine wpAny_bind (fk_dict0 ?_)
  have hd : (s.heap.push emptyDict).DictOf (PySem.strKind prog w) s.heap.objs.size [] := Heap.DictOf.new s.heap
  refine wpAny_holding (wpAny_bind (wpAny_of_eq (a := .type "str") rfl ?_))
  refine wpAny_bind (wpAny_typeOf (s := { s with heap := s.heap.push emptyDict }) hd.typeIs ?_)
  rw [if_neg (by decide)]
  refine wpAny_bind (wpAny_typeOf (s := { s with heap := s.heap.push emptyDict }) hd.typeIs ?_)
  rw [if_neg (by decide)]
  refine wpAny_bind (wpAny_pyIter_ascii (by decide +kernel) ?_)
  refine wpAny_pure (h s.heap.objs.size (s.heap.push emptyDict).objs.size _ ?_ (hd.push _) ?_ (Nat.le_refl _) ?_ ?_)
  · exact ⟨_, Heap.get?_push_size _ rfl, rfl, rfl⟩
  · rw [Heap.size_push]; (first | lia | omega)
  · rw [Heap.size_push]; (first | lia | omega)
  · intro b o e
    exact Heap.get?_push_of_some _ (Heap.get?_push_of_some _ e)
theorem fk_check {t : Tok} {x : PySem.Str} : checkBoundCall "dict.fromkeys" ⟨[.type "dict", .str x t], []⟩ = pure () := by first | kernel_rfl | rfl
theorem fk_call {q : Addr} {t : Tok} {Q : Value → Shared → Prop} (hA : A.handled = none) (F : Fr h₀ L s.heap m) (N : News h₀ L s.heap news) (hm : (q, fkBound) ∈ news) (hbig : sysModules < h₀.objs.size)
    (h : ∀ d o h' tk', Fr h₀ L h' m → News h₀ L h' ((d, o) :: news) → (∀ p ∈ news, p.1 < d) → (d == sysModules) = false → o.IsDictOf (PySem.strKind prog w) [(⟨#[40]⟩, .none), (⟨#[41]⟩, .none)] → Q (.ref d) { s with heap := h', toks := tk' }) :
    wpAny (model prog w) A (call (.ref q) [.str (PySem.Str.ofString "()") t]) Q E s := by
  have ho : s.heap.get? q = some fkBound := N.get hm
  refine wpAny_call (codeAny_of_tree ?_)
  show wpAny _ A.in1 (callAny (.ref q) ⟨[.str (PySem.Str.ofString "()") t], []⟩) _ _ s
  simp only [callAny]
  refine wpAny_bind (wpAny_load ho ?_)
  simp only [fkBound, show (Value.type "builtin_function_or_method" == Value.type "method" || Value.type "builtin_function_or_method" == Value.type "builtin_function_or_method" || Value.type "builtin_function_or_method" == Value.type "method-wrapper") = true by decide, if_true]
  refine KFB.if_so (by decide) ?_
  refine wpAny_bind (wpAny_of_eq (a := ()) fk_check ?_)
  refine wpAny_bind (wpAny_pure (wpAny_pure ?_))
  refine ⟨plainId_quiet plain_fk _, codeAny_builtin entry_fk ?_⟩
  rw [Around.under_plainId plain_fk _]
  refine fk_body hA fun d it h1 i1 d1 hne hd hi k1 => ?_
  refine ⟨plainId_quiet plain_fkl _, ?_⟩
  refine fk_step i1 (c := 40) (by decide +kernel) d1 hne (by decide) fun h2 t2 i2 d2 k2 => ?_
  refine fk_step (s := { s with heap := h2, toks := t2 }) i2 (c := 41) (by decide +kernel) d2 hne (by decide) fun h3 t3 i3 d3 k3 => ?_
  refine fk_end (s := { s with heap := h3, toks := t3 }) hA i3 (by decide +kernel) fun h4 hs4 => ?_
  have e : stored (stored [] (⟨#[40]⟩ : PySem.Str) Value.none) ⟨#[41]⟩ Value.none = [(⟨#[40]⟩, .none), (⟨#[41]⟩, .none)] := by decide +kernel
  rw [e] at d3
  have d4 := d3.extBut hs4 (Ne.symm hne)
  refine fold_G ?_
  intro G9
  obtain ⟨o, es, ep, hg, r⟩ := d4
  have kk : ∀ b x, s.heap.get? b = some x → h4.get? b = some x := fun b x ex => by
    have hb := Heap.lt_size ex
    have n1 : b ≠ it := Nat.ne_of_lt (Nat.lt_of_lt_of_le hb hi)
    have n2 : b ≠ d := Nat.ne_of_lt (Nat.lt_of_lt_of_le hb hd)
    exact hs4 b x n1 (k3 b x n1 n2 (k2 b x n1 n2 (k1 b x ex)))
  have F4 : Fr h₀ L h4 m := ⟨F.ns.keeps kk, fun b x ex => kk b x (F.keep b x ex), F.above⟩
  have hz : ∀ p ∈ news, p.1 < d := fun p hp => Nat.lt_of_lt_of_le (Heap.lt_size (N p hp).1) hd
  refine h d o h4 t3 F4 ?_ hz (beq_eq_false_iff_ne.mpr (Nat.ne_of_gt (Nat.lt_of_lt_of_le (Nat.lt_trans hbig (Nat.lt_of_le_of_lt F.above F.ns.lt)) hd))) ⟨es, ep, r⟩
  intro p hp
  rcases List.mem_cons.mp hp with rfl | hp
  · refine ⟨hg, ?_, ?_⟩
    · obtain ⟨oL, _, _, hL, _⟩ := F.ns
      have := Heap.lt_size hL
      exact Nat.ne_of_gt (Nat.lt_of_lt_of_le this hd)
    · cases q : h₀.get? d with
      | none => rfl
      | some x => exact absurd (Nat.lt_of_lt_of_le (Heap.lt_size (F.keep _ _ q)) hd) (Nat.lt_irrefl _)
  · exact ⟨kk _ _ (N p hp).1, (N p hp).2⟩
end
end Mine
end
section
open PySem PySem.W PyProof.Rows PySem.Calls Builtin
set_option maxRecDepth 100000
set_option maxHeartbeats 4000000
namespace Mine
theorem entry_mt : entryFor table "str.maketrans" = some Builtin.«str.maketrans» := entryFor_of_tree (by kernel_rfl)
theorem kind_mt : builtinKind "str.maketrans" = none ∨ True := .inr trivial
theorem plain_mt : plainId "str.maketrans" = true := by decide +kernel
theorem check_mt {d : Addr} : checkBuiltinCall "str.maketrans" ⟨[.ref d], []⟩ = pure () := by first | kernel_rfl | rfl
section
variable {prog : Program} {w : World} {A : Around} {E : Value → Shared → Prop} {s : Shared} {h₀ : Heap} {L : Addr} {m : PySem.Str → Option Value} {news : List (Addr × Obj)}
theorem mt_call {d : Addr} {o : Obj} {Q : Value → Shared → Prop} (F : Fr h₀ L s.heap m) (N : News h₀ L s.heap news) (hm : (d, o) ∈ news) (lo : (d == sysModules) = false) (hbig : sysModules < h₀.objs.size) (ho : o.IsDictOf (PySem.strKind prog w) [(⟨#[40]⟩, .none), (⟨#[41]⟩, .none)])
    (h : ∀ t ot h' tk', Fr h₀ L h' m → News h₀ L h' ((t, ot) :: news) → (∀ p ∈ news, p.1 < t) → (t == sysModules) = false → ot.IsDictOf (PySem.intKind prog w) [(40, .none), (41, .none)] → Q (.ref t) { s with heap := h', toks := tk' }) :
    wpAny (model prog w) A (call (.builtin "str.maketrans") [.ref d]) Q E s := by
  have hg : s.heap.get? d = some o := N.get hm
  refine fold_G ?_
  intro G9
  obtain ⟨es, ep, hx, hdat, hk, hp, hnd⟩ := ho
  refine wpAny_call (codeAny_call_builtin plain_mt entry_mt (wpAny_of_eq check_mt ?_))
  unfold Builtin.«str.maketrans»
  refine wpAny_bind (m := noKeywords _ _) (wpAny_pure ?_)
  refine wpAny_bind (m := checkCount _ _ _ _) (wpAny_pure ?_)
  refine wpAny_bind (wpAny_pure ?_)
  refine wpAny_bind (wpAny_pure ?_)
  have hT : s.TypeIs (.ref d) "dict" := ⟨o, hg, hx.1⟩
  refine wpAny_bind (m := newDict) (wpAny_newObj_type ?_ (by show (0:Nat) ≤ _; exact Nat.zero_le _))
  have hd0 : (s.heap.push emptyDict).DictOf (PySem.intKind prog w) s.heap.objs.size [] := Heap.DictOf.new s.heap
  have hg1 : (s.heap.push emptyDict).get? d = some o := Heap.get?_push_of_some _ hg
  have hT1 : ({ s with heap := s.heap.push emptyDict } : Shared).TypeIs (.ref d) "dict" := ⟨o, hg1, hx.1⟩
  refine wpAny_bind (wpAny_holding ?_)
  refine wpAny_bind (wpAny_typeOf hT1 ?_)
  refine wpAny_bind (m := notAStandIn _) (wpAny_pure ?_)
  refine wpAny_bind (wpAny_typeOf hT1 ?_)
  refine KFB.if_not (by decide) ?_
  refine wpAny_bind (m := notTheModulesDict _ _) ?_
  unfold notTheModulesDict
  rw [lo]
  refine KFB.if_not rfl (wpAny_pure ?_)
  refine wpAny_bind (wpAny_dictEntries hg1 hdat ?_)
  obtain ⟨l⟩ := es
  rw [← Array.forIn_toList]
  cases hp with
  | @cons e1 _ l1 _ q1 v1 r1 =>
    cases r1 with
    | @cons e2 _ l2 _ q2 v2 r2 =>
      cases r2
      obtain ⟨t1, q1⟩ := Value.isStrOf_shape q1
      obtain ⟨t2, q2⟩ := Value.isStrOf_shape q2
      have q1' : e1.key = .str ⟨#[40]⟩ t1 := q1
      have q2' : e2.key = .str ⟨#[41]⟩ t2 := q2
      have w1 : e1.val = .none := v1
      have w2 : e2.val = .none := v2
      refine wpAny_bind ?_
      show wpAny _ _ (forIn [e1, e2] PUnit.unit _) _ _ _
      rw [List.forIn_cons]
      refine wpAny_bind (wpAny_bind (m := asStr? e1.key) ?_)
      rw [q1', w1]
      refine wpAny_pure ?_
      refine wpAny_bind (wpAny_mkInt ?_)
      refine wpAny_bind (wpAny_dictSet_pairs (k := (40 : Int)) (by rfl) hd0 (fun h2 hd2 hs2 => ?_) (by show (0:Nat) ≤ _; exact Nat.zero_le _))
      refine wpAny_pure ?_
      show wpAny _ _ (forIn [e2] PUnit.unit _) _ _ _
      rw [List.forIn_cons]
      refine wpAny_bind (wpAny_bind (m := asStr? e2.key) ?_)
      rw [q2', w2]
      refine wpAny_pure ?_
      refine wpAny_bind (wpAny_mkInt ?_)
      refine wpAny_bind (wpAny_dictSet_pairs (k := (41 : Int)) (by rfl) hd2 (fun h3 hd3 hs3 => ?_) (by rw [sizeLine_eq]; decide))
      refine wpAny_pure ?_
      show wpAny _ _ (forIn [] PUnit.unit _) _ _ _
      rw [List.forIn_nil]
      refine wpAny_pure (wpAny_pure (wpAny_pure ?_))
      have e : stored (stored [] (40 : Int) Value.none) 41 Value.none = [(40, .none), (41, .none)] := by decide +kernel
      rw [e] at hd3
      refine fold_G ?_
      intro G9
      obtain ⟨ot, es', ep', hgt, rt⟩ := hd3
      have N1 := N.push F emptyDict
      have F1 := F.push emptyDict
      have z := N1 (s.heap.objs.size, emptyDict) (.head _)
      have hz : ∀ p ∈ news, p.1 < s.heap.objs.size := fun p hp => Heap.lt_size (N p hp).1
      have F3 := (F1.change hs2 z.2.1 z.2.2).change hs3 z.2.1 z.2.2
      refine h s.heap.objs.size ot h3 _ F3 ?_ hz (F.notModules hbig) ⟨es', ep', rt⟩
      intro p hp
      rcases List.mem_cons.mp hp with rfl | hp
      · exact ⟨hgt, z.2.1, z.2.2⟩
      · have hp1 := Nat.ne_of_lt (hz p hp)
        exact ⟨(hs3.2 p.1 hp1).trans ((hs2.2 p.1 hp1).trans (N1 p (.tail _ hp)).1), (N p hp).2⟩
end
end Mine
end
section
open PySem PySem.W PyProof.Rows PySem.Calls Builtin
set_option maxRecDepth 100000
set_option maxHeartbeats 4000000
namespace Mine
theorem sub_KE_LE : isSubtype (.type "KeyError") (.type "LookupError") = pure true := by rw [isSubtype_type]; kernel_rfl
theorem known_look {l : List (Nat × Option Nat)} (h : ∀ p ∈ l, p.2 = some p.1) {c : Nat} {a : Option Nat} (e : l.lookup c = some a) : a = some c := by
  induction l with
  | nil => cases e
  | cons p r ih =>
    obtain ⟨k, v⟩ := p
    rw [List.lookup_cons] at e
    cases hb : (c == k) with
    | true =>
      rw [hb] at e
      have h1 : v = some k := h (k, v) (.head _)
      have h2 : v = a := by simpa using e
      rw [← h2, h1, beq_iff_eq.mp hb]
    | false =>
      rw [hb] at e
      exact ih (fun p hp => h p (.tail _ hp)) e
section
variable {prog : Program} {w : World} {A : Around} {E : Value → Shared → Prop} {s : Shared}
theorem tl_lookup {t : Addr} {c : Nat} {kvs : List (Int × Value)} {Q : Str.Mapped → Shared → Prop} (hA : A.handled = none) (ht : (t == sysModules) = false) (hd : s.heap.DictOf (PySem.intKind prog w) t kvs) (hc : valueAt kvs (c : Int) = none)
    (h : ∀ h' tk', (∀ b o, s.heap.get? b = some o → h'.get? b = some o) → Q .keep { s with heap := h', toks := tk' }) :
    wpAny (model prog w) A (Str.tableLookup (.ref t) c) Q E s := by
  unfold Str.tableLookup
  refine wpAny_bind (wpAny_attempt (wpAny_bind (wpAny_mkInt ?_)))
  refine wpAny_getItem_missing_of (knd := PySem.intKind prog w) (k := (c : Int)) (f := valueAt kvs) (by simp [PySem.intKind, Value.isInt]) ht hA hd.mapOf hc (fun h' e x => ?_)
  refine fold_G ?_
  intro G9
  obtain ⟨ob, u, he, hcl, _⟩ := x.there
  refine wpAny_bind (wpAny_isInstance (T := "KeyError") ⟨ob, he, hcl⟩ sub_KE_LE ?_)
  refine KFB.if_so rfl (wpAny_bind (wpAny_rule (wpAny_pure ?_)))
  exact h h' _ x.keeps
theorem tl_body {x : PySem.Str} {tx : Tok} {t : Addr} {kvs : List (Int × Value)} {P : Fin → Shared → Prop} (hA : A.handled = none) (ht : (t == sysModules) = false) (hd : s.heap.DictOf (PySem.intKind prog w) t kvs)
    (hx : ∀ c ∈ x.cps.toList, c < 128 ∧ valueAt kvs (c : Int) = none) (hl : x.length ≤ 4000) (h0 : x.length ≠ 0)
    (h : ∀ h' tk' u, (∀ b o, s.heap.get? b = some o → h'.get? b = some o) → P (.done (.ret (.str x u))) { s with heap := h', toks := tk' }) : wpAny (model prog w) A (Builtin.«str.translate» ⟨[.str x tx, .ref t], []⟩) P E s := by
  unfold Builtin.«str.translate»
  refine wpAny_bind (wpAny_pure (a := (Value.str x tx, x, Value.ref t)) ?_)
  refine KFB.if_not (by simp [h0]) ?_
  have hall : (x.cps.all fun x => decide (x < 128)) = true := by
    rw [← Array.all_toList]
    exact List.all_eq_true.mpr fun c hc => by simpa using (hx c hc).1
  rw [hall]
  refine wpAny_bind ?_
  rw [← Array.forIn_toList]
  refine wpAny_forIn_list _ (fun rest b s' => ∃ done pieces known h' tk', b = (pieces, done.length, true, known, false) ∧ x.cps.toList = done ++ rest ∧ (pieces.reverse.foldl (fun acc p => acc ++ p.cps) #[] = done.toArray) ∧ (∀ p ∈ known, p.2 = some p.1) ∧ s' = { s with heap := h', toks := tk' } ∧ (∀ b o, s.heap.get? b = some o → h'.get? b = some o)) _ ?turn ?fin _ _ ?start
  case start => exact ⟨[], [], [], s.heap, s.toks, rfl, rfl, rfl, (fun _ h => nomatch h), rfl, fun _ _ e => e⟩
  case fin =>
    rintro b s' ⟨done, pieces, known, h', tk', rfl, e1, e2, e3, rfl, k⟩
    have hxd : x.cps.toList = done := by rw [e1, List.append_nil]
    have hlen : done.length ≤ 4000 := by rw [← hxd]; simpa [PySem.Str.length] using hl
    have htl : Str.tooLong done.length = false := by
      unfold Str.tooLong
      rw [sizeLine_eq]
      exact decide_eq_false (by (first | lia | omega))
    have hxe : (⟨pieces.reverse.foldl (fun acc p => acc ++ p.cps) #[]⟩ : PySem.Str) = x := by
      rw [e2, ← hxd]
    refine KFB.if_not htl ?_
    show wpAny _ _ (retStr (⟨pieces.reverse.foldl (fun acc p => acc ++ p.cps) #[]⟩ : PySem.Str)) _ _ _
    rw [hxe]
    refine wpAny_bind (wpAny_mkStr (wpAny_pure ?_) (by rw [sizeLine_eq]; (first | lia | omega)))
    exact h h' _ _ k
  case turn =>
    intro c rest b s' hZ9
    refine fold_G ?_
    intro G9
    obtain ⟨done, pieces, known, h', tk', rfl, e1, e2, e3, rfl, k⟩ := hZ9
    have hlen : done.length ≤ 4000 := by
      have := congrArg List.length e1
      rw [List.length_append] at this
      have h2 : x.cps.toList.length = x.length := by simp [PySem.Str.length]
      (first | lia | omega)
    have htl : Str.tooLong done.length = false := by
      unfold Str.tooLong
      rw [sizeLine_eq]
      exact decide_eq_false (by (first | lia | omega))
    have hcx := hx c (by rw [e1]; simp)
    have nxt : ∀ h2 t2 known2, (∀ b o, h'.get? b = some o → h2.get? b = some o) → (∀ p ∈ known2, p.2 = some p.1) → ∃ dn ps kn hh tt, ((⟨#[c]⟩ :: pieces, done.length + 1, true, known2, false) : List PySem.Str × Nat × Bool × List (Nat × Option Nat) × Bool) = (ps, dn.length, true, kn, false) ∧ x.cps.toList = dn ++ rest ∧ (ps.reverse.foldl (fun acc p => acc ++ p.cps) #[] = dn.toArray) ∧ (∀ p ∈ kn, p.2 = some p.1) ∧ ({ s with heap := h2, toks := t2 } : Shared) = { s with heap := hh, toks := tt } ∧ (∀ b o, s.heap.get? b = some o → hh.get? b = some o) := by
      intro h2 t2 known2 k2 hk2
      refine ⟨done ++ [c], ⟨#[c]⟩ :: pieces, known2, h2, t2, by simp, by rw [e1]; simp, ?_, hk2, rfl, fun b o e => k2 b o (k b o e)⟩
      rw [List.reverse_cons, List.foldl_append, e2]
      simp
    refine KFB.if_not htl ?_
    refine KFB.if_so rfl ?_
    cases hlk : known.lookup c with
    | some a =>
      have ha := known_look e3 hlk
      subst ha
      refine wpAny_bind (wpAny_pure ?_)
      exact wpAny_pure (nxt h' tk' known (fun _ _ e => e) e3)
    | none =>
      refine wpAny_bind (tl_lookup (s := { s with heap := h', toks := tk' }) hA ht ?_ hcx.2 (fun h2 t2 k2 => ?_))
      · refine fold_G ?_
        intro G9
        obtain ⟨o, es, ep, hg, r⟩ := hd
        exact ⟨o, es, ep, k _ _ hg, r⟩
      refine wpAny_bind (wpAny_pure ?_)
      refine wpAny_pure (nxt h2 t2 ((c, some c) :: known) k2 fun p hp => ?_)
      rcases List.mem_cons.mp hp with rfl | hp
      · rfl
      · exact e3 p hp
end
noncomputable abbrev WCs : PySem.Str := PySem.Str.ofString "abcdfeghijklmnopqrstuvwxyzABCDEFGHIJKLMNOPQRSTUVWXYZ0123456789_~-./*?="
theorem wc_plain : ∀ c ∈ WCs.cps.toList, c < 128 ∧ valueAt [((40 : Int), Value.none), (41, Value.none)] (c : Int) = none := by
  have h : (WCs.cps.toList.all fun c => decide (c < 128) && (decide (valueAt [((40 : Int), Value.none), (41, Value.none)] (c : Int) = none))) = true := by decide +kernel
  intro c hc
  have := List.all_eq_true.mp h c hc
  simpa using this
section
variable {prog : Program} {w : World} {A : Around} {E : Value → Shared → Prop} {s : Shared} {h₀ : Heap} {L : Addr} {m : PySem.Str → Option Value} {news : List (Addr × Obj)}
theorem tr_call {tx : Tok} {t : Addr} {ot : Obj} {Q : Value → Shared → Prop} (hA : A.handled = none) (F : Fr h₀ L s.heap m) (N : News h₀ L s.heap news) (hm : (t, ot) ∈ news) (lo : (t == sysModules) = false) (ho : ot.IsDictOf (PySem.intKind prog w) [(40, .none), (41, .none)])
    (h : ∀ u h' tk', Fr h₀ L h' m → News h₀ L h' news → Q (.str WCs u) { s with heap := h', toks := tk' }) :
    wpAny (model prog w) A (call (.builtin "str.translate") [.str WCs tx, .ref t]) Q E s := by
  have hd : s.heap.DictOf (PySem.intKind prog w) t [(40, .none), (41, .none)] := by
    obtain ⟨es, ep, r⟩ := ho
    exact ⟨ot, es, ep, N.get hm, r⟩
  refine wpAny_call_entry PySem.F.slot_str_translate rfl PySem.F.entry_str_translate ?_ (PySem.F.args_str_translate_2 _ _)
  refine tl_body hA lo hd wc_plain (by decide +kernel) (by decide +kernel) fun h' tk' u k => ⟨_, rfl, ?_⟩
  exact h u h' tk' ⟨F.ns.keeps k, fun b x ex => k b x (F.keep b x ex), F.above⟩ (fun p hp => ⟨k _ _ (N p hp).1, (N p hp).2⟩)
end
end Mine
namespace Mine
open PySem PySem.W PyProof.Rows PySem.Calls Builtin
section
variable {prog : Program} {w : World} {M : Model} {A : Around} {E : Value → Shared → Prop} {s : Shared} {h₀ : Heap} {L : Addr} {m : PySem.Str → Option Value} {news : List (Addr × Obj)}
theorem tr_method {x : PySem.Str} {t : Tok} {pl : Sem Bool} {Q : Value × List Value → Shared → Prop} (h : Q (.builtin "str.translate", [.str x t]) s) :
    wpAny M A (getMethod (.str x t) (PySem.Str.ofString "translate") pl) Q E s :=
  getMethod_builtin (T := "str") rfl PySem.F.plainAttrs_str PySem.F.slot_str_translate PySem.F.type_str_translate (fun a e => nomatch e) h
theorem mt_method2 {x : PySem.Str} {t : Tok} {pl : Sem Bool} {Q : Value × List Value → Shared → Prop} (h : ∀ k, Q (.builtin "str.maketrans", []) { s with toks := k }) :
    wpAny (model prog w) A (getMethod (.str x t) (PySem.Str.ofString "maketrans") pl) Q E s := mt_method h
/-- the bound fromkeys -/
noncomputable def FkMark (_q : Addr) : Prop := True
theorem FkMark.mk (q : Addr) : FkMark q := trivial
theorem fk_callWith2 {pos : Pos} {u : Addr} {first : List Value} {env : Env} {e : Expr} {rest : List Expr} {Q : Value → Shared → Prop} (_k : FkMark u) (_N : News h₀ L s.heap news) (_hm : (u, fkBound) ∈ news)
    (h : wpAny M A (spliced (backTo pos (starEach (e :: rest) env))) (fun vs s₁ => FkAt u s₁.heap ∧ wpAny M A (call (.ref u) (first ++ vs)) Q E s₁) E s)
    (he : starEach (e :: rest) env = (false, eval e env) :: starEach rest env := by rfl) (hplain : (backTo pos (starEach rest env)).any (·.1) = false := by rfl) :
    wpAny M A (callWith pos (.ref u) first (backTo pos (starEach (e :: rest) env)) []) Q E s := fk_callWith _N _hm h he hplain
theorem fk_call2 {q : Addr} {t : Tok} {Q : Value → Shared → Prop} (_k : FkMark q) (hA : A.handled = none) (F : Fr h₀ L s.heap m) (N : News h₀ L s.heap news) (hm : (q, fkBound) ∈ news) (hbig : sysModules < h₀.objs.size)
    (h : ∀ d o h' tk', Fr h₀ L h' m → News h₀ L h' ((d, o) :: news) → (∀ p ∈ news, p.1 < d) → (d == sysModules) = false → o.IsDictOf (PySem.strKind prog w) [(⟨#[40]⟩, .none), (⟨#[41]⟩, .none)] → Q (.ref d) { s with heap := h', toks := tk' }) :
    wpAny (model prog w) A (call (.ref q) [.str (PySem.Str.ofString "()") t]) Q E s := fk_call hA F N hm hbig h
end
end Mine
end
section
open PySem PySem.W PyProof.Rows
set_option maxRecDepth 100000
namespace Mine
/-- the letters of a number, the last sixteenth last -/
noncomputable def apL (n : Nat) : List Nat := if h : n = 0 then [] else apL (n / 16) ++ [65 + n % 16]
termination_by n
decreasing_by (first | lia | omega)
theorem apL_zero : apL 0 = [] := by rw [apL]; simp
theorem apL_pos {n : Nat} (h : n ≠ 0) : apL n = apL (n / 16) ++ [65 + n % 16] := by rw [apL, dif_neg h]
theorem apL_lett (n : Nat) : ∀ c ∈ apL n, lett c := by
  induction n using Nat.strongRecOn with
  | ind n ih =>
    by_cases h : n = 0
    · subst h; rw [apL_zero]; simp
    · rw [apL_pos h]
      intro c hc
      rcases List.mem_append.mp hc with hc | hc
      · exact ih _ (by (first | lia | omega)) c hc
      · rw [List.mem_singleton.mp hc]
        exact ⟨by (first | lia | omega), by (first | lia | omega)⟩
theorem apL_ne {n : Nat} (h : n ≠ 0) : apL n ≠ [] := by rw [apL_pos h]; simp
theorem apL_len {n k : Nat} (h : n < 16 ^ k) : (apL n).length ≤ k := by
  induction k generalizing n with
  | zero => have : n = 0 := by (first | lia | omega)
            subst this; rw [apL_zero]; simp
  | succ k ih =>
    by_cases h0 : n = 0
    · subst h0; rw [apL_zero]; simp
    · rw [apL_pos h0, List.length_append, List.length_singleton]
      have := ih (n := n / 16) (by rw [Nat.pow_succ] at h; (first | lia | omega))
      (first | lia | omega)
theorem apL_inj {n m : Nat} (h : apL n = apL m) : n = m := by
  induction n using Nat.strongRecOn generalizing m with
  | ind n ih =>
    by_cases hn : n = 0
    · subst hn
      by_cases hm : m = 0
      · exact hm.symm
      · rw [apL_zero] at h; exact absurd h.symm (apL_ne hm)
    · by_cases hm : m = 0
      · subst hm; rw [apL_zero] at h; exact absurd h (apL_ne hn)
      · rw [apL_pos hn, apL_pos hm] at h
        have h1 := List.append_inj' h rfl
        have h2 := ih (n / 16) (by (first | lia | omega)) h1.1
        have h3 : 65 + n % 16 = 65 + m % 16 := by simpa using h1.2
        (first | lia | omega)
end Mine
end
section
open PySem PySem.W PyProof.Rows
set_option maxRecDepth 100000
namespace Mine
open Builtin
theorem args_dec2 (a b : Value) : argsOk "bytes.decode" ⟨[a, b], []⟩ := by
  unfold argsOk; rw [signature?_of (id := "bytes.decode") (n := ['e', 'd', 'o', 'c', 'e', 'd']) (o := ['s', 'e', 't', 'y', 'b']) (by kernel_rfl) FB.owner_bytes]; kernel_rfl
theorem dec_entry {c : UInt8} {cs : List UInt8} {t u : Tok} : «bytes.decode» ⟨[.bytes (c :: cs).toArray t, .str (PySem.Str.ofString "ascii") u], []⟩ = (mkStr (PySem.Str.ofString "utf-8") >>= fun _ => mkStr (PySem.Str.ofString "ascii") >>= fun e => mkStr (PySem.Str.ofString "bytes.decode") >>= fun d =>
    call (.builtin "_codecs.decode.text") [.bytes (c :: cs).toArray t, e, .none, d] >>= fun v => ret v) := by kernel_rfl
theorem road_ascii {id : String} {b : Array UInt8} : _codecs.decodeRoad id b (PySem.Str.ofString "ascii") none [] = (_codecs.runDecoder id _codecs.asciiDecoder none true b 0 [] >>= fun r => mkStr ⟨r.1⟩) := by kernel_rfl
noncomputable def iter {β : Type} (g : β → β) : Nat → β → β
  | 0, b => b
  | n + 1, b => iter g n (g b)
theorem forIn_steps {α β : Type} (f : α → β → Sem (ForInStep β)) (g : β → β) : ∀ (l : List α) (b : β), (∀ x y, (∃ k < l.length, y = iter g k b) → f x y = pure (ForInStep.yield (g y))) → forIn l b f = pure (iter g l.length b)
  | [], b, _ => rfl
  | a :: l, b, h => by
    rw [List.forIn_cons, h a b ⟨0, by simp, rfl⟩]
    simp only [pure_bind]
    rw [forIn_steps f g l (g b) fun x y hy => h x y ?_]
    · rfl
    · obtain ⟨k, hk, e⟩ := hy
      exact ⟨k + 1, by simp; omega, e⟩
noncomputable def ascStep (b : Array UInt8) (x : Nat × Array Nat × _codecs.Faults) : Nat × Array Nat × _codecs.Faults := (x.1 + 1, x.2.1 ++ #[(b.getD x.1 0).toNat], x.2.2)
theorem asc_iter (b : Array UInt8) (st : _codecs.Faults) : ∀ k p out, iter (ascStep b) k (p, out, st) = (p + k, out ++ ((List.range' p k).map fun i => (b.getD i 0).toNat).toArray, st)
  | 0, p, out => by simp [iter]
  | k + 1, p, out => by
    rw [iter]
    show iter (ascStep b) k (p + 1, out ++ #[(b.getD p 0).toNat], st) = _
    rw [asc_iter b st k, List.range'_succ]
    simp [Nat.add_assoc, Nat.add_comm 1 k]
theorem run_ascii {id : String} {b : Array UInt8} (hb : ∀ i < b.size, (b.getD i 0).toNat < 128) (hz : b.size ≤ 1000) : _codecs.runDecoder id _codecs.asciiDecoder none true b 0 [] = pure ((b.toList.map fun c => c.toNat).toArray, b.size) := by
  unfold _codecs.runDecoder
  dsimp only
  rw [Std.Legacy.Range.forIn_eq_forIn_range']
  have hsz : [:b.size].size = b.size := by simp
  rw [hsz]
  rw [forIn_steps _ (ascStep b) _ (0, #[], {})]
  · rw [asc_iter]
    simp only [pure_bind, List.length_range', Nat.zero_add]
    congr 2
    apply Array.toList_inj.mp
    apply List.ext_getElem
    · simp
    · intro i h1 h2
      simp at h1 h2
      simp [h1]
  · intro x y hy
    obtain ⟨k, hk, rfl⟩ := hy
    rw [asc_iter]
    rw [List.length_range'] at hk
    have h1 : ¬ (#[] ++ ((List.range' 0 k).map fun i => (b.getD i 0).toNat).toArray).size > sizeLine := by simp [sizeLine_eq]; (first | lia | omega)
    have h2 : ¬ (0 + k ≥ b.size) := by (first | lia | omega)
    have h3 : _codecs.asciiDecoder.find true b (0 + k) = .text [(b.getD (0 + k) 0).toNat] (0 + k + 1) := by
      show (if (b.getD (0 + k) 0).toNat < 128 then _ else _) = _
      rw [if_pos (hb _ (by (first | lia | omega)))]
      rfl
    simp only [if_neg h1, if_neg h2, h3]
    rfl
section
variable {prog : Program} {w : World} {A : Around} {E : Value → Shared → Prop} {s : Shared} {b : Array UInt8} {c : UInt8} {cs : List UInt8} {t : Tok} {x : PySem.Str} {n : Nat}
theorem dec_text {t1 t2 : Tok} {d : PySem.Str} (hd : ∀ id, _codecs.runDecoder id _codecs.asciiDecoder none true b 0 [] = pure (x.cps, n)) :
    Meets («_codecs.decode.text» ⟨[.bytes b t, .str (PySem.Str.ofString "ascii") t1, .none, .str d t2], []⟩) (fun _ R s => x.length ≤ sizeLine ∧ R (.ok (.ret (.str x s.toks))) { s with toks := s.toks + 1 }) := by
  refine .of_wp fun prog w A R s hS => ?_
  obtain ⟨hsz, h⟩ := hS
  show wpAny _ _ (Bytes.bytesLike _ (.bytes b t) >>= fun r => _) _ _ s
  refine wpAny_bind (wpAny_of_eq KBd.like_eq ?_)
  refine wpAny_bind (wpAny_of_eq KBd.held_eq ?_)
  show wpAny _ _ (_codecs.decodeRoad _ b (PySem.Str.ofString "ascii") none [] >>= fun v => _) _ _ s
  rw [road_ascii, hd]
  refine wpAny_bind (wpAny_bind (wpAny_pure ?_))
  exact wpAny_mkStr (wpAny_pure ⟨_, rfl, h⟩) hsz
theorem dec_meets {u : Tok} (hd : ∀ id, _codecs.runDecoder id _codecs.asciiDecoder none true (c :: cs).toArray 0 [] = pure (x.cps, n)) :
    Meets («bytes.decode» ⟨[.bytes (c :: cs).toArray t, .str (PySem.Str.ofString "ascii") u], []⟩) (fun _ R s => x.length ≤ sizeLine ∧ ∀ t' k, R (.ok (.ret (.str x t'))) { s with toks := k }) := by
  refine .of_wp fun prog w A R s hS => ?_
  obtain ⟨hsz, h⟩ := hS
  rw [dec_entry]
  refine wpAny_bind (wpAny_mkStr ?_ (by decide))
  refine wpAny_bind (wpAny_mkStr ?_ (by decide))
  refine wpAny_bind (wpAny_mkStr ?_ (by decide))
  exact wpAny_bind (call_function_meets KBd.kind_text KBd.plain_text KBd.entry_text (KBd.args_text _ _ _ _) (dec_text hd) ⟨hsz, wpAny_pure ⟨_, rfl, h _ _⟩⟩)
/-- letters' bytes read as text -/
theorem dec_call {l : List Nat} {u : Tok} {Q : Value → Shared → Prop} (hl : ∀ c ∈ l, lett c) (hn : l ≠ []) (hz : l.length ≤ 1000) (h : ∀ t' k, Q (.str (st l) t') { s with toks := k }) :
    wpAny (model prog w) A (call (.builtin "bytes.decode") [.bytes (List.toArray (l.map UInt8.ofNat)) t, .str (PySem.Str.ofString "ascii") u]) Q E s := by
  cases l with
  | nil => exact absurd rfl hn
  | cons a r =>
    have hs : (st (a :: r)).length ≤ sizeLine := by rw [st_len, sizeLine_eq]; (first | lia | omega)
    refine call_meets FB.slot_bytes_decode (typeIs_bytes _ _ _) FB.entry_bytes_decode (args_dec2 _ _) (dec_meets (x := st (a :: r)) (n := (a :: r).length) fun id => ?_) ⟨hs, h⟩
    have e : ∀ c ∈ (a :: r), (UInt8.ofNat c).toNat = c := fun c hc => by
      have := (hl c hc).2
      simp
      (first | lia | omega)
    have hsz : (List.toArray ((a :: r).map UInt8.ofNat)).size = (a :: r).length := by simp
    have h2 : ((List.toArray ((a :: r).map UInt8.ofNat)).toList.map fun c => c.toNat) = a :: r := by
      rw [List.toList_toArray, List.map_map]
      conv => rhs; rw [← List.map_id (a :: r)]
      exact List.map_congr_left e
    have := run_ascii (id := id) (b := List.toArray ((a :: r).map UInt8.ofNat)) (fun i hi => ?_) (by rw [hsz]; exact hz)
    · rw [h2, hsz] at this
      exact this
    · rw [hsz] at hi
      have : (List.toArray ((a :: r).map UInt8.ofNat)).getD i 0 = UInt8.ofNat ((a :: r)[i]) := by
        have hi2 : i < (List.toArray ((a :: r).map UInt8.ofNat)).size := by rw [hsz]; exact hi
        rw [Array.getD, dif_pos hi2]
        show (List.toArray ((a :: r).map UInt8.ofNat))[i] = _
        rw [List.getElem_toArray, List.getElem_map]
      rw [this, e _ (List.getElem_mem hi)]
      have := (hl _ (List.getElem_mem hi)).2
      (first | lia | omega)
theorem dec_method {M : Model} {b : Array UInt8} {pl : Sem Bool} {Q : Value × List Value → Shared → Prop} (h : Q (.builtin "bytes.decode", [.bytes b t]) s) : wpAny M A (getMethod (.bytes b t) "decode" pl) Q E s := KBd.method h
end
end Mine
end
section
open PySem PySem.W PyProof.Rows
set_option maxRecDepth 100000
namespace Mine
theorem ints_kf : ∀ {vs : List Value} {ns : List Int}, IntsAre vs ns → kf_ints vs = true
  | _, _, .nil => rfl
  | _, _, .cons _ _ h => by have := ints_kf h; exact this
theorem ints_at {k : Int} : ∀ {vs : List Value} {ns : List Int}, IntsAre vs ns → k ∈ ns → kf_at k vs = some (ns.idxOf k)
  | _, _, .nil, h => by cases h
  | _, _, .cons (vs := vs) (ns := ns) a t h, hk => by
    have e : isInt k (.int a t) = decide (a = k) := by
      unfold isInt
      by_cases h : a = k <;> simp [h]
    unfold kf_at
    rw [e, List.idxOf_cons]
    by_cases hak : a = k
    · subst hak; simp
    · have hk' : k ∈ ns := by
        rcases List.mem_cons.mp hk with h | h
        · exact absurd h.symm hak
        · exact h
      have : (a == k) = false := by simp [hak]
      rw [ints_at h hk', decide_eq_false hak, this]
      rfl
section
variable {prog : Program} {w : World} {A : Around} {E : Value → Shared → Prop} {s : Shared} {h₀ : Heap} {L D : Addr} {m : PySem.Str → Option Value} {news : List (Addr × Obj)} {vs : List Value} {ns : List Int} {n : Nat}
theorem truthy_lst {Q : Bool → Shared → Prop} {b : Bool} (N : News h₀ L s.heap news) (hm : (D, W.listOf (List.toArray vs) n) ∈ news) (hz : vs.length ≤ 4000) (hb : (!vs.isEmpty) = b) (h : ∀ k, Q b { s with toks := k }) : wpAny (model prog w) A (truthy (.ref D)) Q E s := by
  refine wpAny_truthy_list (News.isList N hm) (by simp; (first | lia | omega)) ?_
  have e : (!(List.toArray vs).isEmpty) = b := by rw [← hb]; simp
  rw [e]
  exact h _
theorem index_lst {k : Int} {t : Tok} {Q : Value → Shared → Prop} (N : News h₀ L s.heap news) (hm : (D, W.listOf (List.toArray vs) n) ∈ news) (hi : IntsAre vs ns) (hz : ns.length ≤ 4000) (hk : k ∈ ns) (h : ∀ t' k', Q (.int (ns.idxOf k : Nat) t') { s with toks := k' }) :
    wpAny (model prog w) A (call (.builtin "list.index") [.ref D, .int k t]) Q E s :=
  kf_index N hm (by simpa using ints_kf hi) (by simpa using ints_at hi hk) rfl (by have := hi.length; simp [sizeLine_eq]; (first | lia | omega)) (h _ _)
theorem item_lst {value slice : PySem.Expr} {k : Nat} {u : Tok} {y : Int} {Q : Value → Shared → Prop} (N : News h₀ L s.heap news) (hm : (D, W.listOf (List.toArray vs) n) ∈ news) (hi : IntsAre vs ns) (hz : ns.length ≤ 4000) (hk : ns[k]? = some y) (h : ∀ t, Q (.int y t) s)
    (hs : subscripted slice false (.ref D) (.int (k : Nat) u) = operate [.ref D, .int (k : Nat) u] (getItem (.ref D) (.int (k : Nat) u)) := by with_unfolding_all rfl) (hg : ∀ r, letTemporaryGo value (.ref D) r = pure () := by intro _; with_unfolding_all rfl) :
    wpAny (model prog w) A (subscriptTail value slice (.ref D) (.int (k : Nat) u)) Q E s := by
  have hlt : k < ns.length := by
    rcases Nat.lt_or_ge k ns.length with h | h
    · exact h
    · rw [List.getElem?_eq_none h] at hk; cases hk
  refine item_list_ints (News.isList N hm) hi (by (first | lia | omega)) (by (first | lia | omega)) (by (first | lia | omega)) (fun t => ?_) hs hg
  have : ns.getD (Int.toNat (k : Nat)) 0 = y := by rw [Int.toNat_natCast, List.getD, hk]; rfl
  rw [this]
  exact h t
end
end Mine
end
section
open PySem PySem.W PyProof.Rows
set_option maxRecDepth 100000
namespace Mine
/-- the least of a list -/
noncomputable def minI (ns : List Int) : Int := (ns.min?).getD 0
theorem minI_eq {ns : List Int} {M : Int} (h1 : M ∈ ns) (h2 : ∀ a, a ∈ ns → M ≤ a) : minI ns = M := by
  unfold minI
  rw [List.min?_eq_some_iff.mpr ⟨h1, h2⟩]
  rfl
/-- the line of words in brackets -/
noncomputable def lineF : Nat → List Int → List Nat
  | 0, _ => []
  | k + 1, ns => if ns = [] then [] else [40] ++ lineF k (ns.take (ns.idxOf (minI ns))) ++ apL (minI ns).toNat ++ lineF k (ns.drop (ns.idxOf (minI ns) + 1)) ++ [41]
theorem lineF_nil (k : Nat) : lineF k [] = [] := by cases k <;> simp [lineF]
theorem lineF_cons {k : Nat} {ns : List Int} (h : ns ≠ []) : lineF (k + 1) ns = [40] ++ lineF k (ns.take (ns.idxOf (minI ns))) ++ apL (minI ns).toNat ++ lineF k (ns.drop (ns.idxOf (minI ns) + 1)) ++ [41] := by rw [lineF, if_neg h]
theorem lineF_len (k : Nat) : ∀ ns : List Int, ns.length ≤ k → (∀ x ∈ ns, x.toNat < 16 ^ 6) → (lineF k ns).length ≤ 8 * ns.length := by
  induction k with
  | zero => intro ns h _; simp [lineF]
  | succ k ih =>
    intro ns h hb
    by_cases hn : ns = []
    · subst hn; rw [lineF_nil]; simp
    · have hm : minI ns ∈ ns := by
        unfold minI
        cases e : ns.min? with
        | none => exact absurd (List.min?_eq_none_iff.mp e) hn
        | some M => exact (List.min?_eq_some_iff.mp e).1
      have hlt : ns.idxOf (minI ns) < ns.length := List.idxOf_lt_length_of_mem hm
      have h1 := ih (ns.take (ns.idxOf (minI ns))) (by rw [List.length_take]; (first | lia | omega)) (fun x hx => hb x (List.mem_of_mem_take hx))
      have h2 := ih (ns.drop (ns.idxOf (minI ns) + 1)) (by rw [List.length_drop]; (first | lia | omega)) (fun x hx => hb x (List.mem_of_mem_drop hx))
      have h3 := apL_len (hb _ hm)
      rw [List.length_take] at h1
      rw [List.length_drop] at h2
      rw [lineF_cons hn]
      simp only [List.length_append, List.length_cons, List.length_nil]
      (first | lia | omega)
section
variable {prog : Program} {w : World} {A : Around} {E : Value → Shared → Prop} {s : Shared} {t u : Tok}
theorem add_st {a b : List Nat} {Q : Value → Shared → Prop} (ha : a.length ≤ 4000) (hb : b.length ≤ 4000) (h : ∀ t' k, Q (.str (st (a ++ b)) t') { s with toks := k }) : wpAny (model prog w) A (binaryOp .Add (.str (st a) t) (.str (st b) u)) Q E s := by
  refine PyProof.Rows.add_str (fun t' k => ?_) (by rw [st_len, st_len, sizeLine_eq]; (first | lia | omega))
  rw [st_app]
  exact h t' k
end
end Mine
end
section
open PySem PySem.W PyProof.Rows
set_option maxRecDepth 100000
namespace Mine
section
variable {h₀ h : Heap} {L : Addr} {q : Addr × Obj} {l l' r : List (Addr × Obj)}
theorem nb_tl (N : News h₀ L h (q :: r)) : News h₀ L h r := fun p hp => N p (.tail _ hp)
theorem nb_sub (N : News h₀ L h l) (hs : ∀ p ∈ l', p ∈ l) : News h₀ L h l' := fun p hp => N p (hs p hp)
theorem nb_skip {α : Type} {x y : α} {l : List α} (h : x ∈ l) : x ∈ y :: l := List.mem_cons_of_mem _ h
end
section
open PySem.Calls
variable {prog : Program} {w : World} {A : Around} {E : Value → Shared → Prop} {s : Shared} {env : Env} {h₀ : Heap} {target : Expr} {body : List Stmt} {Q : Flow → Shared → Prop}
theorem allObj_mono : ∀ {ws : List (Addr × String)} {k k' : List (Addr × Obj) → Prop}, (∀ its, k its → k' its) → AllObj ws k → AllObj ws k'
  | [], _, _, hk, h => hk _ h
  | w :: _, _, _, hk, h => fun o ho => allObj_mono (fun its => hk ((w.1, o) :: its)) (h o ho)
theorem unrEnd_mono {L : Addr} {s₁ s₂ : Shared} {its : List (Addr × Obj)} {rest rest' : (PySem.Str → Option Value) → List (Addr × Obj) → Prop} (hr : ∀ m n, rest m n → rest' m n) (h : UnrEndW h₀ L s₁ its rest s₂) : UnrEndW h₀ L s₁ its rest' s₂ := by
  obtain ⟨h', tk, m', news', e, F, N, ho, hq⟩ := h
  exact ⟨h', tk, m', news', e, F, N, ho, hr _ _ hq⟩
theorem unrPost_mono {L : Addr} {s₁ s₂ : Shared} {its : List (Addr × Obj)} {rest rest' : (PySem.Str → Option Value) → List (Addr × Obj) → Prop} {f : Flow} (hr : ∀ m n, rest m n → rest' m n) (h : UnrPostW h₀ L s₁ its rest Q f s₂) : UnrPostW h₀ L s₁ its rest' Q f s₂ := by
  cases f with
  | ret v => exact h
  | brk => exact h
  | next => exact unrEnd_mono hr h
  | cont => exact unrEnd_mono hr h
/-- a loop over items by an invariant of what is left, the frame's names and the ledger -/
theorem items_inv {ws : List (Addr × String)} {keep : List (Addr × Obj)} (J : List Itm → (PySem.Str → Option Value) → List (Addr × Obj) → Prop)
    (turn : ∀ a r m news v h tk, J (a :: r) m news → a.Is v h → Fr h₀ env.locals h m → AllObj ws (fun its => News h₀ env.locals h (its ++ news) →
      wpAny (model prog w) A (assign target env v) (fun _ s₂ => wpAny (model prog w) A (execs body env) (UnrPostW h₀ env.locals { s with heap := h, toks := tk } its (fun m' n' => SubL keep n' ∧ J r m' n') Q) E s₂) E { s with heap := h, toks := tk }))
    (done : ∀ m news h tk, J [] m news → Fr h₀ env.locals h m → News h₀ env.locals h news → Q .next { s with heap := h, toks := tk }) :
    ∀ {xs : List Itm} {m : PySem.Str → Option Value} {news : List (Addr × Obj)}, J xs m news → ItemsRest prog w A E h₀ env target body Q s ws keep xs m news
  | [], m, news, hJ => fun h tk F N => done m news h tk hJ F N
  | a :: r, m, news, hJ => fun v h tk hv F => allObj_mono (fun its k N => wpAny_mono (k N) (fun _ s₂ h₂ => wpAny_mono h₂ (fun f s₃ h₃ => unrPost_mono (fun m' n' hj => ⟨hj.1, items_inv J turn done hj.2⟩) h₃) fun _ _ e => e) fun _ _ e => e) (turn a r m news v h tk hJ hv F)
theorem offW_of1 {p : Addr × Obj} : ∀ {its : List (Addr × Obj)}, (∀ q ∈ its, p.1 ≠ q.1 ∨ p.2.cls ≠ q.2.cls) → OffW1 p its
  | [], _ => trivial
  | q :: _, h => ⟨h q (.head _), offW_of1 fun q' hq => h q' (.tail _ hq)⟩
theorem offW_of {its : List (Addr × Obj)} : ∀ {l : List (Addr × Obj)}, (∀ p ∈ l, ∀ q ∈ its, p.1 ≠ q.1 ∨ p.2.cls ≠ q.2.cls) → OffW its l
  | [], _ => trivial
  | p :: _, h => ⟨offW_of1 (h p (.head _)), offW_of fun p' hp => h p' (.tail _ hp)⟩
theorem offW_lt1 {p : Addr × Obj} : ∀ {its : List (Addr × Obj)}, (∀ q ∈ its, @LT.lt Nat _ p.1 q.1) → OffW1 p its
  | [], _ => trivial
  | q :: _, h => ⟨.inl (Nat.ne_of_lt (h q (.head _))), offW_lt1 fun q' hq => h q' (.tail _ hq)⟩
theorem offW_lt {its : List (Addr × Obj)} : ∀ {l : List (Addr × Obj)}, (∀ p ∈ l, ∀ q ∈ its, @LT.lt Nat _ p.1 q.1) → OffW its l
  | [], _ => trivial
  | p :: _, h => ⟨offW_lt1 (h p (.head _)), offW_lt fun p' hp => h p' (.tail _ hp)⟩
theorem subL_of {all : List (Addr × Obj)} : ∀ {l : List (Addr × Obj)}, (∀ p ∈ l, p ∈ all) → SubL l all
  | [], _ => trivial
  | p :: _, h => ⟨h p (.head _), subL_of fun q hq => h q (.tail _ hq)⟩
/-- a turn's end: the iterators stand, the ledger is news' -/
theorem turn_end {L : Addr} {s₁ : Shared} {h' : Heap} {tk : Nat} {its news' all keep : List (Addr × Obj)} {m' : PySem.Str → Option Value} {J : (PySem.Str → Option Value) → List (Addr × Obj) → Prop} (F : Fr h₀ L h' m') (N : News h₀ L h' all)
    (hI : ∀ p ∈ its, p ∈ all) (sub : ∀ p ∈ news', p ∈ all) (off : ∀ p ∈ news', ∀ q ∈ its, @LT.lt Nat _ p.1 q.1) (hk : ∀ p ∈ keep, p ∈ news') (hJ : J m' news') :
    UnrPostW h₀ L s₁ its (fun m n => SubL keep n ∧ J m n) Q .next { s₁ with heap := h', toks := tk } :=
  UnrEndW.intro F N news' (subL_of hI) (subL_of sub) (offW_lt off) ⟨subL_of hk, hJ⟩
theorem turn_cont {L : Addr} {s₁ : Shared} {h' : Heap} {tk : Nat} {its news' all keep : List (Addr × Obj)} {m' : PySem.Str → Option Value} {J : (PySem.Str → Option Value) → List (Addr × Obj) → Prop} (F : Fr h₀ L h' m') (N : News h₀ L h' all)
    (hI : ∀ p ∈ its, p ∈ all) (sub : ∀ p ∈ news', p ∈ all) (off : ∀ p ∈ news', ∀ q ∈ its, @LT.lt Nat _ p.1 q.1) (hk : ∀ p ∈ keep, p ∈ news') (hJ : J m' news') :
    UnrPostW h₀ L s₁ its (fun m n => SubL keep n ∧ J m n) Q .cont { s₁ with heap := h', toks := tk } :=
  UnrEndW.intro F N news' (subL_of hI) (subL_of sub) (offW_lt off) ⟨subL_of hk, hJ⟩
end
end Mine
end
section
open PySem PySem.W PyProof.Rows PySem.Calls
set_option maxRecDepth 100000
set_option maxHeartbeats 1000000
namespace Mine
theorem stand_none : notAStandIn Value.none = pure () := rfl
/-- one name and the rest of the arguments -/
theorem rest_binds {name qual n1 n2 : PySem.Str} {a1 a2 : Option PySem.Expr} {p1 p2 : Pos} {body : List Stmt} {scope : Scope} {kV doc pm cdv ct : Value} {an : Option Addr} {x : Value} {vs : List Value} (hr : (List.lookup n1 [(n1, x)]) = some x) :
    bindArgs (fnOf name qual { posonlyargs := [], args := [{ arg := n1, annotation := a1, pos := p1 }], vararg := some { arg := n2, annotation := a2, pos := p2 }, kwonlyargs := [], kw_defaults := [], kwarg := none, defaults := [] } body scope Value.none kV doc pm an cdv ct) ⟨x :: vs, []⟩
      = (newTuple vs >>= fun v => pure [(n1, x), (n2, v)]) := by
  unfold bindArgs
  simp [seqItems?, hr, List.zip, stand_none]
section
variable {prog : Program} {w : World} {A A₀ : Around} {s : Shared} {K : Frag} {L : Addr} {h₀ base : Heap} {m mg mb : PySem.Str → Option Value} {news : List (Addr × Obj)} {p : Program} {loose : List PySem.Str} {mean : ExcName → Option Value}
/-- the call of a def whose arguments' binding is told by an equation -/
theorem enter_rest {env : Env} {outer : List Env} {R : Result → Shared → Prop} {name qual : PySem.Str} {params : Arguments} {body : List Stmt} {scope : Scope} {dV kV doc pm cdv ct oc : Value} {an od : Option Addr} {osl : Array (Option Value)} {f : Addr} {args : Args} {vs : List Value} {binds : Value → List (PySem.Str × Value)}
    (B : Below A₀ base outer h₀) (F : Fr h₀ L s.heap m) (X₀ : K.In h₀) (N : News h₀ L s.heap news) (T : Top p loose mean mg mb h₀) (hA : A.frames = some (env :: outer)) (hf : env.frame = some L) (hke : env.scope.kind = .function)
    (ho : K.lookup f = some ⟨oc, od, .func (fnOf name qual params body scope dV kV doc pm an cdv ct), osl⟩) (hcd : codeIn K cdv qual = true) (hroom : A.depth < recursionLimit)
    (hb : bindArgs (fnOf name qual params body scope dV kV doc pm an cdv ct) args = (newTuple vs >>= fun v => pure (binds v))) (hz : vs.length ≤ sizeLine) (hloc : ∀ D, ∀ y ∈ binds (.ref D), scope.names.lookup y.1 = some .local)
    (h : ∀ D g L' h₁, (∀ p ∈ news, p.1 < D) → Fr h₀ L g m → Fr g L' h₁ (fun y => (binds (.ref D)).reverse.lookup y) → News g L' h₁ ((D, ({ cls := .type "tuple", data := .seq vs.toArray } : Obj)) :: news) → Below A base (env :: outer) g → K.In g → Top p loose mean mg mb g →
      wpAny (model prog w) (A.deeper (envOf qual scope L' f cdv)) (execs body (envOf qual scope L' f cdv))
        (fun fl s' => LeaveK h₀ L m g R (match fl with | .ret v => v | _ => .none) s')
        (fun e s' => wpAny (model prog w) (A.deeper (envOf qual scope L' f cdv)) (leaving (envOf qual scope L' f cdv) e) (fun _ s'' => R (.error e) s'') (fun e' s'' => R (.error e') s'') s')
        { s with heap := h₁, toks := s.toks + (binds (.ref D)).length })
    (hco : scope.isCoroutine = false) (hgen : scope.isGenerator = false) (hk : scope.kind = .function)
    (hcell : ∀ x ∈ scope.names, x.2 ≠ .cell) : codeAny (model prog w) A (.call (.ref f) args) R s := by
  refine codeAny_call_function (fd := fnOf name qual params body scope dV kV doc pm an cdv ct) (body := body) hroom ((X₀.keeps F.keep) _ _ ho) rfl hco hgen rfl (codeRec_of (X₀.keeps F.keep) hcd) ?_
  rw [hb]
  refine wpAny_bind (kup_newTuple F N (fun D h' F' N' l => wpAny_pure ?_) hz)
  exact kp_frame (cl := []) (s := { s with heap := h' }) B F' N' T.nolimit hA hf hke (hloc D) (fun g L' h₁ FG FL NG BG st => h D g L' h₁ l FG FL NG BG (X₀.keeps st) (T.keeps st)) hcell hk
end
end Mine
end
section
open PySem PySem.W PyProof.Rows
set_option maxRecDepth 100000
namespace Mine
/-- o is the least deep from itself to p -/
noncomputable def ancB (deps : List Int) (p o : Nat) : Bool := (List.range deps.length).all fun j => !(decide (min p o ≤ j) && decide (j ≤ max p o)) || decide (deps.getD o 0 ≤ deps.getD j 0)
theorem ancB_iff {deps : List Int} {p o : Nat} : ancB deps p o = true ↔ ∀ j, j < deps.length → min p o ≤ j → j ≤ max p o → deps.getD o 0 ≤ deps.getD j 0 := by
  unfold ancB
  rw [List.all_eq_true]
  constructor
  · intro h j hj h1 h2
    have := h j (List.mem_range.mpr hj)
    simp only [Bool.or_eq_true, Bool.not_eq_true', Bool.and_eq_false_iff, decide_eq_false_iff_not, decide_eq_true_eq] at this
    rcases this with (h | h) | h
    · exact absurd h1 h
    · exact absurd h2 h
    · exact h
  · intro h j hj
    have hj' := List.mem_range.mp hj
    simp only [Bool.or_eq_true, Bool.not_eq_true', Bool.and_eq_false_iff, decide_eq_false_iff_not, decide_eq_true_eq]
    by_cases h1 : min p o ≤ j
    · by_cases h2 : j ≤ max p o
      · exact .inr (h j hj' h1 h2)
      · exact .inl (.inr h2)
    · exact .inl (.inl h1)
/-- a stretch of a list -/
noncomputable abbrev strt (deps : List Int) (a b : Nat) : List Int := (deps.drop a).take (b + 1 - a)
theorem strt_mem {deps : List Int} {a b : Nat} {x : Int} (hb : b < deps.length) : x ∈ strt deps a b ↔ ∃ j, a ≤ j ∧ j ≤ b ∧ deps.getD j 0 = x := by
  constructor
  · intro h
    refine fold_G ?_
    intro G9
    obtain ⟨i, hi, e⟩ := List.mem_iff_getElem.mp h
    have hi' := hi
    rw [List.length_take, List.length_drop] at hi'
    refine ⟨a + i, by (first | lia | omega), by (first | lia | omega), ?_⟩
    rw [List.getElem_take, List.getElem_drop] at e
    rw [← e]
    have : a + i < deps.length := by (first | lia | omega)
    simp [List.getD, this]
  · rintro ⟨j, h1, h2, rfl⟩
    have hj : j < deps.length := by (first | lia | omega)
    refine List.mem_iff_getElem.mpr ⟨j - a, ?_, ?_⟩
    · rw [List.length_take, List.length_drop]; (first | lia | omega)
    · rw [List.getElem_take, List.getElem_drop]
      have : a + (j - a) = j := by (first | lia | omega)
      simp only [this]
      simp [List.getD, hj]
theorem anc_min {deps : List Int} {p o : Nat} {M : Int} (hp : p < deps.length) (ho : o < deps.length) (h1 : M ∈ strt deps (min p o) (max p o)) (h2 : ∀ a, a ∈ strt deps (min p o) (max p o) → M ≤ a) :
    deps.getD o 0 = M ↔ ancB deps p o = true := by
  have hb : max p o < deps.length := by (first | lia | omega)
  rw [ancB_iff]
  constructor
  · rintro rfl j hj a b
    exact h2 _ ((strt_mem hb).mpr ⟨j, a, b, rfl⟩)
  · intro h
    obtain ⟨j, a, b, e⟩ := (strt_mem hb).mp h1
    have h3 := h2 _ ((strt_mem hb).mpr ⟨o, by omega, by (first | lia | omega), rfl⟩)
    have h4 := h j (by (first | lia | omega)) a b
    (first | lia | omega)
theorem run_nat {vs : List Value} {ns : List Int} {a b : Nat} (hi : IntsAre vs ns) (hb : b < ns.length) : IntsAre (slicePick vs.toArray (some (a : Int)) (some ((b : Int) + 1)) none).toList (strt ns a b) := by
  have h := kmk_run (x := (a : Int)) (y := (b : Int) + 1) hi (by (first | lia | omega)) (by (first | lia | omega))
  have e1 : ((a : Int)).toNat = a := by (first | lia | omega)
  have e2 : ((b : Int) + 1).toNat = b + 1 := by (first | lia | omega)
  rw [e1, e2, Nat.min_eq_left (by (first | lia | omega))] at h
  exact h
theorem strt_pos {ns : List Int} {a b : Nat} (hb : b < ns.length) (hab : a ≤ b) : 0 < (strt ns a b).length := by
  rw [List.length_take, List.length_drop]; (first | lia | omega)
noncomputable abbrev tupO (a b : Value) : Obj := { cls := .type "tuple", data := .seq #[a, b] }
/-- pairs of a number and a text -/
inductive TupsIn (rest : List (Addr × Obj)) : List Value → List (Int × PySem.Str) → Prop
  | nil : TupsIn rest [] []
  | cons {T : Addr} {d : Int} {t : Tok} {x : PySem.Str} {u : Tok} {as : List Value} {ds : List (Int × PySem.Str)} : (T, tupO (.int d t) (.str x u)) ∈ rest → TupsIn rest as ds → TupsIn rest (.ref T :: as) ((d, x) :: ds)
theorem TupsIn.mono {r r' : List (Addr × Obj)} (hs : ∀ q ∈ r, q ∈ r') : ∀ {as : List Value} {ds : List (Int × PySem.Str)}, TupsIn r as ds → TupsIn r' as ds
  | _, _, .nil => .nil
  | _, _, .cons hm h => .cons (hs _ hm) (h.mono hs)
theorem TupsIn.snoc {r : List (Addr × Obj)} {T : Addr} {d : Int} {t : Tok} {x : PySem.Str} {u : Tok} (hm : (T, tupO (.int d t) (.str x u)) ∈ r) : ∀ {as : List Value} {ds : List (Int × PySem.Str)}, TupsIn r as ds → TupsIn r (as ++ [.ref T]) (ds ++ [(d, x)])
  | _, _, .nil => .cons hm .nil
  | _, _, .cons hm' h => .cons hm' (h.snoc hm)
theorem TupsIn.len {r : List (Addr × Obj)} : ∀ {as : List Value} {ds : List (Int × PySem.Str)}, TupsIn r as ds → as.length = ds.length
  | _, _, .nil => rfl
  | _, _, .cons _ h => congrArg (· + 1) h.len
theorem TupsIn.get {r : List (Addr × Obj)} {as : List Value} {ds : List (Int × PySem.Str)} (H : TupsIn r as ds) : ∀ {i : Nat} {v : Value}, as[i]? = some v → ∃ T d t x u, v = .ref T ∧ ds[i]? = some (d, x) ∧ (T, tupO (.int d t) (.str x u)) ∈ r := by
  induction H with
  | nil => intro i v h; simp at h
  | @cons T d t x u as ds hm _ ih =>
    intro i v h
    cases i with
    | zero =>
      rw [List.getElem?_cons_zero] at h
      cases h
      exact ⟨T, d, t, x, u, rfl, rfl, hm⟩
    | succ i =>
      rw [List.getElem?_cons_succ] at h
      refine fold_G ?_
      intro G9
      obtain ⟨T, d, t, x, u, e1, e2, e3⟩ := ih h
      exact ⟨T, d, t, x, u, e1, by rw [List.getElem?_cons_succ]; exact e2, e3⟩
/-- the data gathered ahead of place i -/
noncomputable def ancD (deps : List Int) (names : List (List Nat)) (p i : Nat) : List (Int × PySem.Str) := ((List.range i).filter (ancB deps p)).map fun o => (deps.getD o 0, st (names.getD o []))
theorem ancD_succ_yes {deps : List Int} {names : List (List Nat)} {p i : Nat} (h : ancB deps p i = true) : ancD deps names p (i + 1) = ancD deps names p i ++ [(deps.getD i 0, st (names.getD i []))] := by
  unfold ancD
  rw [List.range_succ, List.filter_append, List.map_append]
  simp [h]
theorem ancD_succ_no {deps : List Int} {names : List (List Nat)} {p i : Nat} (h : ancB deps p i = false) : ancD deps names p (i + 1) = ancD deps names p i := by
  unfold ancD
  rw [List.range_succ, List.filter_append, List.map_append]
  simp [h]
end Mine
end
section
open PySem PySem.W PyProof.Rows
set_option maxRecDepth 100000
namespace Mine
/-- the sort's questions answered by a function, all asked of places below n -/
noncomputable def runN {α : Type} (n : Nat) (f : Nat → Nat → Bool) : KasT α → Option α
  | .ret a => some a
  | .ask i j k => if (decide (i < n) && decide (j < n)) = true then runN n f (k (f i j)) else none
theorem runN_congr {α : Type} {n : Nat} {f g : Nat → Nat → Bool} (h : ∀ i j, i < n → j < n → f i j = g i j) : ∀ t : KasT α, runN n f t = runN n g t
  | .ret _ => rfl
  | .ask i j k => by
    simp only [runN]
    by_cases hc : (decide (i < n) && decide (j < n)) = true
    · rw [if_pos hc, if_pos hc]
      have hc' : i < n ∧ j < n := by simpa using hc
      rw [h i j hc'.1 hc'.2]
      exact runN_congr h _
    · rw [if_neg hc, if_neg hc]
theorem runN_wp {α : Type} {n : Nat} {f : Nat → Nat → Bool} {ask : Nat → Nat → (Bool → Shared → Prop) → Shared → Prop} {Q : α → Shared → Prop} {s : Shared} (ha : ∀ i j C, i < n → j < n → C (f i j) s → ask i j C s) :
    ∀ (t : KasT α) (a : α), runN n f t = some a → Q a s → t.kasWp ask Q s
  | .ret b, a, e, hq => by
    simp only [runN, Option.some.injEq] at e
    subst e
    exact hq
  | .ask i j k, a, e, hq => by
    simp only [runN] at e
    by_cases hc : (decide (i < n) && decide (j < n)) = true
    · rw [if_pos hc] at e
      have hc' : i < n ∧ j < n := by simpa using hc
      exact ha i j _ hc'.1 hc'.2 (runN_wp ha _ a e hq)
    · rw [if_neg hc] at e
      cases e
/-- all rows of k unlike numbers below n -/
noncomputable def permsL (n : Nat) : Nat → List (List Nat)
  | 0 => [[]]
  | k + 1 => (permsL n k).flatMap fun r => ((List.range n).filter fun x => !r.contains x).map (· :: r)
theorem permsL_mem {n : Nat} : ∀ {r : List Nat}, r.Nodup → (∀ x ∈ r, x < n) → r ∈ permsL n r.length
  | [], _, _ => by simp [permsL]
  | x :: r, hd, hb => by
    simp only [List.nodup_cons] at hd
    have ih := permsL_mem hd.2 fun y hy => hb y (.tail _ hy)
    simp only [permsL, List.length_cons, List.mem_flatMap, List.mem_map, List.mem_filter, List.mem_range]
    exact ⟨r, ih, x, ⟨hb x (.head _), by simpa using hd.1⟩, rfl⟩
noncomputable def okS (n : Nat) (r : List Nat) : Bool := match runN n (fun i j => decide (r.getD i 0 < r.getD j 0)) (kas_sort n) with
  | some p => p.toList.map (r.getD · 0) == List.range n && p.toList.all (· < n)
  | none => false
/-- a place with greater ones on both sides -/
noncomputable def valley (r : List Nat) : Bool := (List.range r.length).any fun j => ((List.range j).any fun i => decide (r.getD j 0 < r.getD i 0)) && ((List.range r.length).any fun k => decide (j < k) && decide (r.getD j 0 < r.getD k 0))
theorem okS_2 : (permsL 2 2).all (fun r => valley r || okS 2 r) = true := by decide +kernel
theorem okS_3 : (permsL 3 3).all (fun r => valley r || okS 3 r) = true := by decide +kernel
theorem okS_4 : (permsL 4 4).all (fun r => valley r || okS 4 r) = true := by decide +kernel
theorem okS_5 : (permsL 5 5).all (fun r => valley r || okS 5 r) = true := by decide +kernel
theorem okS_6 : (permsL 6 6).all (fun r => valley r || okS 6 r) = true := by decide +kernel
theorem okS_all {n : Nat} {r : List Nat} (h2 : 2 ≤ n) (h6 : n ≤ 6) (hl : r.length = n) (hd : r.Nodup) (hb : ∀ x ∈ r, x < n) (hv : valley r = false) : okS n r = true := by
  have hm := permsL_mem hd hb
  rw [hl] at hm
  have key : (permsL n n).all (fun r => valley r || okS n r) = true := by
    have : n = 2 ∨ n = 3 ∨ n = 4 ∨ n = 5 ∨ n = 6 := by (first | lia | omega)
    rcases this with rfl | rfl | rfl | rfl | rfl
    · exact okS_2
    · exact okS_3
    · exact okS_4
    · exact okS_5
    · exact okS_6
  have := List.all_eq_true.mp key r hm
  rw [hv, Bool.false_or] at this
  exact this
/-- a number's rank among numbers -/
noncomputable def rk (ds : List Int) (x : Int) : Nat := (ds.filter fun y => decide (y < x)).length
theorem rk_lt_len {ds : List Int} {x : Int} (h : x ∈ ds) : rk ds x < ds.length := by
  unfold rk
  induction ds with
  | nil => cases h
  | cons y r ih =>
    rw [List.filter_cons]
    rcases List.mem_cons.mp h with rfl | h
    · have : decide (x < x) = false := by simp
      rw [this]
      simp only [Bool.false_eq_true, if_false, List.length_cons]
      exact Nat.lt_succ_of_le (List.length_filter_le _ _)
    · have := ih h
      split
      · simp only [List.length_cons]; (first | lia | omega)
      · simp only [List.length_cons]; (first | lia | omega)
theorem rk_mono {ds : List Int} {x y : Int} (hx : x ∈ ds) (h : x < y) : rk ds x < rk ds y := by
  unfold rk
  have sub : ∀ l : List Int, (l.filter fun z => decide (z < x)).length ≤ (l.filter fun z => decide (z < y)).length := by
    intro l
    induction l with
    | nil => exact Nat.le_refl _
    | cons z r ih =>
      rw [List.filter_cons, List.filter_cons]
      by_cases h1 : z < x
      · have h2 : z < y := by (first | lia | omega)
        simp only [h1, h2, decide_true, if_true, List.length_cons]; (first | lia | omega)
      · simp only [h1, decide_false, Bool.false_eq_true, if_false]
        split
        · simp only [List.length_cons]; (first | lia | omega)
        · exact ih
  induction ds with
  | nil => cases hx
  | cons z r ih =>
    rw [List.filter_cons, List.filter_cons]
    rcases List.mem_cons.mp hx with rfl | hx
    · have h1 : decide (x < x) = false := by simp
      have h2 : decide (x < y) = true := by simpa using h
      rw [h1, h2]
      simp only [Bool.false_eq_true, if_false, if_true, List.length_cons]
      have := sub r
      (first | lia | omega)
    · have := ih hx
      by_cases h1 : z < x
      · have h2 : z < y := by (first | lia | omega)
        simp only [h1, h2, decide_true, if_true, List.length_cons]; (first | lia | omega)
      · simp only [h1, decide_false, Bool.false_eq_true, if_false]
        split
        · simp only [List.length_cons]; (first | lia | omega)
        · exact this
theorem rk_iff {ds : List Int} {x y : Int} (hx : x ∈ ds) (hy : y ∈ ds) : rk ds x < rk ds y ↔ x < y := by
  constructor
  · intro h
    by_cases h1 : x < y
    · exact h1
    · by_cases h2 : y < x
      · have := rk_mono hy h2; (first | lia | omega)
      · have e : x = y := by (first | lia | omega)
        subst e; (first | lia | omega)
  · exact rk_mono hx
theorem rk_inj {ds : List Int} {x y : Int} (hx : x ∈ ds) (hy : y ∈ ds) (h : rk ds x = rk ds y) : x = y := by
  rcases Int.lt_trichotomy x y with h1 | h1 | h1
  · have := rk_mono hx h1; (first | lia | omega)
  · exact h1
  · have := rk_mono hy h1; (first | lia | omega)
theorem getD_map_rk {ds : List Int} {i : Nat} (hi : i < ds.length) : (ds.map (rk ds)).getD i 0 = rk ds (ds.getD i 0) := by
  simp [List.getD, hi]
theorem getD_mem' {ds : List Int} {i : Nat} (hi : i < ds.length) : ds.getD i 0 ∈ ds := by
  have : ds.getD i 0 = ds[i] := by simp [List.getD, hi]
  rw [this]; exact List.getElem_mem hi
/-- the sort of unlike numbers without a valley: a row of places, each once, that puts them in order -/
theorem sort_run {ds : List Int} (h2 : 2 ≤ ds.length) (h6 : ds.length ≤ 6) (hd : ds.Nodup) (hv : ∀ i j k, i < j → j < k → k < ds.length → ¬ (ds.getD j 0 < ds.getD i 0 ∧ ds.getD j 0 < ds.getD k 0)) :
    ∃ p : Array Nat, runN ds.length (fun i j => decide (ds.getD i 0 < ds.getD j 0)) (kas_sort ds.length) = some p ∧ p.toList.length = ds.length ∧ (∀ i, i ∈ p.toList ↔ i < ds.length) ∧ p.toList.Pairwise fun i j => ds.getD i 0 < ds.getD j 0 := by
  have hl : (ds.map (rk ds)).length = ds.length := by simp
  have hok := okS_all (r := ds.map (rk ds)) h2 h6 hl ?nd ?bd ?vl
  case nd =>
    refine List.Pairwise.map _ (fun a b h => h) ?_
    refine List.Pairwise.imp_of_mem ?_ hd
    intro a b ha hb hab e
    exact hab (rk_inj ha hb e)
  case bd =>
    intro x hx
    obtain ⟨y, hy, rfl⟩ := List.mem_map.mp hx
    exact rk_lt_len hy
  case vl =>
    rw [Bool.eq_false_iff]
    intro h
    unfold valley at h
    simp only [List.any_eq_true, List.mem_range, Bool.and_eq_true, decide_eq_true_eq] at h
    obtain ⟨j, hj, ⟨i, hi, h1⟩, k, hk, hjk, h3⟩ := h
    rw [hl] at hj hk
    rw [getD_map_rk hj, getD_map_rk (by (first | lia | omega)), rk_iff (getD_mem' hj) (getD_mem' (by (first | lia | omega)))] at h1
    rw [getD_map_rk hj, getD_map_rk hk, rk_iff (getD_mem' hj) (getD_mem' hk)] at h3
    exact hv i j k hi hjk hk ⟨h1, h3⟩
  unfold okS at hok
  have hc : runN ds.length (fun i j => decide (ds.getD i 0 < ds.getD j 0)) (kas_sort ds.length) = runN ds.length (fun i j => decide ((ds.map (rk ds)).getD i 0 < (ds.map (rk ds)).getD j 0)) (kas_sort ds.length) := by
    refine runN_congr (fun i j hi hj => ?_) _
    rw [getD_map_rk hi, getD_map_rk hj]
    exact Bool.eq_iff_iff.mpr (by rw [decide_eq_true_eq, decide_eq_true_eq]; exact (rk_iff (getD_mem' hi) (getD_mem' hj)).symm)
  rw [hc]
  generalize runN ds.length (fun i j => decide ((ds.map (rk ds)).getD i 0 < (ds.map (rk ds)).getD j 0)) (kas_sort ds.length) = o at hok
  cases o with
  | none => simp at hok
  | some p =>
    simp only [Bool.and_eq_true, beq_iff_eq, List.all_eq_true, decide_eq_true_eq] at hok
    obtain ⟨e1, e2⟩ := hok
    refine ⟨p, rfl, (by have := congrArg List.length e1; simpa using this), fun i => ⟨e2 i, fun hi => ?_⟩, ?_⟩
    · have hr : rk ds (ds.getD i 0) ∈ p.toList.map ((ds.map (rk ds)).getD · 0) := by
        rw [e1]; exact List.mem_range.mpr (rk_lt_len (getD_mem' hi))
      obtain ⟨j, hj, e⟩ := List.mem_map.mp hr
      have hj' := e2 j hj
      have e' : (ds.map (rk ds)).getD j 0 = rk ds (ds.getD i 0) := e
      rw [getD_map_rk hj'] at e'
      have e3 := rk_inj (getD_mem' hj') (getD_mem' hi) e'
      have h1 : ds.getD j 0 = ds[j] := by simp [List.getD, hj']
      have h2 : ds.getD i 0 = ds[i] := by simp [List.getD, hi]
      rw [h1, h2] at e3
      have := (List.getElem_inj (h₀ := hj') (h₁ := hi) hd).mp e3
      subst this
      exact hj
    · have hp : (p.toList.map ((ds.map (rk ds)).getD · 0)).Pairwise (· < ·) := by rw [e1]; exact List.pairwise_lt_range
      rw [List.pairwise_map] at hp
      refine List.Pairwise.imp_of_mem ?_ hp
      intro a b ha hb hab
      have ha' := e2 a ha
      have hb' := e2 b hb
      rw [getD_map_rk ha', getD_map_rk hb', rk_iff (getD_mem' ha') (getD_mem' hb')] at hab
      exact hab
end Mine
end
section
open PySem PySem.W PyProof.Rows PySem.Calls
set_option maxRecDepth 100000
set_option maxHeartbeats 2000000
namespace Mine
theorem TupsIn.tups {h₀ h : Heap} {L : Addr} {rest : List (Addr × Obj)} (N : News h₀ L h rest) : ∀ {as : List Value} {ds : List (Int × PySem.Str)}, TupsIn rest as ds → ∃ fs, KatTups h as fs ∧ fs.length = ds.length ∧ ∀ v ∈ fs, ∃ d t, v = Value.int d t
  | _, _, .nil => ⟨[], KatTups.nil, rfl, fun _ h => nomatch h⟩
  | _, _, .cons (d := d) (t := t) hm h => by
    obtain ⟨fs, h1, h2, h3⟩ := h.tups N
    refine ⟨.int d t :: fs, KatTups.cons (N _ hm).1 rfl rfl rfl h1, by simp [h2], fun v hv => ?_⟩
    rcases List.mem_cons.mp hv with rfl | hv
    · exact ⟨d, t, rfl⟩
    · exact h3 v hv
theorem TupsIn.getD {rest : List (Addr × Obj)} {as : List Value} {ds : List (Int × PySem.Str)} (H : TupsIn rest as ds) {i : Nat} (hi : i < ds.length) :
    ∃ T t u, as.getD i Value.none = .ref T ∧ (T, tupO (.int (ds.getD i (0, PySem.Str.empty)).1 t) (.str (ds.getD i (0, PySem.Str.empty)).2 u)) ∈ rest := by
  have hl := H.len
  have hi' : i < as.length := by (first | lia | omega)
  refine fold_G ?_
  intro G9
  obtain ⟨T, d, t, x, u, e1, e2, e3⟩ := H.get (List.getElem?_eq_getElem hi')
  refine ⟨T, t, u, by simp [List.getD, hi', e1], ?_⟩
  have : ds.getD i (0, PySem.Str.empty) = (d, x) := by simp [List.getD, e2]
  rw [this]; exact e3
section
variable {prog : Program} {w : World} {A : Around} {E : Value → Shared → Prop} {s : Shared} {h₀ : Heap} {L : Addr} {m : PySem.Str → Option Value} {news : List (Addr × Obj)}
/-- the question of two pairs whose numbers are unlike, or of one with itself -/
theorem tup_ask {as : List Value} {ds : List (Int × PySem.Str)} (N : News h₀ L s.heap news) (H : TupsIn news as ds) (hd : (ds.map (·.1)).Nodup) {i j : Nat} (hi : i < ds.length) (hj : j < ds.length) {C : Bool → Shared → Prop}
    (h : C (decide ((ds.map (·.1)).getD i 0 < (ds.map (·.1)).getD j 0)) s) : kas_ask prog w A (tuples' true) as i j C s := by
  obtain ⟨T1, t1, u1, e1, m1⟩ := H.getD hi
  obtain ⟨T2, t2, u2, e2, m2⟩ := H.getD hj
  have g1 : (ds.map (·.1)).getD i 0 = (ds.getD i (0, PySem.Str.empty)).1 := by simp [List.getD, hi]
  have g2 : (ds.map (·.1)).getD j 0 = (ds.getD j (0, PySem.Str.empty)).1 := by simp [List.getD, hj]
  unfold kas_ask
  rw [e1, e2]
  rw [g1, g2] at h
  generalize ha : ds.getD i (0, PySem.Str.empty) = a at *
  generalize hb : ds.getD j (0, PySem.Str.empty) = b at *
  refine kat_lt (N _ m1).1 rfl (N _ m2).1 rfl ?_
  show KatLex prog w A true (decide (2 < 2)) C [(Value.int a.1 t1, Value.int b.1 t2), (Value.str a.2 u1, Value.str b.2 u2)] 0 s
  refine kat_cons (wpAny_eqBool_int ?_)
  by_cases hab : a.1 = b.1
  · have hij : i = j := by
      have q1 : (ds.map (·.1))[i]'(by simpa using hi) = (ds.map (·.1))[j]'(by simpa using hj) := by
        have r1 : ds[i] = a := by rw [← ha]; simp [List.getD, hi]
        have r2 : ds[j] = b := by rw [← hb]; simp [List.getD, hj]
        simp only [List.getElem_map, r1, r2, hab]
      exact (List.getElem_inj hd).mp q1
    subst hij
    rw [ha] at hb
    subst hb
    have e : (a.1 == a.1) = true := by simp
    rw [e]
    refine kat_yes (kat_cons (wpAny_eqBool_str ?_))
    have e' : decide (a.2 = a.2) = true := by simp
    rw [e']
    refine kat_yes (kat_nil ?_)
    have e3 : decide (a.1 < a.1) = false := by simp
    rw [e3] at h
    exact h
  · have e : (a.1 == b.1) = false := by simpa using hab
    rw [e]
    exact kat_no (oneLt_int h)
/-- sorting of pairs with unlike numbers and no valley, two or more -/
theorem sorted_tups2 {l : Addr} {c : Nat} {as : List Value} {ds : List (Int × PySem.Str)} {Q : Value → Shared → Prop} (F : Fr h₀ L s.heap m) (N : News h₀ L s.heap news) (hl : (l, W.listOf (List.toArray as) c) ∈ news) (H : TupsIn news as ds)
    (h2 : 2 ≤ ds.length) (h6 : ds.length ≤ 6) (hd : (ds.map (·.1)).Nodup) (hv : ∀ i j k, i < j → j < k → k < (ds.map (·.1)).length → ¬ ((ds.map (·.1)).getD j 0 < (ds.map (·.1)).getD i 0 ∧ (ds.map (·.1)).getD j 0 < (ds.map (·.1)).getD k 0))
    (h : ∀ D c' h' (p : List Nat), Fr h₀ L h' m → News h₀ L h' ((D, W.listOf (List.toArray (p.map fun i => as.getD i Value.none)) c') :: news) → (∀ q ∈ news, q.1 < D) → p.length = ds.length → (∀ i, i ∈ p ↔ i < ds.length) → (p.Pairwise fun i j => (ds.map (·.1)).getD i 0 < (ds.map (·.1)).getD j 0) → Q (.ref D) { s with heap := h' }) :
    wpAny (model prog w) A (call (.builtin "sorted") [.ref l]) Q E s := by
  have hlen := H.len
  refine kat_sorted F N (News.isList N hl) (by (first | lia | omega)) (by (first | lia | omega)) (fun D e1 h' F' N' l1 => ?_)
  have N2 : News h₀ L h' news := fun q hq => N' q (.tail _ hq)
  refine fold_G ?_
  intro G9
  obtain ⟨fs, k1, k2, k3⟩ := H.tups N2
  refine kat_kind (s := { s with heap := h' }) k1 (by (first | lia | omega)) (T := .type "int") (fun v hv => ?_) (by decide) ?_
  · refine fold_G ?_
    intro G9
    obtain ⟨d, t, rfl⟩ := k3 v hv
    exact Looks.of_pure rfl
  · have hml : (ds.map (·.1)).length = ds.length := List.length_map ..
    obtain ⟨p, r1, r0, r2, r3⟩ := sort_run (ds := ds.map (·.1)) (by (first | lia | omega)) (by (first | lia | omega)) hd hv
    rw [hml] at r1 r0 r2
    rw [hlen]
    have hb : (Value.type "int" != Value.type "tuple") = true := by decide
    rw [hb]
    refine runN_wp (s := { s with heap := h' }) (fun i j C hi hj hC => tup_ask (s := { s with heap := h' }) N2 H hd hi hj hC) _ p r1 ?_
    exact KasFin.intro (s := { s with heap := h' }) (g := fun o => (D, o) :: news) F' N' (UpdF.head fun q hq => Nat.ne_of_lt (l1 q hq)) (fun h'' c'' F'' N'' => h D c'' h'' p.toList F'' N'' l1 r0 r2 r3)
/-- sorting of one thing -/
theorem list_sort_one {a : Addr} {v : Value} {n : Nat} {P : PySem.Fin → Shared → Prop} (F : Fr h₀ L s.heap m) (N : News h₀ L s.heap news) (ho : s.heap.get? a = some (seqObj "list" #[v] n)) (haL : a ≠ L) (ha0 : h₀.get? a = none) (hna : ∀ p ∈ news, p.1 ≠ a)
    (h : ∀ c h', Fr h₀ L h' m → News h₀ L h' ((a, W.listOf #[v] c) :: news) → P (.done (.ret .none)) { s with heap := h' }) : wpAny (model prog w) A (Builtin.«list.sort» ⟨[.ref a], []⟩) P E s := by
  have ha : a < s.heap.objs.size := Heap.lt_size ho
  have s1 := Heap.SameBut.update s.heap a (Obj.mapSeq fun _ => (#[] : Array Value))
  obtain ⟨e1, ho1⟩ : ∃ e1, (s.heap.update a (Obj.mapSeq fun _ => (#[] : Array Value))).get? a = some (seqObj "list" #[] e1) := ⟨_, get?_update_seq ho fun _ => #[]⟩
  have F3 : Fr h₀ L (((s.heap.update a (Obj.mapSeq fun _ => (#[] : Array Value))).push (seqObj "tuple" #[v] 0)).push (seqObj "list" #[] 0)) m := ((kas_fr F s1 haL ha0).push _).push _
  have N2 : News h₀ L (((s.heap.update a (Obj.mapSeq fun _ => (#[] : Array Value))).push (seqObj "tuple" #[v] 0)).push (seqObj "list" #[] 0)) news :=
    (kas_news N s1 hna).grown fun b x e => Heap.get?_push_of_some _ (Heap.get?_push_of_some _ e)
  have ho3 : (((s.heap.update a (Obj.mapSeq fun _ => (#[] : Array Value))).push (seqObj "tuple" #[v] 0)).push (seqObj "list" #[] 0)).get? a = some (seqObj "list" #[] e1) := Heap.get?_push_of_some _ (Heap.get?_push_of_some _ ho1)
  rw [list_sort_plain]
  refine wpAny_bind (listItems_at ho rfl ?_)
  refine wpAny_bind (listUpdate_at ho rfl ?_ (by show 1 ≤ _; rw [sizeLine_eq]; (first | lia | omega)) (Nat.zero_le _))
  refine wpAny_bind (seqEpoch_at ho1 rfl ?_)
  refine wpAny_bind (wpAny_newTuple ?_ (by show 1 ≤ _; rw [sizeLine_eq]; (first | lia | omega)))
  refine wpAny_bind (wpAny_newList ?_ (Nat.zero_le _))
  refine wpAny_holding ?_
  show wpAny (model prog w) A _ P E { s with heap := ((s.heap.update a (Obj.mapSeq fun _ => (#[] : Array Value))).push (seqObj "tuple" #[v] 0)).push (seqObj "list" #[] 0) }
  dsimp only
  have hn2 : (#[v] : Array Value).size < 2 := by show 1 < 2; (first | lia | omega)
  rw [if_pos hn2, if_pos hn2]
  refine wpAny_bind (wpAny_pure ?_)
  rw [StateT.run_pure]
  refine wpAny_bind (wpAny_pure ?_)
  dsimp only
  refine wpAny_bind (seqEpoch_at ho3 rfl ?_)
  have hout : (arrOf (SortSt.mk' general' ((#[v] : Array Value).zip #[v]) #[] 7 none)).map (·.2) = #[v] := by show ((#[v] : Array Value).zip #[v]).map (·.2) = #[v]; simp
  rw [hout]
  have s2 := Heap.SameBut.update (((s.heap.update a (Obj.mapSeq fun _ => (#[] : Array Value))).push (seqObj "tuple" #[v] 0)).push (seqObj "list" #[] 0)) a (Obj.mapSeq fun _ => (#[v] : Array Value))
  obtain ⟨c2, hc2⟩ : ∃ c2, ((((s.heap.update a (Obj.mapSeq fun _ => (#[] : Array Value))).push (seqObj "tuple" #[v] 0)).push (seqObj "list" #[] 0)).update a (Obj.mapSeq fun _ => (#[v] : Array Value))).get? a = some (seqObj "list" #[v] c2) := ⟨_, get?_update_seq ho3 fun _ => #[v]⟩
  refine wpAny_bind (listUpdate_at ho3 rfl ?_ (Nat.zero_le _) (by show 1 ≤ _; rw [sizeLine_eq]; (first | lia | omega)))
  simp only [bne_self_eq_false, Bool.false_eq_true, if_false]
  refine wpAny_pure (h c2 _ (kas_fr F3 s2 haL ha0) fun p hp => ?_)
  rcases List.mem_cons.mp hp with rfl | hp
  · exact ⟨hc2, haL, ha0⟩
  · exact kas_news N2 s2 hna p hp
theorem sorted_one {l : Addr} {v : Value} {c : Nat} {Q : Value → Shared → Prop} (F : Fr h₀ L s.heap m) (N : News h₀ L s.heap news) (hl0 : (l, W.listOf #[v] c) ∈ news)
    (h : ∀ D c' h', Fr h₀ L h' m → News h₀ L h' ((D, W.listOf #[v] c') :: news) → (∀ q ∈ news, q.1 < D) → Q (.ref D) { s with heap := h' }) :
    wpAny (model prog w) A (call (.builtin "sorted") [.ref l]) Q E s := by
  have hl : s.heap.IsList l #[v] := News.isList N hl0
  refine Calls.call_function_entry kind_sorted plain_sorted entry_sorted (args_sorted1 _) ?_
  unfold Builtin.«sorted»
  refine wpAny_bind (m := checkCount "sorted" 1 1 _) (wpAny_pure ?_)
  refine wpAny_bind (collect_list (vs := [v]) hl ?_ (by show 1 ≤ _; rw [sizeLine_eq]; (first | lia | omega)))
  refine wpAny_bind (wpAny_newList ?_ (by show 1 ≤ _; rw [sizeLine_eq]; (first | lia | omega)))
  have hsz : ((s.heap.push (seqObj "list" #[] 0)).update s.heap.objs.size (Obj.mapSeq (· ++ [v].toArray))).objs.size = s.heap.objs.size + 1 := by
    rw [Heap.size_update, PyProof.Rows.size_push']
  have hoL : (((s.heap.push (seqObj "list" #[] 0)).update s.heap.objs.size (Obj.mapSeq (· ++ [v].toArray))).push (seqObj "list" [v].toArray 0)).get? (s.heap.objs.size + 1) = some (seqObj "list" [v].toArray 0) := by
    rw [← hsz]; exact Heap.get?_push_size _ rfl
  have keep : ∀ b o, s.heap.get? b = some o → (((s.heap.push (seqObj "list" #[] 0)).update s.heap.objs.size (Obj.mapSeq (· ++ [v].toArray))).push (seqObj "list" [v].toArray 0)).get? b = some o := fun b o q => by
    have hlt : b < s.heap.objs.size := Heap.lt_size q
    rw [Heap.get?_push_ne _ _ _ (by rw [hsz]; exact Nat.ne_of_lt (Nat.lt_succ_of_lt hlt)), Heap.get?_update_ne _ _ _ _ (Nat.ne_of_lt hlt), Heap.get?_push_ne _ _ _ (Nat.ne_of_lt hlt)]
    exact q
  have hL : L < s.heap.objs.size := F.ns.lt
  show wpAny _ _ _ _ _ { s with heap := ((s.heap.push (seqObj "list" #[] 0)).update s.heap.objs.size (Obj.mapSeq (· ++ [v].toArray))).push (seqObj "list" [v].toArray 0) }
  rw [hsz]
  refine wpAny_bind (wpAny_holding (wpAny_call_entry slot_list_sort ⟨_, hoL, rfl⟩ entry_list_sort ?body (args_list_sort _)))
  case body =>
    refine list_sort_one (s := { s with heap := ((s.heap.push (seqObj "list" #[] 0)).update s.heap.objs.size (Obj.mapSeq (· ++ [v].toArray))).push (seqObj "list" [v].toArray 0) })
      (F.kept keep) (N.grown keep) hoL (Nat.ne_of_gt (Nat.lt_succ_of_lt hL)) (Heap.get?_none_of_le (Nat.le_trans F.above (Nat.le_succ_of_le (Nat.le_of_lt hL))))
      (fun p hp => Nat.ne_of_lt (Nat.lt_succ_of_lt (Heap.lt_size (N p hp).1))) fun c' h' F' N' => ?_
    exact ⟨_, rfl, wpAny_pure ⟨_, rfl, h _ c' h' F' N' fun q hq => Nat.lt_succ_of_lt (Heap.lt_size (N q hq).1)⟩⟩
theorem sorted_tups {l : Addr} {c : Nat} {as : List Value} {ds : List (Int × PySem.Str)} {Q : Value → Shared → Prop} (F : Fr h₀ L s.heap m) (N : News h₀ L s.heap news) (hl : (l, W.listOf (List.toArray as) c) ∈ news) (H : TupsIn news as ds)
    (h1 : 1 ≤ ds.length) (h6 : ds.length ≤ 6) (hd : (ds.map (·.1)).Nodup) (hv : ∀ i j k, i < j → j < k → k < (ds.map (·.1)).length → ¬ ((ds.map (·.1)).getD j 0 < (ds.map (·.1)).getD i 0 ∧ (ds.map (·.1)).getD j 0 < (ds.map (·.1)).getD k 0))
    (h : ∀ D c' h' (p : List Nat) (out : List Value), Fr h₀ L h' m → News h₀ L h' ((D, W.listOf (List.toArray out) c') :: news) → (∀ q ∈ news, q.1 < D) → TupsIn news out (p.map fun i => ds.getD i (0, PySem.Str.empty)) → out.length ≤ 6 → (∀ i, i ∈ p ↔ i < ds.length) → (p.Pairwise fun i j => (ds.map (·.1)).getD i 0 < (ds.map (·.1)).getD j 0) → Q (.ref D) { s with heap := h' }) :
    wpAny (model prog w) A (call (.builtin "sorted") [.ref l]) Q E s := by
  have hlen := H.len
  by_cases h2 : 2 ≤ ds.length
  · refine sorted_tups2 F N hl H h2 h6 hd hv (fun D c' h' p F' N' l1 r0 r1 r2 => ?_)
    have hp : p.length ≤ 6 := by (first | lia | omega)
    refine h D c' h' p (p.map fun i => as.getD i Value.none) F' N' l1 ?_ (by rw [List.length_map]; exact hp) r1 r2
    have key : ∀ q : List Nat, (∀ i ∈ q, i < ds.length) → TupsIn news (q.map fun i => as.getD i Value.none) (q.map fun i => ds.getD i (0, PySem.Str.empty)) := by
      intro q
      induction q with
      | nil => intro _; exact .nil
      | cons i q ih =>
        intro hq
        obtain ⟨T, t, u, e, hm⟩ := H.getD (hq i (.head _))
        rw [List.map_cons, List.map_cons, e]
        exact .cons hm (ih fun j hj => hq j (.tail _ hj))
    exact key p fun i hi => (r1 i).mp hi
  · have e1 : ds.length = 1 := by (first | lia | omega)
    obtain ⟨v, rfl⟩ : ∃ v, as = [v] := by
      match as, hlen with
      | [v], _ => exact ⟨v, rfl⟩
      | [], h => simp at h; (first | lia | omega)
      | _ :: _ :: _, h => simp at h; (first | lia | omega)
    refine sorted_one F N hl (fun D c' h' F' N' l1 => ?_)
    refine h D c' h' [0] [v] F' N' l1 ?_ (by show 1 ≤ 6; (first | lia | omega)) (fun i => ?_) ?_
    · obtain ⟨T, t, u, e, hm⟩ := H.getD (i := 0) (by (first | lia | omega))
      have : v = .ref T := by simpa [List.getD] using e
      rw [this]
      exact .cons hm .nil
    · rw [List.mem_singleton]; (first | lia | omega)
    · exact List.pairwise_singleton ..
end
theorem uniq_sorted {f : Nat → Int} : ∀ {l1 l2 : List Nat}, (l1.Pairwise fun a b => f a < f b) → (l2.Pairwise fun a b => f a < f b) → (∀ x, x ∈ l1 ↔ x ∈ l2) → l1 = l2
  | [], [], _, _, _ => rfl
  | [], b :: _, _, _, h => absurd ((h b).mpr (.head _)) (by simp)
  | a :: _, [], _, _, h => absurd ((h a).mp (.head _)) (by simp)
  | a :: r1, b :: r2, h1, h2, h => by
    rw [List.pairwise_cons] at h1 h2
    have hab : a = b := by
      rcases List.mem_cons.mp ((h a).mp (.head _)) with e | ha
      · exact e
      · rcases List.mem_cons.mp ((h b).mpr (.head _)) with e | hb
        · exact e.symm
        · have := h1.1 b hb
          have := h2.1 a ha
          (first | lia | omega)
    subst hab
    congr 1
    refine uniq_sorted h1.2 h2.2 (fun x => ⟨fun hx => ?_, fun hx => ?_⟩)
    · rcases List.mem_cons.mp ((h x).mp (.tail _ hx)) with rfl | h'
      · have := h1.1 x hx; (first | lia | omega)
      · exact h'
    · rcases List.mem_cons.mp ((h x).mpr (.tail _ hx)) with rfl | h'
      · have := h2.1 x hx; (first | lia | omega)
      · exact h'
theorem pair_inj {f : Nat → Int} : ∀ {l : List Nat}, (l.Pairwise fun a b => f a < f b) → ∀ {a b : Nat}, a ∈ l → b ∈ l → f a = f b → a = b
  | [], _, _, _, h, _, _ => nomatch h
  | x :: r, h, a, b, ha, hb, e => by
    rw [List.pairwise_cons] at h
    rcases List.mem_cons.mp ha with ea | ha'
    · subst ea
      rcases List.mem_cons.mp hb with eb | hb'
      · exact eb.symm
      · have := h.1 b hb'; (first | lia | omega)
    · rcases List.mem_cons.mp hb with eb | hb'
      · subst eb
        have := h.1 a ha'; (first | lia | omega)
      · exact pair_inj h.2 ha' hb' e
/-- the places gathered -/
noncomputable abbrev ancL (deps : List Int) (p : Nat) : List Nat := (List.range deps.length).filter (ancB deps p)
theorem ancD_eq (deps : List Int) (names : List (List Nat)) (p : Nat) : ancD deps names p deps.length = (ancL deps p).map fun o => (deps.getD o 0, st (names.getD o [])) := rfl
theorem ancL_mem {deps : List Int} {p o : Nat} : o ∈ ancL deps p ↔ o < deps.length ∧ ancB deps p o = true := by
  unfold ancL
  rw [List.mem_filter, List.mem_range]
theorem anc_self {deps : List Int} {p : Nat} : ancB deps p p = true := by
  rw [ancB_iff]
  intro j _ h1 h2
  have : j = p := by (first | lia | omega)
  subst this
  (first | lia | omega)
theorem anc_facts {deps : List Int} {names : List (List Nat)} {p : Nat} {out : List Nat} (hp : p < deps.length) (ho1 : ∀ o, o ∈ out ↔ o < deps.length ∧ ancB deps p o = true) (ho2 : out.Pairwise fun a b => deps.getD a 0 < deps.getD b 0) :
    1 ≤ (ancD deps names p deps.length).length ∧ ((ancD deps names p deps.length).map (·.1)).Nodup ∧
    (∀ i j k, i < j → j < k → k < ((ancD deps names p deps.length).map (·.1)).length → ¬ (((ancD deps names p deps.length).map (·.1)).getD j 0 < ((ancD deps names p deps.length).map (·.1)).getD i 0 ∧ ((ancD deps names p deps.length).map (·.1)).getD j 0 < ((ancD deps names p deps.length).map (·.1)).getD k 0)) := by
  have e : (ancD deps names p deps.length).map (·.1) = (ancL deps p).map fun o => deps.getD o 0 := by rw [ancD_eq, List.map_map]; rfl
  have hlt : (ancL deps p).Pairwise (· < ·) := List.Pairwise.filter _ List.pairwise_lt_range
  refine ⟨?_, ?_, ?_⟩
  · rw [ancD_eq, List.length_map]
    exact List.length_pos_of_mem (ancL_mem.mpr ⟨hp, anc_self⟩)
  · rw [e]
    refine List.Pairwise.map _ (fun a b h => h) ?_
    refine List.Pairwise.imp_of_mem ?_ hlt
    intro a b ha hb hab e'
    have := pair_inj ho2 ((ho1 a).mpr (ancL_mem.mp ha)) ((ho1 b).mpr (ancL_mem.mp hb)) e'
    (first | lia | omega)
  · rw [e]
    intro i j k hij hjk hk
    rw [List.length_map] at hk
    have g : ∀ x, x < (ancL deps p).length → ((ancL deps p).map fun o => deps.getD o 0).getD x 0 = deps.getD ((ancL deps p).getD x 0) 0 := by
      intro x hx
      simp [List.getD, hx]
    rw [g i (by (first | lia | omega)), g j (by (first | lia | omega)), g k hk]
    have q : ∀ x (hx : x < (ancL deps p).length), (ancL deps p).getD x 0 = (ancL deps p)[x] := by intro x hx; simp [List.getD, hx]
    rw [q i (by (first | lia | omega)), q j (by (first | lia | omega)), q k hk]
    have l1 : (ancL deps p)[i] < (ancL deps p)[j] := (List.pairwise_iff_getElem.mp hlt) i j (by (first | lia | omega)) (by (first | lia | omega)) hij
    have l2 : (ancL deps p)[j] < (ancL deps p)[k] := (List.pairwise_iff_getElem.mp hlt) j k (by (first | lia | omega)) (by omega) hjk
    have a1 := ancL_mem.mp (List.getElem_mem (by (first | lia | omega) : i < (ancL deps p).length))
    have a2 := ancL_mem.mp (List.getElem_mem (by omega : j < (ancL deps p).length))
    have a3 := ancL_mem.mp (List.getElem_mem hk)
    have b1 := ancB_iff.mp a1.2
    have b3 := ancB_iff.mp a3.2
    intro ⟨h1, h2⟩
    by_cases hjp : (ancL deps p)[j] ≤ p
    · have := b1 _ a2.1 (by (first | lia | omega)) (by (first | lia | omega))
      (first | lia | omega)
    · have := b3 _ a2.1 (by (first | lia | omega)) (by (first | lia | omega))
      (first | lia | omega)
theorem anc_out {deps : List Int} {names : List (List Nat)} {p : Nat} {out q : List Nat} (ho1 : ∀ o, o ∈ out ↔ o < deps.length ∧ ancB deps p o = true) (ho2 : out.Pairwise fun a b => deps.getD a 0 < deps.getD b 0)
    (hq : ∀ i, i ∈ q ↔ i < (ancD deps names p deps.length).length) (hs : q.Pairwise fun i j => ((ancD deps names p deps.length).map (·.1)).getD i 0 < ((ancD deps names p deps.length).map (·.1)).getD j 0) :
    (q.map fun i => (ancD deps names p deps.length).getD i (0, PySem.Str.empty)).map (·.2) = (out.map fun o => names.getD o []).map st := by
  have hl : (ancD deps names p deps.length).length = (ancL deps p).length := by rw [ancD_eq, List.length_map]
  have g : ∀ x, x < (ancL deps p).length → ((ancD deps names p deps.length).map (·.1)).getD x 0 = deps.getD ((ancL deps p).getD x 0) 0 := by
    intro x hx
    rw [ancD_eq, List.map_map]
    simp [List.getD, hx]
  have e : out = q.map fun i => (ancL deps p).getD i 0 := by
    refine uniq_sorted (f := fun o => deps.getD o 0) ho2 ?_ (fun x => ?_)
    · rw [List.pairwise_map]
      refine List.Pairwise.imp_of_mem ?_ hs
      intro a b ha hb hab
      rw [g a (by rw [← hl]; exact (hq a).mp ha), g b (by rw [← hl]; exact (hq b).mp hb)] at hab
      exact hab
    · rw [ho1, ← ancL_mem, List.mem_map]
      constructor
      · intro hx
        obtain ⟨i, hi, e⟩ := List.mem_iff_getElem.mp hx
        exact ⟨i, (hq i).mpr (by rw [hl]; exact hi), by simp [List.getD, hi, e]⟩
      · rintro ⟨i, hi, rfl⟩
        have hi' : i < (ancL deps p).length := by rw [← hl]; exact (hq i).mp hi
        have : (ancL deps p).getD i 0 = (ancL deps p)[i] := by simp [List.getD, hi']
        rw [this]
        exact List.getElem_mem hi'
  rw [e, List.map_map, List.map_map, List.map_map]
  refine List.map_congr_left (fun i hi => ?_)
  have hi' : i < (ancL deps p).length := by rw [← hl]; exact (hq i).mp hi
  simp only [Function.comp, ancD_eq]
  simp [List.getD, hi']
end Mine
end
section
open PySem PySem.W PyProof.Rows PySem.Calls
set_option maxRecDepth 100000
namespace Mine
section
variable {prog : Program} {w : World} {A : Around} {s : Shared} {h₀ : Heap} {L : Addr} {m : PySem.Str → Option Value} {env : Env}
/-- a comprehension over pairs by an invariant -/
theorem restP_inv {elt : Expr} {x x₂ : PySem.Str} {scope : Scope} {cl : List (PySem.Str × Addr)} {S : List (Addr × Obj) → Prop} {P : Nat → Value → Prop} {Fin : List Value → List (Addr × Obj) → Prop} {n : Nat} (J : Nat → List Value → List (Addr × Obj) → Prop)
    (turn : ∀ i ys news v, i < n → J i ys news → P i v → ∃ (t : Addr) (ot : Obj) (v₁ v₂ : Value) (nt : Nat), v = .ref t ∧ (t, ot) ∈ news ∧ ot.cls = .type "tuple" ∧ ot.data = .seq #[v₁, v₂] nt ∧
      ∀ I oI C oC D m₂ h tk (E' : Value → Shared → Prop), LCg.NsObj oC m₂ → m₂ x = some v₁ → m₂ x₂ = some v₂ → Fr h₀ L h m → News h₀ L h ((I, oI) :: (C, oC) :: (D, LCg.lst ys) :: news) → LCg.Off3 I C D news → ((@Ne Nat I C) ∧ (@Ne Nat I D) ∧ (@Ne Nat C D)) →
      wpAny (model prog w) A (eval elt (compEnvC scope cl C env)) (LCg.CompEnd h₀ L m { s with heap := h, toks := tk } I oI C oC D (LCg.lst ys) S (fun y news' => J (i + 1) (ys ++ [y]) news')) E' { s with heap := h, toks := tk })
    (fin : ∀ ys news, J n ys news → Fin ys news) : ∀ k i ys news, i + k = n → J i ys news → LCp.CompRestP prog w A h₀ L m env elt x x₂ scope cl s S P Fin k i ys news := by
  intro k
  induction k with
  | zero => intro i ys news e hJ; have : i = n := by (first | lia | omega)
            subst this; exact fin ys news hJ
  | succ k ih =>
    intro i ys news e hJ v hv
    refine fold_G ?_
    intro G9
    obtain ⟨t, ot, v₁, v₂, nt, e1, e2, e3, e4, e5⟩ := turn i ys news v (by (first | lia | omega)) hJ hv
    refine ⟨t, ot, v₁, v₂, nt, e1, e2, e3, e4, ?_⟩
    intro I oI C oC D m₂ h tk E' a1 a2 a3 a4 a5 a6 a7
    refine wpAny_mono (e5 I oI C oC D m₂ h tk E' a1 a2 a3 a4 a5 a6 a7) (fun y s₂ hq => ?_) fun _ _ e => e
    refine fold_G ?_
    intro G9
    obtain ⟨h', tk', nw, q1, q2, q3, q4, q5, q6⟩ := hq
    exact ⟨h', tk', nw, q1, q2, q3, q4, q5, ih (i + 1) _ nw (by (first | lia | omega)) q6⟩
/-- a comprehension without a test by an invariant -/
theorem restU_inv {elt : Expr} {x : PySem.Str} {scope : Scope} {cl : List (PySem.Str × Addr)} {S : List (Addr × Obj) → Prop} {P : Nat → Value → Prop} {Fin : List Value → List (Addr × Obj) → Prop} {n : Nat} (J : Nat → List Value → List (Addr × Obj) → Prop)
    (turn : ∀ i ys news v, i < n → J i ys news → P i v →
      ∀ I oI C oC D m₂ h tk (E' : Value → Shared → Prop), LCg.NsObj oC m₂ → m₂ x = some v → Fr h₀ L h m → News h₀ L h ((I, oI) :: (C, oC) :: (D, LCg.lst ys) :: news) → LCg.Off3 I C D news → ((@Ne Nat I C) ∧ (@Ne Nat I D) ∧ (@Ne Nat C D)) →
      wpAny (model prog w) A (eval elt (compEnvC scope cl C env)) (LCg.CompEnd h₀ L m { s with heap := h, toks := tk } I oI C oC D (LCg.lst ys) S (fun y news' => J (i + 1) (ys ++ [y]) news')) E' { s with heap := h, toks := tk })
    (fin : ∀ ys news, J n ys news → Fin ys news) : ∀ k i ys news, i + k = n → J i ys news → LCg.CompRest prog w A h₀ L m env elt x scope cl s S P Fin k i ys news := by
  intro k
  induction k with
  | zero => intro i ys news e hJ; have : i = n := by (first | lia | omega)
            subst this; exact fin ys news hJ
  | succ k ih =>
    intro i ys news e hJ
    refine LCg.CompRest.succ ?_
    intro v I oI C oC D m₂ h tk E' hv a1 a2 a4 a5 a6 a7
    refine wpAny_mono (turn i ys news v (by (first | lia | omega)) hJ hv I oI C oC D m₂ h tk E' a1 a2 a4 a5 a6 a7) (fun y s₂ hq => ?_) fun _ _ e => e
    refine fold_G ?_
    intro G9
    obtain ⟨h', tk', nw, q1, q2, q3, q4, q5, q6⟩ := hq
    exact ⟨h', tk', nw, q1, q2, q3, q4, q5, ih (i + 1) _ nw (by (first | lia | omega)) q6⟩
/-- a comprehension with a test by an invariant -/
theorem restT_inv {ct elt : Expr} {x : PySem.Str} {scope : Scope} {cl : List (PySem.Str × Addr)} {S : List (Addr × Obj) → Prop} {P : Nat → Value → Prop} {Fin : List Value → List (Addr × Obj) → Prop} {n : Nat} (J : Nat → List Value → List (Addr × Obj) → Prop)
    (turn : ∀ i ys news v, i < n → J i ys news → P i v →
      ∀ I oI C oC D m₂ h tk (E' : Value → Shared → Prop), LCg.NsObj oC m₂ → m₂ x = some v → Fr h₀ L h m → News h₀ L h ((I, oI) :: (C, oC) :: (D, LCg.lst ys) :: news) → LCg.Off3 I C D news → ((@Ne Nat I C) ∧ (@Ne Nat I D) ∧ (@Ne Nat C D)) →
      wpAny (model prog w) A (isTrue ct (compEnvC scope cl C env) (eval ct (compEnvC scope cl C env))) (fun ok s' => if ok = true then
        wpAny (model prog w) A (eval elt (compEnvC scope cl C env)) (LCg.CompEnd h₀ L m { s with heap := h, toks := tk } I oI C oC D (LCg.lst ys) S (fun y news' => J (i + 1) (ys ++ [y]) news')) E' s'
        else LCg.CompEnd h₀ L m { s with heap := h, toks := tk } I oI C oC D (LCg.lst ys) S (fun _ news' => J (i + 1) ys news') Value.none s') E' { s with heap := h, toks := tk })
    (fin : ∀ ys news, J n ys news → Fin ys news) : ∀ k i ys news, i + k = n → J i ys news → LCt.CompRestT prog w A h₀ L m env ct elt x scope cl s S P Fin k i ys news := by
  intro k
  induction k with
  | zero => intro i ys news e hJ; have : i = n := by (first | lia | omega)
            subst this; exact fin ys news hJ
  | succ k ih =>
    intro i ys news e hJ
    refine LCt.CompRestT.succ ?_
    intro v I oI C oC D m₂ h tk E' hv a1 a2 a4 a5 a6 a7
    refine wpAny_mono (turn i ys news v (by (first | lia | omega)) hJ hv I oI C oC D m₂ h tk E' a1 a2 a4 a5 a6 a7) (fun ok s₂ hq => ?_) fun _ _ e => e
    cases ok with
    | true =>
      simp only [if_true] at hq ⊢
      refine wpAny_mono hq (fun y s₃ hq => ?_) fun _ _ e => e
      refine fold_G ?_
      intro G9
      obtain ⟨h', tk', nw, q1, q2, q3, q4, q5, q6⟩ := hq
      exact ⟨h', tk', nw, q1, q2, q3, q4, q5, ih (i + 1) _ nw (by (first | lia | omega)) q6⟩
    | false =>
      simp only [Bool.false_eq_true, if_false] at hq ⊢
      refine fold_G ?_
      intro G9
      obtain ⟨h', tk', nw, q1, q2, q3, q4, q5, q6⟩ := hq
      exact ⟨h', tk', nw, q1, q2, q3, q4, q5, ih (i + 1) _ nw (by (first | lia | omega)) q6⟩
end
end Mine
end
section
open PySem PySem.W PyProof.Rows PySem.Calls
set_option maxRecDepth 100000
namespace Mine
namespace MF
open PySem.F
theorem owner_map : Manifest.owners.lookup (String.ofList ['p', 'a', 'm'].reverse) = some Manifest.sig_map := by kernel_rfl
theorem slot_init : Slot "map" "__init__" "object.__init__" :=
  .of (owner := "object") (n := "__init__") (by rw [typeLookup_type, builtinLookup_eq_fast]; kernel_rfl) (by decide +kernel) (by decide +kernel) (by decide +kernel)
    (by first | exact .inl (by decide +kernel) | exact .inr (by decide +kernel)) (by rw [isSubtype_type]; kernel_rfl)
theorem slot_iter : Slot "map" "__iter__" "map.__iter__" :=
  .of (owner := "map") (n := "__iter__") (by rw [typeLookup_type, builtinLookup_eq_fast]; kernel_rfl) (by decide +kernel) (by decide +kernel) (by decide +kernel)
    (by first | exact .inl (by decide +kernel) | exact .inr (by decide +kernel)) (by rw [isSubtype_type]; kernel_rfl)
theorem slot_next : Slot "map" "__next__" "map.__next__" :=
  .of (owner := "map") (n := "__next__") (by rw [typeLookup_type, builtinLookup_eq_fast]; kernel_rfl) (by decide +kernel) (by decide +kernel) (by decide +kernel)
    (by first | exact .inl (by decide +kernel) | exact .inr (by decide +kernel)) (by rw [isSubtype_type]; kernel_rfl)
theorem entry_next : entryFor table "map.__next__" = some Builtin.«map.__next__» := entryFor_of_tree (by kernel_rfl)
theorem entry_new : entryFor table "map.__new__" = some Builtin.«map.__new__» := entryFor_of_tree (by kernel_rfl)
theorem entry_iter : entryFor table "map.__iter__" = some Builtin.«dict_keyiterator.__iter__» :=
  entryFor_alias (id' := "dict_keyiterator.__iter__") (by kernel_rfl) (by first | rfl | decide +kernel | (unfold String.splitOn; simp +decide [String.splitOnAux])) (by decide +kernel) (by kernel_rfl)
theorem mro_map : mroOf (.type "map") = pure [.type "map", .type "object"] := by rw [mroOf_type]; kernel_rfl
theorem lookup_new : typeLookup (.type "map") "__new__" = pure (some (.builtin "map.__new__")) := by rw [typeLookup_type, builtinLookup_eq_fast]; kernel_rfl
theorem called : TypeCalled "map" "map.__new__" "object.__init__" :=
  ⟨by decide +kernel, by decide +kernel, ⟨_, _, mro_map⟩, madeBy_type mro_map lookup_new (by decide +kernel), by decide +kernel, by rw [isSubtype_type]; kernel_rfl, slot_init⟩
theorem typeCall_2 (a b : Value) : checkTypeCall "map" ⟨[a, b], []⟩ = pure () := by kernel_rfl
theorem newCall_2 (a b : Value) : checkBuiltinCall "map.__new__" ⟨[.type "map", a, b], []⟩ = pure () := by kernel_rfl
theorem sub_map : isSubtype (.type "map") (.type "map") = pure true := by rw [isSubtype_type]; kernel_rfl
theorem args_iter_1 (a : Value) : argsOk "map.__iter__" ⟨[a], []⟩ := by
  unfold argsOk; rw [signature?_of (id := "map.__iter__") (n := ['_', '_', 'r', 'e', 't', 'i', '_', '_']) (o := ['p', 'a', 'm']) (by kernel_rfl) owner_map]; kernel_rfl
theorem args_next_1 (a : Value) : argsOk "map.__next__" ⟨[a], []⟩ := by
  unfold argsOk; rw [signature?_of (id := "map.__next__") (n := ['_', '_', 't', 'x', 'e', 'n', '_', '_']) (o := ['p', 'a', 'm']) (by kernel_rfl) owner_map]; kernel_rfl
theorem no_len : typeLookup (.type "map") "__len__" = pure none := by rw [typeLookup_type, builtinLookup_eq_fast]; kernel_rfl
theorem no_hint : typeLookup (.type "map") "__length_hint__" = pure none := by rw [typeLookup_type, builtinLookup_eq_fast]; kernel_rfl
end MF
end Mine
end
section
open PySem PySem.W PyProof.Rows PySem.Calls
set_option maxRecDepth 100000
set_option maxHeartbeats 2000000
namespace Mine
noncomputable abbrev mapH1 (h : Heap) (l : Addr) : Heap := h.push { cls := .type "list_iterator", data := .fields #[.ref l, .int 0 0] }
noncomputable abbrev mapH2 (h : Heap) (l : Addr) : Heap := (mapH1 h l).push { cls := .type "tuple", data := .seq #[.ref h.objs.size] }
noncomputable abbrev mapH3 (h : Heap) (l : Addr) (f : Value) : Heap := (mapH2 h l).push { cls := .type "map", data := .fields #[.ref (mapH1 h l).objs.size, f] }
theorem meets_map_new (f : Value) (l : Addr) (xs : Array Value) :
    Meets (Builtin.«map.__new__» ⟨[.type "map", f, .ref l], []⟩) (fun _ R s => s.heap.IsList l xs ∧ R (.ok (.ret (.ref (mapH2 s.heap l).objs.size))) { s with heap := mapH3 s.heap l f }) :=
  .of_wp fun prog w A R s h => by
    obtain ⟨hp, g, d, tk, os⟩ := s; obtain ⟨hl1, h⟩ := h
    have hsub := MF.sub_map
    have hL1 : Heap.IsList (Shared.heap ⟨hp, g, d, tk, os⟩) l xs := hl1
    wp_walk using wpAny_pyIter_list hL1
    exact ⟨_, rfl, h⟩
noncomputable abbrev liO (l : Addr) (i : Int) : Obj := { cls := .type "list_iterator", data := .fields #[.ref l, .int i 0] }
noncomputable abbrev t1O (I : Addr) : Obj := { cls := .type "tuple", data := .seq #[.ref I] }
noncomputable abbrev mapO (TI : Addr) (f : Value) : Obj := { cls := .type "map", data := .fields #[.ref TI, f] }
section
variable {prog : Program} {w : World} {A : Around} {E : Value → Shared → Prop} {s : Shared} {h₀ : Heap} {L : Addr} {m : PySem.Str → Option Value} {news : List (Addr × Obj)}
theorem map_new {f : Value} {l : Addr} {xs : Array Value} {Q : Value → Shared → Prop} (F : Fr h₀ L s.heap m) (N : News h₀ L s.heap news) (hl : s.heap.IsList l xs)
    (h : ∀ I TI M h', Fr h₀ L h' m → News h₀ L h' ((M, mapO TI f) :: (TI, t1O I) :: (I, liO l 0) :: news) → (∀ q ∈ news, @LT.lt Nat _ q.1 I) → @LT.lt Nat _ I TI → @LT.lt Nat _ TI M → Q (.ref M) { s with heap := h' }) :
    wpAny (model prog w) A (call (.type "map") [f, .ref l]) Q E s := by
  refine callType_new MF.called (by decide) (MF.typeCall_2 _ _) (MF.newCall_2 _ _) (fun obj => PySem.F.args_object_init_3 obj _ _) MF.entry_new (meets_map_new f l xs) ⟨hl, ?_⟩
  have z1 : (mapH1 s.heap l).objs.size = s.heap.objs.size + 1 := Heap.size_push ..
  have z2 : (mapH2 s.heap l).objs.size = s.heap.objs.size + 2 := by rw [Heap.size_push, z1]
  have F3 : Fr h₀ L (mapH3 s.heap l f) m := ((F.push _).push _).push _
  have N3 : News h₀ L (mapH3 s.heap l f) ((_, mapO (mapH1 s.heap l).objs.size f) :: (_, t1O s.heap.objs.size) :: (_, liO l 0) :: news) := News.push ((F.push _).push _) (News.push (F.push _) (News.push F N _ rfl) _ rfl) _ rfl
  refine ⟨⟨_, (N3 _ (.head _)).1, rfl⟩, h _ _ _ _ F3 N3 (fun q hq => Heap.lt_size (N q hq).1) ?_ ?_⟩
  · rw [z1]; exact Nat.lt_succ_self _
  · rw [z1, z2]; exact Nat.lt_succ_self _
/-- an object of the ledger put anew -/
theorem led_set {D : Addr} {o o' : Obj} {h h' : Heap} {r : List (Addr × Obj)} (F : Fr h₀ L h m) (N : News h₀ L h ((D, o) :: r)) (hs : Heap.SameBut D h h') (ho : h'.get? D = some o') (hr : ∀ q ∈ r, q.1 ≠ D) : Fr h₀ L h' m ∧ News h₀ L h' ((D, o') :: r) := by
  have z := N _ (.head _)
  refine ⟨kas_fr F hs z.2.1 z.2.2, fun p hp => ?_⟩
  rcases List.mem_cons.mp hp with rfl | hp
  · exact ⟨ho, z.2⟩
  · exact kas_news (fun q hq => N q (.tail _ hq)) hs hr p hp
/-- what the ledger holds while a map of two things is walked -/
structure MapLt (news : List (Addr × Obj)) (I TI M S : Addr) : Prop where
  nI : ∀ q ∈ news, @LT.lt Nat _ q.1 I
  IT : @LT.lt Nat _ I TI
  TM : @LT.lt Nat _ TI M
  MS : @LT.lt Nat _ M S
theorem map_next {f x : Value} {l I TI M S : Addr} {oS oI : Obj} {i : Nat} {vs : Array Value} {n : Nat} {Q : Value → Shared → Prop} {R : Value → Prop} (F : Fr h₀ L s.heap m) (N : News h₀ L s.heap ((I, oI) :: (S, oS) :: (TI, t1O I) :: (M, mapO TI f) :: news)) (O : MapLt news I TI M S)
    (hIi : s.heap.IsListIter I l i) (hl : (l, W.listOf vs n) ∈ news) (hx : vs[i]? = some x)
    (hcall : ∀ (s' : Shared) (own : List (Addr × Obj)) (Q' E' : Value → Shared → Prop), Fr h₀ L s'.heap m → News h₀ L s'.heap own → (∀ v h' tk', R v → Fr h₀ L h' m → News h₀ L h' own → Q' v { s' with heap := h', toks := tk' }) → wpAny (model prog w) A.in1 (call f [x]) Q' E' s')
    (h : ∀ v h' tk' oI', R v → Fr h₀ L h' m → News h₀ L h' ((I, oI') :: (S, oS) :: (TI, t1O I) :: (M, mapO TI f) :: news) → h'.IsListIter I l (i + 1) → Q v { s with heap := h', toks := tk' }) :
    wpAny (model prog w) A.in1 (Builtin.«map.__next__» ⟨[.ref M], []⟩) (fun fin s' => ∃ v, fin = .done (.ret v) ∧ Q v s') E s := by
  have hM := (N (M, mapO TI f) (.tail _ (.tail _ (.tail _ (.head _))))).1
  have hTI := (N (TI, t1O I) (.tail _ (.tail _ (.head _)))).1
  have hll := N (l, W.listOf vs n) (.tail _ (.tail _ (.tail _ (.tail _ hl))))
  have hIl : s.heap.IsList l vs := ⟨_, hll.1, rfl, n, rfl⟩
  have hr : ∀ q ∈ (S, oS) :: (TI, t1O I) :: (M, mapO TI f) :: news, q.1 ≠ I := by
    have := O.IT; have := O.TM; have := O.MS
    intro q hq
    rcases List.mem_cons.mp hq with rfl | hq
    · exact Ne.symm (Nat.ne_of_lt (by (first | lia | omega)))
    · rcases List.mem_cons.mp hq with rfl | hq
      · exact Ne.symm (Nat.ne_of_lt (by (first | lia | omega)))
      · rcases List.mem_cons.mp hq with rfl | hq
        · exact Ne.symm (Nat.ne_of_lt (by (first | lia | omega)))
        · exact Nat.ne_of_lt (O.nI q hq)
  show wpAny _ _ (field (.ref M) 0 >>= _) _ _ _
  refine wpAny_bind (wpAny_field hM rfl (x := .ref TI) rfl ?_)
  refine wpAny_bind (wpAny_seqItems hTI rfl ?_)
  dsimp only
  rw [← Array.forIn_toList]
  simp only [List.forIn_cons, List.forIn_nil]
  refine wpAny_bind (wpAny_bind (wpAny_bind (wpAny_holding (wpAny_nextOf_list_item hIi hIl hx fun h₁ hI₁ hs₁ => wpAny_pure ?_))))
  refine fold_G ?_
  intro G9
  obtain ⟨oI1, hoI1, hI1c, hI1d⟩ := id hI₁
  obtain ⟨F1, N1⟩ := led_set F N hs₁ hoI1 hr
  refine wpAny_pure ?_
  have hM1 := (N1 (M, mapO TI f) (.tail _ (.tail _ (.tail _ (.head _))))).1
  refine wpAny_bind (wpAny_field hM1 rfl (x := f) rfl ?_)
  refine wpAny_bind (wpAny_holding (hcall { s with heap := h₁ } _ _ _ F1 N1 fun v h' tk' hR F' N' => ?_))
  refine wpAny_bind (wpAny_letGo (wpAny_pure ⟨_, rfl, h v h' tk' oI1 hR F' N' ⟨oI1, (N' _ (.head _)).1, hI1c, hI1d⟩⟩))
theorem map_item {f x : Value} {l I TI M S : Addr} {oS oI : Obj} {i : Nat} {vs : Array Value} {n : Nat} {Q : Option Value → Shared → Prop} {R : Value → Prop} (F : Fr h₀ L s.heap m) (N : News h₀ L s.heap ((I, oI) :: (S, oS) :: (TI, t1O I) :: (M, mapO TI f) :: news)) (O : MapLt news I TI M S)
    (hIi : s.heap.IsListIter I l i) (hl : (l, W.listOf vs n) ∈ news) (hx : vs[i]? = some x)
    (hcall : ∀ (s' : Shared) (own : List (Addr × Obj)) (Q' E' : Value → Shared → Prop), Fr h₀ L s'.heap m → News h₀ L s'.heap own → (∀ v h' tk', R v → Fr h₀ L h' m → News h₀ L h' own → Q' v { s' with heap := h', toks := tk' }) → wpAny (model prog w) A.in1 (call f [x]) Q' E' s')
    (h : ∀ v h' tk' oI', R v → Fr h₀ L h' m → News h₀ L h' ((I, oI') :: (S, oS) :: (TI, t1O I) :: (M, mapO TI f) :: news) → h'.IsListIter I l (i + 1) → Q (some v) { s with heap := h', toks := tk' }) :
    wpAny (model prog w) A (pyNext (.ref M)) Q E s := by
  have hT : s.TypeIs (.ref M) "map" := ⟨_, (N (M, mapO TI f) (.tail _ (.tail _ (.tail _ (.head _))))).1, rfl⟩
  unfold pyNext
  exact wpAny_bind (wpAny_attempt (wpAny_callSpecial?_slot (name := Str.ofString "__next__") hT MF.slot_next
    (wpAny_call_entry MF.slot_next hT MF.entry_next
      (map_next F N O hIi hl hx hcall fun v h' tk' oI' a1 a2 a3 a4 => wpAny_pure (h v h' tk' oI' a1 a2 a3 a4)) (MF.args_next_1 _))))
theorem map_end {f : Value} {l I TI M S : Addr} {oS oI : Obj} {i : Nat} {vs : Array Value} {n : Nat} {Q : Option Value → Shared → Prop} (hh : A.handled = none) (F : Fr h₀ L s.heap m) (N : News h₀ L s.heap ((I, oI) :: (S, oS) :: (TI, t1O I) :: (M, mapO TI f) :: news)) (O : MapLt news I TI M S)
    (hIi : s.heap.IsListIter I l i) (hl : (l, W.listOf vs n) ∈ news) (hx : vs[i]? = none)
    (h : ∀ h', Fr h₀ L h' m → News h₀ L h' ((S, oS) :: (TI, t1O I) :: (M, mapO TI f) :: news) → Q none { s with heap := h' }) :
    wpAny (model prog w) A (pyNext (.ref M)) Q E s := by
  have hM := (N (M, mapO TI f) (.tail _ (.tail _ (.tail _ (.head _))))).1
  have hTI := (N (TI, t1O I) (.tail _ (.tail _ (.head _)))).1
  have hll := N (l, W.listOf vs n) (.tail _ (.tail _ (.tail _ (.tail _ hl))))
  have hIl : s.heap.IsList l vs := ⟨_, hll.1, rfl, n, rfl⟩
  have zI := N (I, oI) (.head _)
  have hr : ∀ q ∈ (S, oS) :: (TI, t1O I) :: (M, mapO TI f) :: news, q.1 ≠ I := by
    have := O.IT; have := O.TM; have := O.MS
    intro q hq
    rcases List.mem_cons.mp hq with rfl | hq
    · exact Ne.symm (Nat.ne_of_lt (by (first | lia | omega)))
    · rcases List.mem_cons.mp hq with rfl | hq
      · exact Ne.symm (Nat.ne_of_lt (by (first | lia | omega)))
      · rcases List.mem_cons.mp hq with rfl | hq
        · exact Ne.symm (Nat.ne_of_lt (by (first | lia | omega)))
        · exact Nat.ne_of_lt (O.nI q hq)
  have hT : s.TypeIs (.ref M) "map" := ⟨_, hM, rfl⟩
  unfold pyNext
  refine wpAny_bind (wpAny_attempt (wpAny_callSpecial?_slot (name := Str.ofString "__next__") hT MF.slot_next
    (wpAny_call_entry MF.slot_next hT MF.entry_next ?_ (MF.args_next_1 _))))
  show wpAny _ _ (field (.ref M) 0 >>= _) _ _ _
  refine wpAny_bind (wpAny_field hM rfl (x := .ref TI) rfl ?_)
  refine wpAny_bind (wpAny_seqItems hTI rfl ?_)
  dsimp only
  rw [← Array.forIn_toList]
  simp only [List.forIn_cons, List.forIn_nil]
  refine wpAny_bind (wpAny_bind (wpAny_bind (wpAny_holding (wpAny_nextOf_list_end hh hIi hIl hx fun h₁ e hs₁ he => ?_))))
  refine fold_G ?_
  intro G9
  obtain ⟨o, ho, hc⟩ := he
  refine wpAny_bind (wpAny_isInstance (T := "StopIteration") (b := true) ⟨o, ho, hc⟩ isSubtype_stop ?_)
  refine wpAny_pure (h h₁ ⟨F.ns.at' fun o e => hs₁ _ _ (Ne.symm zI.2.1) e, fun b x e => hs₁ _ _ (fun q => by rw [q, zI.2.2] at e; cases e) (F.keep b x e), F.above⟩ fun q hq => ?_)
  exact ⟨hs₁ _ _ (hr q hq) (N q (.tail _ hq)).1, (N q (.tail _ hq)).2⟩
end
end Mine
end
section
open PySem PySem.W PyProof.Rows PySem.Calls
set_option maxRecDepth 100000
set_option maxHeartbeats 2000000
namespace Mine
section
variable {prog : Program} {w : World} {A : Around} {E : Value → Shared → Prop} {s : Shared} {h₀ : Heap} {L : Addr} {m : PySem.Str → Option Value} {news : List (Addr × Obj)}
theorem swap2 {h : Heap} {a b : Addr × Obj} {r : List (Addr × Obj)} (N : News h₀ L h (a :: b :: r)) : News h₀ L h (b :: a :: r) := fun p hp => N p (by
  rcases List.mem_cons.mp hp with rfl | hp
  · exact .tail _ (.head _)
  · rcases List.mem_cons.mp hp with rfl | hp
    · exact .head _
    · exact .tail _ (.tail _ hp))
/-- the loop that draws two things from a map -/
theorem map_loop2 {f x1 x2 : Value} {l I TI M S : Addr} {oI : Obj} {n c : Nat} {res : Value} {R : Result → Shared → Prop} {R1 R2 : Value → Prop} (hh : A.handled = none) (F : Fr h₀ L s.heap m) (N : News h₀ L s.heap ((I, oI) :: (S, W.listOf #[] c) :: (TI, t1O I) :: (M, mapO TI f) :: news)) (O : MapLt news I TI M S)
    (hIi : s.heap.IsListIter I l 0) (hl : (l, W.listOf #[x1, x2] n) ∈ news)
    (hcall1 : ∀ (s' : Shared) (own : List (Addr × Obj)) (Q' E' : Value → Shared → Prop), Fr h₀ L s'.heap m → News h₀ L s'.heap own → (∀ v h' tk', R1 v → Fr h₀ L h' m → News h₀ L h' own → Q' v { s' with heap := h', toks := tk' }) → wpAny (model prog w) A.in1.in1 (call f [x1]) Q' E' s')
    (hcall2 : ∀ (s' : Shared) (own : List (Addr × Obj)) (Q' E' : Value → Shared → Prop), Fr h₀ L s'.heap m → News h₀ L s'.heap own → (∀ v h' tk', R2 v → Fr h₀ L h' m → News h₀ L h' own → Q' v { s' with heap := h', toks := tk' }) → wpAny (model prog w) A.in1.in1 (call f [x2]) Q' E' s')
    (h : ∀ v1 v2 h' tk' c', R1 v1 → R2 v2 → Fr h₀ L h' m → News h₀ L h' ((S, W.listOf #[v1, v2] c') :: (TI, t1O I) :: (M, mapO TI f) :: news) → R (.ok (.ret res)) { s with heap := h', toks := tk' }) :
    codeAny (model prog w) A (.builtin "list.extend.loop" ⟨[.ref S, .ref M, res], []⟩) R s := by
  have hMS := O.MS
  have hTM := O.TM
  have hIT := O.IT
  have hrS : ∀ {o1 : Obj}, ∀ q ∈ (I, o1) :: (TI, t1O I) :: (M, mapO TI f) :: news, q.1 ≠ S := by
    intro o1 q hq
    rcases List.mem_cons.mp hq with rfl | hq
    · exact Nat.ne_of_lt (by (first | lia | omega))
    · rcases List.mem_cons.mp hq with rfl | hq
      · exact Nat.ne_of_lt (by (first | lia | omega))
      · rcases List.mem_cons.mp hq with rfl | hq
        · exact Nat.ne_of_lt (by omega)
        · have := O.nI q hq
          exact Nat.ne_of_lt (by (first | lia | omega))
  have push : ∀ {h1 : Heap} {oI1 : Obj} {xs : Array Value} {c1 : Nat} {v : Value}, Fr h₀ L h1 m → News h₀ L h1 ((I, oI1) :: (S, W.listOf xs c1) :: (TI, t1O I) :: (M, mapO TI f) :: news) → ∃ c2, Fr h₀ L (h1.update S (Obj.mapSeq (·.push v))) m ∧ News h₀ L (h1.update S (Obj.mapSeq (·.push v))) ((I, oI1) :: (S, W.listOf (xs.push v) c2) :: (TI, t1O I) :: (M, mapO TI f) :: news) := by
    intro h1 oI1 xs c1 v F1 N1
    have hS := (N1 _ (.tail _ (.head _))).1
    obtain ⟨c2, hc2⟩ : ∃ c2, (h1.update S (Obj.mapSeq (·.push v))).get? S = some (W.listOf (xs.push v) c2) := ⟨_, get?_update_seq hS (·.push v)⟩
    obtain ⟨F2, N2⟩ := led_set F1 (swap2 N1) (Heap.SameBut.update h1 S (Obj.mapSeq (·.push v))) hc2 hrS
    exact ⟨c2, F2, swap2 N2⟩
  refine codeAny_builtin PySem.F.entry_extend_loop ?_
  rw [Around.under_plainId PySem.F.plain_extend_loop _]
  show wpAny _ A.in1 (pyNext (.ref M) >>= _) _ _ s
  refine wpAny_bind (map_item F N O hIi hl rfl hcall1 fun v1 h1 tk1 oI1 r1 F1 N1 hI1 => ?_)
  show wpAny _ A.in1 (updateSeq S (·.push v1) >>= _) _ _ _
  have hS1 := (N1 _ (.tail _ (.head _))).1
  refine fold_G ?_
  intro G9
  obtain ⟨c2, F2, N2⟩ := push (v := v1) F1 N1
  refine wpAny_bind (wpAny_updateSeq hS1 rfl (wpAny_pure ⟨plainId_quiet PySem.F.plain_extend_loop _, ?_⟩) (by rw [sizeLine_eq]; decide) (by rw [sizeLine_eq]; show 1 ≤ _; (first | lia | omega)))
  have hI2 : (h1.update S (Obj.mapSeq (·.push v1))).IsListIter I l 1 := by
    obtain ⟨o, ho, a, b⟩ := hI1
    exact ⟨o, (Heap.get?_update_other _ _ (fun h : S = I => by subst h; (first | lia | omega))).trans ho, a, b⟩
  refine codeAny_builtin PySem.F.entry_extend_loop ?_
  rw [Around.under_plainId PySem.F.plain_extend_loop _]
  show wpAny _ A.in1 (pyNext (.ref M) >>= _) _ _ _
  refine wpAny_bind (map_item (s := { s with heap := h1.update S (Obj.mapSeq (·.push v1)), toks := tk1 }) F2 N2 O hI2 hl rfl hcall2 fun v2 h3 tk3 oI3 r2 F3 N3 hI3 => ?_)
  show wpAny _ A.in1 (updateSeq S (·.push v2) >>= _) _ _ _
  have hS3 := (N3 _ (.tail _ (.head _))).1
  refine fold_G ?_
  intro G9
  obtain ⟨c4, F4, N4⟩ := push (v := v2) F3 N3
  refine wpAny_bind (wpAny_updateSeq hS3 rfl (wpAny_pure ⟨plainId_quiet PySem.F.plain_extend_loop _, ?_⟩) (by rw [sizeLine_eq]; show 1 ≤ _; (first | lia | omega)) (by rw [sizeLine_eq]; show 2 ≤ _; (first | lia | omega)))
  have hI4 : (h3.update S (Obj.mapSeq (·.push v2))).IsListIter I l 2 := by
    obtain ⟨o, ho, a, b⟩ := hI3
    exact ⟨o, (Heap.get?_update_other _ _ (fun h : S = I => by subst h; (first | lia | omega))).trans ho, a, b⟩
  refine codeAny_builtin PySem.F.entry_extend_loop ?_
  rw [Around.under_plainId PySem.F.plain_extend_loop _]
  show wpAny _ A.in1 (pyNext (.ref M) >>= _) _ _ _
  refine wpAny_bind (map_end (s := { s with heap := h3.update S (Obj.mapSeq (·.push v2)), toks := tk3 }) hh F4 N4 O hI4 hl rfl fun h5 F5 N5 => ?_)
  exact wpAny_pure (h v1 v2 h5 tk3 c4 r1 r2 F5 N5)
theorem collect_map2 {f x1 x2 : Value} {l I TI M : Addr} {oI : Obj} {n : Nat} {Q : List Value → Shared → Prop} {R1 R2 : Value → Prop} (hh : A.handled = none) (F : Fr h₀ L s.heap m) (N : News h₀ L s.heap ((I, oI) :: (TI, t1O I) :: (M, mapO TI f) :: news)) (hnI : ∀ q ∈ news, @LT.lt Nat _ q.1 I) (hIT : @LT.lt Nat _ I TI) (hTM : @LT.lt Nat _ TI M)
    (hIi : s.heap.IsListIter I l 0) (hl : (l, W.listOf #[x1, x2] n) ∈ news)
    (hcall1 : ∀ (s' : Shared) (own : List (Addr × Obj)) (Q' E' : Value → Shared → Prop), Fr h₀ L s'.heap m → News h₀ L s'.heap own → (∀ v h' tk', R1 v → Fr h₀ L h' m → News h₀ L h' own → Q' v { s' with heap := h', toks := tk' }) → wpAny (model prog w) A.in1.in1 (call f [x1]) Q' E' s')
    (hcall2 : ∀ (s' : Shared) (own : List (Addr × Obj)) (Q' E' : Value → Shared → Prop), Fr h₀ L s'.heap m → News h₀ L s'.heap own → (∀ v h' tk', R2 v → Fr h₀ L h' m → News h₀ L h' own → Q' v { s' with heap := h', toks := tk' }) → wpAny (model prog w) A.in1.in1 (call f [x2]) Q' E' s')
    (h : ∀ v1 v2 h' tk', R1 v1 → R2 v2 → Fr h₀ L h' m → News h₀ L h' ((TI, t1O I) :: (M, mapO TI f) :: news) → Q [v1, v2] { s with heap := h', toks := tk' }) :
    wpAny (model prog w) A (collect (.ref M)) Q E s := by
  have hMo := N (M, mapO TI f) (.tail _ (.tail _ (.head _)))
  have hT : s.TypeIs (.ref M) "map" := ⟨_, hMo.1, rfl⟩
  have hMlt : M < s.heap.objs.size := Heap.lt_size hMo.1
  unfold collect
  refine wpAny_bind (wpAny_runValue (codeAny_builtin PySem.F.entry_proto_collect ?_))
  rw [Around.under_plainId PySem.F.plain_proto_collect _]
  show wpAny _ A.in1 (newList [] >>= fun l => again (.builtin "list.__iadd__" ⟨[l, .ref M], []⟩)) _ _ s
  refine wpAny_bind (wpAny_newObj_type ?_)
  refine wpAny_pure ⟨plainId_quiet PySem.F.plain_list_iadd _, codeAny_builtin PySem.F.entry_list_iadd ?_⟩
  rw [Around.under_plainId PySem.F.plain_list_iadd _]
  have F1 : Fr h₀ L (s.heap.push { cls := .type "list", data := .seq ([] : List Value).toArray }) m := F.push _
  have N1 : News h₀ L (s.heap.push { cls := .type "list", data := .seq ([] : List Value).toArray }) ((s.heap.objs.size, W.listOf #[] 0) :: (I, oI) :: (TI, t1O I) :: (M, mapO TI f) :: news) := News.push F N _ rfl
  generalize hS : s.heap.objs.size = S at N1
  generalize hH1 : s.heap.push { cls := .type "list", data := .seq ([] : List Value).toArray } = H1 at F1 N1
  have hI1 : H1.IsListIter I l 0 := by
    obtain ⟨o, ho, a, b⟩ := hIi
    exact ⟨o, by rw [← hH1]; exact Heap.get?_push_of_some _ ho, a, b⟩
  have O : MapLt news I TI M S := ⟨hnI, hIT, hTM, by rw [← hS]; exact hMlt⟩
  have hrS : ∀ q ∈ (I, oI) :: (TI, t1O I) :: (M, mapO TI f) :: news, q.1 ≠ S := by
    have := O.MS
    intro q hq
    rcases List.mem_cons.mp hq with rfl | hq
    · exact Nat.ne_of_lt (by (first | lia | omega))
    · rcases List.mem_cons.mp hq with rfl | hq
      · exact Nat.ne_of_lt (by (first | lia | omega))
      · rcases List.mem_cons.mp hq with rfl | hq
        · exact Nat.ne_of_lt (by omega)
        · have := O.nI q hq
          exact Nat.ne_of_lt (by (first | lia | omega))
  have hMo1 := N1 (M, mapO TI f) (.tail _ (.tail _ (.tail _ (.head _))))
  have hT1 : ({ s with heap := H1 } : Shared).TypeIs (.ref M) "map" := ⟨_, hMo1.1, rfl⟩
  show wpAny _ A.in1 (Builtin.List.listExtendWith (.ref S) (.ref M) (.ref S)) _ _ { s with heap := H1 }
  unfold Builtin.List.listExtendWith
  refine wpAny_bind (wpAny_typeOf hT1 ?_)
  have h1 : Builtin.List.listSameRef (.ref S) (.ref M) = false := by
    have : S ≠ M := Ne.symm (Nat.ne_of_lt O.MS)
    simp [Builtin.List.listSameRef, this]
  have h2 : (Value.type "map" == Value.type "list") = false := by decide
  have h3 : (Value.type "map" == Value.type "tuple") = false := by decide
  simp only [h1, h2, h3, Bool.or_false, Bool.false_eq_true, if_false]
  refine wpAny_bind (wpAny_pyIter_slot hT1 MF.slot_iter (wpAny_call_entry MF.slot_iter hT1 MF.entry_iter (wpAny_pure ⟨_, rfl, "map", _, hT1, MF.slot_next.lookup, ?_⟩) (MF.args_iter_1 _)))
  refine wpAny_bind (wpAny_holding ?_)
  unfold Builtin.List.listLengthHint
  refine wpAny_bind (wpAny_specialOf hT1 MF.no_len ?_)
  show wpAny _ A.in1 (specialOf (Value.ref M) (Str.ofString "__length_hint__") >>= _) _ _ _
  refine wpAny_bind (wpAny_specialOf hT1 MF.no_hint ?_)
  refine wpAny_pure ?_
  show wpAny _ A.in1 (rule "list.extend.makes-room" >>= fun _ => Builtin.List.listTouch (.ref S) >>= fun _ =>
    again (.builtin "list.extend.loop" ⟨[.ref S, .ref M, .ref S], []⟩)) _ _ _
  refine wpAny_bind (wpAny_rule ?_)
  refine wpAny_bind ?_
  show wpAny _ A.in1 (updateSeq S (·.push .none) >>= fun _ => updateSeq S (·.pop)) _ _ _
  have hS1 := (N1 _ (.head _)).1
  refine fold_G ?_
  intro G9
  obtain ⟨c2, hc2⟩ : ∃ c2, (H1.update S (Obj.mapSeq (·.push Value.none))).get? S = some (W.listOf ((#[] : Array Value).push .none) c2) := ⟨_, get?_update_seq hS1 (·.push Value.none)⟩
  refine fold_G ?_
  intro G9
  obtain ⟨F2, N2⟩ := led_set F1 N1 (Heap.SameBut.update H1 S (Obj.mapSeq (·.push Value.none))) hc2 hrS
  refine wpAny_bind (wpAny_updateSeq hS1 rfl ?_)
  have hS2 := (N2 _ (.head _)).1
  obtain ⟨c3, hc3⟩ : ∃ c3, ((H1.update S (Obj.mapSeq (·.push Value.none))).update S (Obj.mapSeq (·.pop))).get? S = some (W.listOf (((#[] : Array Value).push .none).pop) c3) := ⟨_, get?_update_seq hS2 (·.pop)⟩
  obtain ⟨F3, N3⟩ := led_set F2 N2 (Heap.SameBut.update (H1.update S (Obj.mapSeq (·.push Value.none))) S (Obj.mapSeq (·.pop))) hc3 hrS
  refine wpAny_updateSeq hS2 rfl ?_
  have hI3 : ((H1.update S (Obj.mapSeq (·.push Value.none))).update S (Obj.mapSeq (·.pop))).IsListIter I l 0 := by
    refine fold_G ?_
    intro G9
    obtain ⟨o, ho, a, b⟩ := hI1
    have hne : S ≠ I := Ne.symm (hrS (I, oI) (.head _))
    exact ⟨o, (Heap.get?_update_other _ _ hne).trans ((Heap.get?_update_other _ _ hne).trans ho), a, b⟩
  refine wpAny_pure ⟨plainId_quiet PySem.F.plain_extend_loop _, map_loop2 (s := { s with heap := (H1.update S (Obj.mapSeq (·.push Value.none))).update S (Obj.mapSeq (·.pop)) }) (c := c3) hh F3 (swap2 N3) O hI3 hl hcall1 hcall2 fun v1 v2 h' tk' c' r1 r2 F' N' => ?_⟩
  show wpAny _ A (load S >>= _) _ _ _
  refine wpAny_bind (wpAny_load (s := { s with heap := h', toks := tk' }) (N' _ (.head _)).1 ?_)
  exact wpAny_pure (h v1 v2 h' tk' r1 r2 F' fun q hq => N' q (.tail _ hq))
theorem call_tuple_map2 {f x1 x2 : Value} {l I TI M : Addr} {n : Nat} {Q : Value → Shared → Prop} {R1 R2 : Value → Prop} (hh : A.handled = none) (F : Fr h₀ L s.heap m) (N : News h₀ L s.heap ((M, mapO TI f) :: (TI, t1O I) :: (I, liO l 0) :: news)) (hnI : ∀ q ∈ news, @LT.lt Nat _ q.1 I) (hIT : @LT.lt Nat _ I TI) (hTM : @LT.lt Nat _ TI M)
    (hl : (l, W.listOf #[x1, x2] n) ∈ news)
    (hcall1 : ∀ (s' : Shared) (own : List (Addr × Obj)) (Q' E' : Value → Shared → Prop), Fr h₀ L s'.heap m → News h₀ L s'.heap own → (∀ v h' tk', R1 v → Fr h₀ L h' m → News h₀ L h' own → Q' v { s' with heap := h', toks := tk' }) → wpAny (model prog w) A.in1.in1.in1.in1 (call f [x1]) Q' E' s')
    (hcall2 : ∀ (s' : Shared) (own : List (Addr × Obj)) (Q' E' : Value → Shared → Prop), Fr h₀ L s'.heap m → News h₀ L s'.heap own → (∀ v h' tk', R2 v → Fr h₀ L h' m → News h₀ L h' own → Q' v { s' with heap := h', toks := tk' }) → wpAny (model prog w) A.in1.in1.in1.in1 (call f [x2]) Q' E' s')
    (h : ∀ v1 v2 D h' tk', R1 v1 → R2 v2 → Fr h₀ L h' m → News h₀ L h' ((D, ({ cls := .type "tuple", data := .seq #[v1, v2] } : Obj)) :: news) → (∀ q ∈ news, q.1 < D) → Q (.ref D) { s with heap := h', toks := tk' }) :
    wpAny (model prog w) A (call (.type "tuple") [.ref M]) Q E s := by
  have hI0 : s.heap.IsListIter I l 0 := ⟨_, (N (I, liO l 0) (.tail _ (.tail _ (.head _)))).1, rfl, rfl⟩
  have N' : News h₀ L s.heap ((I, liO l 0) :: (TI, t1O I) :: (M, mapO TI f) :: news) := fun q hq => N q (by
    rcases List.mem_cons.mp hq with rfl | hq
    · exact .tail _ (.tail _ (.head _))
    · rcases List.mem_cons.mp hq with rfl | hq
      · exact .tail _ (.head _)
      · rcases List.mem_cons.mp hq with rfl | hq
        · exact .head _
        · exact .tail _ (.tail _ (.tail _ hq)))
  have hTM' : s.TypeIs (.ref M) "map" := ⟨_, (N _ (.head _)).1, rfl⟩
  refine callType_codes (Q₁ := fun obj s₁ => s₁.TypeIs obj "tuple" ∧ Q obj s₁) PySem.F.called_tuple (PySem.F.typeCall_tuple_1 _) PySem.F.entry_object_init ?_ fun obj s₁ h₁ => ?_
  · refine codeAny_of_tree ?_
    show wpAny _ _ (do checkBuiltinCall "tuple.__new__" ⟨[.type "tuple", .ref M], []⟩; again (.builtin "tuple.__new__" ⟨[.type "tuple", .ref M], []⟩)) _ _ s
    refine wpAny_bind (wpAny_of_eq (PySem.F.newCall_tuple_1 _) (wpAny_pure ⟨plainId_quiet PySem.F.plain_tuple_new _, codeAny_builtin PySem.F.entry_tuple_new ?_⟩))
    rw [Around.under_plainId PySem.F.plain_tuple_new _]
    have hsub := sub_tuple_self
    have hinit := init_tuple_lookup
    have hmh := madeHere_tuple
    wp_walk using wpAny_typeOf hTM', collect_map2 (A := A.in1.in1) hh F N' hnI hIT hTM hI0 hl hcall1 hcall2
    intro v1 v2 h' tk' r1 r2 F' N2
    show wpAny _ _ (Builtin.Tuple.tupleExact [v1, v2].toArray >>= fun v => ret v) _ _ _
    unfold Builtin.Tuple.tupleExact
    have N3 : News h₀ L h' news := fun q hq => N2 q (.tail _ (.tail _ hq))
    refine wpAny_bind (wpAny_newObj_type ?_ (by show 2 ≤ sizeLine; rw [sizeLine_eq]; (first | lia | omega)))
    refine wpAny_pure ?_
    exact ⟨⟨_, Heap.get?_push_size _ rfl, rfl⟩, h v1 v2 _ _ tk' r1 r2 (F'.push _) (News.push F' N3 _ rfl) fun q hq => Heap.lt_size (N3 q hq).1⟩
  · exact ⟨h₁.1, PySem.F.args_object_init_2 obj _, object_init_meets PySem.F.called_tuple.init.lookup PySem.F.called_tuple.made (by decide) prog w A.in1 _ s₁ ⟨h₁.1, rfl, h₁.2⟩⟩
end
end Mine
end
section
open PySem PySem.W PyProof.Rows PySem.Calls
set_option maxRecDepth 100000
namespace Mine
section
variable {prog : Program} {w : World} {A : Around} {E : Value → Shared → Prop} {s : Shared} {h₀ : Heap} {L : Addr} {m : PySem.Str → Option Value} {env : Env}
/-- a tuple of the ledger -/
noncomputable def TupAt (ax : Addr) (its : Array Value) (news : List (Addr × Obj)) : Prop := ∃ o, (ax, o) ∈ news ∧ o.cls = .type "tuple" ∧ ∃ n, o.data = .seq its n
theorem TupAt.tup {h : Heap} {ax : Addr} {its : Array Value} {news : List (Addr × Obj)} (x : TupAt ax its news) (N : News h₀ L h news) : h.IsTuple ax its := by
  obtain ⟨o, hm, r⟩ := x
  exact ⟨o, (N _ hm).1, r⟩
theorem tup_st {ax I : Addr} {its : Array Value} : ∀ i (h h' : Heap) (o : Obj) (nw : List (Addr × Obj)), (h.IsTupleIter I ax i ∧ h.IsTuple ax its) → h.get? I = some o → h'.get? I = some o → (∀ b o, h₀.get? b = some o → h'.get? b = some o) → News h₀ L h' nw → TupAt ax its nw → (h'.IsTupleIter I ax i ∧ h'.IsTuple ax its) :=
  fun i h h' o nw st e e' k N S => ⟨by obtain ⟨o', q, r⟩ := st.1; rw [e] at q; cases q; exact ⟨o, e', r⟩, S.tup N⟩
theorem tup_push {h : Heap} {o : Obj} {ax : Addr} {its : Array Value} (x : h.IsTuple ax its) : (h.push o).IsTuple ax its := by
  obtain ⟨o', e, r⟩ := x
  exact ⟨o', Heap.get?_push_of_some _ e, r⟩
noncomputable def SrcTup (prog : Program) (w : World) (A : Around) (h₀ : Heap) (L : Addr) (m : PySem.Str → Option Value) (env : Env) (elt : Expr) (x : PySem.Str) (scope : Scope) (cl : List (PySem.Str × Addr)) (Fin : Shared → List Value → List (Addr × Obj) → Prop) (xv : Value) (s₁ : Shared) : Prop :=
  ∃ ax its news, xv = .ref ax ∧ A.handled = none ∧ Fr h₀ L s₁.heap m ∧ News h₀ L s₁.heap news ∧ TupAt ax its news ∧ its.size ≤ sizeLine ∧
    ∀ s₂ : Shared, (∃ h, s₂ = { s₁ with heap := h }) → LCg.CompRest prog w A h₀ L m env elt x scope cl s₂ (TupAt ax its) (fun i v => its[i]? = some v) (Fin s₂) its.size 0 [] news
theorem Assign_ListComp_tup {elt iter : Expr} {x y : PySem.Str} {px py : Pos} {scope : Scope} {cl : List (PySem.Str × Addr)} {pos spos : Pos} {Q : Flow → Shared → Prop} (F₀ : Fr h₀ L s.heap m) (hLe : env.locals = L)
    (hsw : swapsWith (.ListComp elt [⟨.Name x px, iter, [], 0⟩] scope pos) (some (.Name y py)) spos.line env = pure true)
    (hclos : closureFor scope env = pure cl) (hcell : ∀ z ∈ scope.names, z.2 ≠ .cell) (hkind : scope.kind = .function)
    (hnames : ∀ z ∈ scope.names, z.2 = .local → scope.names.lookup z.1 = some .local) (hx : scope.names.lookup x = some .local)
    (hy : env.kindOf y = some .local) (hp : (env.scope.kind == .class || (env.scope.kind == .module && env.locals != env.globals)) = false)
    (h : wpAny (model prog w) A (eval iter env) (SrcTup prog w A h₀ L m env elt x scope cl (fun s₂ => LCg.FinA h₀ L m s₂ y Q)) E s)
    (hs : ∀ x, foldedSetIterable iter env x = pure x := by intro _; rfl) :
    wpAny (model prog w) A (exec (.Assign [.Name y py] (.ListComp elt [⟨.Name x px, iter, [], 0⟩] scope pos) spos) env) Q E s := by
  subst hLe
  rw [exec_Assign_Name_used _ _ _ _ hsw]
  refine wpAny_bind (wpAny_standAt (wpAny_bind ?_))
  show wpAny _ A (do let _ ← comprehension (.ListComp elt [⟨.Name x px, iter, [], 0⟩] scope pos) scope env _ (newList []) false (eval iter env) (some (assign (.Name y py) env))) _ _ s
  refine wpAny_bind (wpAny_mono (wpAny_comprehension_free (use := some (assign (.Name y py) env)) (Q := fun _ s' => Q .next s') rfl hs hclos hkind hnames
    (wpAny_mono h (fun xv s₁ h₁ => ?_) fun _ _ e => e)) (fun _ s' hq => wpAny_pure (wpAny_pure hq)) fun _ _ e => e)
  refine fold_G ?_
  intro G9
  obtain ⟨ax, its, news, rfl, hh, F, N, S, hsz, R⟩ := h₁
  have hl := S.tup N
  have hlt : ax < s₁.heap.objs.size := by obtain ⟨_, e, _⟩ := hl; exact Heap.lt_size e
  refine wpAny_pyIter_tuple hl ?_
  have up : ∀ b o, s₁.heap.get? b = some o → (s₁.heap.push { cls := .type "tuple_iterator", data := .fields #[.ref ax, .int 0 0] }).get? b = some o := fun b o e => Heap.get?_push_of_some _ e
  refine LCg.block_U (Walks.tuple hh s₁.heap.objs.size ax (Nat.ne_of_lt hlt) its) hsz (fun i h st => by obtain ⟨o, e, _⟩ := st.1; exact ⟨o, e⟩) tup_st hcell hkind hx ⟨⟨_, Heap.get?_push_size _ rfl, rfl, rfl⟩, tup_push hl⟩ (fun b hb => ?_)
    (F.keeps up) (N.grown up) (Nat.ne_of_lt F.ns.lt) (next_is_new F) (fun p hp => Nat.ne_of_lt (Heap.lt_size (N p hp).1)) S (R _ ⟨_, rfl⟩) ?_
  · show b < (s₁.heap.push _).objs.size
    rw [Heap.size_push]
    rcases List.mem_cons.mp hb with rfl | hb
    · exact Nat.lt_succ_self _
    · rw [List.mem_singleton.mp hb]; exact Nat.lt_succ_of_lt hlt
  · intro D C h' tk m' ys news' F' N' o1 hn hC₀ hD₀ hCL hDL hCD offC fin
    show wpAny _ A (assign (.Name y py) env (.ref D)) _ _ _
    refine wpAny_assign_Name (wpAny_storeName_local hy F'.ns (fun h₂ hn₂ hs₂ => ?_) hp)
    have hL₀ : h₀.get? env.locals = none := Heap.get?_none_of_le F'.above
    have F₂ : Fr h₀ env.locals h₂ (fun z => if z = y then some (.ref D) else m z) := ⟨hn₂, fun b o e => hs₂.extBut b o (fun q => by rw [q, hL₀] at e; cases e) (F'.keep b o e), F'.above⟩
    refine ⟨m', hn.sameBut hs₂ hCL, fun h'' hs'' => fin D h'' _ (F₂.change hs'' hCL hC₀) (fun p hp => ?_) o1⟩
    have z : h₂.get? p.1 = some p.2 := hs₂.extBut _ _ (N' p hp).2.1 (N' p hp).1
    refine ⟨hs''.extBut _ _ ?_ z, (N' p hp).2⟩
    rcases List.mem_cons.mp hp with rfl | hp
    · exact Ne.symm hCD
    · exact offC p hp
end
end Mine
end
section
open PySem PySem.W PyProof.Rows PySem.Calls
set_option maxRecDepth 100000
namespace Mine
namespace SF
open PySem.F
theorem owner_set_iterator : Manifest.owners.lookup (String.ofList ['r', 'o', 't', 'a', 'r', 'e', 't', 'i', '_', 't', 'e', 's'].reverse) = some Manifest.sig_set_iterator := by kernel_rfl
theorem slot_next : Slot "set_iterator" "__next__" "set_iterator.__next__" :=
  .of (owner := "set_iterator") (n := "__next__") (by rw [typeLookup_type, builtinLookup_eq_fast]; kernel_rfl) (by decide +kernel) (by decide +kernel) (by decide +kernel)
    (by first | exact .inl (by decide +kernel) | exact .inr (by decide +kernel)) (by rw [isSubtype_type]; kernel_rfl)
theorem entry_next : entryFor table "set_iterator.__next__" = some Builtin.«set_iterator.__next__» := entryFor_of_tree (by kernel_rfl)
theorem entry_iter : entryFor table "set.__iter__" = some Builtin.«frozenset.__iter__» :=
  entryFor_alias (id' := "frozenset.__iter__") (by kernel_rfl) rfl (by decide +kernel) (by kernel_rfl)
theorem args_next_1 (a : Value) : argsOk "set_iterator.__next__" ⟨[a], []⟩ := by
  unfold argsOk; rw [signature?_of (id := "set_iterator.__next__") (n := ['_', '_', 't', 'x', 'e', 'n', '_', '_']) (o := ['r', 'o', 't', 'a', 'r', 'e', 't', 'i', '_', 't', 'e', 's']) (by kernel_rfl) owner_set_iterator]; kernel_rfl
end SF
section
variable {prog : Program} {w : World} {A : Around} {E : Value → Shared → Prop} {s : Shared}
theorem pyHash_true {Q : Int → Shared → Prop} (h : Q 1 { s with toks := s.toks + 1 }) : wpAny (model prog w) A (pyHash (.bool true)) Q E s := by
  have hT : s.TypeIs (.bool true) "bool" := PySem.typeIs_bool ..
  unfold pyHash
  have hv : [Value.bool true].any Value.onHeap = false := rfl
  refine wpAny_bind ?_
  rw [cRoomFor, if_neg (by rw [hv]; exact Bool.false_ne_true)]; refine wpAny_pure ?_
  refine wpAny_bind (wpAny_specialOf hT F.slot_bool_hash.lookup ?_)
  show wpAny _ _ (if (some (Value.builtin "int.__hash__") == some Value.none) = true then _ else _) Q E s
  rw [if_neg (by rw [beq_builtin_none]; exact Bool.false_ne_true)]
  refine wpAny_bind (wpAny_specialOf hT F.slot_bool_hash.lookup ?_)
  show wpAny _ _ (callSpecialIfBoundUnlessNone? (.bool true) "__hash__" _ >>= _) Q E s
  refine wpAny_bind (wpAny_callSpecialIfBoundUnlessNone?_slot hT F.slot_bool_hash
    (wpAny_call_entry F.slot_bool_hash hT F.entry_int_hash
      (show wpAny _ _ (do ret (← mkInt 1)) _ _ s from wpAny_ret_mkInt ?_) (args_int_hash _)))
  show wpAny _ _ (if (decide (-(2 : Int) ^ 63 ≤ 1) && decide ((1:Int) < 2 ^ 63)) = true then _ else _) Q E _
  exact wpAny_pure h
end
end Mine
end
section
open PySem PySem.W PyProof.Rows PySem.Calls
set_option maxRecDepth 100000
namespace Mine
/-- the table of the set of True alone -/
noncomputable def t1 (led : Bool) : SetTable := { mask := 7, place := #[1], dummies := #[], finger := 0, led, moves := 0, plain := true }
noncomputable abbrev ledW (w : World) : Bool := !(w.params.followText "set-order")
noncomputable def set0 (w : World) : Obj := { cls := .type "set", dict := none, data := .set #[] 0 (.fresh 0 0 (ledW w)) }
noncomputable def set1 (w : World) : Obj := { cls := .type "set", dict := none, data := .set #[(1, .bool true)] 1 (t1 (ledW w)) }
theorem lay1 (b : Bool) : layNew (.fresh 0 0 b) #[] 1 (.bool true) = (#[(1, .bool true)], t1 b, false, false) := by cases b <;> decide +kernel
theorem full1 (b : Bool) : (t1 b).tooFull = false := by cases b <;> decide +kernel
section
variable {prog : Program} {w : World} {A : Around} {E : Value → Shared → Prop} {s : Shared}
theorem newSet_led {Q : Value → Shared → Prop} (h : Q (.ref s.heap.objs.size) { s with heap := s.heap.push (set0 w) }) : wpAny (model prog w) A (newSet (.type "set")) Q E s := by
  unfold newSet setsByText
  refine wpAny_bind (wpAny_bind (wpAny_askSetting (wpAny_pure ?_)))
  dsimp only
  simp only [newObj]
  exact wpAny_bind (wpAny_alloc (wpAny_pure h))
theorem add_true0 {a : Addr} {Q : Value → Shared → Prop} (ho : s.heap.get? a = some (set0 w))
    (h : ∀ h', Heap.SameBut a s.heap h' → h'.get? a = some (set1 w) → Q .none { s with heap := h', toks := s.toks + 1 }) :
    wpAny (model prog w) A (call (.builtin "set.add") [.ref a, .bool true]) Q E s := by
  have hT : s.TypeIs (.ref a) "set" := ⟨_, ho, rfl⟩
  refine wpAny_call_entry F.slot_set_add hT F.entry_set_add ?_ (F.args_set_add_2 _ _)
  unfold Builtin.«set.add» Builtin.Frozenset.oneOther
  simp only [List.isEmpty_nil, bind_assoc]
  unfold Builtin.Frozenset.addrOf setAdd
  refine wpAny_bind (wpAny_pure ?_)
  try dsimp only
  refine wpAny_bind (wpAny_pure ?_)
  try dsimp only
  refine wpAny_bind ?_
  refine wpAny_holding ?_
  refine wpAny_bind (pyHash_true ?_)
  unfold setAddHashed setAddHashedIn
  refine wpAny_holding (wpAny_bind (wpAny_setState_of (s := { s with toks := s.toks + 1 }) ho rfl rfl ?_))
  dsimp only
  rw [show byScan (.bool true) #[] = true from by decide +kernel]
  simp only [↓reduceIte]
  unfold setAddByScan
  refine wpAny_bind (wpAny_bind (wpAny_rule ?_))
  show wpAny _ _ (setScanFrom a (.bool true) 1 true [] 0 >>= _) _ _ _
  unfold setScanFrom
  refine wpAny_bind (wpAny_pure ?_)
  rw [lay1]
  refine wpAny_bind (wpAny_pure ?_)
  show wpAny _ _ (hashByValue 8 (.bool true) >>= _) _ _ _
  unfold hashByValue
  refine wpAny_bind (wpAny_pure ?_)
  refine wpAny_bind (wpAny_storeSet_of (s := { s with toks := s.toks + 1 }) ho rfl ?_ (by rw [sizeLine_eq]; decide))
  simp only [full1, Bool.and_false, if_true, if_false, Bool.false_eq_true]
  refine wpAny_pure (wpAny_pure ?_)
  refine wpAny_pure ⟨_, rfl, h _ (Heap.SameBut.update _ _ _) ?_⟩
  have := Heap.get?_update_self (Obj.putSet #[(1, .bool true)] (t1 (ledW w))) ho (by rw [putSet_of _ _ rfl]; rfl)
  rw [putSet_of _ _ rfl] at this
  exact this
theorem add_true1 {a : Addr} {Q : Value → Shared → Prop} (ho : s.heap.get? a = some (set1 w))
    (h : Q .none { s with toks := s.toks + 1 }) :
    wpAny (model prog w) A (call (.builtin "set.add") [.ref a, .bool true]) Q E s := by
  have hT : s.TypeIs (.ref a) "set" := ⟨_, ho, rfl⟩
  refine wpAny_call_entry F.slot_set_add hT F.entry_set_add ?_ (F.args_set_add_2 _ _)
  unfold Builtin.«set.add» Builtin.Frozenset.oneOther
  simp only [List.isEmpty_nil, bind_assoc]
  unfold Builtin.Frozenset.addrOf setAdd
  refine wpAny_bind (wpAny_pure ?_)
  try dsimp only
  refine wpAny_bind (wpAny_pure ?_)
  try dsimp only
  refine wpAny_bind ?_
  refine wpAny_holding ?_
  refine wpAny_bind (pyHash_true ?_)
  unfold setAddHashed setAddHashedIn
  refine wpAny_holding (wpAny_bind (wpAny_setState_of (s := { s with toks := s.toks + 1 }) ho rfl rfl ?_))
  dsimp only
  rw [show byScan (.bool true) #[(1, .bool true)] = true from by decide +kernel]
  simp only [↓reduceIte]
  unfold setAddByScan
  refine wpAny_bind (wpAny_bind (wpAny_rule ?_))
  show wpAny _ _ (setScanFrom a (.bool true) 1 true [(1, .bool true)] 0 >>= _) _ _ _
  unfold setScanFrom
  refine wpAny_bind ?_
  show wpAny _ _ (setEpoch a >>= _) _ _ _
  refine wpAny_bind (wpAny_setEpoch_of (s := { s with toks := s.toks + 1 }) ho rfl rfl ?_)
  unfold eqBool
  refine wpAny_bind (wpAny_holding ?_)
  show wpAny _ _ (rule _ >>= _) _ _ _
  refine wpAny_bind (wpAny_rule (wpAny_pure ?_))
  refine wpAny_pure (wpAny_pure (wpAny_pure ?_))
  exact wpAny_pure ⟨_, rfl, h⟩
/-- the iterator over the set of True alone -/
noncomputable def sit (a : Addr) (p q : Int) (r : Value) : Obj := { cls := .type "set_iterator", data := .fields #[.int p 0, .int q 0, r, .int 1 0, .int 1 0] }
theorem iter_set1 {a : Addr} {Q : Value → Shared → Prop} (ho : s.heap.get? a = some (set1 w))
    (h : Q (.ref s.heap.objs.size) { s with heap := s.heap.push (sit a 0 0 (.ref a)) }) : wpAny (model prog w) A (pyIter (.ref a)) Q E s := by
  have hT : s.TypeIs (.ref a) "set" := ⟨_, ho, rfl⟩
  refine wpAny_pyIter_slot hT F.slot_set_iter (wpAny_call_entry F.slot_set_iter hT SF.entry_iter ?_ (F.args_set_iter_1 _))
  unfold Builtin.«frozenset.__iter__»
  refine wpAny_bind (m := Builtin.Frozenset.slot0 "__iter__" _) (wpAny_pure ?_)
  unfold Builtin.Frozenset.sizeOf setDrawn setEpoch setEntries setsByText
  refine wpAny_bind (wpAny_bind (wpAny_bind (wpAny_setState_of ho rfl rfl (wpAny_pure (wpAny_pure ?_)))))
  refine wpAny_bind (wpAny_bind (wpAny_setState_of ho rfl rfl ?_))
  refine wpAny_bind (wpAny_bind (wpAny_askSetting (wpAny_pure ?_)))
  refine wpAny_pure ?_
  split
  · rename_i hc
    exact absurd (show (!(w.params.followText "set-order") && false) = true from hc) (by simp)
  · refine wpAny_bind (wpAny_pure ?_)
    refine wpAny_bind (wpAny_bind (wpAny_setState_of ho rfl rfl (wpAny_pure ?_)))
    exact wpAny_bind (wpAny_newObj_type (wpAny_pure ⟨_, rfl, "set_iterator", _, ⟨_, Heap.get?_push_size _ rfl, rfl⟩, SF.slot_next.lookup, h⟩))
theorem pick1 (f : Nat → Nat) (x : Int × Value) : pickOrder f #[x] = #[x] := by
  show pickOrder.go f 1 0 [x] #[] = #[x]
  unfold pickOrder.go
  simp [Nat.mod_one, pickOrder.go]
theorem setNext_0 {a : Addr} {Q : Option (Value × Nat) → Shared → Prop} (ho : s.heap.get? a = some (set1 w)) (h : ∀ p, (ledW w = true → p = 2) → Q (some (.bool true, p)) s) : wpAny (model prog w) A (setNext a 0 0 1) Q E s := by
  unfold setNext
  refine wpAny_bind (wpAny_setState_of ho rfl rfl ?_)
  unfold setsByText
  refine wpAny_bind (wpAny_bind (wpAny_askSetting (wpAny_pure ?_)))
  dsimp only
  split
  · rename_i hb
    have hb : w.params.followText "set-order" = true := hb
    show wpAny _ _ (setWalk a >>= _) _ _ _
    unfold setWalk setsByText
    refine wpAny_bind (wpAny_bind (wpAny_setState_of ho rfl rfl ?_))
    refine wpAny_bind (wpAny_bind (wpAny_askSetting (wpAny_pure ?_)))
    dsimp only
    split
    · refine wpAny_bind (wpAny_askSetting (wpAny_pure ?_))
      dsimp only
      rw [pick1]
      exact wpAny_pure (h 0 fun e => by rw [ledW, hb] at e; cases e)
    · rename_i hn
      exact absurd hb hn
  · rename_i hb
    have hb : ¬ w.params.followText "set-order" = true := hb
    have hl : ledW w = true := by rw [ledW]; simpa using hb
    split
    · rename_i hc
      exact absurd (show false = true from hc) (by simp)
    · refine wpAny_bind (show wpAny _ _ (if (!(ledW w) && true) = true then unsupported "set:maker-not-led" else pure ()) _ _ _ from ?_)
      rw [if_neg (by rw [hl]; simp)]
      refine wpAny_pure ?_
      exact wpAny_pure (h 2 fun _ => rfl)
theorem setNext_1 {a : Addr} {p : Nat} {Q : Option (Value × Nat) → Shared → Prop} (ho : s.heap.get? a = some (set1 w)) (hp : ledW w = true → p = 2) (h : Q none s) : wpAny (model prog w) A (setNext a p 1 1) Q E s := by
  unfold setNext
  refine wpAny_bind (wpAny_setState_of ho rfl rfl ?_)
  unfold setsByText
  refine wpAny_bind (wpAny_bind (wpAny_askSetting (wpAny_pure ?_)))
  dsimp only
  split
  · rename_i hb
    have hb : w.params.followText "set-order" = true := hb
    show wpAny _ _ (setWalk a >>= _) _ _ _
    unfold setWalk setsByText
    refine wpAny_bind (wpAny_bind (wpAny_setState_of ho rfl rfl ?_))
    refine wpAny_bind (wpAny_bind (wpAny_askSetting (wpAny_pure ?_)))
    dsimp only
    split
    · refine wpAny_bind (wpAny_askSetting (wpAny_pure ?_))
      dsimp only
      rw [pick1]
      exact wpAny_pure h
    · rename_i hn
      exact absurd hb hn
  · rename_i hb
    have hb : ¬ w.params.followText "set-order" = true := hb
    have hl : ledW w = true := by rw [ledW]; simpa using hb
    obtain rfl := hp hl
    split
    · rename_i hc
      exact absurd (show false = true from hc) (by simp)
    · refine wpAny_bind (show wpAny _ _ (if (!(ledW w) && true) = true then unsupported "set:maker-not-led" else pure ()) _ _ _ from ?_)
      rw [if_neg (by rw [hl]; simp)]
      refine wpAny_pure ?_
      exact wpAny_pure (by rw [show SetTable.below (t1 (ledW w)).place 2 = 1 from (show SetTable.below #[1] 2 = 1 from by decide +kernel)]; exact h)
/-- the one thing of the set -/
theorem next_set1 {I a : Addr} {Q : Option Value → Shared → Prop} (hI : s.heap.get? I = some (sit a 0 0 (.ref a))) (ho : s.heap.get? a = some (set1 w))
    (h : ∀ h' (p : Nat), Heap.SameBut I s.heap h' → h'.get? I = some (sit a p 1 (.ref a)) → ((ledW w = true → p = 2)) → Q (some (.bool true)) { s with heap := h' }) : wpAny (model prog w) A (pyNext (.ref I)) Q E s := by
  have hT : s.TypeIs (.ref I) "set_iterator" := ⟨_, hI, rfl⟩
  unfold pyNext
  refine wpAny_bind (wpAny_attempt (wpAny_callSpecial?_slot (name := PySem.Str.ofString "__next__") hT SF.slot_next
    (wpAny_call_entry SF.slot_next hT SF.entry_next ?_ (SF.args_next_1 _))))
  unfold Builtin.«set_iterator.__next__»
  refine wpAny_bind (m := slotArgs "__next__" 0 _) (wpAny_pure ?_)
  refine wpAny_bind (wpAny_fieldsOf hI rfl ?_)
  dsimp only
  unfold setEntries
  refine wpAny_bind (wpAny_bind (wpAny_setState_of ho rfl rfl (wpAny_pure ?_)))
  rw [if_neg (by simp)]
  show wpAny _ _ (setNext a 0 0 1 >>= _) _ _ _
  refine wpAny_bind (setNext_0 ho fun p hp => ?_)
  dsimp only
  refine wpAny_bind (wpAny_setField hI rfl (by simp) ?_)
  have hI2 : (s.heap.update I (Obj.mapFields (·.set! 0 (rawInt p)))).get? I = some (sit a p 0 (.ref a)) := Heap.get?_update_self _ hI rfl
  refine wpAny_bind (wpAny_setField (s := { s with heap := _ }) hI2 rfl (by simp) (wpAny_pure ⟨_, rfl, wpAny_pure (h _ p ((Heap.SameBut.update ..).trans (Heap.SameBut.update ..)) ?_ hp)⟩))
  exact Heap.get?_update_self _ hI2 rfl
/-- the set has no more -/
theorem end_set1 {I a : Addr} {p : Nat} {Q : Option Value → Shared → Prop} (hh : A.handled = none) (hI : s.heap.get? I = some (sit a p 1 (.ref a))) (ho : s.heap.get? a = some (set1 w)) (hp : ledW w = true → p = 2)
    (h : ∀ h', Heap.ExtBut I s.heap h' → Q none { s with heap := h' }) : wpAny (model prog w) A (pyNext (.ref I)) Q E s := by
  have hT : s.TypeIs (.ref I) "set_iterator" := ⟨_, hI, rfl⟩
  unfold pyNext
  refine wpAny_bind (wpAny_attempt (wpAny_callSpecial?_slot (name := PySem.Str.ofString "__next__") hT SF.slot_next
    (wpAny_call_entry SF.slot_next hT SF.entry_next ?_ (SF.args_next_1 _))))
  unfold Builtin.«set_iterator.__next__»
  refine wpAny_bind (m := slotArgs "__next__" 0 _) (wpAny_pure ?_)
  refine wpAny_bind (wpAny_fieldsOf hI rfl ?_)
  dsimp only
  unfold setEntries
  refine wpAny_bind (wpAny_bind (wpAny_setState_of ho rfl rfl (wpAny_pure ?_)))
  rw [if_neg (by simp)]
  show wpAny _ _ (setNext a p 1 1 >>= _) _ _ _
  refine wpAny_bind (setNext_1 ho hp ?_)
  dsimp only
  refine wpAny_bind (wpAny_setField hI rfl (by simp) ?_)
  show wpAny _ _ (newExc (.type "StopIteration") [] >>= _) _ _ _
  refine wpAny_bind ?_
  simp only [newExc, newTuple]
  refine wpAny_bind (wpAny_newObj_type ?_ (by size_fits))
  refine wpAny_bind (m := firstArgMember _ _) (wpAny_of_eq (a := Value.none) (by first | rfl | (simp only [firstArgMember]; rfl)) ?_)
  refine wpAny_newObj_type ?_ (by size_fits)
  simp only [raiseNew]
  refine wpAny_bind (wpAny_handled ?_)
  first | rw [show A.in1.handled = none from hh] | rw [hh]
  refine wpAny_bind (wpAny_pure (wpAny_throw ?_))
  refine wpAny_bind (wpAny_isInstance (T := "StopIteration") (b := true) ⟨_, Heap.get?_push_size _ rfl, rfl⟩ isSubtype_stop ?_)
  exact wpAny_pure (h _ (((Heap.SameBut.update ..).extBut.push _).push _))
theorem unpack_set1 {a : Addr} {targets : List (Bool × (Value → Sem Unit))} {Q : Unit → Shared → Prop} (hh : A.handled = none) (ho : s.heap.get? a = some (set1 w))
    (hn : targets.length = 1) (hstar : targets.findIdx? (·.1) = none)
    (h : ∀ h', Heap.ExtBut s.heap.objs.size s.heap h' → wpAny (model prog w) A (assignInOrder (targets.map (·.2)) [.bool true]) Q E { s with heap := h' }) :
    wpAny (model prog w) A (unpack (.ref a) targets) Q E s := by
  have hT : s.TypeIs (.ref a) "set" := ⟨_, ho, rfl⟩
  have hne : a ≠ s.heap.objs.size := Nat.ne_of_lt (Heap.lt_size ho)
  unfold unpack
  rw [hn, hstar]
  refine wpAny_bind (wpAny_holding ?_)
  unfold unpackItems
  refine wpAny_bind ?_
  unfold notIterableAtAll
  refine wpAny_bind (wpAny_specialOf hT F.slot_set_iter.lookup ?_)
  refine wpAny_pure ?_
  simp only [Bool.false_eq_true, if_false]
  refine wpAny_bind (wpAny_holding (iter_set1 ho ?_))
  have ho1 : (s.heap.push (sit a 0 0 (.ref a))).get? a = some (set1 w) := Heap.get?_push_of_some _ ho
  refine wpAny_bind (wpAny_holding ?_)
  show wpAny _ _ (pyNext (.ref s.heap.objs.size) >>= _) _ _ _
  refine wpAny_bind (next_set1 (a := a) (Heap.get?_push_size _ rfl) ho1 fun h1 p hs1 hI1 hp => ?_)
  dsimp only
  refine wpAny_bind (wpAny_holding (wpAny_pure (wpAny_pure ?_)))
  rw [if_neg (by simp)]
  refine wpAny_bind (wpAny_holding (end_set1 (a := a) (p := p) hh hI1 (hs1.extBut _ _ hne ho1) hp fun h2 he2 => ?_))
  simp only [Option.isSome_none, Bool.false_eq_true, if_false]
  exact wpAny_pure (h h2 fun b o hb e => he2 b o hb (hs1.extBut b o hb (Heap.get?_push_of_some _ e)))
end
end Mine
end
section
open PySem PySem.W PyProof.Rows PySem.Calls
set_option maxRecDepth 100000
namespace Mine
section
variable {prog : Program} {w : World} {A : Around} {R : Result → Shared → Prop} {s : Shared}
theorem compStart_set {elt target iter ifs rest scope pos it acc env}
    (h0 : codeAny (model prog w) A (.compLoop (.SetComp elt (⟨target, iter, ifs, 0⟩ :: rest) scope pos) 0 it acc env) R s)
    (h : wpAny (model prog w) A (pyIter it) (fun it' s' => codeAny (model prog w) A (.compLoop (.SetComp elt (⟨target, iter, ifs, 0⟩ :: rest) scope pos) 0 it' acc env) R s')
      (notedBy (model prog w) A env fun x s' => R (.error x) s') s) :
    codeAny (model prog w) A (.compStart (.SetComp elt (⟨target, iter, ifs, 0⟩ :: rest) scope pos) 0 it acc env) R s := by
  refine codeAny_of_tree ?_
  show wpAny _ _ ((compStart (.SetComp elt (⟨target, iter, ifs, 0⟩ :: rest) scope pos) 0 it acc env).onRaise (fun x => do noteFrame x env; standAt theWindowsPlace)) _ _ s
  refine wpAny_notedAt ?_
  unfold compStart
  show wpAny _ _ (ask >>= _) _ _ s
  refine wpAny_bind (wpAny_askSetting (wpAny_ite ?_))
  split
  · first
      | exact wpAny_bind (wpAny_pure (wpAny_pure (And.intro rfl h0)))
      | exact wpAny_pure (And.intro rfl h0)
  · first
      | exact wpAny_bind (wpAny_rule (wpAny_bind (wpAny_standAt (wpAny_bind (wpAny_mono h (fun it' s' h' => wpAny_pure (And.intro rfl h')) fun _ _ x => x)))))
      | (refine wpAny_bind (wpAny_rule ?_); show wpAny _ _ (standAt iter.pos >>= _) _ _ s; exact wpAny_bind (wpAny_standAt (wpAny_bind (wpAny_mono h (fun it' s' h' => wpAny_pure (And.intro rfl h')) fun _ _ x => x))))
theorem compTurn_set1 (elt target iter : Expr) (scope : Scope) (pos : Pos) (it acc : Value) (env : Env) :
    compTurn (.SetComp elt [⟨target, iter, [], 0⟩] scope pos) 0 it acc env = (standAt iter.pos >>= fun _ => pyNext it >>= fun r => match r with
      | none => pure (.done .next)
      | some v => letOwnedTupleGo target it v >>= fun _ => assign target env v >>= fun _ =>
        (eval elt env >>= fun x => standAt elt.pos >>= fun _ => call (.builtin "set.add") [acc, x] >>= fun _ => pure ()) >>= fun _ =>
          again (.compLoop (.SetComp elt [⟨target, iter, [], 0⟩] scope pos) 0 it acc env)) := by rfl
theorem compLoop_set {elt target iter : Expr} {scope : Scope} {pos : Pos} {it acc : Value} {env : Env} (I : Nat → Shared → Prop)
    (turn : ∀ n s, I n s → wpAny (model prog w) A (pyNext it) (fun r s₁ => match r with
      | none => R (.ok .next) s₁
      | some v => wpAny (model prog w) A (assign target env v) (fun _ s₂ => wpAny (model prog w) A (eval elt env) (fun x s₃ =>
          wpAny (model prog w) A (call (.builtin "set.add") [acc, x]) (fun _ s₄ => ∃ m, m < n ∧ I m s₄) (notedBy (model prog w) A env fun e s' => R (.error e) s') s₃)
          (notedBy (model prog w) A env fun e s' => R (.error e) s') s₂) (notedBy (model prog w) A env fun e s' => R (.error e) s') s₁) (notedBy (model prog w) A env fun e s' => R (.error e) s') s)
    (n : Nat) (h : I n s) (ht : ∀ v, letOwnedTupleGo target it v = pure () := by intro _; rfl) :
    codeAny (model prog w) A (.compLoop (.SetComp elt [⟨target, iter, [], 0⟩] scope pos) 0 it acc env) R s := by
  refine codeAny_loop rfl I (fun n s hI => ?_) n h
  show wpAny _ _ ((compTurn (.SetComp elt [⟨target, iter, [], 0⟩] scope pos) 0 it acc env).onRaise (fun x => do noteFrame x env; theTreesLotGoes x)) _ _ s
  refine wpAny_noted ?_
  rw [compTurn_set1]
  refine wpAny_bind (wpAny_standAt (wpAny_bind (wpAny_mono (turn n s hI) (fun r s₁ h₁ => ?_) fun _ _ h' => h')))
  cases r with
  | none => exact wpAny_pure h₁
  | some v =>
    refine wpAny_bind (wpAny_of_eq (ht v) ?_)
    exact wpAny_bind (wpAny_mono h₁ (fun _ s₂ h₂ => wpAny_bind (wpAny_bind (wpAny_mono h₂ (fun x s₃ h₃ => wpAny_bind (wpAny_standAt (wpAny_bind (wpAny_mono h₃
      (fun _ s₄ h₄ => wpAny_pure (wpAny_pure ⟨rfl, h₄⟩)) fun _ _ h' => h')))) fun _ _ h' => h'))) fun _ _ h' => h')
end
section
variable {prog : Program} {w : World} {A : Around} {E : Value → Shared → Prop} {s : Shared} {h₀ : Heap} {L : Addr} {m : PySem.Str → Option Value} {env : Env}
noncomputable def setI (w : World) (i : Nat) : Obj := if i = 0 then set0 w else set1 w
noncomputable def SrcSet (prog : Program) (w : World) (A : Around) (h₀ : Heap) (L : Addr) (m : PySem.Str → Option Value) (env : Env) (elt : Expr) (x : PySem.Str) (scope : Scope) (cl : List (PySem.Str × Addr)) (Q : Value → Shared → Prop) (xv : Value) (s₁ : Shared) : Prop :=
  ∃ ax v1 v2 news, xv = .ref ax ∧ A.handled = none ∧ Fr h₀ L s₁.heap m ∧ News h₀ L s₁.heap news ∧ TupAt ax #[v1, v2] news ∧
      (∀ v I oI C oC D i m₂ h tk (E' : Value → Shared → Prop), (v = v1 ∨ v = v2) → LCg.NsObj oC m₂ → m₂ x = some v → Fr h₀ L h m → News h₀ L h ((I, oI) :: (C, oC) :: (D, setI w i) :: news) →
        wpAny (model prog w) A (eval elt (compEnvC scope cl C env)) (fun y s' => y = .bool true ∧ ∃ h' tk', s' = { s₁ with heap := h', toks := tk' } ∧ Fr h₀ L h' m ∧ News h₀ L h' ((I, oI) :: (C, oC) :: (D, setI w i) :: news)) E' { s₁ with heap := h, toks := tk }) ∧
      (∀ D h tk, Fr h₀ L h m → News h₀ L h ((D, set1 w) :: news) → (∀ p ∈ news, p.1 < D) → Q (.ref D) { s₁ with heap := h, toks := tk })
/-- a set comprehension over a pair, each element True -/
theorem SetComp_true {elt iter : Expr} {x : PySem.Str} {px : Pos} {scope : Scope} {cl : List (PySem.Str × Addr)} {pos : Pos} {Q : Value → Shared → Prop}
    (_F₀ : Fr h₀ L s.heap m) (hclos : closureFor scope env = pure cl) (hcell : ∀ y ∈ scope.names, y.2 ≠ .cell) (hkind : scope.kind = .function)
    (hnames : ∀ y ∈ scope.names, y.2 = .local → scope.names.lookup y.1 = some .local) (hx : scope.names.lookup x = some .local)
    (h : wpAny (model prog w) A (eval iter env) (SrcSet prog w A h₀ L m env elt x scope cl Q) E s)
    (hs : ∀ x, foldedSetIterable iter env x = pure x := by intro _; rfl) :
    wpAny (model prog w) A (eval (.SetComp elt [⟨.Name x px, iter, [], 0⟩] scope pos) env) Q E s := by
  rw [arm_eval_SetComp]
  refine wpAny_comprehension_free (use := none) rfl hs hclos hkind hnames (wpAny_mono h (fun xv s₁ h₁ => ?_) fun _ _ e => e)
  refine fold_G ?_
  intro G9
  obtain ⟨ax, v1, v2, news, rfl, hh, F, N, S, hel, hQ⟩ := h₁
  have hl := S.tup N
  have hlt : ax < s₁.heap.objs.size := by obtain ⟨_, e, _⟩ := hl; exact Heap.lt_size e
  refine wpAny_pyIter_tuple hl ?_
  generalize hH1 : s₁.heap.push { cls := .type "tuple_iterator", data := .fields #[.ref ax, .int 0 0] } = H1
  have up1 : ∀ b o, s₁.heap.get? b = some o → H1.get? b = some o := fun b o e => hH1 ▸ Heap.get?_push_of_some _ e
  have sz1 : H1.objs.size = s₁.heap.objs.size + 1 := by rw [← hH1, Heap.size_push]
  have hI1 : H1.IsTupleIter s₁.heap.objs.size ax 0 := ⟨_, hH1 ▸ Heap.get?_push_size _ rfl, rfl, rfl⟩
  refine newSet_led ?_
  refine wpAny_newFunctionEnv hcell (by intro y hy; simp at hy) (fun h₂ hns₂ hsb₂ => ?_) hkind
  dsimp only at hns₂ hsb₂ ⊢
  generalize hH2 : H1.push (set0 w) = H2 at hns₂ hsb₂ ⊢
  have sz2 : H2.objs.size = H1.objs.size + 1 := by rw [← hH2, Heap.size_push]
  have hF1 : Fr h₀ L H1 m := F.keeps up1
  have hLlt : @LT.lt Nat _ L s₁.heap.objs.size := F.ns.lt
  have fresh₀ : ∀ a, s₁.heap.objs.size ≤ a → h₀.get? a = none := fun a ha => by
    cases e : h₀.get? a with
    | none => rfl
    | some o' => exact absurd (Heap.lt_size (F.keep a o' e)) (Nat.not_lt.mpr ha)
  have old : ∀ b o, H1.get? b = some o → h₂.get? b = some o := fun b o e => by
    have hb : @LT.lt Nat _ b H1.objs.size := Heap.lt_size e
    exact hsb₂.extBut b o (Nat.ne_of_lt (by (first | lia | omega))) (Heap.get?_push_of_some _ (hH2 ▸ Heap.get?_push_of_some _ e))
  have hD2 : h₂.get? H1.objs.size = some (set0 w) := hsb₂.extBut _ _ (Nat.ne_of_lt (by (first | lia | omega))) (Heap.get?_push_of_some _ (hH2 ▸ Heap.get?_push_size _ rfl))
  have offI : ∀ p ∈ news, @LT.lt Nat _ p.1 s₁.heap.objs.size := fun p hp => Heap.lt_size (N p hp).1
  have loop : ∀ s₃ : Shared, s₃ = { s₁ with heap := h₂, toks := s₁.toks + ([] : List (PySem.Str × Value)).length } →
      codeAny (model prog w) A (.compLoop (.SetComp elt [⟨.Name x px, iter, [], 0⟩] scope pos) 0 (.ref s₁.heap.objs.size) (.ref H1.objs.size) (compEnvC scope cl H2.objs.size env))
        (compPost (model prog w) A E none Q (.ref H1.objs.size) H2.objs.size) s₃ := by
    rintro s₃ rfl
    refine compLoop_set
      (fun k s' => ∃ h' tk i m', s' = { s₁ with heap := h', toks := tk } ∧ i ≤ 2 ∧ k = 3 - i ∧ h'.IsTupleIter s₁.heap.objs.size ax i ∧ Fr h₀ L h' m ∧ h'.Ns H2.objs.size m' ∧ News h₀ L h' ((H1.objs.size, setI w i) :: news)) ?_ 3
      ⟨h₂, _, 0, _, rfl, by (first | lia | omega), rfl, ?_, hF1.keeps old, hns₂, fun p hp => ?_⟩
    · rintro k s' ⟨h', tk, i, m', rfl, hi, rfl, hit, F', hn', N'⟩
      have hl' : h'.IsTuple ax #[v1, v2] := S.tup (nb_tl N')
      by_cases hlt2 : i < 2
      · obtain ⟨v, hv, hv12⟩ : ∃ v, (#[v1, v2] : Array Value)[i]? = some v ∧ (v = v1 ∨ v = v2) := by
          rcases i with _ | _ | i
          · exact ⟨v1, rfl, .inl rfl⟩
          · exact ⟨v2, rfl, .inr rfl⟩
          · (first | lia | omega)
        refine wpAny_pyNext_tuple_item hit hl' hv fun h3 hit3 hs3 => ?_
        dsimp only
        have hLI : L ≠ s₁.heap.objs.size := Nat.ne_of_lt hLlt
        have F3 : Fr h₀ L h3 m := F'.change hs3 (Ne.symm hLI) (fresh₀ _ (Nat.le_refl _))
        have N3 : News h₀ L h3 ((H1.objs.size, setI w i) :: news) := fun p hp => ⟨hs3.extBut _ _ (by
          rcases List.mem_cons.mp hp with rfl | hp
          · exact Nat.ne_of_gt (by rw [sz1]; exact Nat.lt_succ_self _)
          · exact Nat.ne_of_lt (offI p hp)) (N' p hp).1, (N' p hp).2⟩
        refine wpAny_assign_Name (wpAny_storeName_local (lookup_relabel_local hx) (hn'.sameBut hs3 (Nat.ne_of_gt (by (first | lia | omega)))) (fun h4 hn4 hs4 => ?_) (by simp [compEnvC, relabel, hkind]))
        refine fold_G ?_
        intro G9
        obtain ⟨oI, eI, hcI, hdI⟩ := hit3
        obtain ⟨oC, eC, hoC⟩ := LCg.ns_obj hn4
        have eI4 : h4.get? s₁.heap.objs.size = some oI := hs4.extBut _ _ (Nat.ne_of_lt (by show _ < H2.objs.size; (first | lia | omega))) eI
        have F4 : Fr h₀ L h4 m := F3.change hs4 (Nat.ne_of_gt (by show @LT.lt Nat _ L H2.objs.size; (first | lia | omega))) (fresh₀ _ (by show @LE.le Nat _ s₁.heap.objs.size H2.objs.size; (first | lia | omega)))
        have N4 : News h₀ L h4 ((s₁.heap.objs.size, oI) :: (H2.objs.size, oC) :: (H1.objs.size, setI w i) :: news) := fun p hp => by
          rcases List.mem_cons.mp hp with rfl | hp
          · exact ⟨eI4, Ne.symm hLI, fresh₀ _ (Nat.le_refl _)⟩
          · rcases List.mem_cons.mp hp with rfl | hp
            · exact ⟨eC, Nat.ne_of_gt (by show @LT.lt Nat _ L H2.objs.size; (first | lia | omega)), fresh₀ _ (by show @LE.le Nat _ s₁.heap.objs.size H2.objs.size; (first | lia | omega))⟩
            · refine ⟨hs4.extBut _ _ ?_ (N3 p hp).1, (N3 p hp).2⟩
              rcases List.mem_cons.mp hp with rfl | hp
              · exact Nat.ne_of_lt (by show H1.objs.size < H2.objs.size; (first | lia | omega))
              · have := offI p hp
                exact Nat.ne_of_lt (by show @LT.lt Nat _ p.1 H2.objs.size; (first | lia | omega))
        refine wpAny_mono (hel v _ oI _ oC _ i _ h4 _ _ hv12 hoC (by simp) F4 N4) (fun y s5 h5 => ?_) fun _ _ e => e
        obtain ⟨rfl, h5, tk5, rfl, F5, N5⟩ := h5
        have eI5 := (N5 _ (.head _)).1
        have eC5 := (N5 _ (.tail _ (.head _))).1
        have eD5 := (N5 _ (.tail _ (.tail _ (.head _)))).1
        have N5' : News h₀ L h5 news := fun p hp => N5 p (.tail _ (.tail _ (.tail _ hp)))
        have fin : ∀ h6 tk6, Heap.SameBut H1.objs.size h5 h6 → h6.get? H1.objs.size = some (set1 w) → ∃ k', k' < 3 - i ∧ ∃ h' tk i m', ({ s₁ with heap := h6, toks := tk6 } : Shared) = { s₁ with heap := h', toks := tk } ∧ i ≤ 2 ∧ k' = 3 - i ∧ h'.IsTupleIter s₁.heap.objs.size ax i ∧ Fr h₀ L h' m ∧ h'.Ns H2.objs.size m' ∧ News h₀ L h' ((H1.objs.size, setI w i) :: news) := by
          intro h6 tk6 hs6 eD6
          refine ⟨3 - (i + 1), by (first | lia | omega), h6, tk6, i + 1, _, rfl, by (first | lia | omega), rfl, ⟨oI, hs6.extBut _ _ (Nat.ne_of_lt (by (first | lia | omega))) eI5, hcI, hdI⟩, F5.change hs6 (Nat.ne_of_gt (by (first | lia | omega))) (fresh₀ _ (by (first | lia | omega))), (hoC.ns eC5).sameBut hs6 (Nat.ne_of_gt (by show H1.objs.size < H2.objs.size; (first | lia | omega))), fun p hp => ?_⟩
          rcases List.mem_cons.mp hp with rfl | hp
          · exact ⟨by rw [eD6]; rfl, Nat.ne_of_gt (by show @LT.lt Nat _ L H1.objs.size; (first | lia | omega)), fresh₀ _ (by show @LE.le Nat _ s₁.heap.objs.size H1.objs.size; (first | lia | omega))⟩
          · have := offI p hp
            exact ⟨hs6.extBut _ _ (Nat.ne_of_lt (by (first | lia | omega))) (N5' p hp).1, (N5' p hp).2⟩
        rcases i with _ | i
        · exact add_true0 (s := { s₁ with heap := h5, toks := tk5 }) eD5 fun h6 hs6 eD6 => fin h6 _ hs6 eD6
        · exact add_true1 (s := { s₁ with heap := h5, toks := tk5 }) eD5 (fin h5 _ (Heap.SameBut.refl _ _) eD5)
      · obtain rfl : i = 2 := by (first | lia | omega)
        refine wpAny_pyNext_tuple_end hh hit hl' rfl fun h3 he3 => ?_
        have hLI : L ≠ s₁.heap.objs.size := Nat.ne_of_lt hLlt
        refine ⟨m', hn'.at' fun o e => he3 _ o (Nat.ne_of_gt (by (first | lia | omega))) e, fun h4 hs4 => hQ _ h4 tk ?_ (fun p hp => ?_) fun p hp => ?_⟩
        · have F3 : Fr h₀ L h3 m := ⟨F'.ns.at' fun o e => he3 L o hLI e, fun b o e => he3 b o (fun hb => by rw [hb, fresh₀ _ (Nat.le_refl _)] at e; cases e) (F'.keep b o e), F'.above⟩
          exact F3.change hs4 (Nat.ne_of_gt (by show @LT.lt Nat _ L H2.objs.size; (first | lia | omega))) (fresh₀ _ (by show @LE.le Nat _ s₁.heap.objs.size H2.objs.size; (first | lia | omega)))
        · refine ⟨hs4.extBut _ _ ?_ (he3 _ _ ?_ (N' p hp).1), (N' p hp).2⟩
          · rcases List.mem_cons.mp hp with rfl | hp
            · exact Nat.ne_of_lt (by show H1.objs.size < H2.objs.size; (first | lia | omega))
            · have := offI p hp
              exact Nat.ne_of_lt (by show @LT.lt Nat _ p.1 H2.objs.size; (first | lia | omega))
          · rcases List.mem_cons.mp hp with rfl | hp
            · exact Nat.ne_of_gt (by show _ < H1.objs.size; (first | lia | omega))
            · exact Nat.ne_of_lt (offI p hp)
        · have := offI p hp
          show @LT.lt Nat _ p.1 H1.objs.size
          (first | lia | omega)
    · obtain ⟨o, e, r⟩ := hI1
      exact ⟨o, old _ _ e, r⟩
    · rcases List.mem_cons.mp hp with rfl | hp
      · exact ⟨hD2, Nat.ne_of_gt (by show @LT.lt Nat _ L H1.objs.size; (first | lia | omega)), fresh₀ _ (by show @LE.le Nat _ s₁.heap.objs.size H1.objs.size; (first | lia | omega))⟩
      · exact ⟨old _ _ (up1 _ _ (N p hp).1), (N p hp).2⟩
  refine compStart_set (loop _ rfl) ?_
  refine wpAny_pyIter_tupleiter (t := ax) (i := 0) ?_ (loop _ rfl)
  refine fold_G ?_
  intro G9
  obtain ⟨o, e, r⟩ := hI1
  exact ⟨o, old _ _ e, r⟩
theorem assign_true {elts : List Expr} {x1} {pos : Pos} {D : Addr} {news : List (Addr × Obj)} {Q : Unit → Shared → Prop} (hh : A.handled = none) (F : Fr h₀ L s.heap m) (N : News h₀ L s.heap news) (hm : (D, set1 w) ∈ news)
    (hn : (assignEach elts env).length = 1) (hstar : (assignEach elts env).findIdx? (·.1) = none)
    (h : ∀ h', Fr h₀ L h' m → News h₀ L h' news → wpAny (model prog w) A (assignInOrder ((assignEach elts env).map (·.2)) [.bool true]) Q E { s with heap := h' }) :
    wpAny (model prog w) A (assign (.Tuple elts x1 pos) env (.ref D)) Q E s := by
  rw [arm_assign_Tuple]
  refine wpAny_bind (wpAny_standAt (unpack_set1 hh (N _ hm).1 hn hstar fun h' he => h h' ?_ ?_))
  · exact ⟨F.ns.at' fun o e => he L o (Nat.ne_of_lt (Heap.lt_size e)) e, fun b o e => he b o (Nat.ne_of_lt (Heap.lt_size (F.keep b o e))) (F.keep b o e), F.above⟩
  · exact fun p hp => ⟨he _ _ (Nat.ne_of_lt (Heap.lt_size (N p hp).1)) (N p hp).1, (N p hp).2⟩
end
end Mine
end
section
open PySem PySem.W PyProof.Rows PySem.Calls
set_option maxRecDepth 100000
set_option maxHeartbeats 2000000
namespace Mine
/-- how lists of texts stand to each other -/
noncomputable def lexC (lt : Bool) : List PySem.Str → List PySem.Str → Bool
  | [], [] => false
  | [], _ :: _ => lt
  | _ :: _, [] => !lt
  | x :: a, y :: b => if x == y then lexC lt a b else if lt then decide (x.cps.toList < y.cps.toList) else decide (y.cps.toList < x.cps.toList)
theorem lex_nil_left (lt : Bool) (b : List PySem.Str) : lexC lt [] b = (lt && decide (0 < b.length)) := by cases b <;> simp [lexC]
section
variable {prog : Program} {w : World} {A : Around} {E : Value → Shared → Prop} {s : Shared}
theorem rc_lt {x y : PySem.Str} {t u : Tok} {Q : Value → Shared → Prop} (h : Q (.bool (decide (x.cps.toList < y.cps.toList))) s) : wpAny (model prog w) A (richCompare .Lt (.str x t) (.str y u)) Q E s :=
  PySem.P.lt_str h
theorem rc_gt {x y : PySem.Str} {t u : Tok} {Q : Value → Shared → Prop} (h : Q (.bool (decide (y.cps.toList < x.cps.toList))) s) : wpAny (model prog w) A (richCompare .Gt (.str x t) (.str y u)) Q E s :=
  PySem.P.gt_str h
end
theorem eqs_at (x y : PySem.Str) (t u : Tok) : PySem.MeetsSeq.EqGives (.str x t) (.str y u) (x == y) := by
  have e : (x.cps.toList == y.cps.toList) = (x == y) := by
    rw [Bool.eq_iff_iff, beq_iff_eq, beq_iff_eq]
    exact ⟨fun h => by cases x; cases y; simp only [PySem.Str.mk.injEq]; exact Array.toList_inj.mp h, fun h => by rw [h]⟩
  rw [← e]
  exact PySem.SeqRoads2.EqGives.str x y t u
open PySem.AutoSeq1 PySem.F PySem.MeetsSeq PySem.MeetsSeq2 PySem.MeetsSeq3 in
theorem lex_loop (l b : Addr) (vs us : List Value) (xs ys : List PySem.Str) (n n2 : Nat) (hx : StrsAre vs xs) (hy : StrsAre us ys) (lt : Bool) (k : Nat) :
    ∀ i : Nat, xs.length - i = k → i ≤ xs.length → i ≤ ys.length → Meets (Builtin.«list.__eq__.loop» ⟨[.ref l, .ref b, rawInt i, rawInt (if lt then 0 else 4)], []⟩)
      (fun _ R s => s.heap.get? l = some { cls := .type "list", dict := none, data := .seq vs.toArray n, slots := #[] } ∧ s.heap.get? b = some { cls := .type "list", dict := none, data := .seq us.toArray n2, slots := #[] } ∧
        R (.ok (.ret (.bool (lexC lt (xs.drop i) (ys.drop i))))) s) := by
  have ex := hx.length
  have ey := hy.length
  induction k with
  | zero =>
    intro i hk hi hi2 prog w A R s h
    refine fold_G ?_
    intro G9
    obtain ⟨hp, g, d, tk, os⟩ := s; obtain ⟨hl, hb, h⟩ := h
    have hi1 : vs.toArray[((i : Nat) : Int).toNat]? = none := by simp; (first | lia | omega)
    have hd : xs.drop i = [] := by simp; (first | lia | omega)
    rw [hd, lex_nil_left, List.length_drop] at h
    cases lt
    · wp_walk using wpAny_loadPart' hl, wpAny_loadPart' hb
      rw [hi1]
      wp_walk using wpAny_loadPart' hl, wpAny_loadPart' hb
      show R (.ok (.ret (.bool (decide (vs.toArray.size > us.toArray.size))))) _
      have : decide (vs.toArray.size > us.toArray.size) = false := by simp; (first | lia | omega)
      rw [this]
      simpa using h
    · wp_walk using wpAny_loadPart' hl, wpAny_loadPart' hb
      rw [hi1]
      wp_walk using wpAny_loadPart' hl, wpAny_loadPart' hb
      show R (.ok (.ret (.bool (decide (vs.toArray.size < us.toArray.size))))) _
      have : decide (vs.toArray.size < us.toArray.size) = decide (0 < ys.length - i) := by simp; (first | lia | omega)
      rw [this]
      simpa using h
  | succ k ih =>
    intro i hk hi hi2 prog w A R s h
    obtain ⟨hp, g, d, tk, os⟩ := s; obtain ⟨hl, hb, h⟩ := h
    have hlt : i < xs.length := by (first | lia | omega)
    obtain ⟨t, ht⟩ := hx.get i xs[i] (List.getElem?_eq_getElem hlt)
    have hi1 : vs.toArray[((i : Nat) : Int).toNat]? = some (.str xs[i] t) := by simpa using ht
    have hdx : xs.drop i = xs[i] :: xs.drop (i + 1) := List.drop_eq_getElem_cons (by assumption)
    by_cases hly : i < ys.length
    · obtain ⟨u, hu⟩ := hy.get i ys[i] (List.getElem?_eq_getElem hly)
      have hi3 : us.toArray[((i : Nat) : Int).toNat]? = some (.str ys[i] u) := by simpa using hu
      have hdy : ys.drop i = ys[i] :: ys.drop (i + 1) := List.drop_eq_getElem_cons (by assumption)
      have hc : ((i : Int) + 1) = ((i + 1 : Nat) : Int) := by push_cast; rfl
      rw [hdx, hdy, lexC] at h
      cases lt
      · wp_walk using wpAny_loadPart' hl, wpAny_loadPart' hb
        rw [hi1, hi3]
        refine wpAny_bind (eqs_at xs[i] ys[i] t u prog w _ _ _ _ ?_)
        cases hb' : xs[i] == ys[i] with
        | true =>
          rw [hb'] at h
          wp_walk
          rw [hc]
          exact ⟨plainId_quiet plain_eq_loop _, codeAny_builtin entry_eq_loop (by
            rw [Around.under_plainId plain_eq_loop _]
            exact ih (i + 1) (by (first | lia | omega)) (by (first | lia | omega)) (by (first | lia | omega)) prog w A R _ ⟨hl, hb, by simpa using h⟩)⟩
        | false =>
          rw [hb'] at h
          wp_walk using wpAny_loadPart' hl, wpAny_loadPart' hb
          rw [hi1, hi3]
          refine wpAny_bind (rc_gt ?_)
          wp_walk
          simpa using h
      · wp_walk using wpAny_loadPart' hl, wpAny_loadPart' hb
        rw [hi1, hi3]
        refine wpAny_bind (eqs_at xs[i] ys[i] t u prog w _ _ _ _ ?_)
        cases hb' : xs[i] == ys[i] with
        | true =>
          rw [hb'] at h
          wp_walk
          rw [hc]
          exact ⟨plainId_quiet plain_eq_loop _, codeAny_builtin entry_eq_loop (by
            rw [Around.under_plainId plain_eq_loop _]
            exact ih (i + 1) (by (first | lia | omega)) (by (first | lia | omega)) (by (first | lia | omega)) prog w A R _ ⟨hl, hb, by simpa using h⟩)⟩
        | false =>
          rw [hb'] at h
          wp_walk using wpAny_loadPart' hl, wpAny_loadPart' hb
          rw [hi1, hi3]
          refine wpAny_bind (rc_lt ?_)
          wp_walk
          simpa using h
    · have hie : i = ys.length := by (first | lia | omega)
      have hi3 : us.toArray[((i : Nat) : Int).toNat]? = none := by simp; (first | lia | omega)
      have hdy : ys.drop i = [] := by simp; (first | lia | omega)
      rw [hdx, hdy, lexC] at h
      cases lt
      · wp_walk using wpAny_loadPart' hl, wpAny_loadPart' hb
        rw [hi1, hi3]
        wp_walk using wpAny_loadPart' hl, wpAny_loadPart' hb
        show R (.ok (.ret (.bool (decide (vs.toArray.size > us.toArray.size))))) _
        have : decide (vs.toArray.size > us.toArray.size) = true := by simp; (first | lia | omega)
        rw [this]
        simpa using h
      · wp_walk using wpAny_loadPart' hl, wpAny_loadPart' hb
        rw [hi1, hi3]
        wp_walk using wpAny_loadPart' hl, wpAny_loadPart' hb
        show R (.ok (.ret (.bool (decide (vs.toArray.size < us.toArray.size))))) _
        have : decide (vs.toArray.size < us.toArray.size) = false := by simp; (first | lia | omega)
        rw [this]
        simpa using h
open PySem.AutoSeq1 PySem.F PySem.MeetsSeq PySem.MeetsSeq2 PySem.MeetsSeq3 in
theorem lex_lt (l b : Addr) (vs us : List Value) (xs ys : List PySem.Str) (n n2 : Nat) (hx : StrsAre vs xs) (hy : StrsAre us ys) :
    Meets (Builtin.«list.__lt__» ⟨[.ref l, .ref b], []⟩)
      (fun _ R s => s.heap.get? l = some { cls := .type "list", dict := none, data := .seq vs.toArray n, slots := #[] } ∧ s.heap.get? b = some { cls := .type "list", dict := none, data := .seq us.toArray n2, slots := #[] } ∧
        R (.ok (.ret (.bool (lexC true xs ys)))) s) := by
  intro prog w A R s h
  obtain ⟨hp, g, d, tk, os⟩ := s; obtain ⟨hl, hb, h⟩ := h
  have f3 := PySem.AutoSeq1.sub_list_list
  wp_walk using wpAny_loadPart' hl, wpAny_loadPart' hb
  exact ⟨plainId_quiet plain_eq_loop _, codeAny_builtin entry_eq_loop (by
    rw [Around.under_plainId plain_eq_loop _]
    exact lex_loop l b vs us xs ys n n2 hx hy true _ 0 rfl (Nat.zero_le _) (Nat.zero_le _) prog w A R _ ⟨hl, hb, by simpa using h⟩)⟩
open PySem.AutoSeq1 PySem.F PySem.MeetsSeq PySem.MeetsSeq2 PySem.MeetsSeq3 in
theorem lex_gt (l b : Addr) (vs us : List Value) (xs ys : List PySem.Str) (n n2 : Nat) (hx : StrsAre vs xs) (hy : StrsAre us ys) :
    Meets (Builtin.«list.__gt__» ⟨[.ref l, .ref b], []⟩)
      (fun _ R s => s.heap.get? l = some { cls := .type "list", dict := none, data := .seq vs.toArray n, slots := #[] } ∧ s.heap.get? b = some { cls := .type "list", dict := none, data := .seq us.toArray n2, slots := #[] } ∧
        R (.ok (.ret (.bool (lexC false xs ys)))) s) := by
  intro prog w A R s h
  obtain ⟨hp, g, d, tk, os⟩ := s; obtain ⟨hl, hb, h⟩ := h
  have f3 := PySem.AutoSeq1.sub_list_list
  wp_walk using wpAny_loadPart' hl, wpAny_loadPart' hb
  exact ⟨plainId_quiet plain_eq_loop _, codeAny_builtin entry_eq_loop (by
    rw [Around.under_plainId plain_eq_loop _]
    exact lex_loop l b vs us xs ys n n2 hx hy false _ 0 rfl (Nat.zero_le _) (Nat.zero_le _) prog w A R _ ⟨hl, hb, by simpa using h⟩)⟩
section
variable {prog : Program} {w : World} {A : Around} {E : Value → Shared → Prop} {s : Shared}
theorem rc_lex {lt : Bool} {l b : Addr} {vs us : List Value} {xs ys : List PySem.Str} {n n2 : Nat} {Q : Value → Shared → Prop} (hl : s.heap.get? l = some (W.listOf vs.toArray n)) (hb : s.heap.get? b = some (W.listOf us.toArray n2)) (hx : StrsAre vs xs) (hy : StrsAre us ys) (hu : A.units < cLine)
    (h : Q (.bool (lexC lt xs ys)) s) : wpAny (model prog w) A (richCompare (if lt then .Lt else .Gt) (.ref l) (.ref b)) Q E s := by
  cases lt
  · exact richCompare_meets_room (op := .Gt) ⟨_, hl, rfl⟩ ⟨_, hb, rfl⟩ F.slot_list_gt F.entry_list_gt (F.args_list_gt_2 _ _) (lex_gt l b vs us xs ys n n2 hx hy)
      ⟨hl, hb, show Value.bool _ ≠ Value.notImplemented ∧ Q _ s from ⟨(fun x => nomatch x), h⟩⟩ hu
  · exact richCompare_meets_room (op := .Lt) ⟨_, hl, rfl⟩ ⟨_, hb, rfl⟩ F.slot_list_lt F.entry_list_lt (F.args_list_lt_2 _ _) (lex_lt l b vs us xs ys n n2 hx hy)
      ⟨hl, hb, show Value.bool _ ≠ Value.notImplemented ∧ Q _ s from ⟨(fun x => nomatch x), h⟩⟩ hu
end
end Mine
end
section
open PySem PySem.W PyProof.Rows PySem.Calls
set_option maxRecDepth 100000
set_option maxHeartbeats 2000000
namespace Mine
section
variable {prog : Program} {w : World} {A : Around} {E : Value → Shared → Prop} {s : Shared} {h₀ : Heap} {L : Addr} {m : PySem.Str → Option Value} {news : List (Addr × Obj)}
theorem min_two {l a b : Addr} {n : Nat} {r : Bool} {Q : Value → Shared → Prop} (hh : A.handled = none) (F : Fr h₀ L s.heap m) (N : News h₀ L s.heap news) (hm : (l, W.listOf #[.ref a, .ref b] n) ∈ news)
    (hcmp : ∀ (s' : Shared) (Q' E' : Value → Shared → Prop), News h₀ L s'.heap news → Q' (.bool r) s' → wpAny (model prog w) A.in1 (richCompare .Lt (.ref b) (.ref a)) Q' E' s')
    (h : ∀ h' tk, Fr h₀ L h' m → News h₀ L h' news → Q (.ref (if r then b else a)) { s with heap := h', toks := tk }) :
    wpAny (model prog w) A (call (.builtin "min") [.ref l]) Q E s := by
  have hname : (toString "min" ++ toString ".loop" : String) = "min.loop" := by decide
  have hl : s.heap.IsList l #[.ref a, .ref b] := News.isList N hm
  have hlt : @LT.lt Nat _ l s.heap.objs.size := by obtain ⟨_, e, _⟩ := hl; exact Heap.lt_size e
  have W := Walks.list (prog := prog) (w := w) (A := A.in1) hh s.heap.objs.size l (Nat.ne_of_lt hlt) #[.ref a, .ref b]
  refine call_function_tree PySem.F.kind_min PySem.F.plain_min PySem.F.entry_min (PySem.F.args_min1 _) ?_
  show wpAny _ A.in1 (Builtin.Builtins.bindParams "min" ["key", "default"] 0 ⟨[], []⟩ >>= _) _ _ s
  refine wpAny_bind (wpAny_of_eq (show Builtin.Builtins.bindParams "min" ["key", "default"] 0 ⟨[], []⟩ = pure [none, none] from rfl) ?_)
  refine wpAny_bind (wpAny_pure ?_)
  refine wpAny_bind (wpAny_pyIter_list hl ?_)
  generalize hH1 : s.heap.push { cls := .type "list_iterator", data := .fields #[.ref l, .int 0 0] } = H1
  have up1 : ∀ q o, s.heap.get? q = some o → H1.get? q = some o := fun q o e => hH1 ▸ Heap.get?_push_of_some _ e
  have sz1 : H1.objs.size = s.heap.objs.size + 1 := by rw [← hH1, Heap.size_push]
  have hI1 : H1.get? s.heap.objs.size = some { cls := .type "list_iterator", data := .fields #[.ref l, .int 0 0] } := hH1 ▸ Heap.get?_push_size _ rfl
  refine wpAny_bind (wpAny_newObj_type ?_)
  rw [hname]
  refine wpAny_pure ⟨plainId_quiet PySem.F.plain_min_loop _, ?_⟩
  have hS0 : (H1.push { cls := .type "list", dict := none, data := .seq ([] : List Value).toArray }).get? H1.objs.size = some { cls := .type "list", dict := none, data := .seq ([] : List Value).toArray } := Heap.get?_push_size _ rfl
  generalize hH2 : H1.push { cls := .type "list", dict := none, data := .seq ([] : List Value).toArray } = H2 at hS0
  have up2 : ∀ q o, H1.get? q = some o → H2.get? q = some o := fun q o e => hH2 ▸ Heap.get?_push_of_some _ e
  have hst0 : H2.IsListIter s.heap.objs.size l 0 ∧ H2.IsList l #[.ref a, .ref b] := by
    refine ⟨⟨_, up2 _ _ hI1, rfl, rfl⟩, ?_⟩
    obtain ⟨o, e, r⟩ := hl
    exact ⟨o, up2 _ _ (up1 _ _ e), r⟩
  have hSI : H1.objs.size ∉ [s.heap.objs.size] := fun hm => by
    have := List.mem_singleton.mp hm
    rw [sz1] at this
    exact absurd this (Nat.succ_ne_self _)
  have hSf : H1.objs.size ∉ [s.heap.objs.size, l] := fun hm => by
    rcases List.mem_cons.mp hm with e | hm
    · exact hSI (List.mem_singleton.mpr e)
    · have := List.mem_singleton.mp hm
      rw [sz1] at this
      (first | lia | omega)
  have keep : ∀ {h1 h2 : Heap} {f : Array Value → Array Value}, (∀ q o, q ∉ [s.heap.objs.size] → h1.get? q = some o → h2.get? q = some o) → (∀ q o, s.heap.get? q = some o → h1.get? q = some o) → (∀ q o, s.heap.get? q = some o → (h2.update H1.objs.size (Obj.mapSeq f)).get? q = some o) ∧ (∀ q o, s.heap.get? q = some o → h2.get? q = some o) := by
    intro h1 h2 f hk hk1
    have e2 : ∀ q o, s.heap.get? q = some o → h2.get? q = some o := fun q o e => hk q o (fun hm => by
      have h1 : @Eq Nat q s.heap.objs.size := List.mem_singleton.mp hm
      have h2 : @LT.lt Nat _ q s.heap.objs.size := Heap.lt_size e
      (first | lia | omega)) (hk1 q o e)
    refine ⟨fun q o e => (Heap.get?_update_other _ _ (fun hq => ?_)).trans (e2 q o e), e2⟩
    have h2 : @LT.lt Nat _ q s.heap.objs.size := Heap.lt_size e
    have h3 : @Eq Nat H1.objs.size q := hq
    (first | lia | omega)
  have last : ∀ (R : Result → Shared → Prop) (H : Heap) (tk c : Nat), (∀ h' tk, Fr h₀ L h' m → News h₀ L h' news → R (.ok (.ret (.ref (if r then b else a)))) { s with heap := h', toks := tk }) →
      H.IsListIter s.heap.objs.size l 2 ∧ H.IsList l #[.ref a, .ref b] → H.get? H1.objs.size = some { cls := .type "list", dict := none, data := .seq #[.ref (if r then b else a), .ref (if r then b else a)] c } → (∀ q o, s.heap.get? q = some o → H.get? q = some o) →
      codeAny (model prog w) A (.builtin "min.loop" ⟨[.ref s.heap.objs.size, .none, .ref H1.objs.size], []⟩) R { s with heap := H, toks := tk } := by
    intro R H tk c hR hst hS hk
    refine codeAny_builtin PySem.F.entry_min_loop ?_
    rw [Around.under_plainId PySem.F.plain_min_loop _]
    show wpAny _ A.in1 (seqItems? (.ref H1.objs.size) >>= _) _ _ _
    refine wpAny_bind (wpAny_seqItems hS rfl ?_)
    show wpAny _ A.in1 (tryCatch (pyNext (.ref s.heap.objs.size)) _ >>= _) _ _ _
    refine wpAny_bind (wpAny_tryCatch (W.done _ _ _ hst fun h' tk hk' => ?_))
    have hS' := hk' _ _ hSI hS
    show wpAny _ A.in1 (updateSeq H1.objs.size (fun _ => #[]) >>= _) _ _ _
    refine wpAny_bind ?_
    refine wpAny_updateSeq hS' rfl (wpAny_bind (wpAny_letGo (wpAny_pure ?_))) (by rw [sizeLine_eq]; exact Nat.le_of_ble_eq_true rfl) (by rw [sizeLine_eq]; exact Nat.le_of_ble_eq_true rfl)
    obtain ⟨k4, _⟩ := keep (f := fun _ => #[]) hk' hk
    exact hR _ tk (F.grownK k4) (N.grown k4)
  refine codeAny_builtin PySem.F.entry_min_loop ?_
  rw [Around.under_plainId PySem.F.plain_min_loop _]
  show wpAny _ A.in1 (seqItems? (.ref H1.objs.size) >>= _) _ _ _
  refine wpAny_bind (wpAny_seqItems hS0 rfl ?_)
  show wpAny _ A.in1 (tryCatch (pyNext (.ref s.heap.objs.size)) _ >>= _) _ _ _
  refine wpAny_bind (wpAny_tryCatch (W.item 0 _ _ _ (Nat.zero_lt_succ 1) hst0 fun v h3 tk3 hP hst3 hk3 => ?_))
  obtain rfl : v = .ref a := (Option.some.inj hP).symm
  have hS3 := hk3 _ _ hSI hS0
  show wpAny _ A.in1 (updateSeq H1.objs.size (fun _ => #[.ref a, .ref a]) >>= _) _ _ _
  refine wpAny_bind (wpAny_updateSeq hS3 rfl ?_ (by rw [sizeLine_eq]; exact Nat.le_of_ble_eq_true rfl) (by rw [sizeLine_eq]; exact Nat.le_of_ble_eq_true rfl))
  rw [hname]
  have hS4 : (h3.update H1.objs.size (Obj.mapSeq fun _ => #[.ref a, .ref a])).get? H1.objs.size = some { cls := .type "list", dict := none, data := .seq #[.ref a, .ref a] 1 } := Heap.get?_update_self _ hS3 rfl
  obtain ⟨k4, k3⟩ := keep (f := fun _ => #[.ref a, .ref a]) hk3 (fun q o e => up2 _ _ (up1 _ _ e))
  have hst4 := W.frame 1 h3 (h3.update H1.objs.size (Obj.mapSeq fun _ => #[.ref a, .ref a])) hst3 fun q hq o e => (Heap.get?_update_other _ _ (fun hqq : H1.objs.size = q => hSf (by rw [hqq]; exact hq))).trans e
  generalize h3.update H1.objs.size (Obj.mapSeq fun _ => #[.ref a, .ref a]) = H4 at hS4 k4 hst4
  refine wpAny_pure ⟨plainId_quiet PySem.F.plain_min_loop _, ?_⟩
  refine codeAny_builtin PySem.F.entry_min_loop ?_
  rw [Around.under_plainId PySem.F.plain_min_loop _]
  show wpAny _ A.in1 (seqItems? (.ref H1.objs.size) >>= _) _ _ _
  refine wpAny_bind (wpAny_seqItems (s := { s with heap := H4, toks := tk3 }) hS4 rfl ?_)
  show wpAny _ A.in1 (tryCatch (pyNext (.ref s.heap.objs.size)) _ >>= _) _ _ _
  refine wpAny_bind (wpAny_tryCatch (W.item 1 _ _ _ (Nat.lt_succ_self 1) hst4 fun v h5 tk5 hP hst5 hk5 => ?_))
  obtain rfl : v = .ref b := (Option.some.inj hP).symm
  have hS5 := hk5 _ _ hSI hS4
  obtain ⟨k6, k5⟩ := keep (f := fun _ => #[.ref b, .ref b]) hk5 k4
  show wpAny _ A.in1 (tryCatch (holding [.ref b, .ref b] (richCompare .Lt (.ref b) (.ref a) >>= _)) _ >>= _) _ _ _
  refine wpAny_bind (wpAny_tryCatch (wpAny_holding (wpAny_bind (hcmp _ _ _ (N.grown k5) ?_))))
  refine wpAny_bind (wpAny_holding (wpAny_truthy_bool ?_))
  refine wpAny_bind (wpAny_letGo (wpAny_pure ?_))
  cases r with
  | true =>
    simp only [if_true]
    refine wpAny_bind ?_
    refine wpAny_updateSeq hS5 rfl (wpAny_bind (wpAny_letGo ?_)) (by rw [sizeLine_eq]; exact Nat.le_of_ble_eq_true rfl) (by rw [sizeLine_eq]; exact Nat.le_of_ble_eq_true rfl)
    rw [hname]
    refine wpAny_pure ⟨plainId_quiet PySem.F.plain_min_loop _, last _ _ tk5 _ (fun h' tk F' N' => h h' tk F' N') ?_ (Heap.get?_update_self _ hS5 rfl) k6⟩
    exact W.frame 2 h5 _ hst5 fun q hq o e => (Heap.get?_update_other _ _ (fun hqq : H1.objs.size = q => hSf (by rw [hqq]; exact hq))).trans e
  | false =>
    simp only [Bool.false_eq_true, if_false]
    refine wpAny_bind (wpAny_letGo ?_)
    rw [hname]
    exact wpAny_pure ⟨plainId_quiet PySem.F.plain_min_loop _, last _ _ tk5 _ (fun h' tk F' N' => h h' tk F' N') hst5 hS5 k5⟩
theorem max_two {l a b : Addr} {n : Nat} {r : Bool} {Q : Value → Shared → Prop} (hh : A.handled = none) (F : Fr h₀ L s.heap m) (N : News h₀ L s.heap news) (hm : (l, W.listOf #[.ref a, .ref b] n) ∈ news)
    (hcmp : ∀ (s' : Shared) (Q' E' : Value → Shared → Prop), News h₀ L s'.heap news → Q' (.bool r) s' → wpAny (model prog w) A.in1 (richCompare .Gt (.ref b) (.ref a)) Q' E' s')
    (h : ∀ h' tk, Fr h₀ L h' m → News h₀ L h' news → Q (.ref (if r then b else a)) { s with heap := h', toks := tk }) :
    wpAny (model prog w) A (call (.builtin "max") [.ref l]) Q E s := by
  have hname : (toString "max" ++ toString ".loop" : String) = "max.loop" := by decide
  have hl : s.heap.IsList l #[.ref a, .ref b] := News.isList N hm
  have hlt : @LT.lt Nat _ l s.heap.objs.size := by obtain ⟨_, e, _⟩ := hl; exact Heap.lt_size e
  have W := Walks.list (prog := prog) (w := w) (A := A.in1) hh s.heap.objs.size l (Nat.ne_of_lt hlt) #[.ref a, .ref b]
  refine call_function_tree PySem.F.kind_max PySem.F.plain_max PySem.F.entry_max (PySem.F.args_max1 _) ?_
  show wpAny _ A.in1 (Builtin.Builtins.bindParams "max" ["key", "default"] 0 ⟨[], []⟩ >>= _) _ _ s
  refine wpAny_bind (wpAny_of_eq (show Builtin.Builtins.bindParams "max" ["key", "default"] 0 ⟨[], []⟩ = pure [none, none] from rfl) ?_)
  refine wpAny_bind (wpAny_pure ?_)
  refine wpAny_bind (wpAny_pyIter_list hl ?_)
  generalize hH1 : s.heap.push { cls := .type "list_iterator", data := .fields #[.ref l, .int 0 0] } = H1
  have up1 : ∀ q o, s.heap.get? q = some o → H1.get? q = some o := fun q o e => hH1 ▸ Heap.get?_push_of_some _ e
  have sz1 : H1.objs.size = s.heap.objs.size + 1 := by rw [← hH1, Heap.size_push]
  have hI1 : H1.get? s.heap.objs.size = some { cls := .type "list_iterator", data := .fields #[.ref l, .int 0 0] } := hH1 ▸ Heap.get?_push_size _ rfl
  refine wpAny_bind (wpAny_newObj_type ?_)
  rw [hname]
  refine wpAny_pure ⟨plainId_quiet PySem.F.plain_max_loop _, ?_⟩
  have hS0 : (H1.push { cls := .type "list", dict := none, data := .seq ([] : List Value).toArray }).get? H1.objs.size = some { cls := .type "list", dict := none, data := .seq ([] : List Value).toArray } := Heap.get?_push_size _ rfl
  generalize hH2 : H1.push { cls := .type "list", dict := none, data := .seq ([] : List Value).toArray } = H2 at hS0
  have up2 : ∀ q o, H1.get? q = some o → H2.get? q = some o := fun q o e => hH2 ▸ Heap.get?_push_of_some _ e
  have hst0 : H2.IsListIter s.heap.objs.size l 0 ∧ H2.IsList l #[.ref a, .ref b] := by
    refine ⟨⟨_, up2 _ _ hI1, rfl, rfl⟩, ?_⟩
    obtain ⟨o, e, r⟩ := hl
    exact ⟨o, up2 _ _ (up1 _ _ e), r⟩
  have hSI : H1.objs.size ∉ [s.heap.objs.size] := fun hm => by
    have := List.mem_singleton.mp hm
    rw [sz1] at this
    exact absurd this (Nat.succ_ne_self _)
  have hSf : H1.objs.size ∉ [s.heap.objs.size, l] := fun hm => by
    rcases List.mem_cons.mp hm with e | hm
    · exact hSI (List.mem_singleton.mpr e)
    · have := List.mem_singleton.mp hm
      rw [sz1] at this
      (first | lia | omega)
  have keep : ∀ {h1 h2 : Heap} {f : Array Value → Array Value}, (∀ q o, q ∉ [s.heap.objs.size] → h1.get? q = some o → h2.get? q = some o) → (∀ q o, s.heap.get? q = some o → h1.get? q = some o) → (∀ q o, s.heap.get? q = some o → (h2.update H1.objs.size (Obj.mapSeq f)).get? q = some o) ∧ (∀ q o, s.heap.get? q = some o → h2.get? q = some o) := by
    intro h1 h2 f hk hk1
    have e2 : ∀ q o, s.heap.get? q = some o → h2.get? q = some o := fun q o e => hk q o (fun hm => by
      have h1 : @Eq Nat q s.heap.objs.size := List.mem_singleton.mp hm
      have h2 : @LT.lt Nat _ q s.heap.objs.size := Heap.lt_size e
      (first | lia | omega)) (hk1 q o e)
    refine ⟨fun q o e => (Heap.get?_update_other _ _ (fun hq => ?_)).trans (e2 q o e), e2⟩
    have h2 : @LT.lt Nat _ q s.heap.objs.size := Heap.lt_size e
    have h3 : @Eq Nat H1.objs.size q := hq
    (first | lia | omega)
  have last : ∀ (R : Result → Shared → Prop) (H : Heap) (tk c : Nat), (∀ h' tk, Fr h₀ L h' m → News h₀ L h' news → R (.ok (.ret (.ref (if r then b else a)))) { s with heap := h', toks := tk }) →
      H.IsListIter s.heap.objs.size l 2 ∧ H.IsList l #[.ref a, .ref b] → H.get? H1.objs.size = some { cls := .type "list", dict := none, data := .seq #[.ref (if r then b else a), .ref (if r then b else a)] c } → (∀ q o, s.heap.get? q = some o → H.get? q = some o) →
      codeAny (model prog w) A (.builtin "max.loop" ⟨[.ref s.heap.objs.size, .none, .ref H1.objs.size], []⟩) R { s with heap := H, toks := tk } := by
    intro R H tk c hR hst hS hk
    refine codeAny_builtin PySem.F.entry_max_loop ?_
    rw [Around.under_plainId PySem.F.plain_max_loop _]
    show wpAny _ A.in1 (seqItems? (.ref H1.objs.size) >>= _) _ _ _
    refine wpAny_bind (wpAny_seqItems hS rfl ?_)
    show wpAny _ A.in1 (tryCatch (pyNext (.ref s.heap.objs.size)) _ >>= _) _ _ _
    refine wpAny_bind (wpAny_tryCatch (W.done _ _ _ hst fun h' tk hk' => ?_))
    have hS' := hk' _ _ hSI hS
    show wpAny _ A.in1 (updateSeq H1.objs.size (fun _ => #[]) >>= _) _ _ _
    refine wpAny_bind ?_
    refine wpAny_updateSeq hS' rfl (wpAny_bind (wpAny_letGo (wpAny_pure ?_))) (by rw [sizeLine_eq]; exact Nat.le_of_ble_eq_true rfl) (by rw [sizeLine_eq]; exact Nat.le_of_ble_eq_true rfl)
    obtain ⟨k4, _⟩ := keep (f := fun _ => #[]) hk' hk
    exact hR _ tk (F.grownK k4) (N.grown k4)
  refine codeAny_builtin PySem.F.entry_max_loop ?_
  rw [Around.under_plainId PySem.F.plain_max_loop _]
  show wpAny _ A.in1 (seqItems? (.ref H1.objs.size) >>= _) _ _ _
  refine wpAny_bind (wpAny_seqItems hS0 rfl ?_)
  show wpAny _ A.in1 (tryCatch (pyNext (.ref s.heap.objs.size)) _ >>= _) _ _ _
  refine wpAny_bind (wpAny_tryCatch (W.item 0 _ _ _ (Nat.zero_lt_succ 1) hst0 fun v h3 tk3 hP hst3 hk3 => ?_))
  obtain rfl : v = .ref a := (Option.some.inj hP).symm
  have hS3 := hk3 _ _ hSI hS0
  show wpAny _ A.in1 (updateSeq H1.objs.size (fun _ => #[.ref a, .ref a]) >>= _) _ _ _
  refine wpAny_bind (wpAny_updateSeq hS3 rfl ?_ (by rw [sizeLine_eq]; exact Nat.le_of_ble_eq_true rfl) (by rw [sizeLine_eq]; exact Nat.le_of_ble_eq_true rfl))
  rw [hname]
  have hS4 : (h3.update H1.objs.size (Obj.mapSeq fun _ => #[.ref a, .ref a])).get? H1.objs.size = some { cls := .type "list", dict := none, data := .seq #[.ref a, .ref a] 1 } := Heap.get?_update_self _ hS3 rfl
  obtain ⟨k4, k3⟩ := keep (f := fun _ => #[.ref a, .ref a]) hk3 (fun q o e => up2 _ _ (up1 _ _ e))
  have hst4 := W.frame 1 h3 (h3.update H1.objs.size (Obj.mapSeq fun _ => #[.ref a, .ref a])) hst3 fun q hq o e => (Heap.get?_update_other _ _ (fun hqq : H1.objs.size = q => hSf (by rw [hqq]; exact hq))).trans e
  generalize h3.update H1.objs.size (Obj.mapSeq fun _ => #[.ref a, .ref a]) = H4 at hS4 k4 hst4
  refine wpAny_pure ⟨plainId_quiet PySem.F.plain_max_loop _, ?_⟩
  refine codeAny_builtin PySem.F.entry_max_loop ?_
  rw [Around.under_plainId PySem.F.plain_max_loop _]
  show wpAny _ A.in1 (seqItems? (.ref H1.objs.size) >>= _) _ _ _
  refine wpAny_bind (wpAny_seqItems (s := { s with heap := H4, toks := tk3 }) hS4 rfl ?_)
  show wpAny _ A.in1 (tryCatch (pyNext (.ref s.heap.objs.size)) _ >>= _) _ _ _
  refine wpAny_bind (wpAny_tryCatch (W.item 1 _ _ _ (Nat.lt_succ_self 1) hst4 fun v h5 tk5 hP hst5 hk5 => ?_))
  obtain rfl : v = .ref b := (Option.some.inj hP).symm
  have hS5 := hk5 _ _ hSI hS4
  obtain ⟨k6, k5⟩ := keep (f := fun _ => #[.ref b, .ref b]) hk5 k4
  show wpAny _ A.in1 (tryCatch (holding [.ref b, .ref b] (richCompare .Gt (.ref b) (.ref a) >>= _)) _ >>= _) _ _ _
  refine wpAny_bind (wpAny_tryCatch (wpAny_holding (wpAny_bind (hcmp _ _ _ (N.grown k5) ?_))))
  refine wpAny_bind (wpAny_holding (wpAny_truthy_bool ?_))
  refine wpAny_bind (wpAny_letGo (wpAny_pure ?_))
  cases r with
  | true =>
    simp only [if_true]
    refine wpAny_bind ?_
    refine wpAny_updateSeq hS5 rfl (wpAny_bind (wpAny_letGo ?_)) (by rw [sizeLine_eq]; exact Nat.le_of_ble_eq_true rfl) (by rw [sizeLine_eq]; exact Nat.le_of_ble_eq_true rfl)
    rw [hname]
    refine wpAny_pure ⟨plainId_quiet PySem.F.plain_max_loop _, last _ _ tk5 _ (fun h' tk F' N' => h h' tk F' N') ?_ (Heap.get?_update_self _ hS5 rfl) k6⟩
    exact W.frame 2 h5 _ hst5 fun q hq o e => (Heap.get?_update_other _ _ (fun hqq : H1.objs.size = q => hSf (by rw [hqq]; exact hq))).trans e
  | false =>
    simp only [Bool.false_eq_true, if_false]
    refine wpAny_bind (wpAny_letGo ?_)
    rw [hname]
    exact wpAny_pure ⟨plainId_quiet PySem.F.plain_max_loop _, last _ _ tk5 _ (fun h' tk F' N' => h h' tk F' N') hst5 hS5 k5⟩
end
end Mine
end
section
open PySem PySem.W PyProof.Rows
namespace Mine
/-- a row of numbers f, each stretch with its least one at the root, the depths g -/
inductive Tree (f g : Nat → Int) : Nat → Nat → Int → Prop
  | nil {lo : Nat} {d : Int} : Tree f g lo lo d
  | node {lo hi i : Nat} {d : Int} : lo ≤ i → i < hi → (∀ j, lo ≤ j → j < hi → f i ≤ f j) → g i = d + 1 → Tree f g lo i (d + 1) → Tree f g (i + 1) hi (d + 1) → Tree f g lo hi d
/-- the head that two rows of places share -/
noncomputable def cpreI : List Nat → List Nat → List Nat
  | x :: a, y :: b => if x = y then x :: cpreI a b else []
  | _, _ => []
theorem cpreI_cons (x : Nat) (a b : List Nat) : cpreI (x :: a) (x :: b) = x :: cpreI a b := by rw [cpreI, if_pos rfl]
theorem cpreI_off : ∀ {a b : List Nat}, (∀ x ∈ a, ∀ y ∈ b, x ≠ y) → cpreI a b = []
  | [], [], _ => rfl
  | [], _ :: _, _ => rfl
  | _ :: _, [], _ => rfl
  | x :: a, y :: b, h => by rw [cpreI, if_neg (h x (.head _) y (.head _))]
theorem Tree.deep {f g : Nat → Int} {lo hi : Nat} {d : Int} (T : Tree f g lo hi d) : ∀ j, lo ≤ j → j < hi → d + 1 ≤ g j := by
  induction T with
  | nil => intro j h1 h2; (first | lia | omega)
  | @node lo hi i d h1 h2 h3 h4 _ _ ih1 ih2 =>
    intro j a b
    rcases Nat.lt_trichotomy j i with h | h | h
    · have := ih1 j a h; (first | lia | omega)
    · subst h; (first | lia | omega)
    · have := ih2 j h b; (first | lia | omega)
/-- the path's places of the place p, within a stretch -/
noncomputable def PathOk (g : Nat → Int) (lo hi p : Nat) (out : List Nat) : Prop :=
  (∀ o, o ∈ out ↔ lo ≤ o ∧ o < hi ∧ ∀ j, min p o ≤ j → j ≤ max p o → g o ≤ g j) ∧ out.Pairwise fun a b => g a < g b
theorem tree_paths {f g : Nat → Int} {lo hi : Nat} {d : Int} (T : Tree f g lo hi d) : ∃ R : Nat → List Nat,
    (∀ p, lo ≤ p → p < hi → PathOk g lo hi p (R p)) ∧
    (∀ e l, lo ≤ e → e ≤ l → l < hi → ∃ pre m, cpreI (R e) (R l) = pre ++ [m] ∧ e ≤ m ∧ m ≤ l ∧ (∀ j, e ≤ j → j ≤ l → f m ≤ f j) ∧ (∀ j, e ≤ j → j ≤ l → g m ≤ g j) ∧ (pre.length : Int) + 1 = g m - d) := by
  induction T with
  | nil => exact ⟨fun _ => [], fun p h1 h2 => by (first | lia | omega), fun e l h1 h2 h3 => by omega⟩
  | @node lo hi i d h1 h2 h3 h4 T1 T2 ih1 ih2 =>
    refine fold_G ?_
    intro G9
    obtain ⟨Ra, a1, a2⟩ := ih1
    obtain ⟨Rb, b1, b2⟩ := ih2
    have da := T1.deep
    have db := T2.deep
    refine ⟨fun p => if p < i then i :: Ra p else if p = i then [i] else i :: Rb p, fun p hp1 hp2 => ?_, fun e l he hel hl => ?_⟩
    · dsimp only
      rcases Nat.lt_trichotomy p i with h | h | h
      · rw [if_pos h]
        refine fold_G ?_
        intro G9
        obtain ⟨c1, c2⟩ := a1 p hp1 h
        refine ⟨fun o => ?_, List.pairwise_cons.mpr ⟨fun o ho => ?_, c2⟩⟩
        · rw [List.mem_cons, c1]
          constructor
          · rintro (rfl | ⟨q1, q2, q3⟩)
            · refine ⟨h1, h2, fun j j1 j2 => ?_⟩
              rcases Nat.lt_or_ge j o with hj | hj
              · have := da j (by (first | lia | omega)) hj; (first | lia | omega)
              · have : j = o := by (first | lia | omega)
                subst this; exact Int.le_refl _
            · exact ⟨q1, by (first | lia | omega), q3⟩
          · rintro ⟨q1, q2, q3⟩
            rcases Nat.lt_trichotomy o i with ho | ho | ho
            · exact .inr ⟨q1, ho, q3⟩
            · exact .inl ho
            · have := q3 i (by (first | lia | omega)) (by (first | lia | omega))
              have := db o ho q2
              (first | lia | omega)
        · obtain ⟨q1, q2, _⟩ := (c1 o).mp ho
          have := da o q1 q2
          (first | lia | omega)
      · subst h
        rw [if_neg (Nat.lt_irrefl _), if_pos rfl]
        refine ⟨fun o => ?_, List.pairwise_singleton _ _⟩
        rw [List.mem_singleton]
        constructor
        · rintro rfl
          refine ⟨h1, h2, fun j j1 j2 => ?_⟩
          have : j = o := by (first | lia | omega)
          subst this; exact Int.le_refl _
        · rintro ⟨q1, q2, q3⟩
          have := q3 p (by (first | lia | omega)) (by (first | lia | omega))
          rcases Nat.lt_trichotomy o p with ho | ho | ho
          · have := da o q1 ho; (first | lia | omega)
          · exact ho
          · have := db o ho q2; (first | lia | omega)
      · rw [if_neg (by (first | lia | omega)), if_neg (by (first | lia | omega))]
        obtain ⟨c1, c2⟩ := b1 p h hp2
        refine ⟨fun o => ?_, List.pairwise_cons.mpr ⟨fun o ho => ?_, c2⟩⟩
        · rw [List.mem_cons, c1]
          constructor
          · rintro (rfl | ⟨q1, q2, q3⟩)
            · refine ⟨h1, h2, fun j j1 j2 => ?_⟩
              rcases Nat.lt_or_ge o j with hj | hj
              · have := db j hj (by (first | lia | omega)); (first | lia | omega)
              · have : j = o := by (first | lia | omega)
                subst this; exact Int.le_refl _
            · exact ⟨by (first | lia | omega), q2, q3⟩
          · rintro ⟨q1, q2, q3⟩
            rcases Nat.lt_trichotomy o i with ho | ho | ho
            · have := q3 i (by (first | lia | omega)) (by (first | lia | omega))
              have := da o q1 ho
              (first | lia | omega)
            · exact .inl ho
            · exact .inr ⟨ho, q2, q3⟩
        · obtain ⟨q1, q2, _⟩ := (c1 o).mp ho
          have := db o q1 q2
          (first | lia | omega)
    · dsimp only
      by_cases hla : l < i
      · rw [if_pos (by (first | lia | omega) : e < i), if_pos hla, cpreI_cons]
        refine fold_G ?_
        intro G9
        obtain ⟨pre, m, e1, e2, e3, e4, e5, e6⟩ := a2 e l he hel hla
        refine ⟨i :: pre, m, by rw [e1]; rfl, e2, e3, e4, e5, ?_⟩
        rw [List.length_cons]; (first | lia | omega)
      by_cases hea : i < e
      · rw [if_neg (by (first | lia | omega) : ¬ e < i), if_neg (by (first | lia | omega) : ¬ e = i), if_neg hla, if_neg (by (first | lia | omega) : ¬ l = i), cpreI_cons]
        refine fold_G ?_
        intro G9
        obtain ⟨pre, m, e1, e2, e3, e4, e5, e6⟩ := b2 e l hea hel hl
        refine ⟨i :: pre, m, by rw [e1]; rfl, e2, e3, e4, e5, ?_⟩
        rw [List.length_cons]; (first | lia | omega)
      refine ⟨[], i, ?_, by (first | lia | omega), by (first | lia | omega), fun j j1 j2 => h3 j (by (first | lia | omega)) (by (first | lia | omega)), fun j j1 j2 => ?_, ?_⟩
      · have hb : ∀ y, i < l → y ∈ Rb l → i < y := fun y hi hy => (((b1 l hi hl).1 y).mp hy).1
        by_cases c1 : e < i
        · have ha : ∀ x, x ∈ Ra e → x < i := fun x hx => (((a1 e he c1).1 x).mp hx).2.1
          rw [if_pos c1, if_neg hla]
          by_cases c2 : l = i
          · rw [if_pos c2, cpreI_cons]
            rw [cpreI_off fun x _ y hy => by cases hy]; rfl
          · rw [if_neg c2, cpreI_cons, cpreI_off fun x hx y hy => by have := ha x hx; have := hb y (by (first | lia | omega)) hy; (first | lia | omega)]; rfl
        · have : e = i := by (first | lia | omega)
          subst this
          rw [if_neg c1, if_pos rfl, if_neg hla]
          by_cases c2 : l = e
          · rw [if_pos c2, cpreI_cons]; rfl
          · rw [if_neg c2, cpreI_cons, cpreI_off fun x hx => by cases hx]; rfl
      · rcases Nat.lt_trichotomy j i with h | h | h
        · have := da j (by (first | lia | omega)) h; (first | lia | omega)
        · subst h; exact Int.le_refl _
        · have := db j h (by (first | lia | omega)); (first | lia | omega)
      · rw [List.length_nil, h4]; (first | lia | omega)
end Mine
end
section
open PySem PySem.W PyProof.Rows PySem.Calls
set_option maxRecDepth 100000
set_option maxHeartbeats 2000000
namespace Mine
section
variable {prog : Program} {w : World} {A : Around} {E : Value → Shared → Prop} {s : Shared} {h₀ : Heap} {L : Addr} {m : PySem.Str → Option Value} {env : Env}
/-- a comprehension over enumerate(list) whose element leaves the heap alone -/
noncomputable def SrcEnum (prog : Program) (w : World) (A : Around) (h₀ : Heap) (L : Addr) (m : PySem.Str → Option Value) (env : Env) (elt : Expr) (x x₂ : PySem.Str) (scope : Scope) (cl : List (PySem.Str × Addr)) (Fin : Shared → List Value → List (Addr × Obj) → Prop) (xv : Value) (s₁ : Shared) : Prop :=
  ∃ (e it l : Addr) (items : Array Value) (k : Nat) (news : List (Addr × Obj)) (J : Nat → List Value → Prop), xv = .ref e ∧ A.handled = none ∧ Fr h₀ L s₁.heap m ∧ News h₀ L s₁.heap news ∧ (l, ({ cls := .type "list", data := .seq items k } : Obj)) ∈ news ∧ items.size ≤ sizeLine ∧
    IsEnum s₁.heap e it 0 .none ∧ s₁.heap.IsListIter it l 0 ∧ e ≠ it ∧ h₀.get? e = none ∧ h₀.get? it = none ∧ e ≠ L ∧ it ≠ L ∧ (∀ p ∈ news, p.1 ≠ e ∧ p.1 ≠ it) ∧ J 0 [] ∧
    (∀ i ys v t, items[i]? = some v → J i ys → ∀ C oC D m₂ h tk (E' : Value → Shared → Prop), LCg.NsObj oC m₂ → m₂ x = some (.int (i : Nat) t) → m₂ x₂ = some v → Fr h₀ L h m → News h₀ L h ((C, oC) :: (D, LCg.lst ys) :: news) →
      wpAny (model prog w) A (eval elt (compEnvC scope cl C env)) (fun y s' => (∃ tk', s' = { s₁ with heap := h, toks := tk' }) ∧ J (i + 1) (ys ++ [y])) E' { s₁ with heap := h, toks := tk }) ∧
    (∀ s₂ ys, J items.size ys → ys.length = items.size → (∃ h, s₂ = { s₁ with heap := h }) → Fin s₂ ys news)
theorem block_E {elt iter : Expr} {x x₂ : PySem.Str} {px px₂ tp : Pos} {tk} {scope : Scope} {cl : List (PySem.Str × Addr)} {pos : Pos} {s₂ : Shared} {e it l : Addr} {items : Array Value} {kk : Nat} {news : List (Addr × Obj)} {J : Nat → List Value → Prop} {RR : Value → Addr → Result → Shared → Prop}
    (hcell : ∀ y ∈ scope.names, y.2 ≠ .cell) (hkind : scope.kind = .function) (hx : scope.names.lookup x = some .local) (hx₂ : scope.names.lookup x₂ = some .local) (hxx : x ≠ x₂) (hh : A.handled = none)
    (F : Fr h₀ L s₂.heap m) (N : News h₀ L s₂.heap news) (hm : (l, ({ cls := .type "list", data := .seq items kk } : Obj)) ∈ news) (hsz : items.size ≤ sizeLine) (hE : IsEnum s₂.heap e it 0 .none) (hI : s₂.heap.IsListIter it l 0) (hei : e ≠ it) (he₀ : h₀.get? e = none) (hi₀ : h₀.get? it = none) (heL : e ≠ L) (hiL : it ≠ L)
    (off : ∀ p ∈ news, p.1 ≠ e ∧ p.1 ≠ it) (hJ0 : J 0 [])
    (step : ∀ i ys v t, items[i]? = some v → J i ys → ∀ C oC D m₂ h tk (E' : Value → Shared → Prop), LCg.NsObj oC m₂ → m₂ x = some (.int (i : Nat) t) → m₂ x₂ = some v → Fr h₀ L h m → News h₀ L h ((C, oC) :: (D, LCg.lst ys) :: news) →
      wpAny (model prog w) A (eval elt (compEnvC scope cl C env)) (fun y s' => (∃ tk', s' = { s₂ with heap := h, toks := tk' }) ∧ J (i + 1) (ys ++ [y])) E' { s₂ with heap := h, toks := tk })
    (hRR : ∀ D C h tk m' ys, Fr h₀ L h m → News h₀ L h ((D, LCg.lst ys) :: news) → LCg.Off1 D news → h.Ns C m' → h₀.get? C = none → h₀.get? D = none → C ≠ L → D ≠ L → C ≠ D → (∀ p ∈ news, p.1 ≠ C) → J items.size ys → ys.length = items.size → RR (.ref D) C (.ok .next) { s₂ with heap := h, toks := tk }) :
    wpAny (model prog w) A (newList []) (fun acc s₃ => wpAny (model prog w) A (newFunctionEnv scope env.globals cl [] env.qual none .none (some env)) (fun cenv s₄ =>
      codeAny (model prog w) A (.compStart (.ListComp elt [⟨.Tuple [.Name x px, .Name x₂ px₂] tk tp, iter, [], 0⟩] scope pos) 0 (.ref e) acc { cenv with scope := relabel scope env }) (RR acc cenv.locals) s₄) E s₃) E s₂ := by
  refine wpAny_newObj_type (wpAny_newFunctionEnv hcell (by intro y hy; simp at hy) (fun h₁ hns₁ hsb₁ => ?_) hkind)
  dsimp only at hns₁ hsb₁ ⊢
  have hlm := N _ hm
  have hle := (off _ hm).1
  have hli := (off _ hm).2
  have W := WalksT.enumerate (prog := prog) (w := w) (A := A) hh e it l hei hle hli items
  generalize hH2 : s₂.heap.push { cls := .type "list", dict := none, data := .seq ([] : List Value).toArray } = H2 at hns₁ hsb₁ ⊢
  have hC : H2.objs.size = s₂.heap.objs.size + 1 := by rw [← hH2, Heap.size_push]
  have hDC : s₂.heap.objs.size ≠ H2.objs.size := by rw [hC]; exact Nat.ne_of_lt (Nat.lt_succ_self _)
  have below : ∀ b, b < s₂.heap.objs.size → b ≠ H2.objs.size ∧ b ≠ s₂.heap.objs.size := fun b hb => ⟨by rw [hC]; exact Nat.ne_of_lt (Nat.lt_succ_of_lt hb), Nat.ne_of_lt hb⟩
  have helt : e < s₂.heap.objs.size := Heap.lt_size hE
  have hilt : it < s₂.heap.objs.size := by obtain ⟨_, x, _⟩ := hI; exact Heap.lt_size x
  have hllt : l < s₂.heap.objs.size := Heap.lt_size hlm.1
  have hfp : ∀ b ∈ [e, it, l], b < s₂.heap.objs.size := fun b hb => by
    rcases List.mem_cons.mp hb with rfl | hb
    · exact helt
    · rcases List.mem_cons.mp hb with rfl | hb
      · exact hilt
      · rw [List.mem_singleton.mp hb]; exact hllt
  have hDf : s₂.heap.objs.size ∉ [e, it, l] := fun hm => Nat.lt_irrefl _ (hfp _ hm)
  have hCf : H2.objs.size ∉ [e, it, l] := fun hm => by have := hfp _ hm; rw [hC] at this; exact Nat.lt_irrefl _ (Nat.lt_of_succ_lt this)
  have hCw : H2.objs.size ∉ [e, it] := fun hm => hCf (W.sub _ hm)
  have hDw : s₂.heap.objs.size ∉ [e, it] := fun hm => hDf (W.sub _ hm)
  have hLw : L ∉ [e, it] := fun hm => by
    rcases List.mem_cons.mp hm with h | hm
    · exact heL h.symm
    · exact hiL (List.mem_singleton.mp hm).symm
  have hnw : ∀ p ∈ news, p.1 ∉ [e, it] := fun p hp hm => by
    rcases List.mem_cons.mp hm with h | hm
    · exact (off p hp).1 h
    · exact (off p hp).2 (List.mem_singleton.mp hm)
  have h0w : ∀ b o, h₀.get? b = some o → b ∉ [e, it] := fun b o e' hm => by
    rcases List.mem_cons.mp hm with rfl | hm
    · rw [he₀] at e'; cases e'
    · rw [List.mem_singleton.mp hm, hi₀] at e'; cases e'
  have old : ∀ b o, s₂.heap.get? b = some o → h₁.get? b = some o := fun b o e => hsb₁.extBut b o (below b (Heap.lt_size e)).1 (Heap.get?_push_of_some _ (hH2 ▸ Heap.get?_push_of_some _ e))
  have hacc : h₁.get? s₂.heap.objs.size = some (LCg.lst []) := hsb₁.extBut _ _ hDC (Heap.get?_push_of_some _ (hH2 ▸ Heap.get?_push_size _ rfl))
  have hst₁ := W.frame 0 s₂.heap h₁ ⟨⟨_, hE⟩, hI, ⟨_, hlm.1, rfl, _, rfl⟩⟩ fun b _ o e => old b o e
  have fresh : ∀ a, s₂.heap.objs.size ≤ a → s₂.heap.get? a = none := fun a ha => by
    cases e : s₂.heap.get? a with
    | none => rfl
    | some o' => exact absurd (Heap.lt_size e) (Nat.not_lt.mpr ha)
  have fresh₀ : ∀ a, s₂.heap.objs.size ≤ a → h₀.get? a = none := fun a ha => by
    cases e : h₀.get? a with
    | none => rfl
    | some o' => have := F.keep a o' e; rw [fresh a ha] at this; cases this
  have hD₀ : h₀.get? s₂.heap.objs.size = none := fresh₀ _ (Nat.le_refl _)
  have hC₀ : h₀.get? H2.objs.size = none := fresh₀ _ (by rw [hC]; exact Nat.le_succ _)
  have hLlt : L < s₂.heap.objs.size := F.ns.lt
  have hDL : s₂.heap.objs.size ≠ L := Ne.symm (below L hLlt).2
  have hCL : H2.objs.size ≠ L := Ne.symm (below L hLlt).1
  have nb : ∀ p ∈ news, p.1 ≠ H2.objs.size ∧ p.1 ≠ s₂.heap.objs.size := fun p hp => below _ (Heap.lt_size (N p hp).1)
  have loop : ∀ s₃ : Shared, s₃ = { s₂ with heap := h₁, toks := s₂.toks + ([] : List (PySem.Str × Value)).length } →
      codeAny (model prog w) A (.compLoop (.ListComp elt [⟨.Tuple [.Name x px, .Name x₂ px₂] tk tp, iter, [], 0⟩] scope pos) 0 (.ref e) (.ref s₂.heap.objs.size) (compEnvC scope cl H2.objs.size env))
        (RR (.ref s₂.heap.objs.size) H2.objs.size) s₃ := by
    rintro s₃ rfl
    refine LCp.codeAny_compLoop_pair
      (fun k s' => ∃ h' tk i ys m', s' = { s₂ with heap := h', toks := tk } ∧ i ≤ items.size ∧ k = items.size + 1 - i ∧ ys.length = i ∧ ((∃ old, IsEnum h' e it i old) ∧ h'.IsListIter it l i ∧ h'.IsList l items) ∧ Fr h₀ L h' m ∧ h'.Ns H2.objs.size m' ∧ News h₀ L h' ((s₂.heap.objs.size, LCg.lst ys) :: news) ∧
        J i ys) ?_ (items.size + 1)
      ⟨h₁, _, 0, [], _, rfl, Nat.zero_le _, rfl, rfl, hst₁, F.keeps old, hns₁, fun p hp => ?_, hJ0⟩
    · intro k s' hZ9
      refine fold_G ?_
      intro G9
      obtain ⟨h', tk, i, ys, m', rfl, hi, rfl, hyl, hst', F', hn', N', hJ⟩ := hZ9
      have next : ∀ h₂ : Heap, (∀ b o, b ∉ [e, it] → h'.get? b = some o → h₂.get? b = some o) → Fr h₀ L h₂ m ∧ News h₀ L h₂ ((s₂.heap.objs.size, LCg.lst ys) :: news) ∧ h₂.Ns H2.objs.size m' := fun h₂ hk =>
        ⟨⟨F'.ns.at' fun o e => hk _ o hLw e, fun b o e => hk b o (h0w b o e) (F'.keep b o e), F'.above⟩, fun p hp => ⟨hk _ _ (by
          rcases List.mem_cons.mp hp with rfl | hp
          · exact hDw
          · exact hnw p hp) (N' p hp).1, (N' p hp).2⟩, hn'.at' fun o e => hk _ o hCw e⟩
      by_cases hlt : i < items.size
      · refine W.item i _ _ _ hlt hst' fun T vals h₂ tk₂ hPv _ hT hMid hk₂ => ?_
        refine fold_G ?_
        intro G9
        obtain ⟨t, v, hv, rfl⟩ := hPv
        refine W.go _ _ _ i T _ _ _ hMid fun h₂' hst₂ hk₂' => ?_
        have ht : IsTup h₂' T #[.int (i : Nat) t, v] := hT.at fun o e => hk₂' T o (W.apart i T _ hMid) e
        refine fold_G ?_
        intro G9
        obtain ⟨F₂, N₂, hn₂⟩ := next h₂' fun b o hb e => hk₂' b o hb (hk₂ b o hb e)
        refine assign_Tuple_tuple hh ht rfl rfl fun h₅ he => ?_
        have he' : ∀ b o, h₂'.get? b = some o → h₅.get? b = some o := fun b o e => he b o (Nat.ne_of_lt (Heap.lt_size e)) e
        refine assignInOrder_cons (wpAny_assign_Name (wpAny_storeName_local (lookup_relabel_local hx) (hn₂.at' fun o e => he' _ o e) (fun h₆ hn₆ hs₆ => ?_) (by simp [compEnvC, relabel, hkind])))
        refine assignInOrder_cons (wpAny_assign_Name (wpAny_storeName_local (lookup_relabel_local hx₂) hn₆ (fun h₃ hn₃ hs₃ => ?_) (by simp [compEnvC, relabel, hkind])))
        refine assignInOrder_nil ?_
        have old3 : ∀ b o, b ≠ H2.objs.size → h₂'.get? b = some o → h₃.get? b = some o := fun b o hb e => hs₃.extBut b o hb (hs₆.extBut b o hb (he' b o e))
        have hst₃ := W.frame (i + 1) _ h₃ hst₂ fun b hb o e => old3 b o (fun q => hCf (by rw [← q]; exact hb)) e
        refine fold_G ?_
        intro G9
        obtain ⟨oC, heC, hoC⟩ := LCg.ns_obj hn₃
        have F₃ : Fr h₀ L h₃ m := ((F₂.keeps he').change hs₆ hCL hC₀).change hs₃ hCL hC₀
        have N₃ : News h₀ L h₃ ((H2.objs.size, oC) :: (s₂.heap.objs.size, LCg.lst ys) :: news) := fun p hp => by
          rcases List.mem_cons.mp hp with rfl | hp
          · exact ⟨heC, hCL, hC₀⟩
          · have z := N₂ p hp
            refine ⟨old3 _ _ ?_ z.1, z.2⟩
            rcases List.mem_cons.mp hp with rfl | hp
            · exact hDC
            · exact (nb p hp).1
        refine wpAny_mono (step i ys v t hv hJ H2.objs.size oC s₂.heap.objs.size _ h₃ _ _ hoC (by simp [hxx]) (by simp) F₃ N₃) (fun y s₄ h₄ => ?_) fun _ _ e => e
        obtain ⟨⟨tk₄, rfl⟩, hJ'⟩ := h₄
        have zC := (N₃ (H2.objs.size, oC) List.mem_cons_self).1
        have zD := (N₃ (s₂.heap.objs.size, LCg.lst ys) (List.mem_cons_of_mem _ List.mem_cons_self)).1
        refine append_at (hsz := by show ys.toArray.size ≤ sizeLine; rw [List.size_toArray, hyl]; exact Nat.le_trans hi hsz) zD fun h₅ hs₅ hD₅ => ?_
        refine ⟨items.size + 1 - (i + 1), by omega, h₅, tk₄, i + 1, ys ++ [y], _, rfl, hlt, rfl, by rw [List.length_append, List.length_singleton, hyl], W.frame (i + 1) _ h₅ hst₃ fun b hb o e => hs₅.extBut b o (fun q => hDf (q ▸ hb)) e, F₃.change hs₅ hDL hD₀,
          (hoC.ns zC).sameBut hs₅ (Ne.symm hDC), fun p hp => ?_, hJ'⟩
        rcases List.mem_cons.mp hp with rfl | hp
        · exact ⟨hD₅.trans (congrArg some (LCg.lst_snoc ys y)), hDL, hD₀⟩
        · have z := N₃ p (.tail _ (.tail _ hp))
          exact ⟨hs₅.extBut _ _ (nb p hp).2 z.1, z.2⟩
      · obtain rfl : i = items.size := Nat.le_antisymm hi (Nat.not_lt.mp hlt)
        refine W.done _ _ _ hst' fun h₂ tk₂ hk₂ => ?_
        refine fold_G ?_
        intro G9
        obtain ⟨F₂, N₂, hn₂⟩ := next h₂ hk₂
        exact hRR _ _ h₂ tk₂ _ ys F₂ N₂ (LCg.Off3.of (I := e) (C := H2.objs.size) fun p hp => ⟨(off p hp).1, (nb p hp).1, (nb p hp).2⟩).one hn₂ hC₀ hD₀ hCL hDL (Ne.symm hDC) (fun p hp => (nb p hp).1) hJ hyl
    · rcases List.mem_cons.mp hp with rfl | hp
      · exact ⟨hacc, hDL, hD₀⟩
      · exact ⟨old _ _ (N p hp).1, (N p hp).2⟩
  exact codeAny_compStart_list (loop _ rfl) (W.self 0 _ _ _ hst₁ (loop _ rfl))
theorem Assign_ListComp_enum {elt iter : Expr} {x x₂ y : PySem.Str} {px px₂ tp py : Pos} {tk} {scope : Scope} {cl : List (PySem.Str × Addr)} {pos spos : Pos} {Q : Flow → Shared → Prop} (F₀ : Fr h₀ L s.heap m) (hLe : env.locals = L)
    (hsw : swapsWith (.ListComp elt [⟨.Tuple [.Name x px, .Name x₂ px₂] tk tp, iter, [], 0⟩] scope pos) (some (.Name y py)) spos.line env = pure true)
    (hclos : closureFor scope env = pure cl) (hcell : ∀ z ∈ scope.names, z.2 ≠ .cell) (hkind : scope.kind = .function)
    (hnames : ∀ z ∈ scope.names, z.2 = .local → scope.names.lookup z.1 = some .local) (hx : scope.names.lookup x = some .local) (hx₂ : scope.names.lookup x₂ = some .local) (hxx : x ≠ x₂)
    (hy : env.kindOf y = some .local) (hp : (env.scope.kind == .class || (env.scope.kind == .module && env.locals != env.globals)) = false)
    (h : wpAny (model prog w) A (eval iter env) (SrcEnum prog w A h₀ L m env elt x x₂ scope cl (fun s₂ => LCg.FinA h₀ L m s₂ y Q)) E s)
    (hs : ∀ x, foldedSetIterable iter env x = pure x := by intro _; rfl) :
    wpAny (model prog w) A (exec (.Assign [.Name y py] (.ListComp elt [⟨.Tuple [.Name x px, .Name x₂ px₂] tk tp, iter, [], 0⟩] scope pos) spos) env) Q E s := by
  subst hLe
  rw [exec_Assign_Name_used _ _ _ _ hsw]
  refine wpAny_bind (wpAny_standAt (wpAny_bind ?_))
  show wpAny _ A (do let _ ← comprehension (.ListComp elt [⟨.Tuple [.Name x px, .Name x₂ px₂] tk tp, iter, [], 0⟩] scope pos) scope env _ (newList []) false (eval iter env) (some (assign (.Name y py) env))) _ _ s
  refine wpAny_bind (wpAny_mono (wpAny_comprehension_free (use := some (assign (.Name y py) env)) (Q := fun _ s' => Q .next s') rfl hs hclos hkind hnames
    (wpAny_mono h (fun xv s₁ h₁ => ?_) fun _ _ e => e)) (fun _ s' hq => wpAny_pure (wpAny_pure hq)) fun _ _ e => e)
  refine fold_G ?_
  intro G9
  obtain ⟨e, it, l, items, k, news, J, rfl, hh, F, N, hm, hsz, hE, hI, hei, he₀, hi₀, heL, hiL, off, hJ0, step, fin'⟩ := h₁
  refine wpAny_pyIter_enum hE ?_
  refine block_E hcell hkind hx hx₂ hxx hh F N hm hsz hE hI hei he₀ hi₀ heL hiL off hJ0 step ?_
  intro D C h' tk m' ys F' N' o1 hn hC₀ hD₀ hCL hDL hCD offC hJ hyl
  show wpAny _ A (assign (.Name y py) env (.ref D)) _ _ _
  refine wpAny_assign_Name (wpAny_storeName_local hy F'.ns (fun h₂ hn₂ hs₂ => ?_) hp)
  have hL₀ : h₀.get? env.locals = none := Heap.get?_none_of_le F'.above
  have F₂ : Fr h₀ env.locals h₂ (fun z => if z = y then some (.ref D) else m z) := ⟨hn₂, fun b o e => hs₂.extBut b o (fun q => by rw [q, hL₀] at e; cases e) (F'.keep b o e), F'.above⟩
  refine ⟨m', hn.sameBut hs₂ hCL, fun h'' hs'' => fin' _ ys hJ hyl ⟨s₁.heap, rfl⟩ D h'' _ (F₂.change hs'' hCL hC₀) (fun p hp => ?_) o1⟩
  have z : h₂.get? p.1 = some p.2 := hs₂.extBut _ _ (N' p hp).2.1 (N' p hp).1
  refine ⟨hs''.extBut _ _ ?_ z, (N' p hp).2⟩
  rcases List.mem_cons.mp hp with rfl | hp
  · exact Ne.symm hCD
  · exact offC p hp
/-- enumerate(list) as such a source -/
theorem src_enum {elt : Expr} {x x₂ : PySem.Str} {scope : Scope} {cl : List (PySem.Str × Addr)} {Fin : Shared → List Value → List (Addr × Obj) → Prop} {l : Addr} {items : Array Value} {k : Nat} {news : List (Addr × Obj)} (J : Nat → List Value → Prop)
    (hh : A.handled = none) (F : Fr h₀ L s.heap m) (N : News h₀ L s.heap news) (hm : (l, ({ cls := .type "list", data := .seq items k } : Obj)) ∈ news) (hsz : items.size ≤ sizeLine) (hJ0 : J 0 [])
    (step : ∀ i ys v t, items[i]? = some v → J i ys → ∀ C oC D m₂ h tk (E' : Value → Shared → Prop), LCg.NsObj oC m₂ → m₂ x = some (.int (i : Nat) t) → m₂ x₂ = some v → Fr h₀ L h m → News h₀ L h ((C, oC) :: (D, LCg.lst ys) :: news) →
      wpAny (model prog w) A (eval elt (compEnvC scope cl C env)) (fun y s' => (∃ tk', s' = { s with heap := h, toks := tk' }) ∧ J (i + 1) (ys ++ [y])) E' { s with heap := h, toks := tk })
    (fin' : ∀ g ys, J items.size ys → ys.length = items.size → Fin { s with heap := g } ys news) :
    wpAny (model prog w) A (call (.type "enumerate") [.ref l]) (SrcEnum prog w A h₀ L m env elt x x₂ scope cl Fin) E s := by
  have hax := N _ hm
  have hlt : l < s.heap.objs.size := Heap.lt_size hax.1
  have hLs : L < s.heap.objs.size := F.ns.lt
  refine call_enumerate_list ⟨_, hax.1, rfl, _, rfl⟩ fun h' hE hI hsz' hk => ?_
  refine ⟨s.heap.objs.size + 1, s.heap.objs.size, l, items, k, news, J, rfl, hh, F.keeps hk, N.grown hk, hm, hsz, hE, hI, Nat.succ_ne_self _, ktu_new F (Nat.le_add_right _ _), ktu_new F (Nat.le_refl _), Ne.symm (ktu_ne 1 hLs), Ne.symm (Nat.ne_of_lt hLs), fun p hp => ?_, hJ0, step, fun s₂ ys hJ hl ⟨h, e⟩ => e ▸ fin' h ys hJ hl⟩
  have hlp := Heap.lt_size (N p hp).1
  exact ⟨ktu_ne 1 hlp, Nat.ne_of_lt hlp⟩
end
end Mine
end
section
open PySem PySem.W PyProof.Rows PySem.Calls
set_option maxRecDepth 100000
namespace Mine
noncomputable def rangeItems : Nat → Nat → List Itm
  | _, 0 => []
  | i, k + 1 => .tok (fun t => .int (i : Int) t) :: rangeItems (i + 1) k
theorem rangeItems_len : ∀ (k i : Nat), (rangeItems i k).length = k
  | 0, _ => rfl
  | k + 1, i => congrArg (· + 1) (rangeItems_len k (i + 1))
theorem rangeItems_get : ∀ (k a i : Nat), i < k → (rangeItems a k)[i]? = some (.tok (fun t => .int ((a + i : Nat) : Int) t))
  | 0, _, _, h => by (first | lia | omega)
  | k + 1, a, 0, _ => rfl
  | k + 1, a, i + 1, h => by
    have q := rangeItems_get k (a + 1) i (by (first | lia | omega))
    have e : a + 1 + i = a + (i + 1) := by (first | lia | omega)
    rw [e] at q
    simpa [rangeItems] using q
section
variable {prog : Program} {w : World} {A : Around} {E : Value → Shared → Prop} {s : Shared} {env : Env} {h₀ : Heap} {body : List Stmt} {Q : Flow → Shared → Prop}
theorem range_turns {x : PySem.Str} {px : Pos} {n : Nat} {t : Tok} {m₀ : PySem.Str → Option Value} {news : List (Addr × Obj)}
    (hh : A.handled = none) (F : Fr h₀ env.locals s.heap m₀) (N : News h₀ env.locals s.heap news) (hn : n ≤ 4000)
    (rest₀ : ∀ I : Addr, (∀ p ∈ news, p.1 < I) → ItemsRest prog w A E h₀ env (.Name x px) body Q s [(I, "range_iterator")] [] (rangeItems 0 n) m₀ news) :
    wpAny (model prog w) A (call (.type "range") [.int (n : Nat) t]) (fun xv s₁ => wpAny (model prog w) A (pyIter xv) (fun it s₂ => TurnsAt prog w A h₀ env (.Name x px) body Q E it s₂) E s₁) E s := by
  have hsz : Builtin.Range.rangeSize 0 (n : Int) 1 = (n : Int) := by rw [rangeSize_one]; split <;> (first | lia | omega)
  refine call_range_1 (wpAny_pyIter_range (IsRange.new ..) (small_one (by decide) (by decide) (by (first | lia | omega)) (by (first | lia | omega))) ?_)
  rw [hsz]
  have hlt : s.heap.objs.size < (s.heap.push { cls := .type "range", data := .fields #[.int 0 s.toks, .int (n : Int) t, .int 1 (s.toks + 1)] }).objs.size := by rw [Heap.size_push]; exact Nat.lt_succ_self _
  have up1 : ∀ b o, s.heap.get? b = some o → (s.heap.push { cls := .type "range", data := .fields #[.int 0 s.toks, .int (n : Int) t, .int 1 (s.toks + 1)] }).get? b = some o := fun b o e => Heap.get?_push_of_some _ e
  show TurnsAt prog w A h₀ env (.Name x px) body Q E (.ref (s.heap.push { cls := .type "range", data := .fields #[.int 0 s.toks, .int (n : Int) t, .int 1 (s.toks + 1)] }).objs.size) { s with heap := (s.heap.push { cls := .type "range", data := .fields #[.int 0 s.toks, .int (n : Int) t, .int 1 (s.toks + 1)] }).push { cls := .type "range_iterator", data := .fields #[rawInt 0, rawInt (n : Int), rawInt 1] }, toks := s.toks + 1 + 1 }
  generalize s.heap.push { cls := .type "range", data := .fields #[.int 0 s.toks, .int (n : Int) t, .int 1 (s.toks + 1)] } = H at hlt up1 ⊢
  have up : ∀ b o, s.heap.get? b = some o → (H.push { cls := .type "range_iterator", data := .fields #[rawInt 0, rawInt (n : Int), rawInt 1] }).get? b = some o := fun b o e => Heap.get?_push_of_some _ (up1 b o e)
  have lt2 : ∀ b, b < s.heap.objs.size → b ≠ H.objs.size := fun b hb => Nat.ne_of_lt (Nat.lt_trans hb hlt)
  have hi₀ : h₀.get? H.objs.size = none := ktu_new F (Nat.le_of_lt hlt)
  refine ktu_core (s := s) (keep := []) (KTurns.ofWalks (LCg.range_walks hh 0 n).bound fun i v s Q E st q => ?_) (rangeItems_len _ _).symm (fun i v h hp => ?_) (fun i h st => ?_) (fun b hb => ?_) (fun b hb => by simpa using hb) (fun b hb => ?_) ?_ (fun p hp hI => ?_) ?_ (F.keeps up) (N.grown up) trivial (rest₀ _ fun p hp => ?_)
  · show wpAny _ _ (pure ()) _ _ _
    exact wpAny_pure q
  · obtain ⟨hlt, t', rfl⟩ := hp
    exact ⟨_, rangeItems_get n 0 i hlt, t', by rw [Nat.zero_add, Int.zero_add]⟩
  · exact ⟨[(H.objs.size, { cls := .type "range_iterator", dict := none, data := .fields #[rawInt (0 + (i : Int) * 1), rawInt ((n : Int) - (i : Int)), rawInt 1], slots := #[] })], ⟨⟨rfl, rfl⟩, trivial⟩, fun p hp => by rw [List.mem_singleton.mp hp]; exact st⟩
  · have hb' : b = H.objs.size := by simpa using hb
    rw [hb']
    exact ⟨List.mem_cons_self .., hi₀⟩
  · have hb' : b = H.objs.size := by simpa using hb
    exact .inl (by simp [hb'])
  · intro hI
    exact lt2 _ F.ns.lt (List.mem_singleton.mp hI)
  · exact lt2 _ (Heap.lt_size (N p hp).1) (List.mem_singleton.mp hI)
  · have := Heap.get?_push_size H (o := { cls := .type "range_iterator", data := .fields #[rawInt 0, rawInt (n : Int), rawInt 1] }) rfl
    show IsRangeIter _ _ _ _ _
    simpa using this
  · exact Nat.lt_trans (Heap.lt_size (N p hp).1) hlt
end
end Mine
end
section
open PySem PySem.W PyProof.Rows PySem.Calls
set_option maxRecDepth 100000
set_option maxHeartbeats 2000000
namespace Mine
section
variable {prog : Program} {w : World} {A : Around} {E : Value → Shared → Prop} {s : Shared} {h₀ : Heap} {L : Addr} {m : PySem.Str → Option Value} {env : Env} {K : Type} [DecidableEq K] {knd : KeyKind prog w K}
/-- such a turn's end -/
noncomputable def DictEnd (h₀ : Heap) (L : Addr) (m : PySem.Str → Option Value) (s₁ : Shared) (led : List (Addr × Obj)) (knd : KeyKind prog w K) (J : List (K × Value) → Prop) (kvs : List (K × Value)) (key y : Value) (s₄ : Shared) : Prop :=
  ∃ h' tk', s₄ = { s₁ with heap := h', toks := tk' } ∧ Fr h₀ L h' m ∧ News h₀ L h' led ∧ ∃ k, knd.is k key = true ∧ J (stored kvs k y)
/-- one turn of a dict's comprehension over a list -/
noncomputable def DictTurn (prog : Program) (w : World) (A : Around) (h₀ : Heap) (L : Addr) (m : PySem.Str → Option Value) (env : Env) (kx vx : Expr) (x : PySem.Str) (scope : Scope) (cl : List (PySem.Str × Addr)) (knd : KeyKind prog w K) (its : Array Value) (news : List (Addr × Obj)) (J : Nat → List (K × Value) → Prop) (s₁ : Shared) : Prop :=
  ∀ i v kvs, its[i]? = some v → J i kvs → ∀ I oI C oC D oD m₂ h tk (E' : Value → Shared → Prop), LCg.NsObj oC m₂ → m₂ x = some v → Fr h₀ L h m → News h₀ L h ((I, oI) :: (C, oC) :: (D, oD) :: news) →
    wpAny (model prog w) A (eval kx (compEnvC scope cl C env)) (fun key s₃ => wpAny (model prog w) A (eval vx (compEnvC scope cl C env)) (fun y s₄ => DictEnd h₀ L m s₁ ((I, oI) :: (C, oC) :: (D, oD) :: news) knd (J (i + 1)) kvs key y s₄) E' s₃) E' { s₁ with heap := h, toks := tk }
theorem block_D {kx vx iter : Expr} {x : PySem.Str} {px : Pos} {scope : Scope} {cl : List (PySem.Str × Addr)} {pos : Pos} {s₂ : Shared} {I ax : Addr} {its : Array Value} {kk : Nat} {news : List (Addr × Obj)} {J : Nat → List (K × Value) → Prop} {RR : Value → Addr → Result → Shared → Prop}
    (hcell : ∀ y ∈ scope.names, y.2 ≠ .cell) (hkind : scope.kind = .function) (hx : scope.names.lookup x = some .local) (hh : A.handled = none)
    (F : Fr h₀ L s₂.heap m) (N : News h₀ L s₂.heap news) (hm : (ax, ({ cls := .type "list", data := .seq its kk } : Obj)) ∈ news) (hsz : its.size ≤ sizeLine) (hI : s₂.heap.IsListIter I ax 0) (hi₀ : h₀.get? I = none) (hiL : L ≠ I)
    (off : ∀ p ∈ news, p.1 ≠ I) (hJ0 : J 0 []) (hlen : ∀ i kvs, J i kvs → kvs.length ≤ i)
    (step : DictTurn prog w A h₀ L m env kx vx x scope cl knd its news J s₂)
    (hRR : ∀ D C oC oD h tk m' kvs, LCg.NsObj oC m' → Fr h₀ L h m → News h₀ L h ((C, oC) :: (D, oD) :: news) → (∀ p ∈ news, p.1 ≠ C ∧ p.1 ≠ D) → C ≠ D → s₂.heap.objs.size ≤ D → J its.size kvs → oD.IsDictOf knd kvs → RR (.ref D) C (.ok .next) { s₂ with heap := h, toks := tk }) :
    wpAny (model prog w) A newDict (fun acc s₃ => wpAny (model prog w) A (newFunctionEnv scope env.globals cl [] env.qual none .none (some env)) (fun cenv s₄ =>
      codeAny (model prog w) A (.compStart (.DictComp kx vx [⟨.Name x px, iter, [], 0⟩] scope pos) 0 (.ref I) acc { cenv with scope := relabel scope env }) (RR acc cenv.locals) s₄) E s₃) E s₂ := by
  refine wpAny_newObj_type (wpAny_newFunctionEnv hcell (by intro y hy; simp at hy) (fun h₁ hns₁ hsb₁ => ?_) hkind)
  dsimp only at hns₁ hsb₁ ⊢
  have hax := N _ hm
  have hlI := off _ hm
  have W := Walks.list (prog := prog) (w := w) (A := A) hh I ax hlI its
  have hnew : (s₂.heap.push { cls := .type "dict", dict := none, data := .dict #[] }).DictOf knd s₂.heap.objs.size [] := Heap.DictOf.new s₂.heap
  generalize hH2 : s₂.heap.push { cls := .type "dict", dict := none, data := .dict #[] } = H2 at hns₁ hsb₁ hnew ⊢
  have hC : H2.objs.size = s₂.heap.objs.size + 1 := by rw [← hH2, Heap.size_push]
  have hDC : s₂.heap.objs.size ≠ H2.objs.size := by rw [hC]; exact Nat.ne_of_lt (Nat.lt_succ_self _)
  have below : ∀ b, b < s₂.heap.objs.size → b ≠ H2.objs.size ∧ b ≠ s₂.heap.objs.size := fun b hb => ⟨by rw [hC]; exact Nat.ne_of_lt (Nat.lt_succ_of_lt hb), Nat.ne_of_lt hb⟩
  have hIlt : I < s₂.heap.objs.size := by obtain ⟨_, x, _⟩ := hI; exact Heap.lt_size x
  have haxlt : ax < s₂.heap.objs.size := Heap.lt_size hax.1
  have old : ∀ b o, s₂.heap.get? b = some o → h₁.get? b = some o := fun b o e => hsb₁.extBut b o (below b (Heap.lt_size e)).1 (Heap.get?_push_of_some _ (hH2 ▸ Heap.get?_push_of_some _ e))
  have hacc : h₁.DictOf knd s₂.heap.objs.size [] := hnew.at fun o e => hsb₁.extBut _ _ hDC (Heap.get?_push_of_some _ e)
  have fresh : ∀ a, s₂.heap.objs.size ≤ a → s₂.heap.get? a = none := fun a ha => by
    cases e : s₂.heap.get? a with
    | none => rfl
    | some o' => exact absurd (Heap.lt_size e) (Nat.not_lt.mpr ha)
  have fresh₀ : ∀ a, s₂.heap.objs.size ≤ a → h₀.get? a = none := fun a ha => by
    cases e : h₀.get? a with
    | none => rfl
    | some o' => have := F.keep a o' e; rw [fresh a ha] at this; cases this
  have hD₀ : h₀.get? s₂.heap.objs.size = none := fresh₀ _ (Nat.le_refl _)
  have hC₀ : h₀.get? H2.objs.size = none := fresh₀ _ (by rw [hC]; exact Nat.le_succ _)
  have hLlt : L < s₂.heap.objs.size := F.ns.lt
  have hDL : s₂.heap.objs.size ≠ L := Ne.symm (below L hLlt).2
  have hCL : H2.objs.size ≠ L := Ne.symm (below L hLlt).1
  have hCI : I ≠ H2.objs.size := (below I hIlt).1
  have hDI : I ≠ s₂.heap.objs.size := (below I hIlt).2
  have nb : ∀ p ∈ news, p.1 ≠ H2.objs.size ∧ p.1 ≠ s₂.heap.objs.size := fun p hp => below _ (Heap.lt_size (N p hp).1)
  have loop : ∀ s₃ : Shared, s₃ = { s₂ with heap := h₁, toks := s₂.toks + ([] : List (PySem.Str × Value)).length } →
      codeAny (model prog w) A (.compLoop (.DictComp kx vx [⟨.Name x px, iter, [], 0⟩] scope pos) 0 (.ref I) (.ref s₂.heap.objs.size) (compEnvC scope cl H2.objs.size env))
        (RR (.ref s₂.heap.objs.size) H2.objs.size) s₃ := by
    rintro s₃ rfl
    refine codeAny_compLoop_testsD
      (fun k s' => ∃ h' tk i kvs m', s' = { s₂ with heap := h', toks := tk } ∧ i ≤ its.size ∧ k = its.size + 1 - i ∧ (h'.IsListIter I ax i ∧ h'.IsList ax its) ∧ Fr h₀ L h' m ∧ h'.Ns H2.objs.size m' ∧ News h₀ L h' news ∧ h'.DictOf knd s₂.heap.objs.size kvs ∧ J i kvs) ?_ (its.size + 1)
      ⟨h₁, _, 0, [], _, rfl, Nat.zero_le _, rfl, ⟨hI.at fun o e => old _ o e, _, old _ _ hax.1, rfl, _, rfl⟩, F.keeps old, hns₁, fun p hp => ⟨old _ _ (N p hp).1, (N p hp).2⟩, hacc, hJ0⟩
    intro k s' hZ9
    refine fold_G ?_
    intro G9
    obtain ⟨h', tk, i, kvs, m', rfl, hi, rfl, hst', F', hn', N', hD', hJ⟩ := hZ9
    have next : ∀ h₂ : Heap, (∀ b o, b ∉ [I] → h'.get? b = some o → h₂.get? b = some o) → Fr h₀ L h₂ m ∧ News h₀ L h₂ news ∧ h₂.Ns H2.objs.size m' ∧ h₂.DictOf knd s₂.heap.objs.size kvs := fun h₂ hk =>
      ⟨⟨F'.ns.at' fun o e => hk _ o (by simpa using hiL) e, fun b o e => hk b o (fun hm => by rw [List.mem_singleton.mp hm, hi₀] at e; cases e) (F'.keep b o e), F'.above⟩, fun p hp => ⟨hk _ _ (by simpa using off p hp) (N' p hp).1, (N' p hp).2⟩,
        hn'.at' fun o e => hk _ o (by simpa using Ne.symm hCI) e, hD'.at fun o e => hk _ o (by simpa using Ne.symm hDI) e⟩
    by_cases hlt : i < its.size
    · refine W.item i _ _ _ hlt hst' fun v h₂ tk₂ hPv hst₂ hk₂ => ?_
      refine fold_G ?_
      intro G9
      obtain ⟨F₂, N₂, hn₂, hD₂⟩ := next h₂ hk₂
      refine wpAny_assign_Name (wpAny_storeName_local (lookup_relabel_local hx) hn₂ (fun h₃ hn₃ hs₃ => ?_) (by simp [compEnvC, relabel, hkind]))
      refine wpAny_mono (wpAny_tests_nil (Q := fun ok s₃ => ok = true ∧ s₃ = _) ⟨rfl, rfl⟩) (fun ok s₃ hq => ?_) fun _ _ e => e
      obtain ⟨rfl, rfl⟩ := hq
      simp only [if_true]
      have old3 : ∀ b o, b ≠ H2.objs.size → h₂.get? b = some o → h₃.get? b = some o := fun b o hb e => hs₃.extBut b o hb e
      refine fold_G ?_
      intro G9
      obtain ⟨oC, heC, hoC⟩ := LCg.ns_obj hn₃
      refine fold_G ?_
      intro G9
      obtain ⟨oI, heI, hoI⟩ := hst₂.1
      refine fold_G ?_
      intro G9
      obtain ⟨oD, heD, hoD⟩ := Heap.dictOf_iff.mp hD₂
      have F₃ : Fr h₀ L h₃ m := F₂.change hs₃ hCL hC₀
      have N₃ : News h₀ L h₃ ((I, oI) :: (H2.objs.size, oC) :: (s₂.heap.objs.size, oD) :: news) := fun p hp => by
        rcases List.mem_cons.mp hp with rfl | hp
        · exact ⟨old3 _ _ hCI heI, Ne.symm hiL, hi₀⟩
        · rcases List.mem_cons.mp hp with rfl | hp
          · exact ⟨heC, hCL, hC₀⟩
          · rcases List.mem_cons.mp hp with rfl | hp
            · exact ⟨old3 _ _ hDC heD, hDL, hD₀⟩
            · exact ⟨old3 _ _ (nb p hp).1 (N₂ p hp).1, (N₂ p hp).2⟩
      refine wpAny_mono (step i v kvs hPv hJ I oI H2.objs.size oC s₂.heap.objs.size oD _ h₃ _ _ hoC (by simp) F₃ N₃) (fun key s₄ h₄ => wpAny_mono h₄ (fun y s₅ h₅ => ?_) fun _ _ e => e) fun _ _ e => e
      refine fold_G ?_
      intro G9
      obtain ⟨h₄, tk₄, rfl, F₄, N₄, kq, hkey, hJ'⟩ := h₅
      have zD : h₄.DictOf knd s₂.heap.objs.size kvs := Heap.dictOf_iff.mpr ⟨oD, (N₄ _ (.tail _ (.tail _ (.head _)))).1, hoD⟩
      refine wpAny_dictSet_pairs (hsz := Nat.le_trans (hlen i kvs hJ) (Nat.le_trans hi hsz)) hkey zD fun h₆ hl₆ hs₆ => ?_
      have zI : h₆.get? I = some oI := hs₆.extBut _ _ hDI (N₄ _ (.head _)).1
      have zC : h₆.get? H2.objs.size = some oC := hs₆.extBut _ _ (Ne.symm hDC) (N₄ _ (.tail _ (.head _))).1
      have zn : ∀ p ∈ news, h₆.get? p.1 = some p.2 := fun p hp => hs₆.extBut _ _ (nb p hp).2 (N₄ p (.tail _ (.tail _ (.tail _ hp)))).1
      exact ⟨its.size + 1 - (i + 1), by omega, h₆, _, i + 1, _, _, rfl, hlt, rfl, ⟨⟨oI, zI, hoI⟩, _, zn _ hm, rfl, _, rfl⟩, F₄.change hs₆ hDL hD₀, hoC.ns zC, fun p hp => ⟨zn p hp, (N' p hp).2⟩, hl₆, hJ'⟩
    · obtain rfl : i = its.size := Nat.le_antisymm hi (Nat.not_lt.mp hlt)
      refine W.done _ _ _ hst' fun h₂ tk₂ hk₂ => ?_
      refine fold_G ?_
      intro G9
      obtain ⟨F₂, N₂, hn₂, hD₂⟩ := next h₂ hk₂
      refine fold_G ?_
      intro G9
      obtain ⟨oC, heC, hoC⟩ := LCg.ns_obj hn₂
      refine fold_G ?_
      intro G9
      obtain ⟨oD, heD, hoD⟩ := Heap.dictOf_iff.mp hD₂
      refine hRR _ _ oC oD h₂ tk₂ _ kvs hoC F₂ (fun p hp => ?_) nb (Ne.symm hDC) (Nat.le_refl _) hJ hoD
      rcases List.mem_cons.mp hp with rfl | hp
      · exact ⟨heC, hCL, hC₀⟩
      · rcases List.mem_cons.mp hp with rfl | hp
        · exact ⟨heD, hDL, hD₀⟩
        · exact N₂ p hp
  exact codeAny_compStart_dict (loop _ rfl) (W.self 0 _ _ _ ⟨hI.at fun o e => old _ o e, _, old _ _ hax.1, rfl, _, rfl⟩ (loop _ rfl))
noncomputable def SrcD (prog : Program) (w : World) (A : Around) (h₀ : Heap) (L : Addr) (m : PySem.Str → Option Value) (env : Env) (kx vx : Expr) (x : PySem.Str) (scope : Scope) (cl : List (PySem.Str × Addr)) (Fin : Shared → Prop) (knd : KeyKind prog w K) (its : Array Value) (news : List (Addr × Obj)) (J : Nat → List (K × Value) → Prop) (xv : Value) (s₁ : Shared) : Prop :=
  ∃ (ax : Addr) (k : Nat), xv = .ref ax ∧ A.handled = none ∧ Fr h₀ L s₁.heap m ∧ News h₀ L s₁.heap news ∧ (ax, ({ cls := .type "list", data := .seq its k } : Obj)) ∈ news ∧ its.size ≤ sizeLine ∧ J 0 [] ∧ (∀ i kvs, J i kvs → kvs.length ≤ i) ∧
    (∀ g, DictTurn prog w A h₀ L m env kx vx x scope cl knd its news J { s₁ with heap := g }) ∧ (∀ g, Fin { s₁ with heap := g })
theorem DictComp_list {kx vx iter : Expr} {x : PySem.Str} {px : Pos} {scope : Scope} {cl : List (PySem.Str × Addr)} {pos : Pos} {Q : Value → Shared → Prop} {its : Array Value} {news : List (Addr × Obj)} {J : Nat → List (K × Value) → Prop}
    (hclos : closureFor scope env = pure cl) (hcell : ∀ z ∈ scope.names, z.2 ≠ .cell) (hkind : scope.kind = .function)
    (hnames : ∀ z ∈ scope.names, z.2 = .local → scope.names.lookup z.1 = some .local) (hx : scope.names.lookup x = some .local) (hbig : sysModules < h₀.objs.size)
    (h : wpAny (model prog w) A (eval iter env) (SrcD prog w A h₀ L m env kx vx x scope cl (fun s₁ => ∀ D oD kvs h' tk, J its.size kvs → Fr h₀ L h' m → News h₀ L h' ((D, oD) :: news) → (∀ p ∈ news, p.1 < D) → (D == sysModules) = false → oD.IsDictOf knd kvs →
      Q (.ref D) { s₁ with heap := h', toks := tk }) knd its news J) E s)
    (hs : ∀ x, foldedSetIterable iter env x = pure x := by intro _; rfl) :
    wpAny (model prog w) A (eval (.DictComp kx vx [⟨.Name x px, iter, [], 0⟩] scope pos) env) Q E s := by
  rw [arm_eval_DictComp]
  refine wpAny_comprehension_free (use := none) rfl hs hclos hkind hnames (wpAny_mono h (fun xv s₁ h₁ => ?_) fun _ _ e => e)
  refine fold_G ?_
  intro G9
  obtain ⟨ax, k, rfl, hh, F, N, hm, hsz, hJ0, hlen, step, fin⟩ := h₁
  have hax := N _ hm
  have hl : s₁.heap.IsList ax its := ⟨_, hax.1, rfl, _, rfl⟩
  refine wpAny_pyIter_list hl ?_
  have up : ∀ b o, s₁.heap.get? b = some o → (s₁.heap.push { cls := .type "list_iterator", data := .fields #[.ref ax, .int 0 0] }).get? b = some o := fun b o e => Heap.get?_push_of_some _ e
  refine block_D (J := J) (RR := fun acc C => compPost (model prog w) A E none Q acc C) hcell hkind hx hh (F.keeps up) (N.grown up) hm hsz ⟨_, Heap.get?_push_size _ rfl, rfl, rfl⟩ (next_is_new F) (Nat.ne_of_lt F.ns.lt) (fun p hp => Nat.ne_of_lt (Heap.lt_size (N p hp).1)) hJ0 hlen (step _) ?_
  intro D C oC oD h₂ tk m' kvs hoC F' N' nbs hCD hDge hJ hoD
  have hCN := (N' _ (.head _)).2
  refine ⟨m', hoC.ns (N' _ (.head _)).1, fun h'' hs'' => fin s₁.heap D oD kvs h'' _ hJ (F'.change hs'' hCN.1 hCN.2) (fun p hp => ?_) (fun p hp => ?_) ?_ hoD⟩
  · have z := N' p (.tail _ hp)
    refine ⟨hs''.extBut _ _ ?_ z.1, z.2⟩
    rcases List.mem_cons.mp hp with rfl | hp
    · exact Ne.symm hCD
    · exact (nbs p hp).1
  · exact Nat.lt_of_lt_of_le (Nat.lt_trans (Heap.lt_size (N p hp).1) (by rw [Heap.size_push]; exact Nat.lt_succ_self _)) hDge
  · refine beq_eq_false_iff_ne.mpr (Nat.ne_of_gt (Nat.lt_of_lt_of_le (Nat.lt_trans hbig (Nat.lt_of_le_of_lt F.above F.ns.lt)) (Nat.le_trans ?_ hDge)))
    rw [Heap.size_push]; exact Nat.le_succ _
end
end Mine
end
open PySem PySem.W PyProof.Rows Mine
local macro_rules | `(tactic| walk_at $s:str) => `(tactic| k_extra $s)
local macro_rules | `(tactic| walk_at "pyIter ref") => `(tactic| k_extra "own pyIter ref")
local macro_rules | `(tactic| ktr_enter) => `(tactic| k_extra "ktr_enter")
local macro_rules | `(tactic| k_room) => `(tactic| k_extra "k_room")
local macro_rules | `(tactic| k_all) => `(tactic| k_extra "k_all")
local macro_rules | `(tactic| ktr_room) => `(tactic| k_extra "ktr_room")
local macro_rules | `(tactic| ktr_units) => `(tactic| k_extra "ktr_units")
local macro_rules | `(tactic| k_ne) => `(tactic| k_extra "k_ne")
local macro_rules | `(tactic| k_mem) => `(tactic| k_extra "k_mem")
section
open PySem PySem.W PyProof.Rows
set_option maxRecDepth 100000
set_option maxHeartbeats 8000000
namespace Mine
theorem kf1 : (PySem.Challenge.rw_ik0083_01, Mine.K) = (PySem.Challenge.rw_ik0083_01, Mine.K) := by
  k_fill
  rfl
theorem rows_S1_1 : True := by
  k_with_none
  (k_with "ktr_enter" => (refine' code_def ?k1 ?k2 ?k3 ?k4 ?k5 ?kA ?kF ?kK ?k6 ?k7 ?k8 ?k9 ?kB ?_ ?c2 ?c3 ?c4 ?c5; (case kA => exact rfl); (case kF => exact rfl); (case kK => assumption); (case k1 => k_asm); (case k2 => k_asm); (case k3 => k_asm); (case k4 => k_asm); (case k5 => k_asm); (case k6 => k_is); (case k7 => k_is); (case k8 => ktr_room); (case k9 => first | exact BindsTo.of_eq rfl | exact binds_K (by k_in) rfl (by k_is) rfl rfl rfl); (case c5 => decide); (case kB => exact locs rfl); (case c2 => exact rfl); (case c3 => exact rfl); (case c4 => exact rfl); k_whole; intro g' L' h' FG' F' N' B' X' T'; (try dsimp only); (try k_fold); (try (refine fold_A ?_; intro A9))))
  (k_with "k_room" => ktr_room)
  (k_with "k_all" => assumption)
  (k_with "ktr_room" => ((with_reducible rename _ + _ < recursionLimit => hd9); first | exact room_ 0 hd9 rfl rfl | exact room_ 1 hd9 rfl rfl | exact room_ 2 hd9 rfl rfl | exact room_ 3 hd9 rfl rfl | exact room_ 4 hd9 rfl rfl | exact room_ 5 hd9 rfl rfl | exact room_ 6 hd9 rfl rfl | exact room_ 7 hd9 rfl rfl | exact room_ 8 hd9 rfl rfl | exact room_ 9 hd9 rfl rfl | exact room_ 10 hd9 rfl rfl | exact room_ 11 hd9 rfl rfl | exact room_ 12 hd9 rfl rfl | exact room_ 13 hd9 rfl rfl | exact room_ 14 hd9 rfl rfl | exact room_ 15 hd9 rfl rfl | exact room_ 16 hd9 rfl rfl | exact room_ 17 hd9 rfl rfl | exact room_ 18 hd9 rfl rfl | exact room_ 19 hd9 rfl rfl | exact room_ 20 hd9 rfl rfl | exact room_ 21 hd9 rfl rfl | exact room_ 22 hd9 rfl rfl | exact room_ 23 hd9 rfl rfl | exact room_ 24 hd9 rfl rfl | exact room_ 25 hd9 rfl rfl))
  (k_with "ktr_units" => ((with_reducible rename _ + _ < cLine => hu9); first | exact units_ 0 hu9 rfl rfl | exact units_ 1 hu9 rfl rfl | exact units_ 2 hu9 rfl rfl | exact units_ 3 hu9 rfl rfl | exact units_ 4 hu9 rfl rfl | exact units_ 5 hu9 rfl rfl | exact units_ 6 hu9 rfl rfl | exact units_ 7 hu9 rfl rfl | exact units_ 8 hu9 rfl rfl | exact units_ 9 hu9 rfl rfl | exact units_ 10 hu9 rfl rfl | exact units_ 11 hu9 rfl rfl | exact units_ 12 hu9 rfl rfl | exact units_ 13 hu9 rfl rfl | exact units_ 14 hu9 rfl rfl | exact units_ 15 hu9 rfl rfl | exact units_ 16 hu9 rfl rfl | exact units_ 17 hu9 rfl rfl | exact units_ 18 hu9 rfl rfl | exact units_ 19 hu9 rfl rfl | exact units_ 20 hu9 rfl rfl | exact units_ 21 hu9 rfl rfl | exact units_ 22 hu9 rfl rfl | exact units_ 23 hu9 rfl rfl | exact units_ 24 hu9 rfl rfl | exact units_ 25 hu9 rfl rfl | exact units_ 26 hu9 rfl rfl | exact units_ 27 hu9 rfl rfl | exact units_ 28 hu9 rfl rfl | exact units_ 29 hu9 rfl rfl | exact units_ 30 hu9 rfl rfl | exact units_ 31 hu9 rfl rfl | exact units_ 32 hu9 rfl rfl | exact units_ 33 hu9 rfl rfl | exact units_ 34 hu9 rfl rfl | exact units_ 35 hu9 rfl rfl | exact units_ 36 hu9 rfl rfl | exact units_ 37 hu9 rfl rfl | exact units_ 38 hu9 rfl rfl | exact units_ 39 hu9 rfl rfl | exact units_ 40 hu9 rfl rfl | exact units_ 41 hu9 rfl rfl | exact units_ 42 hu9 rfl rfl | exact units_ 43 hu9 rfl rfl | exact units_ 44 hu9 rfl rfl | exact units_ 45 hu9 rfl rfl | exact units_ 46 hu9 rfl rfl | exact units_ 47 hu9 rfl rfl | exact units_ 48 hu9 rfl rfl | exact units_ 49 hu9 rfl rfl | exact units_ 50 hu9 rfl rfl | exact units_ 51 hu9 rfl rfl | exact units_ 52 hu9 rfl rfl | exact units_ 53 hu9 rfl rfl | exact units_ 54 hu9 rfl rfl | exact units_ 55 hu9 rfl rfl | exact units_ 56 hu9 rfl rfl | exact units_ 57 hu9 rfl rfl | exact units_ 58 hu9 rfl rfl | exact units_ 59 hu9 rfl rfl | exact units_ 60 hu9 rfl rfl))
  (k_with "k_ne" => (first | exact Nat.ne_of_lt (by assumption) | exact Nat.ne_of_gt (by assumption) | assumption | exact Ne.symm (by assumption) | exact Nat.ne_of_lt (And.left (by assumption)) | exact Nat.ne_of_gt (And.left (by assumption)) | exact Nat.ne_of_lt (And.left (And.right (by assumption))) | exact Nat.ne_of_gt (And.left (And.right (by assumption))) | exact Nat.ne_of_lt (And.left (And.right (And.right (by assumption)))) | exact Nat.ne_of_gt (And.left (And.right (And.right (by assumption)))) | exact Nat.ne_of_lt (And.left (And.right (And.right (And.right (by assumption))))) | exact Nat.ne_of_gt (And.left (And.right (And.right (And.right (by assumption))))) | exact Nat.ne_of_lt (And.left (And.right (And.right (And.right (And.right (by assumption)))))) | exact Nat.ne_of_gt (And.left (And.right (And.right (And.right (And.right (by assumption)))))) | exact Nat.ne_of_lt (And.left (And.right (And.right (And.right (And.right (And.right (by assumption))))))) | exact Nat.ne_of_gt (And.left (And.right (And.right (And.right (And.right (And.right (by assumption))))))) | exact Nat.ne_of_lt (And.left (And.right (And.right (And.right (And.right (And.right (And.right (by assumption)))))))) | exact Nat.ne_of_gt (And.left (And.right (And.right (And.right (And.right (And.right (And.right (by assumption)))))))) | exact Nat.ne_of_lt (And.left (And.right (And.right (And.right (And.right (And.right (And.right (And.right (by assumption))))))))) | exact Nat.ne_of_gt (And.left (And.right (And.right (And.right (And.right (And.right (And.right (And.right (by assumption))))))))) | exact Nat.ne_of_lt (And.left (And.right (And.right (And.right (And.right (And.right (And.right (And.right (And.right (by assumption)))))))))) | exact Nat.ne_of_gt (And.left (And.right (And.right (And.right (And.right (And.right (And.right (And.right (And.right (by assumption)))))))))) | exact Nat.ne_of_lt (And.left (And.right (And.right (And.right (And.right (And.right (And.right (And.right (And.right (And.right (by assumption))))))))))) | exact Nat.ne_of_gt (And.left (And.right (And.right (And.right (And.right (And.right (And.right (And.right (And.right (And.right (by assumption))))))))))) | (refine neN ?_; (try dsimp only); (first | lia | omega))))
  (k_with "exec If" => (refine if_fold ?_; intro q8))
  (k_with "isTrue Compare" => (refine is_cmp ?_))
  (k_with "ite" => (k_here; first | with_reducible refine ite_tt ?_ | with_reducible refine ite_ff ?_ | k_dflt (first | refine ite_pos (by decide) ?_ | refine ite_neg (by decide) ?_)))
  (k_with "execs cons" => (first | (rename Shared => s9; refine stmt_cons s9 ?_; intro t9 s8 q8) | (refine wpAny_execs_cons ?_; (try k_fold))))
  exact trivial
section
variable {w : World} {mean : ExcName → Option Value} {mg mb : PySem.Str → Option Value} {dp un : Nat} {gd : Option (List Code)} {cn : PySem.Str} {cs : Scope} {a : Addr} {ccd : Value} {cl : List (PySem.Str × Addr)} {outer : List Env} {A₀ : Around} {base h₀ : Heap} {L : Addr} {m : PySem.Str → Option Value} {news : List (Addr × Obj)} {s : Shared} {Q E : Value → Shared → Prop}

/-- StringIO's dict -/
noncomputable abbrev sioEs (P : Params) (k1 k2 k3 t1 t2 t3 : Tok) (x : PySem.Str) (p : Int) : List DictEntry :=
  [ent P "_StringIO__newline" k1 (.str "\n" t1), ent P "_StringIO__buf" k2 (.str x t2), ent P "_StringIO__pos" k3 (.int p t3)]

theorem read_spec {sx sd : Addr} {k1 k2 k3 t1 t2 t3 tk : Tok} {l : List Nat} {p : Nat}
  (B : Below A₀ base outer h₀) (F : Fr h₀ L s.heap m) (X : (Mine.K w.params).In h₀)
  (N : News h₀ L s.heap ((sx, instObj 587 sd) :: (sd, dictOf (sioEs w.params k1 k2 k3 t1 t2 t3 (st l) p) 3) :: news)) (T : Top VW LOO mean mg mb h₀) (hk : cs.kind = .function)
  (hdp : dp + 4 < recursionLimit) (hu : un + 40 < cLine) (hne : @Ne Nat sd sx) (hnn : ∀ q ∈ news, q.1 ≠ sd) (hx : l.length ≤ 4000) (hp : p ≤ l.length)
  (hret : ∀ t t3' h' tk', Fr h₀ L h' m → News h₀ L h' ((sx, instObj 587 sd) :: (sd, dictOf (sioEs w.params k1 k2 k3 t1 t2 t3' (st l) (min (p + 1) l.length : Nat)) 3) :: news) → Q (.str (st ((l.drop p).take 1)) t) {s with heap := h', toks := tk'}) :
  wpAny (model PRG w) (ktrTop dp un gd cn cs L a ccd cl outer) (call (.ref 533) [.ref sx, .int 1 tk]) Q E s := by
  have hsl := st_len l
  have hx' : (st l).length ≤ 4000 := by (first | lia | omega)
  refine wpAny_call ?_
  k_dflt ktr_enter
  k_steps
  · have e : (l.drop p).take 1 = [] := by rw [List.drop_eq_nil_of_le (by (first | lia | omega))]; rfl
    have e2 : min (p + 1) l.length = p := by (first | lia | omega)
    rw [e, e2] at hret
    refine' hret _ _ _ _ ?e1 ?e2
    case e1 => k_asm
    case e2 => k_asm
  · have e2 : (((min (p + 1) l.length : Nat)) : Int) = (p : Int) + 1 := by (first | lia | omega)
    rw [e2] at hret
    rw [read_one (by (first | lia | omega))]
    refine' hret _ _ _ _ ?e1 ?e2
    case e1 => k_asm
    case e2 => k_asm
  · have e3 : p + 1 = l.length := by (first | lia | omega)
    have e2 : min (p + 1) l.length = l.length := by (first | lia | omega)
    rw [e2] at hret
    rw [hsl, read_last e3]
    refine' hret _ _ _ _ ?e1 ?e2
    case e1 => k_asm
    case e2 => rw [← hsl]; k_asm
end
end Mine
end
section
open PySem PySem.W PyProof.Rows
set_option maxRecDepth 100000
set_option maxHeartbeats 8000000
namespace Mine
theorem kf2 : (PySem.Challenge.rw_ik0083_01, Mine.K) = (PySem.Challenge.rw_ik0083_01, Mine.K) := by
  k_fill
  rfl


theorem rows_S2_1 : True := by
  k_with_none
  (k_with "ktr_enter" => (refine' code_def ?k1 ?k2 ?k3 ?k4 ?k5 ?kA ?kF ?kK ?k6 ?k7 ?k8 ?k9 ?kB ?_ ?c2 ?c3 ?c4 ?c5; (case kA => exact rfl); (case kF => exact rfl); (case kK => assumption); (case k1 => k_asm); (case k2 => k_asm); (case k3 => k_asm); (case k4 => k_asm); (case k5 => k_asm); (case k6 => k_is); (case k7 => k_is); (case k8 => ktr_room); (case k9 => first | exact BindsTo.of_eq rfl | exact binds_K (by k_in) rfl (by k_is) rfl rfl rfl); (case c5 => decide); (case kB => exact locs rfl); (case c2 => exact rfl); (case c3 => exact rfl); (case c4 => exact rfl); k_whole; intro g' L' h' FG' F' N' B' X' T'; (try dsimp only); (try k_fold); (try (refine fold_A ?_; intro A9))))
  (k_with "k_room" => ktr_room)
  (k_with "k_all" => assumption)
  (k_with "ktr_room" => ((with_reducible rename _ + _ < recursionLimit => hd9); first | exact room_ 0 hd9 rfl rfl | exact room_ 1 hd9 rfl rfl | exact room_ 2 hd9 rfl rfl | exact room_ 3 hd9 rfl rfl | exact room_ 4 hd9 rfl rfl | exact room_ 5 hd9 rfl rfl | exact room_ 6 hd9 rfl rfl | exact room_ 7 hd9 rfl rfl | exact room_ 8 hd9 rfl rfl | exact room_ 9 hd9 rfl rfl | exact room_ 10 hd9 rfl rfl | exact room_ 11 hd9 rfl rfl | exact room_ 12 hd9 rfl rfl | exact room_ 13 hd9 rfl rfl | exact room_ 14 hd9 rfl rfl | exact room_ 15 hd9 rfl rfl | exact room_ 16 hd9 rfl rfl | exact room_ 17 hd9 rfl rfl | exact room_ 18 hd9 rfl rfl | exact room_ 19 hd9 rfl rfl | exact room_ 20 hd9 rfl rfl | exact room_ 21 hd9 rfl rfl | exact room_ 22 hd9 rfl rfl | exact room_ 23 hd9 rfl rfl | exact room_ 24 hd9 rfl rfl | exact room_ 25 hd9 rfl rfl))
  (k_with "ktr_units" => ((with_reducible rename _ + _ < cLine => hu9); first | exact units_ 0 hu9 rfl rfl | exact units_ 1 hu9 rfl rfl | exact units_ 2 hu9 rfl rfl | exact units_ 3 hu9 rfl rfl | exact units_ 4 hu9 rfl rfl | exact units_ 5 hu9 rfl rfl | exact units_ 6 hu9 rfl rfl | exact units_ 7 hu9 rfl rfl | exact units_ 8 hu9 rfl rfl | exact units_ 9 hu9 rfl rfl | exact units_ 10 hu9 rfl rfl | exact units_ 11 hu9 rfl rfl | exact units_ 12 hu9 rfl rfl | exact units_ 13 hu9 rfl rfl | exact units_ 14 hu9 rfl rfl | exact units_ 15 hu9 rfl rfl | exact units_ 16 hu9 rfl rfl | exact units_ 17 hu9 rfl rfl | exact units_ 18 hu9 rfl rfl | exact units_ 19 hu9 rfl rfl | exact units_ 20 hu9 rfl rfl | exact units_ 21 hu9 rfl rfl | exact units_ 22 hu9 rfl rfl | exact units_ 23 hu9 rfl rfl | exact units_ 24 hu9 rfl rfl | exact units_ 25 hu9 rfl rfl | exact units_ 26 hu9 rfl rfl | exact units_ 27 hu9 rfl rfl | exact units_ 28 hu9 rfl rfl | exact units_ 29 hu9 rfl rfl | exact units_ 30 hu9 rfl rfl | exact units_ 31 hu9 rfl rfl | exact units_ 32 hu9 rfl rfl | exact units_ 33 hu9 rfl rfl | exact units_ 34 hu9 rfl rfl | exact units_ 35 hu9 rfl rfl | exact units_ 36 hu9 rfl rfl | exact units_ 37 hu9 rfl rfl | exact units_ 38 hu9 rfl rfl | exact units_ 39 hu9 rfl rfl | exact units_ 40 hu9 rfl rfl | exact units_ 41 hu9 rfl rfl | exact units_ 42 hu9 rfl rfl | exact units_ 43 hu9 rfl rfl | exact units_ 44 hu9 rfl rfl | exact units_ 45 hu9 rfl rfl | exact units_ 46 hu9 rfl rfl | exact units_ 47 hu9 rfl rfl | exact units_ 48 hu9 rfl rfl | exact units_ 49 hu9 rfl rfl | exact units_ 50 hu9 rfl rfl | exact units_ 51 hu9 rfl rfl | exact units_ 52 hu9 rfl rfl | exact units_ 53 hu9 rfl rfl | exact units_ 54 hu9 rfl rfl | exact units_ 55 hu9 rfl rfl | exact units_ 56 hu9 rfl rfl | exact units_ 57 hu9 rfl rfl | exact units_ 58 hu9 rfl rfl | exact units_ 59 hu9 rfl rfl | exact units_ 60 hu9 rfl rfl))
  (k_with "k_ne" => (first | exact Nat.ne_of_lt (by assumption) | exact Nat.ne_of_gt (by assumption) | assumption | exact Ne.symm (by assumption) | exact Nat.ne_of_lt (And.left (by assumption)) | exact Nat.ne_of_gt (And.left (by assumption)) | exact Nat.ne_of_lt (And.left (And.right (by assumption))) | exact Nat.ne_of_gt (And.left (And.right (by assumption))) | exact Nat.ne_of_lt (And.left (And.right (And.right (by assumption)))) | exact Nat.ne_of_gt (And.left (And.right (And.right (by assumption)))) | exact Nat.ne_of_lt (And.left (And.right (And.right (And.right (by assumption))))) | exact Nat.ne_of_gt (And.left (And.right (And.right (And.right (by assumption))))) | exact Nat.ne_of_lt (And.left (And.right (And.right (And.right (And.right (by assumption)))))) | exact Nat.ne_of_gt (And.left (And.right (And.right (And.right (And.right (by assumption)))))) | exact Nat.ne_of_lt (And.left (And.right (And.right (And.right (And.right (And.right (by assumption))))))) | exact Nat.ne_of_gt (And.left (And.right (And.right (And.right (And.right (And.right (by assumption))))))) | exact Nat.ne_of_lt (And.left (And.right (And.right (And.right (And.right (And.right (And.right (by assumption)))))))) | exact Nat.ne_of_gt (And.left (And.right (And.right (And.right (And.right (And.right (And.right (by assumption)))))))) | exact Nat.ne_of_lt (And.left (And.right (And.right (And.right (And.right (And.right (And.right (And.right (by assumption))))))))) | exact Nat.ne_of_gt (And.left (And.right (And.right (And.right (And.right (And.right (And.right (And.right (by assumption))))))))) | exact Nat.ne_of_lt (And.left (And.right (And.right (And.right (And.right (And.right (And.right (And.right (And.right (by assumption)))))))))) | exact Nat.ne_of_gt (And.left (And.right (And.right (And.right (And.right (And.right (And.right (And.right (And.right (by assumption)))))))))) | exact Nat.ne_of_lt (And.left (And.right (And.right (And.right (And.right (And.right (And.right (And.right (And.right (And.right (by assumption))))))))))) | exact Nat.ne_of_gt (And.left (And.right (And.right (And.right (And.right (And.right (And.right (And.right (And.right (And.right (by assumption))))))))))) | (refine neN ?_; (try dsimp only); (first | lia | omega))))
  (k_with "exec If" => (refine if_fold ?_; intro q8))
  (k_with "isTrue Compare" => (refine is_cmp ?_))
  (k_with "ite" => (k_here; first | with_reducible refine ite_tt ?_ | with_reducible refine ite_ff ?_ | k_dflt (first | refine ite_pos (by decide) ?_ | refine ite_neg (by decide) ?_)))
  (k_with "execs cons" => (first | (rename Shared => s9; refine stmt_cons s9 ?_; intro t9 s8 q8) | (refine wpAny_execs_cons ?_; (try k_fold))))
  exact trivial
noncomputable abbrev WC : PySem.Str := "abcdfeghijklmnopqrstuvwxyzABCDEFGHIJKLMNOPQRSTUVWXYZ0123456789_~-./*?="
noncomputable abbrev lexEs (P : Params) (k t : Nat → Tok) (sx pb fs pc : Addr) (stv tokv : Value) : List DictEntry :=
  [ent P "instream" (k 1) (.ref sx), ent P "infile" (k 2) .none, ent P "posix" (k 3) (.bool false), ent P "eof" (k 4) (.str "" (t 4)),
   ent P "commenters" (k 5) (.str "#" (t 5)), ent P "wordchars" (k 6) (.str WC (t 6)), ent P "whitespace" (k 7) (.str " \t\r\n" (t 7)),
   ent P "whitespace_split" (k 8) (.bool false), ent P "quotes" (k 9) (.str "'\"" (t 9)), ent P "escape" (k 10) (.str "\\" (t 10)),
   ent P "escapedquotes" (k 11) (.str "\"" (t 11)), ent P "state" (k 12) stv, ent P "pushback" (k 13) (.ref pb), ent P "lineno" (k 14) (.int 1 (t 14)),
   ent P "debug" (k 15) (.int 0 (t 15)), ent P "token" (k 16) tokv, ent P "filestack" (k 17) (.ref fs), ent P "source" (k 18) .none,
   ent P "_punctuation_chars" (k 19) (.str "()" (t 19)), ent P "_pushback_chars" (k 20) (.ref pc)]
/-- the addresses of a lexer's objects -/
structure LexA where
  lx : Nat
  ld : Nat
  sx : Nat
  sd : Nat
  pb : Nat
  fs : Nat
  pc : Nat
/-- the lexer's objects -/
noncomputable abbrev lexO (P : Params) (k t : Nat → Tok) (lx ld sx sd pb fs pc : Addr) (k1 k2 k3 t1 t2 t3 : Tok) (l : List Nat) (p : Nat) (n : Int) (cs : List Value) (stv tokv : Value) : List (Addr × Obj) :=
  [(sx, instObj 587 sd), (sd, dictOf (sioEs P k1 k2 k3 t1 t2 t3 (st l) p) 3), (lx, instObj 722 ld), (ld, dictOf (lexEs P k t sx pb fs pc stv tokv) 20), (pc, dqO n cs), (pb, dqO 0 []), (fs, dqO 0 [])]

/-- where the lexer stands within a token wd, dd behind it -/
inductive RtC (κ : Bool) (wd dd l : List Nat) : Nat → Nat → List Value → Value → Value → Prop
  | pend {c : Nat} {w2 : List Nat} {p : Nat} {tc ts tt : Tok} : wd = c :: w2 → l.drop p = w2 ++ dd → RtC κ wd dd l (w2.length + 2) p [.str (st [c]) tc] (.str " " ts) (.str "" tt)
  | first {c : Nat} {w2 : List Nat} {p : Nat} {ts tt : Tok} : κ = false → wd = c :: w2 → l.drop p = c :: (w2 ++ dd) → RtC κ wd dd l (w2.length + 2) p [] (.str " " ts) (.str "" tt)
  | midA {a1 : Nat} {w1 w2 : List Nat} {p : Nat} {ts tt : Tok} {x : PySem.Str} : κ = true → wd = (a1 :: w1) ++ w2 → x = st (a1 :: w1) → l.drop p = w2 ++ dd → RtC κ wd dd l (w2.length + 1) p [] (.str "a" ts) (.str x tt)
  | midC {w1 w2 : List Nat} {p : Nat} {ts tt : Tok} {x : PySem.Str} : κ = false → wd = w1 ++ w2 → x = st w1 → l.drop p = w2 ++ dd → RtC κ wd dd l (w2.length + 1) p [] (.str "c" ts) (.str x tt)
  | fin {tt : Tok} : κ = false → wd = [] → dd = [] → RtC κ wd dd l 1 l.length [] .none (.str "" tt)
/-- behind the token -/
inductive RtP (dd l : List Nat) : Nat → List Value → Value → Prop
  | eof : dd = [] → RtP dd l l.length [] .none
  | more {c : Nat} {d : List Nat} {p : Nat} {tc ts : Tok} : dd = c :: d → l.drop p = d → p ≤ l.length → RtP dd l p [.str (st [c]) tc] (.str " " ts)
/-- between the turns -/
noncomputable def RtI (w : World) (g : Heap) (L' : Addr) (base : PySem.Str → Option Value) (s : Shared) (news : List (Addr × Obj)) (k t : Nat → Tok) (lx ld sx sd pb fs pc : Addr) (k1 k2 k3 t1 t2 : Tok) (κ : Bool) (wd dd l : List Nat) (n : Nat) (s' : Shared) : Prop :=
  ∃ nc h' tk' p num cv stv tokv t3, s' = {s with heap := h', toks := tk'} ∧ Fr g L' h' (over "nextchar" nc base) ∧ News g L' h' (lexO w.params k t lx ld sx sd pb fs pc k1 k2 k3 t1 t2 t3 l p num cv stv tokv ++ news) ∧ p ≤ l.length ∧ RtC κ wd dd l n p cv stv tokv
noncomputable def RtX (w : World) (g : Heap) (L' : Addr) (base : PySem.Str → Option Value) (s : Shared) (news : List (Addr × Obj)) (k t : Nat → Tok) (lx ld sx sd pb fs pc : Addr) (k1 k2 k3 t1 t2 : Tok) (wd dd l : List Nat) (s' : Shared) : Prop :=
  ∃ nc h' tk' p num cv stv tt t3, s' = {s with heap := h', toks := tk'} ∧ Fr g L' h' (over "nextchar" nc base) ∧ News g L' h' (lexO w.params k t lx ld sx sd pb fs pc k1 k2 k3 t1 t2 t3 l p num cv stv (.str (st wd) tt) ++ news) ∧ RtP dd l p cv stv
section
variable {w : World} {mean : ExcName → Option Value} {mg mb : PySem.Str → Option Value} {dp un : Nat} {gd : Option (List Code)} {cn : PySem.Str} {cs : Scope} {a : Addr} {ccd : Value} {cl : List (PySem.Str × Addr)} {outer : List Env} {A₀ : Around} {base h₀ : Heap} {L : Addr} {m : PySem.Str → Option Value} {news : List (Addr × Obj)} {s : Shared} {Q E : Value → Shared → Prop}


theorem rt_loop {prog : Program} {A : Around} {env : Env} {test : Expr} {body orelse : List Stmt} {pos : Pos} {Q : Flow → Shared → Prop} {g : Heap} {base : PySem.Str → Option Value}
  {k t : Nat → Tok} {lx ld sx sd pb fs pc : Addr} {k1 k2 k3 t1 t2 t3 : Tok} {l wd dd : List Nat} {κ : Bool} {p : Nat} {num : Int} {cv : List Value} {stv tokv : Value} {n : Nat}
  (F0 : Fr g L s.heap base) (N0 : News g L s.heap (lexO w.params k t lx ld sx sd pb fs pc k1 k2 k3 t1 t2 t3 l p num cv stv tokv ++ news)) (hb : base "nextchar" = none) (hp : p ≤ l.length)
  (hC : RtC κ wd dd l n p cv stv tokv)
  (post : ∀ s', RtX w g L base s news k t lx ld sx sd pb fs pc k1 k2 k3 t1 t2 wd dd l s' → Q .next s')
  (turn : ∀ n s', RtI w g L base s news k t lx ld sx sd pb fs pc k1 k2 k3 t1 t2 κ wd dd l n s' → (∀ s', RtX w g L base s news k t lx ld sx sd pb fs pc k1 k2 k3 t1 t2 wd dd l s' → Q .next s') →
     wpAny (model prog w) A (isTrue test env (eval test env)) (fun b s₂ =>
      if b then wpAny (model prog w) A (execs body env) (TurnW (RtI w g L base s news k t lx ld sx sd pb fs pc k1 k2 k3 t1 t2 κ wd dd l) n Q) (TurnE prog w A env E) s₂
      else wpAny (model prog w) A (execs orelse env) Q (TurnE prog w A env E) s₂) (TurnE prog w A env E) s') :
  wpAny (model prog w) A (exec (.While test body orelse pos) env) Q E s := by
  refine while_inv (RtI w g L base s news k t lx ld sx sd pb fs pc k1 k2 k3 t1 t2 κ wd dd l) (fun n s' hI => turn n s' hI post) n ?_
  exact ⟨none, s.heap, s.toks, p, num, cv, stv, tokv, t3, rfl, fr_cast F0 (over_none hb), N0, hp, hC⟩

theorem news_tail {h₀ h : Heap} {L : Addr} {q : Addr × Obj} {r : List (Addr × Obj)} (N : News h₀ L h (q :: r)) : News h₀ L h r := fun p hp => N p (.tail _ hp)
theorem rt_next {g h' : Heap} {base : PySem.Str → Option Value} {k t : Nat → Tok} {lx ld sx sd pb fs pc : Addr} {k1 k2 k3 t1 t2 t3 : Tok} {l wd dd : List Nat} {κ : Bool} {p : Nat} {num : Int} {cv : List Value} {stv tokv v : Value} {v' : Option Value} {n n' : Nat} {tk' : Nat} {Q : Flow → Shared → Prop}
  (F0 : Fr g L h' (fun y => if y = "nextchar" then some v else over "nextchar" v' base y)) (N0 : News g L h' (lexO w.params k t lx ld sx sd pb fs pc k1 k2 k3 t1 t2 t3 l p num cv stv tokv ++ news)) (hp : p ≤ l.length)
  (hC : RtC κ wd dd l n' p cv stv tokv) (hlt : n' < n) : TurnW (RtI w g L base s news k t lx ld sx sd pb fs pc k1 k2 k3 t1 t2 κ wd dd l) n Q .next {s with heap := h', toks := tk'} :=
  ⟨n', hlt, some v, h', tk', p, num, cv, stv, tokv, t3, rfl, fr_cast F0 over_set, N0, hp, hC⟩
theorem rt_brk {g h' : Heap} {base : PySem.Str → Option Value} {k t : Nat → Tok} {lx ld sx sd pb fs pc : Addr} {k1 k2 k3 t1 t2 t3 tt : Tok} {l wd dd : List Nat} {κ : Bool} {p : Nat} {num : Int} {cv : List Value} {stv v : Value} {v' : Option Value} {x : PySem.Str} {n : Nat} {tk' : Nat} {Q : Flow → Shared → Prop}
  (hpost : ∀ s', RtX w g L base s news k t lx ld sx sd pb fs pc k1 k2 k3 t1 t2 wd dd l s' → Q .next s')
  (F0 : Fr g L h' (fun y => if y = "nextchar" then some v else over "nextchar" v' base y)) (N0 : News g L h' (lexO w.params k t lx ld sx sd pb fs pc k1 k2 k3 t1 t2 t3 l p num cv stv (.str x tt) ++ news)) (hx : x = st wd)
  (hP : RtP dd l p cv stv) : TurnW (RtI w g L base s news k t lx ld sx sd pb fs pc k1 k2 k3 t1 t2 κ wd dd l) n Q .brk {s with heap := h', toks := tk'} := by
  subst hx
  exact hpost _ ⟨some v, h', tk', p, num, cv, stv, tt, t3, rfl, fr_cast F0 over_set, N0, hP⟩
theorem drop_succ {l : List Nat} {p c : Nat} {r : List Nat} (h : l.drop p = c :: r) : p + 1 ≤ l.length ∧ l.drop (p + 1) = r ∧ (l.drop p).take 1 = [c] ∧ min (p + 1) l.length = p + 1 := by
  have h1 : p < l.length := by
    rcases Nat.lt_or_ge p l.length with q | q
    · exact q
    · rw [List.drop_eq_nil_of_le q] at h; cases h
  refine ⟨h1, ?_, by rw [h]; rfl, by (first | lia | omega)⟩
  have : l.drop (p + 1) = (l.drop p).drop 1 := by rw [List.drop_drop]
  rw [this, h]; rfl
theorem drop_nil {l : List Nat} {p : Nat} (h : l.drop p = []) (hp : p ≤ l.length) : p = l.length ∧ (l.drop p).take 1 = [] ∧ min (p + 1) l.length = p := by
  have := List.drop_eq_nil_iff.mp h
  refine ⟨by (first | lia | omega), by rw [h]; rfl, by (first | lia | omega)⟩
theorem read_spec2 {sx sd : Addr} {k1 k2 k3 t1 t2 t3 tk : Tok} {l r : List Nat} {p p' : Nat}
  (B : Below A₀ base outer h₀) (F : Fr h₀ L s.heap m) (X : (Mine.K w.params).In h₀)
  (N : News h₀ L s.heap ((sx, instObj 587 sd) :: (sd, dictOf (sioEs w.params k1 k2 k3 t1 t2 t3 (st l) p) 3) :: news)) (T : Top VW LOO mean mg mb h₀) (hk : cs.kind = .function)
  (hdp : dp + 4 < recursionLimit) (hu : un + 40 < cLine) (hne : @Ne Nat sd sx) (hnn : ∀ q ∈ news, q.1 ≠ sd) (hx : l.length ≤ 4000) (hp : p ≤ l.length)
  (hone : (l.drop p).take 1 = r) (hpos : min (p + 1) l.length = p')
  (hret : ∀ t t3' h' tk', Fr h₀ L h' m → News h₀ L h' ((sx, instObj 587 sd) :: (sd, dictOf (sioEs w.params k1 k2 k3 t1 t2 t3' (st l) p') 3) :: news) → Q (.str (st r) t) {s with heap := h', toks := tk'}) :
  wpAny (model PRG w) (ktrTop dp un gd cn cs L a ccd cl outer) (call (.ref 533) [.ref sx, .int 1 tk]) Q E s := by
  subst hone; subst hpos
  exact read_spec B F X N T hk hdp hu hne hnn hx hp hret

theorem rows_S2_2 : True := by
  (k_with "exec While" => (refine stop_of ?_))
  (k_with "truthy ref" => (k_here; (with_reducible show wpAny _ _ (truthy (Value.ref _)) _ _ _); k_dflt (first | (refine' dq_truthy (xs := []) (b := false) (News.get ?N ?m) ?z ?b ?_; (case N => k_asm); (case m => k_mem); (case z => exact Nat.le_of_ble_eq_true rfl); (case b => exact rfl); k_whole) | (refine' dq_truthy (xs := _ :: _) (b := true) (News.get ?N ?m) ?z ?b ?_; (case N => k_asm); (case m => k_mem); (case z => exact Nat.le_of_ble_eq_true rfl); (case b => exact rfl); k_whole))))
  (k_with "getMethod ref" => (k_here; (with_reducible show wpAny _ _ (getMethod (Value.ref _) (PySem.Str.ofString "append") _) _ _ _); k_dflt (refine' dq_method (News.get ?N ?m) slot_dq_append type_dq_append ?_; (case N => k_asm); (case m => k_mem); k_whole)))
  (k_with "getMethod ref" => (k_here; (with_reducible show wpAny _ _ (getMethod (Value.ref _) (PySem.Str.ofString "pop") _) _ _ _); k_dflt (refine' dq_method (News.get ?N ?m) slot_dq_pop type_dq_pop ?_; (case N => k_asm); (case m => k_mem); k_whole)))
  (k_with "call builtin:collections.deque.append" => (k_here; k_dflt (refine' dq_append ?F ?N ?U ?z ?_; (case F => k_asm); (case N => k_asm); (case U => k_upd); (case z => exact Nat.le_of_ble_eq_true rfl); k_whole); intro h' F' N'; (try simp only [List.nil_append] at N'); (try k_sweep)))
  (k_with "call builtin:collections.deque.pop" => (k_here; k_dflt (refine' dq_pop (xs := []) ?F ?N ?U ?z ?_; (case F => k_asm); (case N => k_asm); (case U => k_upd); (case z => exact Nat.le_of_ble_eq_true rfl); k_whole); intro h' F' N'; (try k_sweep)))
  (k_with "compareOp In str str" => (k_here; (refine' in_known ?h ?_; (case h => with_reducible assumption))))
  (k_with "compareOp NotIn str str" => (k_here; (refine' notin_known ?h ?_; (case h => with_reducible assumption))))
  (k_with "compareOp Eq str str" => (k_here; (refine' eq_known ?h ?_; (case h => with_reducible assumption))))
  (k_with "truthy str" => (k_here; (refine' truthy_cons ?h ?_; (case h => first | decide | (first | lia | omega))); intro _))
  (k_with "call ref" => (k_here; (with_reducible show wpAny _ _ (call (Value.ref 533) _) _ _ _); k_dflt (refine' read_spec2 ?B ?F ?X ?N ?T ?hk ?hd ?hu ?hne ?hnn ?hx ?hp ?ho ?hq ?_; (case B => k_asm); (case F => k_asm); (case X => k_asm); (case N => k_asm); (case T => k_asm); (case hk => exact rfl); (case hd => ktr_room); (case hu => ktr_units); (case hne => (first | lia | omega)); (case hnn => k_all); (case hx => assumption); (case hp => assumption); (case ho => assumption); (case hq => assumption); k_whole); intro t' t3' h' tk' F' N'; (try k_fold)))
  (k_with "exec If" => (refine if_fold ?_; intro q8))
  (k_with "isTrue Compare" => (refine is_cmp ?_))
  (k_with "ite" => (k_here; first | with_reducible refine ite_tt ?_ | with_reducible refine ite_ff ?_ | k_dflt (first | refine ite_pos (by decide) ?_ | refine ite_neg (by decide) ?_)))
  (k_with "execs cons" => (first | (rename Shared => s9; refine stmt_cons s9 ?_; intro t9 s8 q8) | (refine wpAny_execs_cons ?_; (try k_fold))))
  (k_with "TurnW" => (refine stop_of ?_))
  exact trivial
set_option maxHeartbeats 8000000 in
theorem read_token_spec {k t : Nat → Tok} {lx ld sx sd pb fs pc : Addr} {k1 k2 k3 t1 t2 t3 : Tok} {l wd dd : List Nat} {κ : Bool} {p : Nat} {num : Int} {cv : List Value} {stv tokv : Value} {n : Nat}
  (B : Below A₀ base outer h₀) (F : Fr h₀ L s.heap m) (X : (Mine.K w.params).In h₀)
  (N : News h₀ L s.heap (lexO w.params k t lx ld sx sd pb fs pc k1 k2 k3 t1 t2 t3 l p num cv stv tokv ++ news)) (T : Top VW LOO mean mg mb h₀) (hk : cs.kind = .function)
  (hdp : dp + 8 < recursionLimit) (hu : un + 80 < cLine) (hc1 : @LT.lt Nat _ ld lx) (hc2 : @LT.lt Nat _ lx sd) (hc3 : @LT.lt Nat _ lx sx) (hc4 : @LT.lt Nat _ sd pb) (hc5 : @LT.lt Nat _ sx pb) (hc6 : @LT.lt Nat _ pb fs) (hc7 : @LT.lt Nat _ fs pc) (hc8 : @Ne Nat sd sx)
  (hn1 : ∀ q ∈ news, q.1 ≠ ld) (hn2 : ∀ q ∈ news, q.1 ≠ sd) (hn3 : ∀ q ∈ news, q.1 ≠ pc)
  (hx : l.length ≤ 4000) (hp : p ≤ l.length) (hC : RtC κ wd dd l n p cv stv tokv) (hwz : wd.length ≤ 3900)
  (hw : κ = true → (∀ c ∈ wd, lett c) ∧ ∃ c d, dd = c :: d ∧ par c) (hw2 : κ = false → (∀ c ∈ wd, par c) ∧ (dd = [] ∨ ∃ c d, dd = c :: d ∧ lett c))
  (hret : ∀ t3' num' p' cv' stv' tt tt' h' tk', RtP dd l p' cv' stv' → Fr h₀ L h' m → News h₀ L h' (lexO w.params k t lx ld sx sd pb fs pc k1 k2 k3 t1 t2 t3' l p' num' cv' stv' (.str "" tt') ++ news) → Q (.str (st wd) tt) {s with heap := h', toks := tk'}) :
  wpAny (model PRG w) (ktrTop dp un gd cn cs L a ccd cl outer) (call (.ref 690) [.ref lx]) Q E s := by
  have hq1 := Nat.lt_trans hc1 hc2
  have hq2 := Nat.lt_trans hc1 hc3
  have hq3 := Nat.lt_trans hc2 hc4
  have hq4 := Nat.lt_trans hq1 hc4
  have hq5 := Nat.lt_trans hc4 hc6
  have hq6 := Nat.lt_trans hc5 hc6
  have hq7 := Nat.lt_trans hq3 hc6
  have hq8 := Nat.lt_trans hq4 hc6
  have hq9 := Nat.lt_trans hc6 hc7
  have hq10 := Nat.lt_trans hq5 hc7
  have hq11 := Nat.lt_trans hq6 hc7
  have hq12 := Nat.lt_trans hq7 hc7
  have hq13 := Nat.lt_trans hq8 hc7
  refine wpAny_call ?_
  k_dflt ktr_enter
  k_steps
  refine Stop.out ?_
  (with_reducible rename Fr _ _ _ _ => F0)
  (with_reducible rename News _ _ _ _ => N0)
  refine' rt_loop F0 N0 ?hb hp hC ?post ?turn
  case hb => rfl
  case post =>
    intro s' hX
    obtain ⟨nc, h1, tk1, p1, num1, cv1, stv1, tt1, t31, rfl, F1, N1, hP⟩ := hX
    clear F0 N0
    simp only [List.cons_append, List.nil_append] at N1
    try k_unfold
    try dsimp only
    k_steps
    refine' hret _ _ _ _ _ _ _ _ _ hP ?F ?N
    case F => k_asm
    case N => k_asm
  case turn =>
    intro n1 s' hI hpost
    clear F0 N0 hC hp
    obtain ⟨nc, h1, tk1, p1, num1, cv1, stv1, tokv1, t31, rfl, F1, N1, hp1, hC⟩ := hI
    have f1 := nil_nl
    have f2 := fs1
    cases κ
    · obtain ⟨hwl, hdd⟩ := hw2 rfl
      clear hw hw2
      cases hC with
      | midA h => cases h
      | @pend c1 w2 _ tc ts tt hwd hl =>
        have hcl : par c1 := hwl _ (by rw [hwd]; exact .head _)
        have g1 := par_ws hcl
        have g2 := par_hash hcl
        have g3 := par_wc hcl
        have g4 := par_nl hcl
        have g5 := par_pa hcl
        have g6 := par_qu hcl
        simp only [List.cons_append, List.nil_append] at N1
        k_steps
        refine' Stop.out (rt_next ?F ?N ?hp ?C ?lt)
        case F => k_asm
        case N => first | k_asm | exact news_tail (by k_asm)
        case hp => first | exact hp1 | exact e1
        case C => exact RtC.midC (w1 := [c1]) (w2 := w2) rfl hwd rfl hl
        case lt => (first | lia | omega)
      | @first c1 w2 _ ts tt h hwd hl =>
        obtain ⟨e1, e2, e3, e4⟩ := drop_succ hl
        have hcl : par c1 := hwl _ (by rw [hwd]; exact .head _)
        have g1 := par_ws hcl
        have g2 := par_hash hcl
        have g3 := par_wc hcl
        have g4 := par_nl hcl
        have g5 := par_pa hcl
        have g6 := par_qu hcl
        simp only [List.cons_append, List.nil_append] at N1
        k_steps
        refine' Stop.out (rt_next ?F ?N ?hp ?C ?lt)
        case F => k_asm
        case N => first | k_asm | exact news_tail (by k_asm)
        case hp => first | exact hp1 | exact e1
        case C => exact RtC.midC (w1 := [c1]) (w2 := w2) rfl hwd rfl e2
        case lt => (first | lia | omega)
      | @fin tt h hwd hl =>
        obtain ⟨e0, e3, e4⟩ := drop_nil (l := l) (p := l.length) (by simp) hp1
        subst hwd
        simp only [List.cons_append, List.nil_append] at N1
        k_steps
        refine' Stop.out (rt_brk hpost ?F ?N ?hx ?P)
        case F => k_asm
        case N => first | k_asm | exact news_tail (by k_asm)
        case hx => exact st_nil
        case P => exact RtP.eof hl
      | @midC w1 w2 _ ts tt x h hwd hxw hl =>
        subst hxw
        have f3 := fc1
        have f4 := fc2
        have f5 := fc3
        have f6 := fc4
        cases w2 with
        | nil =>
          rcases hdd with hdd | ⟨c, d, hdd, hcl⟩
          · rw [hdd] at hl
            obtain ⟨e0, e3, e4⟩ := drop_nil hl hp1
            simp only [List.cons_append, List.nil_append] at N1
            k_steps
            refine' Stop.out (rt_brk hpost ?F ?N ?hx ?P)
            case F => k_asm
            case N => first | k_asm | exact news_tail (by k_asm)
            case hx => rw [hwd, List.append_nil]
            case P => exact (e0 ▸ RtP.eof hdd)
          · rw [hdd] at hl
            obtain ⟨e1, e2, e3, e4⟩ := drop_succ hl
            have g1 := lett_ws hcl
            have g2 := lett_hash hcl
            have g3 := lett_wc hcl
            have g4 := lett_nl hcl
            have g5 := lett_pa hcl
            simp only [List.cons_append, List.nil_append] at N1
            k_steps
            refine' Stop.out (rt_brk hpost ?F ?N ?hx ?P)
            case F => k_asm
            case N => first | k_asm | exact news_tail (by k_asm)
            case hx => rw [hwd, List.append_nil]
            case P => exact RtP.more hdd e2 e1
        | cons c1 w2 =>
          obtain ⟨e1, e2, e3, e4⟩ := drop_succ hl
          have hcl : par c1 := hwl _ (by rw [hwd]; simp)
          have g1 := par_ws hcl
          have g2 := par_hash hcl
          have g3 := par_wc hcl
          have g4 := par_nl hcl
          have g5 := par_pa hcl
          have g6 := par_qu hcl
          have hl1 : (st w1).length ≤ 4000 := by rw [st_len]; have := congrArg List.length hwd; rw [List.length_append] at this; (first | lia | omega)
          have hl2 : (st [c1]).length ≤ 4000 := by rw [st_len]; simp
          simp only [List.cons_append, List.nil_append] at N1
          k_steps
          refine' Stop.out (rt_next ?F ?N ?hp ?C ?lt)
          case F => k_asm
          case N => first | k_asm | exact news_tail (by k_asm)
          case hp => first | exact hp1 | exact e1
          case C => exact RtC.midC (w1 := w1 ++ [c1]) (w2 := w2) rfl (by rw [hwd]; simp) (st_app _ _) e2
          case lt => (simp only [List.length_cons]; (first | lia | omega))
    · obtain ⟨hwl, c, d, hdd, hcp⟩ := hw rfl
      clear hw hw2
      cases hC with
      | @pend c1 w2 _ tc ts tt hwd hl =>
        have hcl : lett c1 := hwl _ (by rw [hwd]; exact .head _)
        have g1 := lett_ws hcl
        have g2 := lett_hash hcl
        have g3 := lett_wc hcl
        have g4 := lett_nl hcl
        have g5 := lett_pa hcl
        simp only [List.cons_append, List.nil_append] at N1
        k_steps
        refine' Stop.out (rt_next ?F ?N ?hp ?C ?lt)
        case F => k_asm
        case N => first | k_asm | exact news_tail (by k_asm)
        case hp => first | exact hp1 | exact e1
        case C => exact RtC.midA (a1 := c1) (w1 := []) (w2 := w2) rfl hwd rfl hl
        case lt => (first | lia | omega)
      | first h => cases h
      | fin h => cases h
      | midC h => cases h
      | @midA a1 w1 w2 _ ts tt x h hwd hxw hl =>
        subst hxw
        have f3 := fa1
        have f4 := fa2
        have f5 := fa3
        have f6 := fa4
        cases w2 with
        | nil =>
          rw [hdd] at hl
          obtain ⟨e1, e2, e3, e4⟩ := drop_succ hl
          have g1 := par_ws hcp
          have g2 := par_hash hcp
          have g3 := par_wc hcp
          have g4 := par_nl hcp
          have g5 := par_pa hcp
          have g6 := par_qu hcp
          have hlw1 : w1.length < 4000 := by have := congrArg List.length hwd; rw [List.length_append, List.length_cons] at this; (first | lia | omega)
          simp only [List.cons_append, List.nil_append] at N1
          k_steps
          refine' Stop.out (rt_brk hpost ?F ?N ?hx ?P)
          case F => k_asm
          case N => first | k_asm | exact news_tail (by k_asm)
          case hx => rw [hwd, List.append_nil]
          case P => exact RtP.more hdd e2 e1
        | cons c1 w2 =>
          obtain ⟨e1, e2, e3, e4⟩ := drop_succ hl
          have hcl : lett c1 := hwl _ (by rw [hwd]; simp)
          have g1 := lett_ws hcl
          have g2 := lett_hash hcl
          have g3 := lett_wc hcl
          have g4 := lett_nl hcl
          have g5 := lett_pa hcl
          have hl1 : (st (a1 :: w1)).length ≤ 4000 := by rw [st_len]; have := congrArg List.length hwd; rw [List.length_append] at this; (first | lia | omega)
          have hl2 : (st [c1]).length ≤ 4000 := by rw [st_len]; simp
          simp only [List.cons_append, List.nil_append] at N1
          k_steps
          refine' Stop.out (rt_next ?F ?N ?hp ?C ?lt)
          case F => k_asm
          case N => first | k_asm | exact news_tail (by k_asm)
          case hp => first | exact hp1 | exact e1
          case C => exact RtC.midA (a1 := a1) (w1 := w1 ++ [c1]) (w2 := w2) rfl (by rw [hwd]; simp) (st_app _ _) e2
          case lt => (simp only [List.length_cons]; (first | lia | omega))
end
end Mine
end
section
open PySem PySem.W PyProof.Rows
set_option maxRecDepth 100000
set_option maxHeartbeats 8000000
namespace Mine
theorem kf3 : (PySem.Challenge.rw_ik0083_01, Mine.K) = (PySem.Challenge.rw_ik0083_01, Mine.K) := by
  k_fill
  rfl
theorem rows_S3_1 : True := by
  k_with_none
  (k_with "ktr_enter" => (refine' code_def ?k1 ?k2 ?k3 ?k4 ?k5 ?kA ?kF ?kK ?k6 ?k7 ?k8 ?k9 ?kB ?_ ?c2 ?c3 ?c4 ?c5; (case kA => exact rfl); (case kF => exact rfl); (case kK => assumption); (case k1 => k_asm); (case k2 => k_asm); (case k3 => k_asm); (case k4 => k_asm); (case k5 => k_asm); (case k6 => k_is); (case k7 => k_is); (case k8 => ktr_room); (case k9 => first | exact BindsTo.of_eq rfl | exact binds_K (by k_in) rfl (by k_is) rfl rfl rfl); (case c5 => decide); (case kB => exact locs rfl); (case c2 => exact rfl); (case c3 => exact rfl); (case c4 => exact rfl); k_whole; intro g' L' h' FG' F' N' B' X' T'; (try dsimp only); (try k_fold); (try (refine fold_A ?_; intro A9))))
  (k_with "k_room" => ktr_room)
  (k_with "k_all" => assumption)
  (k_with "ktr_room" => ((with_reducible rename _ + _ < recursionLimit => hd9); first | exact room_ 0 hd9 rfl rfl | exact room_ 1 hd9 rfl rfl | exact room_ 2 hd9 rfl rfl | exact room_ 3 hd9 rfl rfl | exact room_ 4 hd9 rfl rfl | exact room_ 5 hd9 rfl rfl | exact room_ 6 hd9 rfl rfl | exact room_ 7 hd9 rfl rfl | exact room_ 8 hd9 rfl rfl | exact room_ 9 hd9 rfl rfl | exact room_ 10 hd9 rfl rfl | exact room_ 11 hd9 rfl rfl | exact room_ 12 hd9 rfl rfl | exact room_ 13 hd9 rfl rfl | exact room_ 14 hd9 rfl rfl | exact room_ 15 hd9 rfl rfl | exact room_ 16 hd9 rfl rfl | exact room_ 17 hd9 rfl rfl | exact room_ 18 hd9 rfl rfl | exact room_ 19 hd9 rfl rfl | exact room_ 20 hd9 rfl rfl | exact room_ 21 hd9 rfl rfl | exact room_ 22 hd9 rfl rfl | exact room_ 23 hd9 rfl rfl | exact room_ 24 hd9 rfl rfl | exact room_ 25 hd9 rfl rfl))
  (k_with "ktr_units" => ((with_reducible rename _ + _ < cLine => hu9); first | exact units_ 0 hu9 rfl rfl | exact units_ 1 hu9 rfl rfl | exact units_ 2 hu9 rfl rfl | exact units_ 3 hu9 rfl rfl | exact units_ 4 hu9 rfl rfl | exact units_ 5 hu9 rfl rfl | exact units_ 6 hu9 rfl rfl | exact units_ 7 hu9 rfl rfl | exact units_ 8 hu9 rfl rfl | exact units_ 9 hu9 rfl rfl | exact units_ 10 hu9 rfl rfl | exact units_ 11 hu9 rfl rfl | exact units_ 12 hu9 rfl rfl | exact units_ 13 hu9 rfl rfl | exact units_ 14 hu9 rfl rfl | exact units_ 15 hu9 rfl rfl | exact units_ 16 hu9 rfl rfl | exact units_ 17 hu9 rfl rfl | exact units_ 18 hu9 rfl rfl | exact units_ 19 hu9 rfl rfl | exact units_ 20 hu9 rfl rfl | exact units_ 21 hu9 rfl rfl | exact units_ 22 hu9 rfl rfl | exact units_ 23 hu9 rfl rfl | exact units_ 24 hu9 rfl rfl | exact units_ 25 hu9 rfl rfl | exact units_ 26 hu9 rfl rfl | exact units_ 27 hu9 rfl rfl | exact units_ 28 hu9 rfl rfl | exact units_ 29 hu9 rfl rfl | exact units_ 30 hu9 rfl rfl | exact units_ 31 hu9 rfl rfl | exact units_ 32 hu9 rfl rfl | exact units_ 33 hu9 rfl rfl | exact units_ 34 hu9 rfl rfl | exact units_ 35 hu9 rfl rfl | exact units_ 36 hu9 rfl rfl | exact units_ 37 hu9 rfl rfl | exact units_ 38 hu9 rfl rfl | exact units_ 39 hu9 rfl rfl | exact units_ 40 hu9 rfl rfl | exact units_ 41 hu9 rfl rfl | exact units_ 42 hu9 rfl rfl | exact units_ 43 hu9 rfl rfl | exact units_ 44 hu9 rfl rfl | exact units_ 45 hu9 rfl rfl | exact units_ 46 hu9 rfl rfl | exact units_ 47 hu9 rfl rfl | exact units_ 48 hu9 rfl rfl | exact units_ 49 hu9 rfl rfl | exact units_ 50 hu9 rfl rfl | exact units_ 51 hu9 rfl rfl | exact units_ 52 hu9 rfl rfl | exact units_ 53 hu9 rfl rfl | exact units_ 54 hu9 rfl rfl | exact units_ 55 hu9 rfl rfl | exact units_ 56 hu9 rfl rfl | exact units_ 57 hu9 rfl rfl | exact units_ 58 hu9 rfl rfl | exact units_ 59 hu9 rfl rfl | exact units_ 60 hu9 rfl rfl))
  (k_with "k_ne" => (first | exact Nat.ne_of_lt (by assumption) | exact Nat.ne_of_gt (by assumption) | assumption | exact Ne.symm (by assumption) | exact Nat.ne_of_lt (And.left (by assumption)) | exact Nat.ne_of_gt (And.left (by assumption)) | exact Nat.ne_of_lt (And.left (And.right (by assumption))) | exact Nat.ne_of_gt (And.left (And.right (by assumption))) | exact Nat.ne_of_lt (And.left (And.right (And.right (by assumption)))) | exact Nat.ne_of_gt (And.left (And.right (And.right (by assumption)))) | exact Nat.ne_of_lt (And.left (And.right (And.right (And.right (by assumption))))) | exact Nat.ne_of_gt (And.left (And.right (And.right (And.right (by assumption))))) | exact Nat.ne_of_lt (And.left (And.right (And.right (And.right (And.right (by assumption)))))) | exact Nat.ne_of_gt (And.left (And.right (And.right (And.right (And.right (by assumption)))))) | exact Nat.ne_of_lt (And.left (And.right (And.right (And.right (And.right (And.right (by assumption))))))) | exact Nat.ne_of_gt (And.left (And.right (And.right (And.right (And.right (And.right (by assumption))))))) | exact Nat.ne_of_lt (And.left (And.right (And.right (And.right (And.right (And.right (And.right (by assumption)))))))) | exact Nat.ne_of_gt (And.left (And.right (And.right (And.right (And.right (And.right (And.right (by assumption)))))))) | exact Nat.ne_of_lt (And.left (And.right (And.right (And.right (And.right (And.right (And.right (And.right (by assumption))))))))) | exact Nat.ne_of_gt (And.left (And.right (And.right (And.right (And.right (And.right (And.right (And.right (by assumption))))))))) | exact Nat.ne_of_lt (And.left (And.right (And.right (And.right (And.right (And.right (And.right (And.right (And.right (by assumption)))))))))) | exact Nat.ne_of_gt (And.left (And.right (And.right (And.right (And.right (And.right (And.right (And.right (And.right (by assumption)))))))))) | exact Nat.ne_of_lt (And.left (And.right (And.right (And.right (And.right (And.right (And.right (And.right (And.right (And.right (by assumption))))))))))) | exact Nat.ne_of_gt (And.left (And.right (And.right (And.right (And.right (And.right (And.right (And.right (And.right (And.right (by assumption))))))))))) | (refine neN ?_; (try dsimp only); (first | lia | omega))))
  (k_with "exec If" => (refine if_fold ?_; intro q8))
  (k_with "isTrue Compare" => (refine is_cmp ?_))
  (k_with "ite" => (k_here; first | with_reducible refine ite_tt ?_ | with_reducible refine ite_ff ?_ | k_dflt (first | refine ite_pos (by decide) ?_ | refine ite_neg (by decide) ?_)))
  (k_with "execs cons" => (first | (rename Shared => s9; refine stmt_cons s9 ?_; intro t9 s8 q8) | (refine wpAny_execs_cons ?_; (try k_fold))))
  exact trivial
section
variable {w : World} {mean : ExcName → Option Value} {mg mb : PySem.Str → Option Value} {dp un : Nat} {gd : Option (List Code)} {cn : PySem.Str} {cs : Scope} {a : Addr} {ccd : Value} {cl : List (PySem.Str × Addr)} {outer : List Env} {A₀ : Around} {base h₀ : Heap} {L : Addr} {m : PySem.Str → Option Value} {news : List (Addr × Obj)} {s : Shared} {Q E : Value → Shared → Prop}



theorem turnW_ret {I : Nat → Shared → Prop} {n : Nat} {Q : Flow → Shared → Prop} {v : Value} (h : Q (.ret v) s) : TurnW I n Q (.ret v) s := h
theorem while_once {prog : Program} {A : Around} {env : Env} {test : Expr} {body orelse : List Stmt} {pos : Pos} {Q : Flow → Shared → Prop}
    (turn : wpAny (model prog w) A (isTrue test env (eval test env)) (fun b s₂ =>
      if b then wpAny (model prog w) A (execs body env) (TurnW (fun _ s' => s' = s) 0 Q) (TurnE prog w A env E) s₂
      else wpAny (model prog w) A (execs orelse env) Q (TurnE prog w A env E) s₂) (TurnE prog w A env E) s) :
    wpAny (model prog w) A (exec (.While test body orelse pos) env) Q E s :=
  while_inv (fun n s' => n = 0 ∧ s' = s) (fun n s' h => by
    obtain ⟨rfl, rfl⟩ := h
    refine wpAny_mono turn (fun b s₂ h₂ => ?_) fun _ _ e => e
    cases b with
    | false => exact h₂
    | true =>
      simp only [if_true] at h₂ ⊢
      refine wpAny_mono h₂ (fun f s₃ h₃ => ?_) fun _ _ e => e
      cases f <;> first | exact h₃ | (obtain ⟨m, hm, _⟩ := h₃; exact absurd hm (Nat.not_lt_zero _))) 0 ⟨rfl, rfl⟩
theorem rows_S3_2 : True := by
  (k_with "truthy ref" => (k_here; (with_reducible show wpAny _ _ (truthy (Value.ref _)) _ _ _); k_dflt (first | (refine' dq_truthy (xs := []) (b := false) (News.get ?N ?m) ?z ?b ?_; (case N => k_asm); (case m => k_mem); (case z => exact Nat.le_of_ble_eq_true rfl); (case b => exact rfl); k_whole) | (refine' dq_truthy (xs := _ :: _) (b := true) (News.get ?N ?m) ?z ?b ?_; (case N => k_asm); (case m => k_mem); (case z => exact Nat.le_of_ble_eq_true rfl); (case b => exact rfl); k_whole))))
  (k_with "getMethod ref" => (k_here; (with_reducible show wpAny _ _ (getMethod (Value.ref _) (PySem.Str.ofString "append") _) _ _ _); k_dflt (refine' dq_method (News.get ?N ?m) slot_dq_append type_dq_append ?_; (case N => k_asm); (case m => k_mem); k_whole)))
  (k_with "getMethod ref" => (k_here; (with_reducible show wpAny _ _ (getMethod (Value.ref _) (PySem.Str.ofString "pop") _) _ _ _); k_dflt (refine' dq_method (News.get ?N ?m) slot_dq_pop type_dq_pop ?_; (case N => k_asm); (case m => k_mem); k_whole)))
  (k_with "call builtin:collections.deque.append" => (k_here; k_dflt (refine' dq_append ?F ?N ?U ?z ?_; (case F => k_asm); (case N => k_asm); (case U => k_upd); (case z => exact Nat.le_of_ble_eq_true rfl); k_whole); intro h' F' N'; (try simp only [List.nil_append] at N'); (try k_sweep)))
  (k_with "call builtin:collections.deque.pop" => (k_here; k_dflt (refine' dq_pop (xs := []) ?F ?N ?U ?z ?_; (case F => k_asm); (case N => k_asm); (case U => k_upd); (case z => exact Nat.le_of_ble_eq_true rfl); k_whole); intro h' F' N'; (try k_sweep)))
  (k_with "compareOp In str str" => (k_here; (refine' in_known ?h ?_; (case h => with_reducible assumption))))
  (k_with "compareOp NotIn str str" => (k_here; (refine' notin_known ?h ?_; (case h => with_reducible assumption))))
  (k_with "compareOp Eq str str" => (k_here; (refine' eq_known ?h ?_; (case h => with_reducible assumption))))
  (k_with "truthy str" => (k_here; (refine' truthy_cons ?h ?_; (case h => first | decide | (first | lia | omega))); intro _))
  (k_with "call ref" => (k_here; (with_reducible show wpAny _ _ (call (Value.ref 690) _) _ _ _); k_dflt (refine' read_token_spec ?B ?F ?X ?N ?T ?hk ?hd ?hu ?c1 ?c2 ?c3 ?c4 ?c5 ?c6 ?c7 ?c8 ?n1 ?n2 ?n3 ?hx ?hp ?hC ?hw ?ha ?hb ?_; (case B => k_asm); (case F => k_asm); (case X => k_asm); (case N => k_asm); (case T => k_asm); (case hk => exact rfl); (case hd => ktr_room); (case hu => ktr_units); (case c1 => assumption); (case c2 => assumption); (case c3 => assumption); (case c4 => assumption); (case c5 => assumption); (case c6 => assumption); (case c7 => assumption); (case c8 => assumption); (case n1 => assumption); (case n2 => assumption); (case n3 => assumption); (case hx => assumption); (case hp => assumption); (case hC => assumption); (case hw => assumption); (case ha => assumption); (case hb => assumption); k_whole); intro t3' num' p' cv' stv' tt' tt2' h' tk' P' F' N'; simp only [List.cons_append, List.nil_append] at N'; (try k_fold)))
  (k_with "TurnW" => (refine stop_of ?_))
  (k_with "exec While" => (k_here; refine while_once ?_))
  (k_with "TurnW" => (refine turnW_ret ?_))
  exact trivial
theorem st_eof {wd : List Nat} : (st wd == PySem.Str.ofString "") = decide (wd = []) := by
  have e : PySem.Str.ofString "" = st [] := st_nil
  rw [e, st_beq]
theorem get_token_spec {k t : Nat → Tok} {lx ld sx sd pb fs pc : Addr} {k1 k2 k3 t1 t2 t3 : Tok} {l wd dd : List Nat} {κ : Bool} {p : Nat} {num : Int} {cv : List Value} {stv tokv : Value} {n : Nat}
  (B : Below A₀ base outer h₀) (F : Fr h₀ L s.heap m) (X : (Mine.K w.params).In h₀)
  (N : News h₀ L s.heap (lexO w.params k t lx ld sx sd pb fs pc k1 k2 k3 t1 t2 t3 l p num cv stv tokv ++ news)) (T : Top VW LOO mean mg mb h₀) (hk : cs.kind = .function)
  (hdp : dp + 10 < recursionLimit) (hu : un + 100 < cLine) (hc1 : @LT.lt Nat _ ld lx) (hc2 : @LT.lt Nat _ lx sd) (hc3 : @LT.lt Nat _ lx sx) (hc4 : @LT.lt Nat _ sd pb) (hc5 : @LT.lt Nat _ sx pb) (hc6 : @LT.lt Nat _ pb fs) (hc7 : @LT.lt Nat _ fs pc) (hc8 : @Ne Nat sd sx)
  (hn1 : ∀ q ∈ news, q.1 ≠ ld) (hn2 : ∀ q ∈ news, q.1 ≠ sd) (hn3 : ∀ q ∈ news, q.1 ≠ pc)
  (hx : l.length ≤ 4000) (hp : p ≤ l.length) (hC : RtC κ wd dd l n p cv stv tokv) (hwz : wd.length ≤ 3900)
  (hw : κ = true → (∀ c ∈ wd, lett c) ∧ ∃ c d, dd = c :: d ∧ par c) (hw2 : κ = false → (∀ c ∈ wd, par c) ∧ (dd = [] ∨ ∃ c d, dd = c :: d ∧ lett c))
  (hret : ∀ t3' num' p' cv' stv' tt tt' h' tk', RtP dd l p' cv' stv' → Fr h₀ L h' m → News h₀ L h' (lexO w.params k t lx ld sx sd pb fs pc k1 k2 k3 t1 t2 t3' l p' num' cv' stv' (.str "" tt') ++ news) → Q (.str (st wd) tt) {s with heap := h', toks := tk'}) :
  wpAny (model PRG w) (ktrTop dp un gd cn cs L a ccd cl outer) (call (.ref 683) [.ref lx]) Q E s := by
  have he : (st wd == PySem.Str.ofString "") = decide (wd = []) := st_eof
  simp only [List.cons_append, List.nil_append] at N
  cases wd with
  | nil =>
    have he2 : (st [] == PySem.Str.ofString "") = true := he
    clear he
    refine wpAny_call ?_
    k_dflt ktr_enter
    k_steps
    rw [st_nil]
    refine' hret _ _ _ _ _ _ _ _ _ ?P ?F ?N
    case P => assumption
    case F => k_asm
    case N => k_asm
  | cons c r =>
    have he2 : (st (c :: r) == PySem.Str.ofString "") = false := by rw [he]; simp
    clear he
    refine wpAny_call ?_
    k_dflt ktr_enter
    k_steps
    refine' hret _ _ _ _ _ _ _ _ _ ?P ?F ?N
    case P => assumption
    case F => k_asm
    case N => k_asm
end
end Mine
end
section
open PySem PySem.W PyProof.Rows
set_option maxRecDepth 100000
set_option maxHeartbeats 8000000
namespace Mine
/-- runs of brackets and runs of letters by turns, brackets ahead and behind -/
inductive Alt : Bool → List (List Nat) → Prop
  | last {w : List Nat} : w ≠ [] → (∀ c ∈ w, par c) → Alt false [w]
  | pars {w : List Nat} {r : List (List Nat)} : w ≠ [] → (∀ c ∈ w, par c) → Alt true r → Alt false (w :: r)
  | letts {w : List Nat} {r : List (List Nat)} : w ≠ [] → (∀ c ∈ w, lett c) → Alt false r → Alt true (w :: r)
/-- what may stand: no token any more, or tokens by turns -/
noncomputable def AltE (κ : Bool) (r : List (List Nat)) : Prop := (κ = false ∧ r = []) ∨ Alt κ r
theorem Alt.ne {κ : Bool} {r : List (List Nat)} (h : Alt κ r) : ∃ c w r', r = (c :: w) :: r' ∧ (κ = false → par c) ∧ (κ = true → lett c) := by
  cases h with
  | @last w hn hp => cases w with
    | nil => exact absurd rfl hn
    | cons c w => exact ⟨c, w, [], rfl, fun _ => hp c (.head _), fun h => by cases h⟩
  | @pars w r hn hp _ => cases w with
    | nil => exact absurd rfl hn
    | cons c w => exact ⟨c, w, r, rfl, fun _ => hp c (.head _), fun h => by cases h⟩
  | @letts w r hn hp _ => cases w with
    | nil => exact absurd rfl hn
    | cons c w => exact ⟨c, w, r, rfl, (fun h => by cases h), fun _ => hp c (.head _)⟩
/-- what the reader of tokens needs to know of a token and what stands behind it -/
theorem Alt.tok {κ : Bool} {w : List Nat} {r : List (List Nat)} (h : Alt κ (w :: r)) :
    (κ = true → (∀ c ∈ w, lett c) ∧ ∃ c d, r.flatten = c :: d ∧ par c) ∧ (κ = false → (∀ c ∈ w, par c) ∧ (r.flatten = [] ∨ ∃ c d, r.flatten = c :: d ∧ lett c)) ∧ AltE (!κ && !r.isEmpty) r := by
  cases h with
  | last hn hp => exact ⟨(fun h => by cases h), fun _ => ⟨hp, .inl rfl⟩, .inl ⟨rfl, rfl⟩⟩
  | pars hn hp hr =>
    obtain ⟨c, w', r', e, _, h2⟩ := hr.ne
    refine ⟨(fun h => by cases h), fun _ => ⟨hp, .inr ⟨c, w' ++ r'.flatten, by rw [e]; rfl, h2 rfl⟩⟩, .inr ?_⟩
    subst e
    exact hr
  | letts hn hp hr =>
    obtain ⟨c, w', r', e, h2, _⟩ := hr.ne
    refine ⟨fun _ => ⟨hp, ⟨c, w' ++ r'.flatten, by rw [e]; rfl, h2 rfl⟩⟩, (fun h => by cases h), .inr ?_⟩
    subst e
    exact hr
/-- the lexer stands ahead of the tokens rem -/
structure RtS (κ : Bool) (rem : List (List Nat)) (l : List Nat) (p : Nat) (cv : List Value) (stv : Value) : Prop where
  alt : AltE κ rem
  at' : RtP rem.flatten l p cv stv ∨ (κ = false ∧ rem ≠ [] ∧ l.drop p = rem.flatten ∧ cv = [] ∧ ∃ ts, stv = .str " " ts)
  le : p ≤ l.length
  lens : ∀ w ∈ rem, w.length ≤ 3900
theorem RtP.le {dd l : List Nat} {p : Nat} {cv : List Value} {stv : Value} (h : RtP dd l p cv stv) : p ≤ l.length := by
  cases h with
  | eof => exact Nat.le_refl _
  | more _ _ h => exact h
theorem RtS.tok {κ : Bool} {rem : List (List Nat)} {l : List Nat} {p : Nat} {cv : List Value} {stv : Value} (h : RtS κ rem l p cv stv) (tt : Tok) :
    (∃ n, RtC κ (rem.headD []) rem.tail.flatten l n p cv stv (.str "" tt)) ∧ (rem.headD []).length ≤ 3900 ∧
    (κ = true → (∀ c ∈ rem.headD [], lett c) ∧ ∃ c d, rem.tail.flatten = c :: d ∧ par c) ∧ (κ = false → (∀ c ∈ rem.headD [], par c) ∧ (rem.tail.flatten = [] ∨ ∃ c d, rem.tail.flatten = c :: d ∧ lett c)) ∧
    (∃ κ', ∀ p' cv' stv', RtP rem.tail.flatten l p' cv' stv' → RtS κ' rem.tail l p' cv' stv') := by
  cases rem with
  | nil =>
    rcases h.alt with ⟨e, _⟩ | h'
    · subst e
      refine ⟨?_, by simp, fun h => (by cases h), fun _ => ⟨fun c hc => absurd hc (by simp), .inl rfl⟩, false, fun p' cv' stv' hP => ⟨.inl ⟨rfl, rfl⟩, .inl hP, hP.le, by simp⟩⟩
      rcases h.at' with hp | ⟨_, hn, _⟩
      · cases hp with
        | eof _ => exact ⟨1, RtC.fin rfl rfl rfl⟩
        | more e _ _ => exact absurd e (by simp)
      · exact absurd rfl hn
    · cases h'
  | cons w r =>
    have ha : Alt κ (w :: r) := by
      rcases h.alt with ⟨_, e⟩ | h'
      · cases e
      · exact h'
    obtain ⟨h1, h2, h3⟩ := ha.tok
    refine ⟨?_, h.lens w (.head _), h1, h2, _, fun p' cv' stv' hP => ⟨h3, .inl hP, hP.le, fun w' hw' => h.lens w' (.tail _ hw')⟩⟩
    obtain ⟨c, w', r', e, _⟩ := ha.ne
    cases e
    rcases h.at' with hp | ⟨hk, _, hd, hc, ts, hs⟩
    · cases hp with
      | eof e => exact absurd e (by simp)
      | more e hd _ =>
        simp only [List.flatten_cons, List.cons_append, List.cons.injEq] at e
        obtain ⟨rfl, rfl⟩ := e
        exact ⟨w'.length + 2, RtC.pend rfl hd⟩
    · subst hk; subst hc; subst hs
      exact ⟨w'.length + 2, RtC.first rfl rfl hd⟩
section
variable {w : World} {mean : ExcName → Option Value} {mg mb : PySem.Str → Option Value} {dp un : Nat} {gd : Option (List Code)} {cn : PySem.Str} {cs : Scope} {a : Addr} {ccd : Value} {cl : List (PySem.Str × Addr)} {outer : List Env} {A₀ : Around} {base h₀ : Heap} {L : Addr} {m : PySem.Str → Option Value} {news : List (Addr × Obj)} {s : Shared} {Q E : Value → Shared → Prop}
theorem next_spec {k t : Nat → Tok} {lx ld sx sd pb fs pc : Addr} {k1 k2 k3 t1 t2 t3 : Tok} {l : List Nat} {rem : List (List Nat)} {κ : Bool} {p : Nat} {num : Int} {cv : List Value} {stv : Value} {tt : Tok}
  (B : Below A₀ base outer h₀) (F : Fr h₀ L s.heap m) (X : (Mine.K w.params).In h₀)
  (N : News h₀ L s.heap (lexO w.params k t lx ld sx sd pb fs pc k1 k2 k3 t1 t2 t3 l p num cv stv (.str "" tt) ++ news)) (T : Top VW LOO mean mg mb h₀) (hk : cs.kind = .function)
  (hdp : dp + 10 < recursionLimit) (hu : un + 100 < cLine) (hS : RtS κ rem l p cv stv)
  (hc1 : @LT.lt Nat _ ld lx) (hc2 : @LT.lt Nat _ lx sd) (hc3 : @LT.lt Nat _ lx sx) (hc4 : @LT.lt Nat _ sd pb) (hc5 : @LT.lt Nat _ sx pb) (hc6 : @LT.lt Nat _ pb fs) (hc7 : @LT.lt Nat _ fs pc) (hc8 : @Ne Nat sd sx)
  (hn1 : ∀ q ∈ news, q.1 ≠ ld) (hn2 : ∀ q ∈ news, q.1 ≠ sd) (hn3 : ∀ q ∈ news, q.1 ≠ pc)
  (hx : l.length ≤ 4000)
  (hret : ∀ κ' t3' num' p' cv' stv' tt tt' h' tk', RtS κ' rem.tail l p' cv' stv' → Fr h₀ L h' m → News h₀ L h' (lexO w.params k t lx ld sx sd pb fs pc k1 k2 k3 t1 t2 t3' l p' num' cv' stv' (.str "" tt') ++ news) → Q (.str (st (rem.headD [])) tt) {s with heap := h', toks := tk'}) :
  wpAny (model PRG w) (ktrTop dp un gd cn cs L a ccd cl outer) (call (.ref 683) [.ref lx]) Q E s := by
  refine fold_G ?_
  intro G9
  obtain ⟨⟨n, hC⟩, hz, hw, hw2, κ', hn⟩ := hS.tok tt
  exact get_token_spec B F X N T hk hdp hu hc1 hc2 hc3 hc4 hc5 hc6 hc7 hc8 hn1 hn2 hn3 hx hS.le hC hz hw hw2 fun t3' num' p' cv' stv' tt1 tt' h' tk' hP F' N' => hret κ' t3' num' p' cv' stv' tt1 tt' h' tk' (hn _ _ _ hP) F' N'
end

/-- the order of the reader's addresses -/
structure LexLt (news : List (Addr × Obj)) (lx ld sx sd pb fs pc a0 a1 a2 : Nat) : Prop where
  c1 : @LT.lt Nat _ ld lx
  c2 : @LT.lt Nat _ lx sd
  c3 : @LT.lt Nat _ lx sx
  c4 : @LT.lt Nat _ sd pb
  c5 : @LT.lt Nat _ sx pb
  c6 : @LT.lt Nat _ pb fs
  c7 : @LT.lt Nat _ fs pc
  c8 : @Ne Nat sd sx
  c9 : @LT.lt Nat _ pc a2
  c10 : @LT.lt Nat _ a2 a1
  c11 : @LT.lt Nat _ a1 a0
  nw : ∀ q ∈ news, @LT.lt Nat _ q.1 ld
theorem LexLt.ne {news : List (Addr × Obj)} {lx ld sx sd pb fs pc a0 a1 a2 : Nat} (h : LexLt news lx ld sx sd pb fs pc a0 a1 a2) {d : Nat} (hd : ld ≤ d) (h0 : @Ne Nat a0 d) (h1 : @Ne Nat a1 d) (h2 : @Ne Nat a2 d) {o0 o1 o2 : Obj} :
    ∀ q ∈ (a2, o2) :: (a1, o1) :: (a0, o0) :: news, q.1 ≠ d :=
  List.forall_mem_cons.mpr ⟨h2, List.forall_mem_cons.mpr ⟨h1, List.forall_mem_cons.mpr ⟨h0, fun q hq => Nat.ne_of_lt (Nat.lt_of_lt_of_le (h.nw q hq) hd)⟩⟩⟩
theorem LexLt.n1 {news : List (Addr × Obj)} {lx ld sx sd pb fs pc a0 a1 a2 : Nat} (h : LexLt news lx ld sx sd pb fs pc a0 a1 a2) {o0 o1 o2 : Obj} : ∀ q ∈ (a2, o2) :: (a1, o1) :: (a0, o0) :: news, q.1 ≠ ld := by
  have := h.c1; have := h.c2; have := h.c4; have := h.c6; have := h.c7; have := h.c9; have := h.c10; have := h.c11
  exact h.ne (by (first | lia | omega)) (by (first | lia | omega)) (by (first | lia | omega)) (by (first | lia | omega))
theorem LexLt.n2 {news : List (Addr × Obj)} {lx ld sx sd pb fs pc a0 a1 a2 : Nat} (h : LexLt news lx ld sx sd pb fs pc a0 a1 a2) {o0 o1 o2 : Obj} : ∀ q ∈ (a2, o2) :: (a1, o1) :: (a0, o0) :: news, q.1 ≠ sd := by
  have := h.c1; have := h.c2; have := h.c4; have := h.c6; have := h.c7; have := h.c9; have := h.c10; have := h.c11
  exact h.ne (by (first | lia | omega)) (by (first | lia | omega)) (by (first | lia | omega)) (by (first | lia | omega))
theorem LexLt.n3 {news : List (Addr × Obj)} {lx ld sx sd pb fs pc a0 a1 a2 : Nat} (h : LexLt news lx ld sx sd pb fs pc a0 a1 a2) {o0 o1 o2 : Obj} : ∀ q ∈ (a2, o2) :: (a1, o1) :: (a0, o0) :: news, q.1 ≠ pc := by
  have := h.c1; have := h.c2; have := h.c4; have := h.c6; have := h.c7; have := h.c9; have := h.c10; have := h.c11
  exact h.ne (by (first | lia | omega)) (by (first | lia | omega)) (by (first | lia | omega)) (by (first | lia | omega))
theorem LexLt.w0 {news : List (Addr × Obj)} {lx ld sx sd pb fs pc a0 a1 a2 : Nat} (h : LexLt news lx ld sx sd pb fs pc a0 a1 a2) : ∀ q ∈ news, q.1 ≠ a0 := by
  have := h.c1; have := h.c2; have := h.c4; have := h.c6; have := h.c7; have := h.c9; have := h.c10; have := h.c11
  intro q hq
  have := h.nw q hq
  exact Nat.ne_of_lt (by (first | lia | omega))
theorem LexLt.w1 {news : List (Addr × Obj)} {lx ld sx sd pb fs pc a0 a1 a2 : Nat} (h : LexLt news lx ld sx sd pb fs pc a0 a1 a2) : ∀ q ∈ news, q.1 ≠ a1 := by
  have := h.c1; have := h.c2; have := h.c4; have := h.c6; have := h.c7; have := h.c9; have := h.c10; have := h.c11
  intro q hq
  have := h.nw q hq
  exact Nat.ne_of_lt (by (first | lia | omega))
theorem LexLt.w2 {news : List (Addr × Obj)} {lx ld sx sd pb fs pc a0 a1 a2 : Nat} (h : LexLt news lx ld sx sd pb fs pc a0 a1 a2) : ∀ q ∈ news, q.1 ≠ a2 := by
  have := h.c1; have := h.c2; have := h.c4; have := h.c6; have := h.c7; have := h.c9; have := h.c10; have := h.c11
  intro q hq
  have := h.nw q hq
  exact Nat.ne_of_lt (by (first | lia | omega))
theorem LexLt.top {news : List (Addr × Obj)} {lx ld sx sd pb fs pc a0 a1 a2 : Nat} (h : LexLt news lx ld sx sd pb fs pc a0 a1 a2) : ∀ q ∈ news, @LT.lt Nat _ q.1 a2 := by
  have := h.c1; have := h.c2; have := h.c4; have := h.c6; have := h.c7; have := h.c9; have := h.c10; have := h.c11
  intro q hq
  have := h.nw q hq
  (first | lia | omega)
theorem shuffle2 {α : Type} {aT x0 x1 x2 x3 x4 x5 x6 x7 x8 x9 : α} {r : List α} : ∀ p ∈ aT :: x7 :: x8 :: x9 :: r, p ∈ aT :: x0 :: x1 :: x2 :: x3 :: x4 :: x5 :: x6 :: x7 :: x8 :: x9 :: r := by
  intro p hp
  simp only [List.mem_cons] at hp ⊢
  rcases hp with h | h | h | h | h <;> simp [h]
theorem news_sub {h₀ h : Heap} {L : Addr} {l l' : List (Addr × Obj)} (N : News h₀ L h l) (hs : ∀ p ∈ l', p ∈ l) : News h₀ L h l' := fun p hp => N p (hs p hp)
theorem shuffle {α : Type} {D x0 x1 x2 t d x q q1 q2 x3 d1 D1 C x4 d2 : α} {r : List α} : ∀ p ∈ x3 :: d1 :: x4 :: d2 :: q :: q2 :: q1 :: x2 :: x1 :: x0 :: r, p ∈ D :: x0 :: x1 :: x2 :: t :: d :: x :: q :: q1 :: q2 :: x3 :: d1 :: D1 :: C :: x4 :: d2 :: r := by
  intro p hp
  simp only [List.mem_cons] at hp ⊢
  rcases hp with h | h | h | h | h | h | h | h | h | h | h <;> simp [h]
theorem lex_news {h₀ h : Heap} {L : Addr} {P : Params} {sx pb fs pc lx ld sd aD a0 a1 a2 at' ad ax aD1 aC : Addr} {oD o0 o1 o2 ot od ox oD1 oC : Obj} {i1 i2 i3 v1 v2 v3 j1 j2 j3 j4 j5 j6 j7 j8 j9 j10 j11 j12 j13 j14 j15 j16 j17 j18 j19 j20 u4 u5 u6 u7 u9 u10 u11 u12 u14 u15 u16 u19 : Tok} {l : List Nat} {news : List (Addr × Obj)}
  (N : News h₀ L h ((aD, oD) :: (a0, o0) :: (a1, o1) :: (a2, o2) :: (at', ot) :: (ad, od) :: (ax, ox) :: (pc, dqO 0 []) :: (fs, dqO 0 []) :: (pb, dqO 0 []) :: (sx, instObj 587 sd) :: (sd, dictOf (sioEs P i1 i2 i3 v1 v2 v3 (st l) 0) 3) :: (aD1, oD1) :: (aC, oC) :: (lx, instObj 722 ld) :: (ld, dictOf [ent P "instream" j1 (.ref sx),
    ent P "infile" j2 (.none),
    ent P "posix" j3 (.bool false),
    ent P "eof" j4 (.str "" u4),
    ent P "commenters" j5 (.str "#" u5),
    ent P "wordchars" j6 (.str WC u6),
    ent P "whitespace" j7 (.str " \t\r\n" u7),
    ent P "whitespace_split" j8 (.bool false),
    ent P "quotes" j9 (.str "'\"" u9),
    ent P "escape" j10 (.str "\\" u10),
    ent P "escapedquotes" j11 (.str "\"" u11),
    ent P "state" j12 (.str " " u12),
    ent P "pushback" j13 (.ref pb),
    ent P "lineno" j14 (.int 1 u14),
    ent P "debug" j15 (.int 0 u15),
    ent P "token" j16 (.str "" u16),
    ent P "filestack" j17 (.ref fs),
    ent P "source" j18 (.none),
    ent P "_punctuation_chars" j19 (.str "()" u19),
    ent P "_pushback_chars" j20 (.ref pc)] 20) :: news))
  (g1 : ∀ p ∈ news, p.1 < ld) (g2 : ld < lx) (g3 : lx < aC ∧ ld < aC ∧ AllLt aC news) (g4 : aC < aD1) (g5 : aD1 < sd ∧ aC < sd ∧ lx < sd ∧ ld < sd ∧ AllLt sd news) (g6 : sd < sx) (g7 : sx < pb ∧ sd < pb ∧ aD1 < pb ∧ aC < pb ∧ lx < pb ∧ ld < pb ∧ AllLt pb news) (g8 : pb < fs ∧ sx < fs ∧ sd < fs ∧ aD1 < fs ∧ aC < fs ∧ lx < fs ∧ ld < fs ∧ AllLt fs news) (g9 : fs < pc ∧ pb < pc ∧ sx < pc ∧ sd < pc ∧ aD1 < pc ∧ aC < pc ∧ lx < pc ∧ ld < pc ∧ AllLt pc news) (g10 : pc < ax ∧ fs < ax ∧ pb < ax ∧ sx < ax ∧ sd < ax ∧ aD1 < ax ∧ aC < ax ∧ lx < ax ∧ ld < ax ∧ AllLt ax news) (g11 : ax < ad ∧ pc < ad ∧ fs < ad ∧ pb < ad ∧ sx < ad ∧ sd < ad ∧ aD1 < ad ∧ aC < ad ∧ lx < ad ∧ ld < ad ∧ AllLt ad news) (g12 : ad < at' ∧ ax < at' ∧ pc < at' ∧ fs < at' ∧ pb < at' ∧ sx < at' ∧ sd < at' ∧ aD1 < at' ∧ aC < at' ∧ lx < at' ∧ ld < at' ∧ AllLt at' news) (g13 : at' < a2 ∧ ad < a2 ∧ ax < a2 ∧ pc < a2 ∧ fs < a2 ∧ pb < a2 ∧ sx < a2 ∧ sd < a2 ∧ aD1 < a2 ∧ aC < a2 ∧ lx < a2 ∧ ld < a2 ∧ AllLt a2 news) (g14 : a2 < a1 ∧ at' < a1 ∧ ad < a1 ∧ ax < a1 ∧ pc < a1 ∧ fs < a1 ∧ pb < a1 ∧ sx < a1 ∧ sd < a1 ∧ aD1 < a1 ∧ aC < a1 ∧ lx < a1 ∧ ld < a1 ∧ AllLt a1 news) (g15 : a1 < a0 ∧ a2 < a0 ∧ at' < a0 ∧ ad < a0 ∧ ax < a0 ∧ pc < a0 ∧ fs < a0 ∧ pb < a0 ∧ sx < a0 ∧ sd < a0 ∧ aD1 < a0 ∧ aC < a0 ∧ lx < a0 ∧ ld < a0 ∧ AllLt a0 news) :
  ∃ (k t : Nat → Tok) (k1 k2 k3 t1 t2 t3 ts tt : Tok), News h₀ L h (lexO P k t lx ld sx sd pb fs pc k1 k2 k3 t1 t2 t3 l (0 : Nat) 0 [] (.str " " ts) (.str "" tt) ++ (a2, o2) :: (a1, o1) :: (a0, o0) :: news) ∧ LexLt news lx ld sx sd pb fs pc a0 a1 a2 := by
  have q : LexLt news lx ld sx sd pb fs pc a0 a1 a2 := by
    refine ⟨g2, g5.2.2.1, Nat.lt_trans g5.2.2.1 g6, g7.2.1, g7.1, g8.1, g9.1, Nat.ne_of_lt g6, ?_, g14.1, g15.1, g1⟩
    exact g13.2.2.2.1
  exact ⟨fun i => match i with | 1 => j1 | 2 => j2 | 3 => j3 | 4 => j4 | 5 => j5 | 6 => j6 | 7 => j7 | 8 => j8 | 9 => j9 | 10 => j10 | 11 => j11 | 12 => j12 | 13 => j13 | 14 => j14 | 15 => j15 | 16 => j16 | 17 => j17 | 18 => j18 | 19 => j19 | 20 => j20 | _ => 0, fun i => match i with | 4 => u4 | 5 => u5 | 6 => u6 | 7 => u7 | 9 => u9 | 10 => u10 | 11 => u11 | 14 => u14 | 15 => u15 | 19 => u19 | _ => 0, i1, i2, i3, v1, v2, v3, u12, u16, news_sub N shuffle, q⟩
end Mine
end
section
open PySem PySem.W PyProof.Rows
set_option maxRecDepth 100000
set_option maxHeartbeats 8000000
namespace Mine
theorem kf4 : (PySem.Challenge.rw_ik0083_01, Mine.K) = (PySem.Challenge.rw_ik0083_01, Mine.K) := by
  k_fill
  rfl

theorem rows_S4_1 : True := by
  k_with_none
  (k_with "ktr_enter" => (refine' code_def ?k1 ?k2 ?k3 ?k4 ?k5 ?kA ?kF ?kK ?k6 ?k7 ?k8 ?k9 ?kB ?_ ?c2 ?c3 ?c4 ?c5; (case kA => exact rfl); (case kF => exact rfl); (case kK => assumption); (case k1 => k_asm); (case k2 => k_asm); (case k3 => k_asm); (case k4 => k_asm); (case k5 => k_asm); (case k6 => k_is); (case k7 => k_is); (case k8 => ktr_room); (case k9 => first | exact BindsTo.of_eq rfl | exact binds_K (by k_in) rfl (by k_is) rfl rfl rfl); (case c5 => decide); (case kB => exact locs rfl); (case c2 => exact rfl); (case c3 => exact rfl); (case c4 => exact rfl); k_whole; intro g' L' h' FG' F' N' B' X' T'; (try dsimp only); (try k_fold); (try (refine fold_A ?_; intro A9))))
  (k_with "k_room" => ktr_room)
  (k_with "k_all" => assumption)
  (k_with "ktr_room" => ((with_reducible rename _ + _ < recursionLimit => hd9); first | exact room_ 0 hd9 rfl rfl | exact room_ 1 hd9 rfl rfl | exact room_ 2 hd9 rfl rfl | exact room_ 3 hd9 rfl rfl | exact room_ 4 hd9 rfl rfl | exact room_ 5 hd9 rfl rfl | exact room_ 6 hd9 rfl rfl | exact room_ 7 hd9 rfl rfl | exact room_ 8 hd9 rfl rfl | exact room_ 9 hd9 rfl rfl | exact room_ 10 hd9 rfl rfl | exact room_ 11 hd9 rfl rfl | exact room_ 12 hd9 rfl rfl | exact room_ 13 hd9 rfl rfl | exact room_ 14 hd9 rfl rfl | exact room_ 15 hd9 rfl rfl | exact room_ 16 hd9 rfl rfl | exact room_ 17 hd9 rfl rfl | exact room_ 18 hd9 rfl rfl | exact room_ 19 hd9 rfl rfl | exact room_ 20 hd9 rfl rfl | exact room_ 21 hd9 rfl rfl | exact room_ 22 hd9 rfl rfl | exact room_ 23 hd9 rfl rfl | exact room_ 24 hd9 rfl rfl | exact room_ 25 hd9 rfl rfl))
  (k_with "ktr_units" => ((with_reducible rename _ + _ < cLine => hu9); first | exact units_ 0 hu9 rfl rfl | exact units_ 1 hu9 rfl rfl | exact units_ 2 hu9 rfl rfl | exact units_ 3 hu9 rfl rfl | exact units_ 4 hu9 rfl rfl | exact units_ 5 hu9 rfl rfl | exact units_ 6 hu9 rfl rfl | exact units_ 7 hu9 rfl rfl | exact units_ 8 hu9 rfl rfl | exact units_ 9 hu9 rfl rfl | exact units_ 10 hu9 rfl rfl | exact units_ 11 hu9 rfl rfl | exact units_ 12 hu9 rfl rfl | exact units_ 13 hu9 rfl rfl | exact units_ 14 hu9 rfl rfl | exact units_ 15 hu9 rfl rfl | exact units_ 16 hu9 rfl rfl | exact units_ 17 hu9 rfl rfl | exact units_ 18 hu9 rfl rfl | exact units_ 19 hu9 rfl rfl | exact units_ 20 hu9 rfl rfl | exact units_ 21 hu9 rfl rfl | exact units_ 22 hu9 rfl rfl | exact units_ 23 hu9 rfl rfl | exact units_ 24 hu9 rfl rfl | exact units_ 25 hu9 rfl rfl | exact units_ 26 hu9 rfl rfl | exact units_ 27 hu9 rfl rfl | exact units_ 28 hu9 rfl rfl | exact units_ 29 hu9 rfl rfl | exact units_ 30 hu9 rfl rfl | exact units_ 31 hu9 rfl rfl | exact units_ 32 hu9 rfl rfl | exact units_ 33 hu9 rfl rfl | exact units_ 34 hu9 rfl rfl | exact units_ 35 hu9 rfl rfl | exact units_ 36 hu9 rfl rfl | exact units_ 37 hu9 rfl rfl | exact units_ 38 hu9 rfl rfl | exact units_ 39 hu9 rfl rfl | exact units_ 40 hu9 rfl rfl | exact units_ 41 hu9 rfl rfl | exact units_ 42 hu9 rfl rfl | exact units_ 43 hu9 rfl rfl | exact units_ 44 hu9 rfl rfl | exact units_ 45 hu9 rfl rfl | exact units_ 46 hu9 rfl rfl | exact units_ 47 hu9 rfl rfl | exact units_ 48 hu9 rfl rfl | exact units_ 49 hu9 rfl rfl | exact units_ 50 hu9 rfl rfl | exact units_ 51 hu9 rfl rfl | exact units_ 52 hu9 rfl rfl | exact units_ 53 hu9 rfl rfl | exact units_ 54 hu9 rfl rfl | exact units_ 55 hu9 rfl rfl | exact units_ 56 hu9 rfl rfl | exact units_ 57 hu9 rfl rfl | exact units_ 58 hu9 rfl rfl | exact units_ 59 hu9 rfl rfl | exact units_ 60 hu9 rfl rfl))
  (k_with "k_ne" => (first | exact Nat.ne_of_lt (by assumption) | exact Nat.ne_of_gt (by assumption) | assumption | exact Ne.symm (by assumption) | exact Nat.ne_of_lt (And.left (by assumption)) | exact Nat.ne_of_gt (And.left (by assumption)) | exact Nat.ne_of_lt (And.left (And.right (by assumption))) | exact Nat.ne_of_gt (And.left (And.right (by assumption))) | exact Nat.ne_of_lt (And.left (And.right (And.right (by assumption)))) | exact Nat.ne_of_gt (And.left (And.right (And.right (by assumption)))) | exact Nat.ne_of_lt (And.left (And.right (And.right (And.right (by assumption))))) | exact Nat.ne_of_gt (And.left (And.right (And.right (And.right (by assumption))))) | exact Nat.ne_of_lt (And.left (And.right (And.right (And.right (And.right (by assumption)))))) | exact Nat.ne_of_gt (And.left (And.right (And.right (And.right (And.right (by assumption)))))) | exact Nat.ne_of_lt (And.left (And.right (And.right (And.right (And.right (And.right (by assumption))))))) | exact Nat.ne_of_gt (And.left (And.right (And.right (And.right (And.right (And.right (by assumption))))))) | exact Nat.ne_of_lt (And.left (And.right (And.right (And.right (And.right (And.right (And.right (by assumption)))))))) | exact Nat.ne_of_gt (And.left (And.right (And.right (And.right (And.right (And.right (And.right (by assumption)))))))) | exact Nat.ne_of_lt (And.left (And.right (And.right (And.right (And.right (And.right (And.right (And.right (by assumption))))))))) | exact Nat.ne_of_gt (And.left (And.right (And.right (And.right (And.right (And.right (And.right (And.right (by assumption))))))))) | exact Nat.ne_of_lt (And.left (And.right (And.right (And.right (And.right (And.right (And.right (And.right (And.right (by assumption)))))))))) | exact Nat.ne_of_gt (And.left (And.right (And.right (And.right (And.right (And.right (And.right (And.right (And.right (by assumption)))))))))) | exact Nat.ne_of_lt (And.left (And.right (And.right (And.right (And.right (And.right (And.right (And.right (And.right (And.right (by assumption))))))))))) | exact Nat.ne_of_gt (And.left (And.right (And.right (And.right (And.right (And.right (And.right (And.right (And.right (And.right (by assumption))))))))))) | (refine neN ?_; (try dsimp only); (first | lia | omega))))
  (k_with "exec If" => (refine if_fold ?_; intro q8))
  (k_with "isTrue Compare" => (refine is_cmp ?_))
  (k_with "ite" => (k_here; first | with_reducible refine ite_tt ?_ | with_reducible refine ite_ff ?_ | k_dflt (first | refine ite_pos (by decide) ?_ | refine ite_neg (by decide) ?_)))
  (k_with "execs cons" => (first | (rename Shared => s9; refine stmt_cons s9 ?_; intro t9 s8 q8) | (refine wpAny_execs_cons ?_; (try k_fold))))
  (k_with "truthy ref" => (k_here; (with_reducible show wpAny _ _ (truthy (Value.ref _)) _ _ _); k_dflt (first | (refine' dq_truthy (xs := []) (b := false) (News.get ?N ?m) ?z ?b ?_; (case N => k_asm); (case m => k_mem); (case z => exact Nat.le_of_ble_eq_true rfl); (case b => exact rfl); k_whole) | (refine' dq_truthy (xs := _ :: _) (b := true) (News.get ?N ?m) ?z ?b ?_; (case N => k_asm); (case m => k_mem); (case z => exact Nat.le_of_ble_eq_true rfl); (case b => exact rfl); k_whole))))
  (k_with "getMethod ref" => (k_here; (with_reducible show wpAny _ _ (getMethod (Value.ref _) (PySem.Str.ofString "append") _) _ _ _); k_dflt (refine' dq_method (News.get ?N ?m) slot_dq_append type_dq_append ?_; (case N => k_asm); (case m => k_mem); k_whole)))
  (k_with "getMethod ref" => (k_here; (with_reducible show wpAny _ _ (getMethod (Value.ref _) (PySem.Str.ofString "pop") _) _ _ _); k_dflt (refine' dq_method (News.get ?N ?m) slot_dq_pop type_dq_pop ?_; (case N => k_asm); (case m => k_mem); k_whole)))
  (k_with "call builtin:collections.deque.append" => (k_here; k_dflt (refine' dq_append ?F ?N ?U ?z ?_; (case F => k_asm); (case N => k_asm); (case U => k_upd); (case z => exact Nat.le_of_ble_eq_true rfl); k_whole); intro h' F' N'; (try simp only [List.nil_append] at N'); (try k_sweep)))
  (k_with "call builtin:collections.deque.pop" => (k_here; k_dflt (refine' dq_pop (xs := []) ?F ?N ?U ?z ?_; (case F => k_asm); (case N => k_asm); (case U => k_upd); (case z => exact Nat.le_of_ble_eq_true rfl); k_whole); intro h' F' N'; (try k_sweep)))
  (k_with "compareOp In str str" => (k_here; (refine' in_known ?h ?_; (case h => with_reducible assumption))))
  (k_with "compareOp NotIn str str" => (k_here; (refine' notin_known ?h ?_; (case h => with_reducible assumption))))
  (k_with "compareOp Eq str str" => (k_here; (refine' eq_known ?h ?_; (case h => with_reducible assumption))))
  (k_with "truthy str" => (k_here; (refine' truthy_cons ?h ?_; (case h => first | decide | (first | lia | omega))); intro _))
  (k_with "TurnW" => (refine stop_of ?_))
  exact trivial
/-- one token's turn of the reader: brackets change the depth, a word is told with its depth -/
noncomputable def rdStep (x : List Int × Int × List Int × List PySem.Str) (w : List Nat) : List Int × Int × List Int × List PySem.Str :=
  if w.headD 0 = 40 ∨ w.headD 0 = 41 then (x.1 ++ [x.2.1], x.2.1 + (w.count 40 : Nat) - (w.count 41 : Nat), x.2.2.1, x.2.2.2) else (x.1, x.2.1, x.2.2.1 ++ [x.2.1], x.2.2.2 ++ [st w])
/-- the reader's objects -/
noncomputable abbrev rdO (P : Params) (k t : Nat → Tok) (lx ld sx sd pb fs pc : Addr) (k1 k2 k3 t1 t2 t3 : Tok) (l : List Nat) (p : Nat) (n : Int) (cs : List Value) (stv tokv : Value) (a0 a1 a2 : Addr) (pv dv tv : List Value) (last : Int) (tl : Tok) (n0 n1 n2 : Nat) : List (Addr × Obj) :=
  lexO P k t lx ld sx sd pb fs pc k1 k2 k3 t1 t2 t3 l p n cs stv tokv ++ [(a2, W.listOf (List.toArray (pv ++ [Value.int last tl])) n2), (a1, W.listOf (List.toArray dv) n1), (a0, W.listOf (List.toArray tv) n0)]
structure RdOk (κ κ' : Bool) (rem : List (List Nat)) (l : List Nat) (p : Nat) (cv : List Value) (stv : Value) (pv dv tv : List Value) (last : Int) (fin : List Int × Int × List Int × List PySem.Str) (n : Nat) : Prop where
  alt : AltE κ rem
  at' : RtS κ' rem.tail l p cv stv
  ex : ∃ pre deps told, IntsAre pv pre ∧ IntsAre dv deps ∧ StrsAre tv told ∧ rem.foldl rdStep (pre, last, deps, told) = fin
  num : n = rem.length
  lens : ∀ w ∈ rem, w.length ≤ 3900
  rooms : pv.length + rem.length ≤ 4000 ∧ dv.length + rem.length ≤ 4000 ∧ tv.length + rem.length ≤ 4000
noncomputable def RdI (w : World) (g : Heap) (L' : Addr) (base : PySem.Str → Option Value) (s : Shared) (news : List (Addr × Obj)) (k t : Nat → Tok) (lx ld sx sd pb fs pc : Addr) (k1 k2 k3 t1 t2 : Tok) (l : List Nat) (a0 a1 a2 : Addr) (fin : List Int × Int × List Int × List PySem.Str) (n : Nat) (s' : Shared) : Prop :=
  ∃ κ κ' rem h' tk' p num cv stv t3 tt tt1 pv dv tv last tl n0 n1 n2, s' = {s with heap := h', toks := tk'} ∧ Fr g L' h' (over "token" (some (.str (st (rem.headD [])) tt1)) base) ∧ News g L' h' (rdO w.params k t lx ld sx sd pb fs pc k1 k2 k3 t1 t2 t3 l p num cv stv (.str "" tt) a0 a1 a2 pv dv tv last tl n0 n1 n2 ++ news) ∧ RdOk κ κ' rem l p cv stv pv dv tv last fin n
section
variable {w : World} {mean : ExcName → Option Value} {mg mb : PySem.Str → Option Value} {dp un : Nat} {gd : Option (List Code)} {cn : PySem.Str} {cs : Scope} {a : Addr} {ccd : Value} {cl : List (PySem.Str × Addr)} {outer : List Env} {A₀ : Around} {base h₀ : Heap} {L : Addr} {m : PySem.Str → Option Value} {news : List (Addr × Obj)} {s : Shared} {Q E : Value → Shared → Prop}

theorem rd_loop {prog : Program} {A : Around} {env : Env} {test : Expr} {body orelse : List Stmt} {pos : Pos} {Q : Flow → Shared → Prop} {g : Heap} {base : PySem.Str → Option Value}
  {k t : Nat → Tok} {lx ld sx sd pb fs pc : Addr} {k1 k2 k3 t1 t2 t3 tt tt1 tl : Tok} {l : List Nat} {tks : List (List Nat)} {κ' : Bool} {p : Nat} {num : Int} {cv : List Value} {stv : Value} {a0 a1 a2 : Addr}
  (F0 : Fr g L s.heap (fun y => if y = "token" then some (Value.str (st (tks.headD [])) tt1) else base y))
  (N0 : News g L s.heap (lexO w.params k t lx ld sx sd pb fs pc k1 k2 k3 t1 t2 t3 l p num cv stv (.str "" tt) ++ (a2, W.listOf #[.int 0 tl] 0) :: (a1, W.listOf #[] 0) :: (a0, W.listOf #[] 0) :: news))
  (hA : Alt false tks) (hz : ∀ w ∈ tks, w.length ≤ 3900) (hn : tks.length ≤ 3900) (hS : RtS κ' tks.tail l p cv stv)
  (turn : ∀ n s', RdI w g L base s news k t lx ld sx sd pb fs pc k1 k2 k3 t1 t2 l a0 a1 a2 (tks.foldl rdStep ([], 0, [], [])) n s' →
     wpAny (model prog w) A (isTrue test env (eval test env)) (fun b s₂ =>
      if b then wpAny (model prog w) A (execs body env) (TurnW (RdI w g L base s news k t lx ld sx sd pb fs pc k1 k2 k3 t1 t2 l a0 a1 a2 (tks.foldl rdStep ([], 0, [], []))) n Q) (TurnE prog w A env E) s₂
      else wpAny (model prog w) A (execs orelse env) Q (TurnE prog w A env E) s₂) (TurnE prog w A env E) s') :
  wpAny (model prog w) A (exec (.While test body orelse pos) env) Q E s := by
  refine while_inv (RdI w g L base s news k t lx ld sx sd pb fs pc k1 k2 k3 t1 t2 l a0 a1 a2 (tks.foldl rdStep ([], 0, [], []))) turn tks.length ?_
  exact ⟨false, κ', tks, s.heap, s.toks, p, num, cv, stv, t3, tt, tt1, [], [], [], 0, tl, 0, 0, 0, rfl, F0, N0, .inr hA, hS, ⟨[], [], [], .nil, .nil, .nil, rfl⟩, rfl, hz, by simp; (first | lia | omega)⟩
theorem rd_next {g h' : Heap} {base : PySem.Str → Option Value} {k t : Nat → Tok} {lx ld sx sd pb fs pc a0 a1 a2 : Addr} {k1 k2 k3 t1 t2 t3 tt tt1 tl : Tok} {l : List Nat} {κ κ' : Bool} {rem : List (List Nat)} {p : Nat} {num : Int} {cv : List Value} {stv : Value} {v' : Option Value} {pv dv tv : List Value} {last : Int} {n0 n1 n2 n n' : Nat} {fin : List Int × Int × List Int × List PySem.Str} {tk' : Nat} {Q : Flow → Shared → Prop}
  (F0 : Fr g L h' (fun y => if y = "token" then some (Value.str (st (rem.headD [])) tt1) else over "token" v' base y))
  (N0 : News g L h' (rdO w.params k t lx ld sx sd pb fs pc k1 k2 k3 t1 t2 t3 l p num cv stv (.str "" tt) a0 a1 a2 pv dv tv last tl n0 n1 n2 ++ news))
  (hok : RdOk κ κ' rem l p cv stv pv dv tv last fin n') (hlt : n' < n) : TurnW (RdI w g L base s news k t lx ld sx sd pb fs pc k1 k2 k3 t1 t2 l a0 a1 a2 fin) n Q .next {s with heap := h', toks := tk'} :=
  ⟨n', hlt, κ, κ', rem, h', tk', p, num, cv, stv, t3, tt, tt1, pv, dv, tv, last, tl, n0, n1, n2, rfl, fr_cast F0 over_set, N0, hok⟩
theorem s_open : PySem.Str.ofString "(" = st [40] := by decide +kernel
theorem s_shut : PySem.Str.ofString ")" = st [41] := by decide +kernel
theorem rd_ok_par {c : Nat} {w' l : List Nat} {r' : List (List Nat)} {κ3 : Bool} {p : Nat} {cv : List Value} {stv : Value} {pv dv tv : List Value} {last : Int} {tl : Tok} {fin : List Int × Int × List Int × List PySem.Str}
  (ha : Alt false ((c :: w') :: r')) (hc : par c) (hS : RtS κ3 r'.tail l p cv stv) (hex : ∃ pre deps told, IntsAre pv pre ∧ IntsAre dv deps ∧ StrsAre tv told ∧ ((c :: w') :: r').foldl rdStep (pre, last, deps, told) = fin)
  (hz : ∀ w ∈ (c :: w') :: r', w.length ≤ 3900) (h1 : pv.length + (r'.length + 1) ≤ 4000) (h2 : dv.length + (r'.length + 1) ≤ 4000) (h3 : tv.length + (r'.length + 1) ≤ 4000) :
  RdOk (!false && !r'.isEmpty) κ3 r' l p cv stv (pv ++ [.int last tl]) dv tv (last + Txt.count (st (c :: w')) "(" - Txt.count (st (c :: w')) ")") fin r'.length := by
  refine ⟨ha.tok.2.2, hS, ?_, rfl, fun w hw => hz w (.tail _ hw), ?_, by (first | lia | omega), by (first | lia | omega)⟩
  · obtain ⟨pre, deps, told, i1, i2, i3, e⟩ := hex
    refine ⟨pre ++ [last], deps, told, i1.append (.cons _ _ .nil), i2, i3, ?_⟩
    rw [← e, List.foldl_cons]
    congr 1
    have hc' : c = 40 ∨ c = 41 := hc
    unfold rdStep
    rw [s_open, s_shut, count_st, count_st, List.headD_cons, if_pos hc']
  · simp only [List.length_append, List.length_cons, List.length_nil]; (first | lia | omega)
theorem rd_ok_lett {c : Nat} {w' l : List Nat} {r' : List (List Nat)} {κ3 : Bool} {p : Nat} {cv : List Value} {stv : Value} {pv dv tv : List Value} {last : Int} {tl t2 : Tok} {fin : List Int × Int × List Int × List PySem.Str}
  (ha : Alt true ((c :: w') :: r')) (hc : lett c) (hS : RtS κ3 r'.tail l p cv stv) (hex : ∃ pre deps told, IntsAre pv pre ∧ IntsAre dv deps ∧ StrsAre tv told ∧ ((c :: w') :: r').foldl rdStep (pre, last, deps, told) = fin)
  (hz : ∀ w ∈ (c :: w') :: r', w.length ≤ 3900) (h1 : pv.length + (r'.length + 1) ≤ 4000) (h2 : dv.length + (r'.length + 1) ≤ 4000) (h3 : tv.length + (r'.length + 1) ≤ 4000) :
  RdOk (!true && !r'.isEmpty) κ3 r' l p cv stv pv (dv ++ [.int last tl]) (tv ++ [.str (st (c :: w')) t2]) last fin r'.length := by
  refine ⟨ha.tok.2.2, hS, ?_, rfl, fun w hw => hz w (.tail _ hw), by (first | lia | omega), ?_, ?_⟩
  · obtain ⟨pre, deps, told, i1, i2, i3, e⟩ := hex
    refine ⟨pre, deps ++ [last], told ++ [st (c :: w')], i1, i2.append (.cons _ _ .nil), i3.append' (.cons _ _ .nil), ?_⟩
    rw [← e, List.foldl_cons]
    congr 1
    have hc' : ¬ (c = 40 ∨ c = 41) := by obtain ⟨h1, h2⟩ := hc; (first | lia | omega)
    unfold rdStep
    rw [List.headD_cons, if_neg hc']
  · simp only [List.length_append, List.length_cons, List.length_nil]; (first | lia | omega)
  · simp only [List.length_append, List.length_cons, List.length_nil]; (first | lia | omega)
theorem len_flatten : ∀ {r : List (List Nat)}, (∀ w ∈ r, w ≠ []) → r.length ≤ r.flatten.length
  | [], _ => Nat.le_refl _
  | w :: r, h => by
    have h1 := len_flatten (r := r) fun w hw => h w (.tail _ hw)
    have h2 : 0 < w.length := List.length_pos_iff.mpr (h w (.head _))
    simp only [List.flatten_cons, List.length_append, List.length_cons]
    (first | lia | omega)

theorem rows_S4_2 : True := by
  (k_with "call ref" => (k_here; (with_reducible show wpAny _ _ (call (Value.ref 587) _) _ _ _); k_dflt (refine' make_own2 ?X ?_; (case X => k_in); k_whole)))
  (k_with "OwnMade" => (k_dflt (refine' OwnMade.intro ?N ?m1 ?m2 ?X ?_; (case N => k_asm); (case m1 => k_mem); (case m2 => k_mem); (case X => k_in); k_whole)))
  (k_with "call builtin:object.__new__" => (k_here; k_dflt (refine' new_own_K ?F ?N ?X ?_; (case F => k_asm); (case N => k_asm); (case X => k_in); k_whole; intro x' d' h' F' N' l1 l2; (try k_lt l1); (try k_lt2 l2); (try k_sweep))))
  (k_with "call type:collections.deque" => (k_here; k_dflt (refine' dq_make ?F ?N ?_; (case F => k_asm); (case N => k_asm); k_whole; intro q' h' F' N' l1; (try k_lt l1); (try k_sweep))))
  (k_with "getMethod str" => (k_here; (with_reducible show wpAny _ _ (getMethod (Value.str _ _) (PySem.Str.ofString "maketrans") _) _ _ _); (with_reducible refine mt_method2 ?_); intro _))
  (k_with "getMethod str" => (k_here; (with_reducible show wpAny _ _ (getMethod (Value.str _ _) (PySem.Str.ofString "translate") _) _ _ _); (with_reducible refine tr_method ?_)))
  (k_with "getMethod type:dict" => (k_here; k_dflt (refine' fk_getm ?F ?N ?X ?e ?_; (case F => k_asm); (case N => k_asm); (case X => k_asm); (case e => k_is); k_whole; intro x' h' F' N' l1; have hfk' := FkMark.mk x'; (try k_lt l1); (try k_sweep))))
  (k_with "callWith ref" => (k_here; (with_reducible show wpAny _ _ (callWith _ (Value.ref _) _ (backTo _ (starEach (_ :: _) _)) []) _ _ _); k_dflt (refine' fk_callWith2 ?K ?N ?M ?_; (case K => with_reducible assumption); (case N => k_asm); (case M => k_mem); k_whole)))
  (k_with "And" => ((with_reducible show FkAt _ _ ∧ _); k_dflt (refine ⟨fk_at (by k_asm) (by k_mem), ?_⟩); (try dsimp only [List.nil_append, List.cons_append])))
  (k_with "call ref" => (k_here; (with_reducible show wpAny _ _ (call (Value.ref _) [Value.str _ _]) _ _ _); k_dflt (refine' fk_call2 ?K ?A ?F ?N ?M ?B ?_; (case K => with_reducible assumption); (case A => rfl); (case F => k_asm); (case N => k_asm); (case M => k_mem); (case B => exact modules_low (Top.nolimit (by k_asm))); k_whole; intro d' o' h' tk' F' N' l1 lo' ho'; (try k_lt l1); (try k_sweep))))
  (k_with "call builtin:str.maketrans" => (k_here; k_dflt (refine' mt_call ?F ?N ?M ?O ?B ?D ?_; (case F => k_asm); (case N => k_asm); (case M => k_mem); (case O => assumption); (case B => exact modules_low (Top.nolimit (by k_asm))); (case D => assumption); k_whole; intro t' o' h' tk' F' N' l1 lo' ho'; (try k_lt l1); (try k_sweep))))
  (k_with "call builtin:str.translate" => (k_here; k_dflt (refine' tr_call ?A ?F ?N ?M ?O ?D ?_; (case A => rfl); (case F => k_asm); (case N => k_asm); (case M => k_mem); (case O => assumption); (case D => assumption); k_whole; intro u' h' tk' F' N'; (try k_sweep))))
  (k_with "callWith ref" => (k_here; (with_reducible show wpAny _ _ (callWith _ (Value.ref _) _ (backTo _ (starEach [] _)) []) _ _ _); (refine' callWith_K0 (K := Mine.K _) ?k1 ?k2 ?_; (case k1 => k_in); (case k2 => k_dflt k_is); k_whole)))
  (k_with "call ref" => (k_here; (with_reducible show wpAny _ _ (call (Value.ref 683) _) _ _ _); (refine stop_of ?_)))
  (k_with "exec While" => (refine stop_of ?_))
  (k_with "subscriptTail" => (k_here; (with_reducible show wpAny _ _ (subscriptTail _ _ (Value.str (st _) _) (Value.int 0 _)) _ _ _); (refine' sub_first ?z ?_; (case z => assumption)); intro _ _))
  (k_with "subscriptTail Name UnaryOp ref int" => (k_here; (with_reducible show wpAny _ _ (subscriptTail _ _ (Value.ref _) (Value.int _ _)) _ _ _); k_dflt (refine' sub_last ?N ?m ?z ?_; (case N => k_asm); (case m => k_mem); (case z => (first | lia | omega)); k_whole)))
  (k_with "call builtin:list.append" => (k_here; (with_reducible show wpAny _ _ (call (Value.builtin _) [Value.ref _, _]) _ _ _); k_dflt (refine' app_snoc ?k1 ?k2 ?k3 ?z ?_; (case k1 => k_asm); (case k2 => k_asm); (case k3 => k_upd); (case z => first | (first | lia | omega) | (simp only [List.length_append, List.length_cons, List.length_nil]; (first | lia | omega))); k_whole); intro h' F' N'; (try k_sweep)))
  (k_with "call ref" => (k_here; (with_reducible show wpAny _ _ (call (Value.ref 683) _) _ _ _); k_dflt (refine' next_spec ?B ?F ?X ?N ?T ?hk ?hd ?hu ?hS ?c1 ?c2 ?c3 ?c4 ?c5 ?c6 ?c7 ?c8 ?n1 ?n2 ?n3 ?hx ?_; (case B => k_asm); (case F => k_asm); (case X => k_asm); (case N => k_asm); (case T => k_asm); (case hk => exact rfl); (case hd => ktr_room); (case hu => ktr_units); (case hS => assumption); (case c1 => exact (LexLt.c1 (by assumption))); (case c2 => exact (LexLt.c2 (by assumption))); (case c3 => exact (LexLt.c3 (by assumption))); (case c4 => exact (LexLt.c4 (by assumption))); (case c5 => exact (LexLt.c5 (by assumption))); (case c6 => exact (LexLt.c6 (by assumption))); (case c7 => exact (LexLt.c7 (by assumption))); (case c8 => exact (LexLt.c8 (by assumption))); (case n1 => exact (LexLt.n1 (by assumption))); (case n2 => exact (LexLt.n2 (by assumption))); (case n3 => exact (LexLt.n3 (by assumption))); (case hx => assumption); k_whole); intro κ3' t3' num' p' cv' stv' tt' tt2' h' tk' hS' F' N'; simp only [List.cons_append, List.nil_append] at N'; (try k_fold)))
  exact trivial
theorem law_read_spec {l : List Nat} {tk : Tok} {tks : List (List Nat)}
  (B : Below A₀ base outer h₀) (F : Fr h₀ L s.heap m) (X : (Mine.K w.params).In h₀)
  (N : News h₀ L s.heap news) (T : Top VW LOO mean mg mb h₀) (hk : cs.kind = .function)
  (hdp : dp + 20 < recursionLimit) (hu : un + 200 < cLine) (hx : l.length ≤ 3900) (hA : Alt false tks) (hz : ∀ w ∈ tks, w.length ≤ 3900) (hl : l = tks.flatten) (hn : tks.length ≤ 3900) {r : List Int × Int × List Int × List PySem.Str} (hr : tks.foldl rdStep ([], 0, [], []) = r)
  (hret : ∀ aT a0 a1 a2 pv dv tv tl n0 n1 n2 h' tk', Fr h₀ L h' m → News h₀ L h' ((aT, ({ cls := .type "tuple", data := .seq #[.ref a2, .ref a1, .ref a0] } : Obj)) :: (a2, W.listOf (List.toArray (pv ++ [Value.int r.2.1 tl])) n2) :: (a1, W.listOf (List.toArray dv) n1) :: (a0, W.listOf (List.toArray tv) n0) :: news) →
    IntsAre pv r.1 → IntsAre dv r.2.2.1 → StrsAre tv r.2.2.2 → @LT.lt Nat _ a2 a1 → @LT.lt Nat _ a1 a0 → @LT.lt Nat _ a0 aT → (∀ q ∈ news, @LT.lt Nat _ q.1 a2) → Q (.ref aT) {s with heap := h', toks := tk'}) :
  wpAny (model PRG w) (ktrTop dp un gd cn cs L a ccd cl outer) (call (.ref 853) [.str (st l) tk]) Q E s := by
  refine wpAny_call ?_
  k_dflt ktr_enter
  k_steps
  refine Stop.out ?_
  (with_reducible rename Fr _ _ _ _ => F0)
  (with_reducible rename News _ _ _ _ => N0)
  obtain ⟨k, t, k1, k2, k3, t1, t2, t3, ts, tt, N1, hL⟩ := lex_news N0 (by assumption) (by assumption) (by assumption) (by assumption) (by assumption) (by assumption) (by assumption) (by assumption) (by assumption) (by assumption) (by assumption) (by assumption) (by assumption) (by assumption) (by assumption)
  have hS : RtS false tks l 0 [] (.str " " ts) := by
    obtain ⟨c, w', r', e, _⟩ := hA.ne
    exact ⟨.inr hA, .inr ⟨rfl, by rw [e]; simp, by rw [hl]; rfl, rfl, ts, rfl⟩, Nat.zero_le _, hz⟩
  have hx4 : l.length ≤ 4000 := by (first | lia | omega)
  refine' next_spec ?B ?F ?X N1 ?T ?hk ?hd ?hu hS hL.c1 hL.c2 hL.c3 hL.c4 hL.c5 hL.c6 hL.c7 hL.c8 hL.n1 hL.n2 hL.n3 hx4 ?_
  case B => k_asm
  case F => k_asm
  case X => k_asm
  case T => k_asm
  case hk => exact rfl
  case hd => ktr_room
  case hu => ktr_units
  clear hS N0 N1
  intro κ' t3' num' p' cv' stv' tt1 tt' h' tk' hS F' N'
  simp only [List.cons_append, List.nil_append] at N'
  k_steps
  refine Stop.out ?_
  (with_reducible rename Fr _ _ _ _ => F1)
  (with_reducible rename News _ _ _ _ => N1)
  refine' rd_loop F1 N1 hA hz hn hS ?turn
  case turn =>
    clear F1 N1 hS hA hz hn
    obtain ⟨lc1, lc2, lc3, lc4, lc5, lc6, lc7, lc8, lc9, lc10, lc11, lnw⟩ := id hL
    have w0 := hL.w0
    have w1 := hL.w1
    have w2 := hL.w2
    intro n1 s' hI
    obtain ⟨κ, κ2, rem, h1, tk1, p, num, cv, stv, t3, tt, tt1, pv, dv, tv, last, tl, n0, n1, n2, rfl, F1, N1, halt, hS, hex, hnum, hz, hr1, hr2, hr3⟩ := hI
    simp only [List.cons_append, List.nil_append] at N1
    cases rem with
    | nil =>
      rw [List.headD_nil, ← st_nil] at F1
      k_steps
      obtain ⟨pre, deps, told, i1, i2, i3, e⟩ := hex
      rw [hr] at e
      cases e
      refine' hret _ _ _ _ _ _ _ _ _ _ _ _ _ ?F (news_sub ?N ?S) i1 i2 i3 lc10 lc11 ?lt hL.top
      case F => k_asm
      case N => k_asm
      case S => exact shuffle2
      case lt => (first | lia | omega)
    | cons wd rem =>
      rw [List.headD_cons] at F1
      have ha : Alt κ (wd :: rem) := by
        rcases halt with ⟨_, e⟩ | h'
        · cases e
        · exact h'
      clear halt
      obtain ⟨c, w', r', e, e1, e2⟩ := ha.ne
      cases e
      simp only [List.length_cons] at hr1 hr2 hr3
      have hw3 : w'.length < 4000 := by have := hz _ (.head _); simp only [List.length_cons] at this; (first | lia | omega)
      cases κ
      · have hcl := e1 rfl
        have g5 := par_pa hcl
        k_steps
        refine' Stop.out (rd_next ?F ?N (rd_ok_par ha hcl ?hS hex hz hr1 hr2 hr3) ?lt)
        case F => k_asm
        case N => k_asm
        case hS => assumption
        case lt => rw [hnum]; exact Nat.lt_succ_self _
      · have hcl := e2 rfl
        have g5 := lett_pa hcl
        k_steps
        refine' Stop.out (rd_next ?F ?N (rd_ok_lett ha hcl ?hS hex hz hr1 hr2 hr3) ?lt)
        case F => k_asm
        case N => k_asm
        case hS => assumption
        case lt => rw [hnum]; exact Nat.lt_succ_self _
end
end Mine
end
section
open PySem PySem.W PyProof.Rows
set_option maxRecDepth 100000
set_option maxHeartbeats 8000000
namespace Mine
theorem kf5 : (PySem.Challenge.rw_ik0083_01, Mine.K) = (PySem.Challenge.rw_ik0083_01, Mine.K) := by
  k_fill
  rfl
theorem rows_I1_1 : True := by
  k_with_none
  (k_with "ktr_enter" => (refine' code_def ?k1 ?k2 ?k3 ?k4 ?k5 ?kA ?kF ?kK ?k6 ?k7 ?k8 ?k9 ?kB ?_ ?c2 ?c3 ?c4 ?c5; (case kA => exact rfl); (case kF => exact rfl); (case kK => assumption); (case k1 => k_asm); (case k2 => k_asm); (case k3 => k_asm); (case k4 => k_asm); (case k5 => k_asm); (case k6 => k_is); (case k7 => k_is); (case k8 => ktr_room); (case k9 => first | exact BindsTo.of_eq rfl | exact binds_K (by k_in) rfl (by k_is) rfl rfl rfl); (case c5 => decide); (case kB => exact locs rfl); (case c2 => exact rfl); (case c3 => exact rfl); (case c4 => exact rfl); k_whole; intro g' L' h' FG' F' N' B' X' T'; (try dsimp only); (try k_fold); (try (refine fold_A ?_; intro A9))))
  (k_with "k_room" => ktr_room)
  (k_with "k_all" => assumption)
  (k_with "ktr_room" => ((with_reducible rename _ + _ < recursionLimit => hd9); first | exact room_ 0 hd9 rfl rfl | exact room_ 1 hd9 rfl rfl | exact room_ 2 hd9 rfl rfl | exact room_ 3 hd9 rfl rfl | exact room_ 4 hd9 rfl rfl | exact room_ 5 hd9 rfl rfl | exact room_ 6 hd9 rfl rfl | exact room_ 7 hd9 rfl rfl | exact room_ 8 hd9 rfl rfl | exact room_ 9 hd9 rfl rfl | exact room_ 10 hd9 rfl rfl | exact room_ 11 hd9 rfl rfl | exact room_ 12 hd9 rfl rfl | exact room_ 13 hd9 rfl rfl | exact room_ 14 hd9 rfl rfl | exact room_ 15 hd9 rfl rfl | exact room_ 16 hd9 rfl rfl | exact room_ 17 hd9 rfl rfl | exact room_ 18 hd9 rfl rfl | exact room_ 19 hd9 rfl rfl | exact room_ 20 hd9 rfl rfl | exact room_ 21 hd9 rfl rfl | exact room_ 22 hd9 rfl rfl | exact room_ 23 hd9 rfl rfl | exact room_ 24 hd9 rfl rfl | exact room_ 25 hd9 rfl rfl))
  (k_with "ktr_units" => ((with_reducible rename _ + _ < cLine => hu9); first | exact units_ 0 hu9 rfl rfl | exact units_ 1 hu9 rfl rfl | exact units_ 2 hu9 rfl rfl | exact units_ 3 hu9 rfl rfl | exact units_ 4 hu9 rfl rfl | exact units_ 5 hu9 rfl rfl | exact units_ 6 hu9 rfl rfl | exact units_ 7 hu9 rfl rfl | exact units_ 8 hu9 rfl rfl | exact units_ 9 hu9 rfl rfl | exact units_ 10 hu9 rfl rfl | exact units_ 11 hu9 rfl rfl | exact units_ 12 hu9 rfl rfl | exact units_ 13 hu9 rfl rfl | exact units_ 14 hu9 rfl rfl | exact units_ 15 hu9 rfl rfl | exact units_ 16 hu9 rfl rfl | exact units_ 17 hu9 rfl rfl | exact units_ 18 hu9 rfl rfl | exact units_ 19 hu9 rfl rfl | exact units_ 20 hu9 rfl rfl | exact units_ 21 hu9 rfl rfl | exact units_ 22 hu9 rfl rfl | exact units_ 23 hu9 rfl rfl | exact units_ 24 hu9 rfl rfl | exact units_ 25 hu9 rfl rfl | exact units_ 26 hu9 rfl rfl | exact units_ 27 hu9 rfl rfl | exact units_ 28 hu9 rfl rfl | exact units_ 29 hu9 rfl rfl | exact units_ 30 hu9 rfl rfl | exact units_ 31 hu9 rfl rfl | exact units_ 32 hu9 rfl rfl | exact units_ 33 hu9 rfl rfl | exact units_ 34 hu9 rfl rfl | exact units_ 35 hu9 rfl rfl | exact units_ 36 hu9 rfl rfl | exact units_ 37 hu9 rfl rfl | exact units_ 38 hu9 rfl rfl | exact units_ 39 hu9 rfl rfl | exact units_ 40 hu9 rfl rfl | exact units_ 41 hu9 rfl rfl | exact units_ 42 hu9 rfl rfl | exact units_ 43 hu9 rfl rfl | exact units_ 44 hu9 rfl rfl | exact units_ 45 hu9 rfl rfl | exact units_ 46 hu9 rfl rfl | exact units_ 47 hu9 rfl rfl | exact units_ 48 hu9 rfl rfl | exact units_ 49 hu9 rfl rfl | exact units_ 50 hu9 rfl rfl | exact units_ 51 hu9 rfl rfl | exact units_ 52 hu9 rfl rfl | exact units_ 53 hu9 rfl rfl | exact units_ 54 hu9 rfl rfl | exact units_ 55 hu9 rfl rfl | exact units_ 56 hu9 rfl rfl | exact units_ 57 hu9 rfl rfl | exact units_ 58 hu9 rfl rfl | exact units_ 59 hu9 rfl rfl | exact units_ 60 hu9 rfl rfl))
  (k_with "k_ne" => (first | exact Nat.ne_of_lt (by assumption) | exact Nat.ne_of_gt (by assumption) | assumption | exact Ne.symm (by assumption) | exact Nat.ne_of_lt (And.left (by assumption)) | exact Nat.ne_of_gt (And.left (by assumption)) | exact Nat.ne_of_lt (And.left (And.right (by assumption))) | exact Nat.ne_of_gt (And.left (And.right (by assumption))) | exact Nat.ne_of_lt (And.left (And.right (And.right (by assumption)))) | exact Nat.ne_of_gt (And.left (And.right (And.right (by assumption)))) | exact Nat.ne_of_lt (And.left (And.right (And.right (And.right (by assumption))))) | exact Nat.ne_of_gt (And.left (And.right (And.right (And.right (by assumption))))) | exact Nat.ne_of_lt (And.left (And.right (And.right (And.right (And.right (by assumption)))))) | exact Nat.ne_of_gt (And.left (And.right (And.right (And.right (And.right (by assumption)))))) | exact Nat.ne_of_lt (And.left (And.right (And.right (And.right (And.right (And.right (by assumption))))))) | exact Nat.ne_of_gt (And.left (And.right (And.right (And.right (And.right (And.right (by assumption))))))) | exact Nat.ne_of_lt (And.left (And.right (And.right (And.right (And.right (And.right (And.right (by assumption)))))))) | exact Nat.ne_of_gt (And.left (And.right (And.right (And.right (And.right (And.right (And.right (by assumption)))))))) | exact Nat.ne_of_lt (And.left (And.right (And.right (And.right (And.right (And.right (And.right (And.right (by assumption))))))))) | exact Nat.ne_of_gt (And.left (And.right (And.right (And.right (And.right (And.right (And.right (And.right (by assumption))))))))) | exact Nat.ne_of_lt (And.left (And.right (And.right (And.right (And.right (And.right (And.right (And.right (And.right (by assumption)))))))))) | exact Nat.ne_of_gt (And.left (And.right (And.right (And.right (And.right (And.right (And.right (And.right (And.right (by assumption)))))))))) | exact Nat.ne_of_lt (And.left (And.right (And.right (And.right (And.right (And.right (And.right (And.right (And.right (And.right (by assumption))))))))))) | exact Nat.ne_of_gt (And.left (And.right (And.right (And.right (And.right (And.right (And.right (And.right (And.right (And.right (by assumption))))))))))) | (refine neN ?_; (try dsimp only); (first | lia | omega))))
  (k_with "exec If" => (refine if_fold ?_; intro q8))
  (k_with "isTrue Compare" => (refine is_cmp ?_))
  (k_with "ite" => (k_here; first | with_reducible refine ite_tt ?_ | with_reducible refine ite_ff ?_ | k_dflt (first | refine ite_pos (by decide) ?_ | refine ite_neg (by decide) ?_)))
  (k_with "execs cons" => (first | (rename Shared => s9; refine stmt_cons s9 ?_; intro t9 s8 q8) | (refine wpAny_execs_cons ?_; (try k_fold))))
  (k_with "TurnW" => (refine stop_of ?_))
  (k_with "exec While" => (refine stop_of ?_))
  exact trivial
section
variable {w : World} {mean : ExcName → Option Value} {mg mb : PySem.Str → Option Value} {dp un : Nat} {gd : Option (List Code)} {cn : PySem.Str} {cs : Scope} {a : Addr} {ccd : Value} {cl : List (PySem.Str × Addr)} {outer : List Env} {A₀ : Around} {base h₀ : Heap} {L : Addr} {m : PySem.Str → Option Value} {news : List (Addr × Obj)} {s : Shared} {Q E : Value → Shared → Prop}
/-- bytes by their codes -/
noncomputable abbrev bts (l : List Nat) : Array UInt8 := List.toArray (l.map UInt8.ofNat)
noncomputable def ApI (n : Nat) (g : Heap) (L' : Addr) (base : PySem.Str → Option Value) (s : Shared) (news : List (Addr × Obj)) (i : Nat) (s' : Shared) : Prop :=
  ∃ b tu t md h' tk', s' = {s with heap := h', toks := tk'} ∧ Fr g L' h' (over "num" (some (.int (i : Nat) tu)) (over "val" (some (.bytes (bts b) t)) (over "mod" md base))) ∧ News g L' h' news ∧ apL i ++ b = apL n
theorem news_tail2 {h₀ h : Heap} {L : Addr} {q : Addr × Obj} {r : List (Addr × Obj)} (N : News h₀ L h (q :: r)) : News h₀ L h r := fun p hp => N p (.tail _ hp)
theorem ap_mod {i : Nat} : (i : Int).fmod 16 = ((i % 16 : Nat) : Int) := by rw [Int.fmod_eq_emod_of_nonneg _ (by decide)]; (first | lia | omega)
theorem ap_div {i : Nat} : (i : Int).fdiv 16 = ((i / 16 : Nat) : Int) := by rw [Int.fdiv_eq_ediv_of_nonneg _ (by decide)]; (first | lia | omega)
theorem pick_ap : ∀ r < 16, KBy.picked #[65, 66, 67, 68, 69, 70, 71, 72, 73, 74, 75, 76, 77, 78, 79, 80] (some (r : Nat)) (some ((r : Nat) + 1)) = bts [65 + r] := by decide +kernel
theorem slice_ap {prog : Program} {A : Around} {value slice : PySem.Expr} {i : Nat} {t u1 u2 : Tok} (hF : Fr h₀ L s.heap m) (hN : News h₀ L s.heap news)
    (h : ∀ h' t' k, Fr h₀ L h' m → News h₀ L h' news → Q (.bytes (bts [65 + i % 16]) t') { s with heap := h', toks := k })
    (hs : subscripted slice false (.bytes #[65, 66, 67, 68, 69, 70, 71, 72, 73, 74, 75, 76, 77, 78, 79, 80] t) (.ref s.heap.objs.size) = operate [.ref s.heap.objs.size, .bytes #[65, 66, 67, 68, 69, 70, 71, 72, 73, 74, 75, 76, 77, 78, 79, 80] t] (getItem (.bytes #[65, 66, 67, 68, 69, 70, 71, 72, 73, 74, 75, 76, 77, 78, 79, 80] t) (.ref s.heap.objs.size)) := by with_unfolding_all rfl)
    (ht : ∀ r, letTemporaryGo value (.bytes #[65, 66, 67, 68, 69, 70, 71, 72, 73, 74, 75, 76, 77, 78, 79, 80] t) r = pure () := by intro _; with_unfolding_all rfl) :
    wpAny (model prog w) A (subscriptTail value slice (.bytes #[65, 66, 67, 68, 69, 70, 71, 72, 73, 74, 75, 76, 77, 78, 79, 80] t) (.ref s.heap.objs.size)) Q E { s with heap := s.heap.push { cls := .type "slice", data := .fields #[.int ((i : Int).fmod 16) u1, .int ((i : Int).fmod 16 + 1) u2, .none] } } := by
  refine KBc.slice_K hF hN rfl (.int _ _) (.int _ _) (by decide) (fun h' t' k F' N' _ => ?_) hs ht
  rw [ap_mod, pick_ap _ (by (first | lia | omega))]
  exact h h' t' k F' N'
theorem add_ap {prog : Program} {A : Around} {x : Nat} {b : List Nat} {t u : Tok} (hb : b.length ≤ 1000) (h : ∀ t' k, Q (.bytes (bts (x :: b)) t') { s with toks := k }) : wpAny (model prog w) A (binaryOp .Add (.bytes (bts [x]) t) (.bytes (bts b) u)) Q E s := by
  refine KBy.add_bytes (by simp; (first | lia | omega)) fun t' k => ?_
  have e : bts [x] ++ bts b = bts (x :: b) := by simp [bts]
  rw [e]
  exact h t' k
theorem ap_map {v1 v2 v3 : Value} {w1 w2 w3 : Option Value} {base : PySem.Str → Option Value} : over "num" (some v3) (over "val" (some v1) (over "mod" (some v2) base)) = fun (y : PySem.Str) => if y = "val" then some v1 else if y = "mod" then some v2 else if y = "num" then some v3 else over "num" w3 (over "val" w1 (over "mod" w2 base)) y := by
  funext y
  unfold over
  by_cases h1 : y = "num"
  · subst h1; rfl
  by_cases h2 : y = "val"
  · subst h2; rfl
  by_cases h3 : y = "mod"
  · subst h3; rfl
  simp only [h1, h2, h3, if_false]
theorem ap_next {g h' : Heap} {base : PySem.Str → Option Value} {i n : Nat} {b : List Nat} {tu t : Tok} {v2 : Value} {w1 w2 w3 : Option Value} {tk' : Nat} {Q : Flow → Shared → Prop} {x : Int}
  (F0 : Fr g L h' (fun y => if y = "val" then some (.bytes (bts ((65 + i % 16) :: b)) t) else if y = "mod" then some v2 else if y = "num" then some (.int x tu) else over "num" w3 (over "val" w1 (over "mod" w2 base)) y))
  (N0 : News g L h' news) (hx : x = (i : Int).fdiv 16) (hi : (i : Int) ≠ 0) (hb : apL i ++ b = apL n) : TurnW (ApI n g L base s news) i Q .next {s with heap := h', toks := tk'} := by
  rw [hx, ap_div] at F0
  have hi' : i ≠ 0 := by (first | lia | omega)
  refine ⟨i / 16, by (first | lia | omega), (65 + i % 16) :: b, tu, t, some v2, h', tk', rfl, fr_cast F0 ap_map, N0, ?_⟩
  rw [← hb, apL_pos hi']
  simp
theorem over_same {x : PySem.Str} {v : Option Value} {b : PySem.Str → Option Value} (h : b x = v) : over x v b = b := by
  funext y
  unfold over
  by_cases e : y = x
  · subst e; simp [h]
  · simp [e]
theorem ap_loop {prog : Program} {A : Around} {env : Env} {test : Expr} {body orelse : List Stmt} {pos : Pos} {Q : Flow → Shared → Prop} {g : Heap} {base : PySem.Str → Option Value} {n : Nat} {tu t : Tok}
  (F0 : Fr g L s.heap base) (N0 : News g L s.heap news) (hnum : base "num" = some (.int (n : Nat) tu)) (hval : base "val" = some (.bytes #[] t)) (hmod : base "mod" = none)
  (turn : ∀ i s', ApI n g L base s news i s' →
     wpAny (model prog w) A (isTrue test env (eval test env)) (fun b s₂ =>
      if b then wpAny (model prog w) A (execs body env) (TurnW (ApI n g L base s news) i Q) (TurnE prog w A env E) s₂
      else wpAny (model prog w) A (execs orelse env) Q (TurnE prog w A env E) s₂) (TurnE prog w A env E) s') :
  wpAny (model prog w) A (exec (.While test body orelse pos) env) Q E s := by
  refine while_inv (ApI n g L base s news) turn n ?_
  refine ⟨[], tu, t, none, s.heap, s.toks, rfl, fr_cast F0 ?_, N0, by simp⟩
  rw [over_same hmod]
  have e : over "val" (some (Value.bytes (bts []) t)) base = base := over_same hval
  rw [e, over_same hnum]
theorem rows_I1_2 : True := by
  (k_with "subscriptTail" => (k_here; (with_reducible show wpAny _ _ (subscriptTail _ (Expr.Slice _ _ none _) (Value.bytes _ _) (Value.ref _)) _ _ _); (with_reducible rename Fr _ _ _ _ => F'); (with_reducible rename News _ _ _ _ => N'); (refine slice_ap (s := ⟨_, _, _, _, _⟩) F' N' ?_); clear F' N'; intro _ _ _ F' N'))
  (k_with "binaryOp Add bytes bytes" => (k_here; (refine' add_ap ?z ?_; (case z => assumption)); intro _ _))
  exact trivial
theorem int2ap_spec {n : Nat} {tk : Tok}
  (B : Below A₀ base outer h₀) (F : Fr h₀ L s.heap m) (X : (Mine.K w.params).In h₀)
  (N : News h₀ L s.heap news) (T : Top VW LOO mean mg mb h₀) (hk : cs.kind = .function)
  (hdp : dp + 10 < recursionLimit) (hu : un + 100 < cLine) (hn : n ≤ 16777215)
  (hret : ∀ t h' tk', Fr h₀ L h' m → News h₀ L h' news → Q (.bytes (bts (apL n)) t) {s with heap := h', toks := tk'}) :
  wpAny (model PRG w) (ktrTop dp un gd cn cs L a ccd cl outer) (call (.ref 733) [.int n tk]) Q E s := by
  have eabs : (if (n : Int) < 0 then -(n : Int) else (n : Int)) = (n : Int) := if_neg (by (first | lia | omega))
  refine wpAny_call ?_
  k_dflt ktr_enter
  k_steps
  refine Stop.out ?_
  (with_reducible rename Fr _ _ _ _ => F0)
  (with_reducible rename News _ _ _ _ => N0)
  simp only [eabs] at F0
  refine' ap_loop (n := n) F0 N0 rfl rfl rfl ?turn
  case turn =>
    intro i s' hI
    clear F0 N0
    refine fold_G ?_
    intro G9
    obtain ⟨b, tu, t, md, h1, tk1, rfl, F1, N1, hb⟩ := hI
    have hbl : b.length ≤ 1000 := by
      have h1 := congrArg List.length hb
      have h2 := apL_len (n := n) (k := 6) (by (first | lia | omega))
      rw [List.length_append] at h1
      (first | lia | omega)
    k_steps
    · refine' Stop.out (ap_next ?F ?N rfl ?hi hb)
      case F => k_asm
      case N => first | k_asm | exact news_tail2 (by k_asm)
      case hi => assumption
    · have hi : i = 0 := by (first | lia | omega)
      subst hi
      rw [apL_zero, List.nil_append] at hb
      subst hb
      refine' hret _ _ _ ?F ?N
      case F => k_asm
      case N => k_asm
end
end Mine
end
section
open PySem PySem.W PyProof.Rows
set_option maxRecDepth 100000
set_option maxHeartbeats 8000000
namespace Mine
theorem kf6 : (PySem.Challenge.rw_ik0083_01, Mine.K) = (PySem.Challenge.rw_ik0083_01, Mine.K) := by
  k_fill
  rfl
theorem rows_L1_1 : True := by
  k_with_none
  (k_with "ktr_enter" => (refine' code_def ?k1 ?k2 ?k3 ?k4 ?k5 ?kA ?kF ?kK ?k6 ?k7 ?k8 ?k9 ?kB ?_ ?c2 ?c3 ?c4 ?c5; (case kA => exact rfl); (case kF => exact rfl); (case kK => assumption); (case k1 => k_asm); (case k2 => k_asm); (case k3 => k_asm); (case k4 => k_asm); (case k5 => k_asm); (case k6 => k_is); (case k7 => k_is); (case k8 => ktr_room); (case k9 => first | exact BindsTo.of_eq rfl | exact binds_K (by k_in) rfl (by k_is) rfl rfl rfl); (case c5 => decide); (case kB => exact locs rfl); (case c2 => exact rfl); (case c3 => exact rfl); (case c4 => exact rfl); k_whole; intro g' L' h' FG' F' N' B' X' T'; (try dsimp only); (try k_fold); (try (refine fold_A ?_; intro A9))))
  (k_with "k_room" => ktr_room)
  (k_with "k_all" => assumption)
  (k_with "ktr_room" => ((with_reducible rename _ + _ < recursionLimit => hd9); first | exact room_ 0 hd9 rfl rfl | exact room_ 1 hd9 rfl rfl | exact room_ 2 hd9 rfl rfl | exact room_ 3 hd9 rfl rfl | exact room_ 4 hd9 rfl rfl | exact room_ 5 hd9 rfl rfl | exact room_ 6 hd9 rfl rfl | exact room_ 7 hd9 rfl rfl | exact room_ 8 hd9 rfl rfl | exact room_ 9 hd9 rfl rfl | exact room_ 10 hd9 rfl rfl | exact room_ 11 hd9 rfl rfl | exact room_ 12 hd9 rfl rfl | exact room_ 13 hd9 rfl rfl | exact room_ 14 hd9 rfl rfl | exact room_ 15 hd9 rfl rfl | exact room_ 16 hd9 rfl rfl | exact room_ 17 hd9 rfl rfl | exact room_ 18 hd9 rfl rfl | exact room_ 19 hd9 rfl rfl | exact room_ 20 hd9 rfl rfl | exact room_ 21 hd9 rfl rfl | exact room_ 22 hd9 rfl rfl | exact room_ 23 hd9 rfl rfl | exact room_ 24 hd9 rfl rfl | exact room_ 25 hd9 rfl rfl))
  (k_with "ktr_units" => ((with_reducible rename _ + _ < cLine => hu9); first | exact units_ 0 hu9 rfl rfl | exact units_ 1 hu9 rfl rfl | exact units_ 2 hu9 rfl rfl | exact units_ 3 hu9 rfl rfl | exact units_ 4 hu9 rfl rfl | exact units_ 5 hu9 rfl rfl | exact units_ 6 hu9 rfl rfl | exact units_ 7 hu9 rfl rfl | exact units_ 8 hu9 rfl rfl | exact units_ 9 hu9 rfl rfl | exact units_ 10 hu9 rfl rfl | exact units_ 11 hu9 rfl rfl | exact units_ 12 hu9 rfl rfl | exact units_ 13 hu9 rfl rfl | exact units_ 14 hu9 rfl rfl | exact units_ 15 hu9 rfl rfl | exact units_ 16 hu9 rfl rfl | exact units_ 17 hu9 rfl rfl | exact units_ 18 hu9 rfl rfl | exact units_ 19 hu9 rfl rfl | exact units_ 20 hu9 rfl rfl | exact units_ 21 hu9 rfl rfl | exact units_ 22 hu9 rfl rfl | exact units_ 23 hu9 rfl rfl | exact units_ 24 hu9 rfl rfl | exact units_ 25 hu9 rfl rfl | exact units_ 26 hu9 rfl rfl | exact units_ 27 hu9 rfl rfl | exact units_ 28 hu9 rfl rfl | exact units_ 29 hu9 rfl rfl | exact units_ 30 hu9 rfl rfl | exact units_ 31 hu9 rfl rfl | exact units_ 32 hu9 rfl rfl | exact units_ 33 hu9 rfl rfl | exact units_ 34 hu9 rfl rfl | exact units_ 35 hu9 rfl rfl | exact units_ 36 hu9 rfl rfl | exact units_ 37 hu9 rfl rfl | exact units_ 38 hu9 rfl rfl | exact units_ 39 hu9 rfl rfl | exact units_ 40 hu9 rfl rfl | exact units_ 41 hu9 rfl rfl | exact units_ 42 hu9 rfl rfl | exact units_ 43 hu9 rfl rfl | exact units_ 44 hu9 rfl rfl | exact units_ 45 hu9 rfl rfl | exact units_ 46 hu9 rfl rfl | exact units_ 47 hu9 rfl rfl | exact units_ 48 hu9 rfl rfl | exact units_ 49 hu9 rfl rfl | exact units_ 50 hu9 rfl rfl | exact units_ 51 hu9 rfl rfl | exact units_ 52 hu9 rfl rfl | exact units_ 53 hu9 rfl rfl | exact units_ 54 hu9 rfl rfl | exact units_ 55 hu9 rfl rfl | exact units_ 56 hu9 rfl rfl | exact units_ 57 hu9 rfl rfl | exact units_ 58 hu9 rfl rfl | exact units_ 59 hu9 rfl rfl | exact units_ 60 hu9 rfl rfl))
  (k_with "k_ne" => (first | exact Nat.ne_of_lt (by assumption) | exact Nat.ne_of_gt (by assumption) | assumption | exact Ne.symm (by assumption) | exact Nat.ne_of_lt (And.left (by assumption)) | exact Nat.ne_of_gt (And.left (by assumption)) | exact Nat.ne_of_lt (And.left (And.right (by assumption))) | exact Nat.ne_of_gt (And.left (And.right (by assumption))) | exact Nat.ne_of_lt (And.left (And.right (And.right (by assumption)))) | exact Nat.ne_of_gt (And.left (And.right (And.right (by assumption)))) | exact Nat.ne_of_lt (And.left (And.right (And.right (And.right (by assumption))))) | exact Nat.ne_of_gt (And.left (And.right (And.right (And.right (by assumption))))) | exact Nat.ne_of_lt (And.left (And.right (And.right (And.right (And.right (by assumption)))))) | exact Nat.ne_of_gt (And.left (And.right (And.right (And.right (And.right (by assumption)))))) | exact Nat.ne_of_lt (And.left (And.right (And.right (And.right (And.right (And.right (by assumption))))))) | exact Nat.ne_of_gt (And.left (And.right (And.right (And.right (And.right (And.right (by assumption))))))) | exact Nat.ne_of_lt (And.left (And.right (And.right (And.right (And.right (And.right (And.right (by assumption)))))))) | exact Nat.ne_of_gt (And.left (And.right (And.right (And.right (And.right (And.right (And.right (by assumption)))))))) | exact Nat.ne_of_lt (And.left (And.right (And.right (And.right (And.right (And.right (And.right (And.right (by assumption))))))))) | exact Nat.ne_of_gt (And.left (And.right (And.right (And.right (And.right (And.right (And.right (And.right (by assumption))))))))) | exact Nat.ne_of_lt (And.left (And.right (And.right (And.right (And.right (And.right (And.right (And.right (And.right (by assumption)))))))))) | exact Nat.ne_of_gt (And.left (And.right (And.right (And.right (And.right (And.right (And.right (And.right (And.right (by assumption)))))))))) | exact Nat.ne_of_lt (And.left (And.right (And.right (And.right (And.right (And.right (And.right (And.right (And.right (And.right (by assumption))))))))))) | exact Nat.ne_of_gt (And.left (And.right (And.right (And.right (And.right (And.right (And.right (And.right (And.right (And.right (by assumption))))))))))) | (refine neN ?_; (try dsimp only); (first | lia | omega))))
  (k_with "exec If" => (refine if_fold ?_; intro q8))
  (k_with "isTrue Compare" => (refine is_cmp ?_))
  (k_with "ite" => (k_here; first | with_reducible refine ite_tt ?_ | with_reducible refine ite_ff ?_ | k_dflt (first | refine ite_pos (by decide) ?_ | refine ite_neg (by decide) ?_)))
  (k_with "execs cons" => (first | (rename Shared => s9; refine stmt_cons s9 ?_; intro t9 s8 q8) | (refine wpAny_execs_cons ?_; (try k_fold))))
  exact trivial
theorem mem_skip {α : Type} {x y : α} {l : List α} (h : x ∈ l) : x ∈ y :: l := List.mem_cons_of_mem _ h
theorem rows_L1_2 : True := by
  (k_with "k_mem" => (first | with_reducible assumption | (refine mem_skip ?_; k_mem)))
  exact trivial
/-- a dict of the numbers' words -/
noncomputable def WordsObj (w : World) (o : Obj) (ns : List Int) : Prop :=
  ∃ kvs Dd, o.IsDictOf (intKind PRG w) kvs ∧ PyProof.V.FlatPairs PyData.int kvs Dd ∧ ∀ n ∈ ns, PySem.Spec.lookup (.int n) Dd = some (.str (st (apL n.toNat)))
theorem WordsObj.sub {w : World} {o : Obj} {ns ns' : List Int} (h : WordsObj w o ns) (hs : ∀ n ∈ ns', n ∈ ns) : WordsObj w o ns' := by
  obtain ⟨k, D, h1, h2, h3⟩ := h
  exact ⟨k, D, h1, h2, fun n hn => h3 n (hs n hn)⟩
section
variable {w : World} {mean : ExcName → Option Value} {mg mb : PySem.Str → Option Value} {dp un : Nat} {gd : Option (List Code)} {cn : PySem.Str} {cs : Scope} {a : Addr} {ccd : Value} {cl : List (PySem.Str × Addr)} {outer : List Env} {A₀ : Around} {base h₀ : Heap} {L : Addr} {m : PySem.Str → Option Value} {news : List (Addr × Obj)} {s : Shared} {Q E : Value → Shared → Prop}
theorem words_item {A : Around} {value slice : PySem.Expr} {o : Obj} {Wd : Addr} {ns : List Int} {k : Int} {u : Tok} (N : News h₀ L s.heap news) (hm : (Wd, o) ∈ news) (W : WordsObj w o ns) (hk : k ∈ ns) (B : (Wd == sysModules) = false) (hb : ∀ x ∈ ns, x.toNat < 16 ^ 6)
    (h : ∀ t k', (apL k.toNat).length ≤ 6 → Q (.str (st (apL k.toNat)) t) { s with toks := k' })
    (hs : subscripted slice false (.ref Wd) (.int k u) = operate [.ref Wd, .int k u] (getItem (.ref Wd) (.int k u)) := by with_unfolding_all rfl) (hg : ∀ r, letTemporaryGo value (.ref Wd) r = pure () := by intro _; with_unfolding_all rfl) :
    wpAny (model PRG w) A (subscriptTail value slice (.ref Wd) (.int k u)) Q E s := by
  refine fold_G ?_
  intro G9
  obtain ⟨kvs, Dd, h1, h2, h3⟩ := W
  refine item_intTab (TabAt.ofObj B (N _ hm).1 h1 h2) (h3 k hk) (fun v hv => ?_) hs hg
  obtain ⟨t, rfl⟩ := hv.str_inv
  exact h t _ (apL_len (hb k hk))


theorem rows_L1_3 : True := by
  (k_with "truthy ref" => (k_here; (with_reducible show wpAny _ _ (truthy (Value.ref _)) _ _ _); k_dflt (refine' truthy_lst ?N ?m ?z ?b ?_; (case N => k_asm); (case m => k_mem); (case z => assumption); (case b => assumption); k_whole); intro _))
  (k_with "call builtin:list.index" => (k_here; k_dflt (refine' index_lst ?N ?m ?i ?z ?k ?_; (case N => k_asm); (case m => k_mem); (case i => assumption); (case z => assumption); (case k => assumption); k_whole); intro _ _))
  (k_with "call builtin:min" => (k_here; (with_reducible show wpAny _ _ (call (Value.builtin _) [Value.ref _]) _ _ _); (with_unfolding_all refine' kso_min ?k1 ?k2 ?k3 ?k4 ?k5 ?k6 ?_; (case k1 => k_asm); (case k2 => k_asm); (case k3 => exact News.isList (by k_asm) (by k_mem)); (case k4 => assumption); (case k5 => assumption); (case k6 => with_unfolding_all rfl); k_whole); intro h' M' t' k' F' N' hmem hmin; (try k_sweep)))
  exact trivial
/-- what a call of _law_line gives, for lists of at most k numbers -/
noncomputable def LineAt (w : World) (k : Nat) : Prop :=
  ∀ {mean : ExcName → Option Value} {mg mb : PySem.Str → Option Value} {dp un : Nat} {gd : Option (List Code)} {cn : PySem.Str} {cs : Scope} {a : Addr} {ccd : Value} {cl : List (PySem.Str × Addr)} {outer : List Env} {A₀ : Around} {base h₀ : Heap} {L : Addr} {m : PySem.Str → Option Value} {news : List (Addr × Obj)} {s : Shared} {Q E : Value → Shared → Prop} {D Wd : Addr} {n : Nat} {vs : List Value} {ns : List Int} {o : Obj},
  Below A₀ base outer h₀ → Fr h₀ L s.heap m → (Mine.K w.params).In h₀ → News h₀ L s.heap news → Top VW LOO mean mg mb h₀ → cs.kind = .function →
  dp + k + 4 < recursionLimit → un + 20 * k + 40 < cLine → (D, W.listOf (List.toArray vs) n) ∈ news → (Wd, o) ∈ news → IntsAre vs ns → ns.length ≤ k → ns.length ≤ 100 → (∀ x ∈ ns, x.toNat < 16 ^ 6) → WordsObj w o ns → (Wd == sysModules) = false →
  (∀ t h' tk', (lineF k ns).length ≤ 800 → Fr h₀ L h' m → News h₀ L h' news → Q (.str (st (lineF k ns)) t) {s with heap := h', toks := tk'}) →
  wpAny (model PRG w) (ktrTop dp un gd cn cs L a ccd cl outer) (call (.ref 846) [.ref D, .ref Wd]) Q E s
theorem line_use {k : Nat} {D Wd : Addr} {n : Nat} {vs : List Value} {ns : List Int} {o : Obj} (H : LineAt w k)
  (B : Below A₀ base outer h₀) (F : Fr h₀ L s.heap m) (X : (Mine.K w.params).In h₀) (N : News h₀ L s.heap news) (T : Top VW LOO mean mg mb h₀) (hk : cs.kind = .function)
  (hdp : dp + k + 4 < recursionLimit) (hu : un + 20 * k + 40 < cLine) (hm1 : (D, W.listOf (List.toArray vs) n) ∈ news) (hm2 : (Wd, o) ∈ news) (hi : IntsAre vs ns) (hz : ns.length ≤ k) (hz2 : ns.length ≤ 100) (hb : ∀ x ∈ ns, x.toNat < 16 ^ 6) (W : WordsObj w o ns) (Bm : (Wd == sysModules) = false)
  (hret : ∀ t h' tk', (lineF k ns).length ≤ 800 → Fr h₀ L h' m → News h₀ L h' news → Q (.str (st (lineF k ns)) t) {s with heap := h', toks := tk'}) :
  wpAny (model PRG w) (ktrTop dp un gd cn cs L a ccd cl outer) (call (.ref 846) [.ref D, .ref Wd]) Q E s := H B F X N T hk hdp hu hm1 hm2 hi hz hz2 hb W Bm hret
theorem idx_take {ns : List Int} {M : Int} (h : M ∈ ns) : ns = ns.take (ns.idxOf M) ++ M :: ns.drop (ns.idxOf M + 1) := by
  have hl := List.idxOf_lt_length_of_mem h
  have e : ns[ns.idxOf M] = M := List.getElem_idxOf hl
  conv => lhs; rw [← List.take_append_drop (ns.idxOf M) ns, List.drop_eq_getElem_cons hl, e]
theorem tk_len {ns : List Int} {M : Int} {k : Nat} (h : M ∈ ns) (hz : ns.length ≤ k + 1) : (ns.take (Int.toNat (ns.idxOf M : Nat))).length ≤ k := by
  have := List.idxOf_lt_length_of_mem h
  rw [List.length_take, Int.toNat_natCast]; (first | lia | omega)
theorem tk_len' {ns : List Int} {i k : Nat} (hz : ns.length ≤ k) : (ns.take i).length ≤ k := by rw [List.length_take]; (first | lia | omega)
theorem dr_len {ns : List Int} {M : Int} {k : Nat} (h : M ∈ ns) (hz : ns.length ≤ k + 1) : (ns.drop (Int.toNat ((ns.idxOf M : Nat) + 1))).length ≤ k := by
  have := List.idxOf_lt_length_of_mem h
  rw [List.length_drop]; (first | lia | omega)
theorem dr_len' {ns : List Int} {i k : Nat} (hz : ns.length ≤ k) : (ns.drop i).length ≤ k := by rw [List.length_drop]; (first | lia | omega)
theorem tk_all {ns : List Int} {i : Nat} {P : Int → Prop} (h : ∀ x ∈ ns, P x) : ∀ x ∈ ns.take i, P x := fun x hx => h x (List.mem_of_mem_take hx)
theorem dr_all {ns : List Int} {i : Nat} {P : Int → Prop} (h : ∀ x ∈ ns, P x) : ∀ x ∈ ns.drop i, P x := fun x hx => h x (List.mem_of_mem_drop hx)
theorem un_ok {un k : Nat} (h : un + 20 * (k + 1) + 40 < cLine) : un + 3 + 20 * k + 40 < cLine := by (first | lia | omega)
theorem dp_ok {dp k : Nat} (h : dp + (k + 1) + 4 < recursionLimit) : dp + 1 + k + 4 < recursionLimit := by (first | lia | omega)
theorem rows_L1_4 : True := by
  (k_with "call ref" => (k_here; (with_reducible show wpAny _ _ (call (Value.ref 846) _) _ _ _); k_dflt (first | (refine' line_use ?H ?B ?F ?X ?N ?T ?hk ?hd ?hu ?m1 ?m2 ?hi ?hz ?hz2 ?hb ?W ?Bm ?_; (case H => assumption); (case B => k_asm); (case F => k_asm); (case X => k_asm); (case N => k_asm); (case T => k_asm); (case hk => exact rfl); (case hd => exact dp_ok (by assumption)); (case hu => exact un_ok (by assumption)); (case m1 => k_mem); (case m2 => k_mem); (case hi => with_reducible assumption); (case hz => first | exact tk_len (by assumption) (by assumption) | exact dr_len (by assumption) (by assumption)); (case hz2 => first | exact tk_len' (by assumption) | exact dr_len' (by assumption)); (case hb => first | exact tk_all (by assumption) | exact dr_all (by assumption)); (case W => first | exact WordsObj.sub (by assumption) (fun _ => List.mem_of_mem_take) | exact WordsObj.sub (by assumption) (fun _ => List.mem_of_mem_drop)); (case Bm => assumption); k_whole; intro t' h' tk' hl' F' N'; (try k_sweep); (try k_fold)) | (refine stop_of ?_))))
  (k_with "subscriptTail" => (k_here; (with_reducible show wpAny _ _ (subscriptTail _ _ (Value.ref _) (Value.int _ _)) _ _ _); k_dflt (refine' words_item ?N ?m ?W ?k ?B ?b ?_; (case N => k_asm); (case m => k_mem); (case W => assumption); (case k => assumption); (case B => assumption); (case b => assumption); k_whole); intro _ _ _))
  exact trivial
theorem news_sub' {h₀ h : Heap} {L : Addr} {l l' : List (Addr × Obj)} (N : News h₀ L h l) (hs : ∀ p ∈ l', p ∈ l) : News h₀ L h l' := fun p hp => N p (hs p hp)
theorem sl_size {vs : List Value} {ns : List Int} (hi : IntsAre vs ns) (h : ns.length ≤ 4000) : vs.toArray.size ≤ sizeLine := kmk_sz hi (by rw [sizeLine_eq]; (first | lia | omega))
theorem rows_L1_5 : True := by
  (k_with "subscriptTail Name Slice ref ref" => (k_here; (with_reducible show wpAny _ _ (subscriptTail _ (PySem.Expr.Slice _ _ none _) (Value.ref _) (Value.ref _)) _ _ _); k_dflt (refine' kmk_slice_ints ?zF ?zN ?zl ?zp ?zq ?zi ?zm ?zc ?_ ?zs ?zt ?zz; (case zF => k_asm); (case zN => k_asm); (case zl => exact News.isList (by k_asm) (by k_mem)); (case zp => kmk_part); (case zq => kmk_part); (case zi => assumption); (case zm => first | exact kmk_upto (by assumption) (Int.natCast_nonneg _) | exact kmk_from (by assumption) (by (first | lia | omega))); (case zc => exact rfl); (case zs => with_unfolding_all rfl); (case zt => kmk_pure); (case zz => exact sl_size (by assumption) (by assumption))); intro D' ws' h' F' N' l1 hI' hC' hL'; clear hC' hL'; (try k_lt l1); (try k_sweep)))
  exact trivial
theorem add_eqs {prog : Program} {A : Around} {t u : Tok} {x y : PySem.Str} {a b : List Nat} (hx : x = st a) (hy : y = st b) (ha : a.length ≤ 4000) (hb : b.length ≤ 4000) (h : ∀ t' k, Q (.str (st (a ++ b)) t') { s with toks := k }) : wpAny (model prog w) A (binaryOp .Add (.str x t) (.str y u)) Q E s := by
  subst hx; subst hy
  exact add_st ha hb h
theorem c_open : PySem.Str.ofString "(" = st [40] := by decide +kernel
theorem c_shut : PySem.Str.ofString ")" = st [41] := by decide +kernel
theorem idx_get {ns : List Int} {M : Int} (h : M ∈ ns) : ns[ns.idxOf M]? = some M := by
  have hl := List.idxOf_lt_length_of_mem h
  rw [List.getElem?_eq_getElem hl, List.getElem_idxOf hl]
theorem rows_L1_6 : True := by
  (k_with "binaryOp Add str str" => (k_here; (refine' add_eqs ?x ?y ?a ?b ?_; (case x => first | exact rfl | exact c_open); (case y => first | exact rfl | exact c_shut); (case a => first | decide | (first | lia | omega) | (simp only [List.length_append, List.length_cons, List.length_nil]; (first | lia | omega))); (case b => first | decide | (first | lia | omega) | (simp only [List.length_append, List.length_cons, List.length_nil]; (first | lia | omega)))); intro _ _))
  (k_with "subscriptTail" => (k_here; (with_reducible show wpAny _ _ (subscriptTail _ _ (Value.ref _) (Value.int (Nat.cast _) _)) _ _ _); k_dflt (refine' item_lst ?N ?m ?i ?z ?k ?_; (case N => k_asm); (case m => k_mem); (case i => assumption); (case z => assumption); (case k => exact idx_get (by assumption)); k_whole); intro _))
  exact trivial
theorem line_end {k : Nat} {ns : List Int} {M : Int} (hne : ns ≠ []) (h1 : M ∈ ns) (h2 : ∀ a, a ∈ ns → M ≤ a) :
  [40] ++ lineF k (ns.take (Int.toNat (ns.idxOf M : Nat))) ++ apL M.toNat ++ lineF k (ns.drop (Int.toNat ((ns.idxOf M : Nat) + 1))) ++ [41] = lineF (k + 1) ns := by
  have e : Int.toNat ((ns.idxOf M : Nat) + 1) = ns.idxOf M + 1 := by (first | lia | omega)
  rw [lineF_cons hne, minI_eq h1 h2, Int.toNat_natCast, e]
theorem line_step {k : Nat} (IH : LineAt w k) : LineAt w (k + 1) := by
  intro mean mg mb dp un gd cn cs a ccd cl outer A₀ base h₀ L m news s Q E D Wd n vs ns o B F X N T hk hdp hu hm1 hm2 hi hz hz2 hbd W Bm hret
  have hlen := hi.length
  have hz1 : vs.length ≤ 4000 := by (first | lia | omega)
  have hz2 : ns.length ≤ 4000 := by (first | lia | omega)
  have hll : (lineF (k + 1) ns).length ≤ 800 := by
    have := lineF_len (k + 1) ns hz hbd
    (first | lia | omega)
  by_cases hne : ns = []
  · have hb : (!vs.isEmpty) = false := by subst hne; cases hi; rfl
    subst hne
    rw [lineF_nil, ← st_nil] at hret
    refine wpAny_call ?_
    k_dflt ktr_enter
    k_steps
    refine' hret _ _ _ ?l ?F ?N
    case l => decide
    case F => k_asm
    case N => k_asm
  have hz3 : 0 < ns.length := List.length_pos_iff.mpr hne
  have hb : (!vs.isEmpty) = true := by cases vs <;> simp at * <;> (first | lia | omega)
  refine wpAny_call ?_
  k_dflt ktr_enter
  k_steps
  rw [line_end hne (by assumption) (by assumption)]
  refine' hret _ _ _ hll ?F ?N
  case F => k_asm
  case N => exact news_sub' (by k_asm) (fun p hp => mem_skip (mem_skip (mem_skip hp)))
theorem line_zero : LineAt w 0 := by
  intro mean mg mb dp un gd cn cs a ccd cl outer A₀ base h₀ L m news s Q E D Wd n vs ns o B F X N T hk hdp hu hm1 hm2 hi hz hz2 hbd W Bm hret
  have hne : ns = [] := List.eq_nil_of_length_eq_zero (by (first | lia | omega))
  have hz1 : vs.length ≤ 4000 := by have := hi.length; (first | lia | omega)
  have hb : (!vs.isEmpty) = false := by subst hne; cases hi; rfl
  subst hne
  rw [lineF_nil, ← st_nil] at hret
  refine wpAny_call ?_
  k_dflt ktr_enter
  k_steps
  refine' hret _ _ _ ?l ?F ?N
  case l => decide
  case F => k_asm
  case N => k_asm
theorem line_all (k : Nat) : LineAt w k := by
  induction k with
  | zero => exact line_zero
  | succ k ih => exact line_step ih
end
end Mine
end
section
open PySem PySem.W PyProof.Rows
set_option maxRecDepth 100000
set_option maxHeartbeats 8000000
namespace Mine
theorem kfFS : (PySem.Challenge.rw_ik0083_01, Mine.K) = (PySem.Challenge.rw_ik0083_01, Mine.K) := by
  k_fill
  rfl
theorem rows_FS_1 : True := by
  k_with_none
  (k_with "ktr_enter" => (refine' code_def ?k1 ?k2 ?k3 ?k4 ?k5 ?kA ?kF ?kK ?k6 ?k7 ?k8 ?k9 ?kB ?_ ?c2 ?c3 ?c4 ?c5; (case kA => exact rfl); (case kF => exact rfl); (case kK => assumption); (case k1 => k_asm); (case k2 => k_asm); (case k3 => k_asm); (case k4 => k_asm); (case k5 => k_asm); (case k6 => k_is); (case k7 => k_is); (case k8 => ktr_room); (case k9 => first | exact BindsTo.of_eq rfl | exact binds_K (by k_in) rfl (by k_is) rfl rfl rfl); (case c5 => decide); (case kB => exact locs rfl); (case c2 => exact rfl); (case c3 => exact rfl); (case c4 => exact rfl); k_whole; intro g' L' h' FG' F' N' B' X' T'; (try dsimp only); (try k_fold); (try (refine fold_A ?_; intro A9))))
  (k_with "k_room" => ktr_room)
  (k_with "k_all" => assumption)
  (k_with "ktr_room" => ((with_reducible rename _ + _ < recursionLimit => hd9); first | exact room_ 0 hd9 rfl rfl | exact room_ 1 hd9 rfl rfl | exact room_ 2 hd9 rfl rfl | exact room_ 3 hd9 rfl rfl | exact room_ 4 hd9 rfl rfl | exact room_ 5 hd9 rfl rfl | exact room_ 6 hd9 rfl rfl | exact room_ 7 hd9 rfl rfl | exact room_ 8 hd9 rfl rfl | exact room_ 9 hd9 rfl rfl | exact room_ 10 hd9 rfl rfl | exact room_ 11 hd9 rfl rfl | exact room_ 12 hd9 rfl rfl | exact room_ 13 hd9 rfl rfl | exact room_ 14 hd9 rfl rfl | exact room_ 15 hd9 rfl rfl | exact room_ 16 hd9 rfl rfl | exact room_ 17 hd9 rfl rfl | exact room_ 18 hd9 rfl rfl | exact room_ 19 hd9 rfl rfl | exact room_ 20 hd9 rfl rfl | exact room_ 21 hd9 rfl rfl | exact room_ 22 hd9 rfl rfl | exact room_ 23 hd9 rfl rfl | exact room_ 24 hd9 rfl rfl | exact room_ 25 hd9 rfl rfl))
  (k_with "ktr_units" => ((with_reducible rename _ + _ < cLine => hu9); first | exact units_ 0 hu9 rfl rfl | exact units_ 1 hu9 rfl rfl | exact units_ 2 hu9 rfl rfl | exact units_ 3 hu9 rfl rfl | exact units_ 4 hu9 rfl rfl | exact units_ 5 hu9 rfl rfl | exact units_ 6 hu9 rfl rfl | exact units_ 7 hu9 rfl rfl | exact units_ 8 hu9 rfl rfl | exact units_ 9 hu9 rfl rfl | exact units_ 10 hu9 rfl rfl | exact units_ 11 hu9 rfl rfl | exact units_ 12 hu9 rfl rfl | exact units_ 13 hu9 rfl rfl | exact units_ 14 hu9 rfl rfl | exact units_ 15 hu9 rfl rfl | exact units_ 16 hu9 rfl rfl | exact units_ 17 hu9 rfl rfl | exact units_ 18 hu9 rfl rfl | exact units_ 19 hu9 rfl rfl | exact units_ 20 hu9 rfl rfl | exact units_ 21 hu9 rfl rfl | exact units_ 22 hu9 rfl rfl | exact units_ 23 hu9 rfl rfl | exact units_ 24 hu9 rfl rfl | exact units_ 25 hu9 rfl rfl | exact units_ 26 hu9 rfl rfl | exact units_ 27 hu9 rfl rfl | exact units_ 28 hu9 rfl rfl | exact units_ 29 hu9 rfl rfl | exact units_ 30 hu9 rfl rfl | exact units_ 31 hu9 rfl rfl | exact units_ 32 hu9 rfl rfl | exact units_ 33 hu9 rfl rfl | exact units_ 34 hu9 rfl rfl | exact units_ 35 hu9 rfl rfl | exact units_ 36 hu9 rfl rfl | exact units_ 37 hu9 rfl rfl | exact units_ 38 hu9 rfl rfl | exact units_ 39 hu9 rfl rfl | exact units_ 40 hu9 rfl rfl | exact units_ 41 hu9 rfl rfl | exact units_ 42 hu9 rfl rfl | exact units_ 43 hu9 rfl rfl | exact units_ 44 hu9 rfl rfl | exact units_ 45 hu9 rfl rfl | exact units_ 46 hu9 rfl rfl | exact units_ 47 hu9 rfl rfl | exact units_ 48 hu9 rfl rfl | exact units_ 49 hu9 rfl rfl | exact units_ 50 hu9 rfl rfl | exact units_ 51 hu9 rfl rfl | exact units_ 52 hu9 rfl rfl | exact units_ 53 hu9 rfl rfl | exact units_ 54 hu9 rfl rfl | exact units_ 55 hu9 rfl rfl | exact units_ 56 hu9 rfl rfl | exact units_ 57 hu9 rfl rfl | exact units_ 58 hu9 rfl rfl | exact units_ 59 hu9 rfl rfl | exact units_ 60 hu9 rfl rfl))
  (k_with "k_ne" => (first | exact Nat.ne_of_lt (by assumption) | exact Nat.ne_of_gt (by assumption) | assumption | exact Ne.symm (by assumption) | exact Nat.ne_of_lt (And.left (by assumption)) | exact Nat.ne_of_gt (And.left (by assumption)) | exact Nat.ne_of_lt (And.left (And.right (by assumption))) | exact Nat.ne_of_gt (And.left (And.right (by assumption))) | exact Nat.ne_of_lt (And.left (And.right (And.right (by assumption)))) | exact Nat.ne_of_gt (And.left (And.right (And.right (by assumption)))) | exact Nat.ne_of_lt (And.left (And.right (And.right (And.right (by assumption))))) | exact Nat.ne_of_gt (And.left (And.right (And.right (And.right (by assumption))))) | exact Nat.ne_of_lt (And.left (And.right (And.right (And.right (And.right (by assumption)))))) | exact Nat.ne_of_gt (And.left (And.right (And.right (And.right (And.right (by assumption)))))) | exact Nat.ne_of_lt (And.left (And.right (And.right (And.right (And.right (And.right (by assumption))))))) | exact Nat.ne_of_gt (And.left (And.right (And.right (And.right (And.right (And.right (by assumption))))))) | exact Nat.ne_of_lt (And.left (And.right (And.right (And.right (And.right (And.right (And.right (by assumption)))))))) | exact Nat.ne_of_gt (And.left (And.right (And.right (And.right (And.right (And.right (And.right (by assumption)))))))) | exact Nat.ne_of_lt (And.left (And.right (And.right (And.right (And.right (And.right (And.right (And.right (by assumption))))))))) | exact Nat.ne_of_gt (And.left (And.right (And.right (And.right (And.right (And.right (And.right (And.right (by assumption))))))))) | exact Nat.ne_of_lt (And.left (And.right (And.right (And.right (And.right (And.right (And.right (And.right (And.right (by assumption)))))))))) | exact Nat.ne_of_gt (And.left (And.right (And.right (And.right (And.right (And.right (And.right (And.right (And.right (by assumption)))))))))) | exact Nat.ne_of_lt (And.left (And.right (And.right (And.right (And.right (And.right (And.right (And.right (And.right (And.right (by assumption))))))))))) | exact Nat.ne_of_gt (And.left (And.right (And.right (And.right (And.right (And.right (And.right (And.right (And.right (And.right (by assumption))))))))))) | (refine neN ?_; (try dsimp only); (first | lia | omega))))
  (k_with "exec If" => (refine if_fold ?_; intro q8))
  (k_with "isTrue Compare" => (refine is_cmp ?_))
  (k_with "ite" => (k_here; first | with_reducible refine ite_tt ?_ | with_reducible refine ite_ff ?_ | k_dflt (first | refine ite_pos (by decide) ?_ | refine ite_neg (by decide) ?_)))
  (k_with "execs cons" => (first | (rename Shared => s9; refine stmt_cons s9 ?_; intro t9 s8 q8) | (refine wpAny_execs_cons ?_; (try k_fold))))
  (k_with "call builtin:issubclass" => (k_here; k_dflt (refine' call_is ?isN ?isM ?_; (case isN => k_asm); (case isM => k_mem); k_whole)))
  exact trivial
section
variable {w : World} {mean : ExcName → Option Value} {mg mb : PySem.Str → Option Value} {dp un : Nat} {gd : Option (List Code)} {cn : PySem.Str} {cs : Scope} {a : Addr} {ccd : Value} {cl : List (PySem.Str × Addr)} {outer : List Env} {A₀ : Around} {base h₀ : Heap} {L : Addr} {m : PySem.Str → Option Value} {news : List (Addr × Obj)} {s : Shared} {Q E : Value → Shared → Prop}

theorem fspath_spec {x : PySem.Str} {tk : Tok}
  (B : Below A₀ base outer h₀) (F : Fr h₀ L s.heap m) (X : (Mine.K w.params).In h₀)
  (N : News h₀ L s.heap news) (T : Top VW LOO mean mg mb h₀) (hk : cs.kind = .function)
  (hdp : dp + 4 < recursionLimit) (hu : un + 40 < cLine)
  (hret : ∀ t h' tk', Fr h₀ L h' m → News h₀ L h' news → Q (.str x t) {s with heap := h', toks := tk'}) :
  wpAny (model PRG w) (ktrTop dp un gd cn cs L a ccd cl outer) (call (.ref 806) [.str x tk]) Q E s := by
  refine wpAny_call ?_
  k_dflt ktr_enter
  k_steps
  refine' hret _ _ _ ?F ?N
  case F => k_asm
  case N => first | k_asm | exact nb_tl (by k_asm)
theorem sep_spec {x : PySem.Str} {tk : Tok}
  (B : Below A₀ base outer h₀) (F : Fr h₀ L s.heap m) (X : (Mine.K w.params).In h₀)
  (N : News h₀ L s.heap news) (T : Top VW LOO mean mg mb h₀) (hk : cs.kind = .function)
  (hdp : dp + 4 < recursionLimit) (hu : un + 40 < cLine)
  (hret : ∀ t h' tk', Fr h₀ L h' m → News h₀ L h' news → Q (.str "/" t) {s with heap := h', toks := tk'}) :
  wpAny (model PRG w) (ktrTop dp un gd cn cs L a ccd cl outer) (call (.ref 820) [.str x tk]) Q E s := by
  refine wpAny_call ?_
  k_dflt ktr_enter
  k_steps
  refine' hret _ _ _ ?F ?N
  case F => k_asm
  case N => first | k_asm | exact nb_tl (by k_asm)
end

end Mine
end
section
open PySem PySem.W PyProof.Rows
set_option maxRecDepth 100000
set_option maxHeartbeats 8000000
namespace Mine
theorem kfBN : (PySem.Challenge.rw_ik0083_01, Mine.K) = (PySem.Challenge.rw_ik0083_01, Mine.K) := by
  k_fill
  rfl
theorem rows_BN_1 : True := by
  k_with_none
  (k_with "ktr_enter" => (refine' code_def ?k1 ?k2 ?k3 ?k4 ?k5 ?kA ?kF ?kK ?k6 ?k7 ?k8 ?k9 ?kB ?_ ?c2 ?c3 ?c4 ?c5; (case kA => exact rfl); (case kF => exact rfl); (case kK => assumption); (case k1 => k_asm); (case k2 => k_asm); (case k3 => k_asm); (case k4 => k_asm); (case k5 => k_asm); (case k6 => k_is); (case k7 => k_is); (case k8 => ktr_room); (case k9 => first | exact BindsTo.of_eq rfl | exact binds_K (by k_in) rfl (by k_is) rfl rfl rfl); (case c5 => decide); (case kB => exact locs rfl); (case c2 => exact rfl); (case c3 => exact rfl); (case c4 => exact rfl); k_whole; intro g' L' h' FG' F' N' B' X' T'; (try dsimp only); (try k_fold); (try (refine fold_A ?_; intro A9))))
  (k_with "k_room" => ktr_room)
  (k_with "k_all" => assumption)
  (k_with "ktr_room" => ((with_reducible rename _ + _ < recursionLimit => hd9); first | exact room_ 0 hd9 rfl rfl | exact room_ 1 hd9 rfl rfl | exact room_ 2 hd9 rfl rfl | exact room_ 3 hd9 rfl rfl | exact room_ 4 hd9 rfl rfl | exact room_ 5 hd9 rfl rfl | exact room_ 6 hd9 rfl rfl | exact room_ 7 hd9 rfl rfl | exact room_ 8 hd9 rfl rfl | exact room_ 9 hd9 rfl rfl | exact room_ 10 hd9 rfl rfl | exact room_ 11 hd9 rfl rfl | exact room_ 12 hd9 rfl rfl | exact room_ 13 hd9 rfl rfl | exact room_ 14 hd9 rfl rfl | exact room_ 15 hd9 rfl rfl | exact room_ 16 hd9 rfl rfl | exact room_ 17 hd9 rfl rfl | exact room_ 18 hd9 rfl rfl | exact room_ 19 hd9 rfl rfl | exact room_ 20 hd9 rfl rfl | exact room_ 21 hd9 rfl rfl | exact room_ 22 hd9 rfl rfl | exact room_ 23 hd9 rfl rfl | exact room_ 24 hd9 rfl rfl | exact room_ 25 hd9 rfl rfl))
  (k_with "ktr_units" => ((with_reducible rename _ + _ < cLine => hu9); first | exact units_ 0 hu9 rfl rfl | exact units_ 1 hu9 rfl rfl | exact units_ 2 hu9 rfl rfl | exact units_ 3 hu9 rfl rfl | exact units_ 4 hu9 rfl rfl | exact units_ 5 hu9 rfl rfl | exact units_ 6 hu9 rfl rfl | exact units_ 7 hu9 rfl rfl | exact units_ 8 hu9 rfl rfl | exact units_ 9 hu9 rfl rfl | exact units_ 10 hu9 rfl rfl | exact units_ 11 hu9 rfl rfl | exact units_ 12 hu9 rfl rfl | exact units_ 13 hu9 rfl rfl | exact units_ 14 hu9 rfl rfl | exact units_ 15 hu9 rfl rfl | exact units_ 16 hu9 rfl rfl | exact units_ 17 hu9 rfl rfl | exact units_ 18 hu9 rfl rfl | exact units_ 19 hu9 rfl rfl | exact units_ 20 hu9 rfl rfl | exact units_ 21 hu9 rfl rfl | exact units_ 22 hu9 rfl rfl | exact units_ 23 hu9 rfl rfl | exact units_ 24 hu9 rfl rfl | exact units_ 25 hu9 rfl rfl | exact units_ 26 hu9 rfl rfl | exact units_ 27 hu9 rfl rfl | exact units_ 28 hu9 rfl rfl | exact units_ 29 hu9 rfl rfl | exact units_ 30 hu9 rfl rfl | exact units_ 31 hu9 rfl rfl | exact units_ 32 hu9 rfl rfl | exact units_ 33 hu9 rfl rfl | exact units_ 34 hu9 rfl rfl | exact units_ 35 hu9 rfl rfl | exact units_ 36 hu9 rfl rfl | exact units_ 37 hu9 rfl rfl | exact units_ 38 hu9 rfl rfl | exact units_ 39 hu9 rfl rfl | exact units_ 40 hu9 rfl rfl | exact units_ 41 hu9 rfl rfl | exact units_ 42 hu9 rfl rfl | exact units_ 43 hu9 rfl rfl | exact units_ 44 hu9 rfl rfl | exact units_ 45 hu9 rfl rfl | exact units_ 46 hu9 rfl rfl | exact units_ 47 hu9 rfl rfl | exact units_ 48 hu9 rfl rfl | exact units_ 49 hu9 rfl rfl | exact units_ 50 hu9 rfl rfl | exact units_ 51 hu9 rfl rfl | exact units_ 52 hu9 rfl rfl | exact units_ 53 hu9 rfl rfl | exact units_ 54 hu9 rfl rfl | exact units_ 55 hu9 rfl rfl | exact units_ 56 hu9 rfl rfl | exact units_ 57 hu9 rfl rfl | exact units_ 58 hu9 rfl rfl | exact units_ 59 hu9 rfl rfl | exact units_ 60 hu9 rfl rfl))
  (k_with "k_ne" => (first | exact Nat.ne_of_lt (by assumption) | exact Nat.ne_of_gt (by assumption) | assumption | exact Ne.symm (by assumption) | exact Nat.ne_of_lt (And.left (by assumption)) | exact Nat.ne_of_gt (And.left (by assumption)) | exact Nat.ne_of_lt (And.left (And.right (by assumption))) | exact Nat.ne_of_gt (And.left (And.right (by assumption))) | exact Nat.ne_of_lt (And.left (And.right (And.right (by assumption)))) | exact Nat.ne_of_gt (And.left (And.right (And.right (by assumption)))) | exact Nat.ne_of_lt (And.left (And.right (And.right (And.right (by assumption))))) | exact Nat.ne_of_gt (And.left (And.right (And.right (And.right (by assumption))))) | exact Nat.ne_of_lt (And.left (And.right (And.right (And.right (And.right (by assumption)))))) | exact Nat.ne_of_gt (And.left (And.right (And.right (And.right (And.right (by assumption)))))) | exact Nat.ne_of_lt (And.left (And.right (And.right (And.right (And.right (And.right (by assumption))))))) | exact Nat.ne_of_gt (And.left (And.right (And.right (And.right (And.right (And.right (by assumption))))))) | exact Nat.ne_of_lt (And.left (And.right (And.right (And.right (And.right (And.right (And.right (by assumption)))))))) | exact Nat.ne_of_gt (And.left (And.right (And.right (And.right (And.right (And.right (And.right (by assumption)))))))) | exact Nat.ne_of_lt (And.left (And.right (And.right (And.right (And.right (And.right (And.right (And.right (by assumption))))))))) | exact Nat.ne_of_gt (And.left (And.right (And.right (And.right (And.right (And.right (And.right (And.right (by assumption))))))))) | exact Nat.ne_of_lt (And.left (And.right (And.right (And.right (And.right (And.right (And.right (And.right (And.right (by assumption)))))))))) | exact Nat.ne_of_gt (And.left (And.right (And.right (And.right (And.right (And.right (And.right (And.right (And.right (by assumption)))))))))) | exact Nat.ne_of_lt (And.left (And.right (And.right (And.right (And.right (And.right (And.right (And.right (And.right (And.right (by assumption))))))))))) | exact Nat.ne_of_gt (And.left (And.right (And.right (And.right (And.right (And.right (And.right (And.right (And.right (And.right (by assumption))))))))))) | (refine neN ?_; (try dsimp only); (first | lia | omega))))
  (k_with "exec If" => (refine if_fold ?_; intro q8))
  (k_with "isTrue Compare" => (refine is_cmp ?_))
  (k_with "ite" => (k_here; first | with_reducible refine ite_tt ?_ | with_reducible refine ite_ff ?_ | k_dflt (first | refine ite_pos (by decide) ?_ | refine ite_neg (by decide) ?_)))
  (k_with "execs cons" => (first | (rename Shared => s9; refine stmt_cons s9 ?_; intro t9 s8 q8) | (refine wpAny_execs_cons ?_; (try k_fold))))
  (k_with "call ref" => (k_here; (with_reducible show wpAny _ _ (call (Value.ref 806) [Value.str _ _]) _ _ _); k_dflt (refine' fspath_spec ?yB ?yF ?yX ?yN ?yT ?yk ?yd ?yu ?_; (case yB => k_asm); (case yF => k_asm); (case yX => k_asm); (case yN => k_asm); (case yT => k_asm); (case yk => exact rfl); (case yd => ktr_room); (case yu => ktr_units); k_whole); intro t' h' tk' F' N'; (try k_fold)))
  (k_with "call ref" => (k_here; (with_reducible show wpAny _ _ (call (Value.ref 820) [Value.str _ _]) _ _ _); k_dflt (refine' sep_spec ?yB ?yF ?yX ?yN ?yT ?yk ?yd ?yu ?_; (case yB => k_asm); (case yF => k_asm); (case yX => k_asm); (case yN => k_asm); (case yT => k_asm); (case yk => exact rfl); (case yd => ktr_room); (case yu => ktr_units); k_whole); intro t' h' tk' F' N'; (try k_fold)))
  exact trivial
section
variable {prog : Program} {w : World} {A : Around} {E : Value → Shared → Prop} {s : Shared}
theorem rfind_known {x y : PySem.Str} {t u : Tok} {n : Int} {Q : Value → Shared → Prop} (h : Txt.rfind x y = n) (hq : ∀ t' k, Q (.int n t') { s with toks := k }) : wpAny (model prog w) A (call (.builtin "str.rfind") [.str x t, .str y u]) Q E s := SC.rfind (by rw [h]; exact hq _ _)
end
theorem rows_BN_2 : True := by
  (k_with "call builtin:str.rfind" => (k_here; (refine' rfind_known ?xh ?_; (case xh => with_reducible assumption)); intro _ _))
  exact trivial
section
variable {w : World} {mean : ExcName → Option Value} {mg mb : PySem.Str → Option Value} {dp un : Nat} {gd : Option (List Code)} {cn : PySem.Str} {cs : Scope} {a : Addr} {ccd : Value} {cl : List (PySem.Str × Addr)} {outer : List Env} {A₀ : Around} {base h₀ : Heap} {L : Addr} {m : PySem.Str → Option Value} {news : List (Addr × Obj)} {s : Shared} {Q E : Value → Shared → Prop}

theorem basename_spec {f x : List Nat} {tk : Tok}
  (B : Below A₀ base outer h₀) (F : Fr h₀ L s.heap m) (X : (Mine.K w.params).In h₀)
  (N : News h₀ L s.heap news) (T : Top VW LOO mean mg mb h₀) (hk : cs.kind = .function)
  (hdp : dp + 10 < recursionLimit) (hu : un + 100 < cLine)
  (hx : 47 ∉ x) (hz : f.length + x.length ≤ 3000)
  (hret : ∀ t h' tk', Fr h₀ L h' m → News h₀ L h' news → Q (.str (st x) t) {s with heap := h', toks := tk'}) :
  wpAny (model PRG w) (ktrTop dp un gd cn cs L a ccd cl outer) (call (.ref 834) [.str (st (f ++ 47 :: x)) tk]) Q E s := by
  have h1 : Txt.rfind (st (f ++ 47 :: x)) (PySem.Str.ofString "/") = (f.length : Int) := by rw [st_sl]; exact rfind_st hx
  have hsl := st_len (f ++ 47 :: x)
  have hx' : (st (f ++ 47 :: x)).length ≤ 4000 := by rw [hsl, List.length_append, List.length_cons]; (first | lia | omega)
  refine wpAny_call ?_
  k_dflt ktr_enter
  k_steps
  have e : Txt.slice (st (f ++ 47 :: x)) (some ((f.length : Int) + 1)) none = st x := by
    have h2 := slice_from (l := f ++ 47 :: x) (i := f.length + 1) (by rw [List.length_append, List.length_cons]; (first | lia | omega))
    have h3 : (((f.length + 1 : Nat)) : Int) = (f.length : Int) + 1 := by (first | lia | omega)
    rw [h3] at h2
    rw [h2]
    congr 1
    rw [List.drop_append, List.drop_eq_nil_of_le (by (first | lia | omega)), List.nil_append]
    have : f.length + 1 - f.length = 1 := by (first | lia | omega)
    rw [this]
    rfl
  rw [e]
  refine' hret _ _ _ ?z1 ?z2
  case z1 => k_asm
  case z2 => k_asm
end

end Mine
end
section
open PySem PySem.W PyProof.Rows
set_option maxRecDepth 100000
set_option maxHeartbeats 8000000
namespace Mine
theorem kfJ1 : (PySem.Challenge.rw_ik0083_01, Mine.K) = (PySem.Challenge.rw_ik0083_01, Mine.K) := by
  k_fill
  rfl
theorem rows_J1_1 : True := by
  k_with_none
  (k_with "ktr_enter" => (refine' code_def ?k1 ?k2 ?k3 ?k4 ?k5 ?kA ?kF ?kK ?k6 ?k7 ?k8 ?k9 ?kB ?_ ?c2 ?c3 ?c4 ?c5; (case kA => exact rfl); (case kF => exact rfl); (case kK => assumption); (case k1 => k_asm); (case k2 => k_asm); (case k3 => k_asm); (case k4 => k_asm); (case k5 => k_asm); (case k6 => k_is); (case k7 => k_is); (case k8 => ktr_room); (case k9 => first | exact BindsTo.of_eq rfl | exact binds_K (by k_in) rfl (by k_is) rfl rfl rfl); (case c5 => decide); (case kB => exact locs rfl); (case c2 => exact rfl); (case c3 => exact rfl); (case c4 => exact rfl); k_whole; intro g' L' h' FG' F' N' B' X' T'; (try dsimp only); (try k_fold); (try (refine fold_A ?_; intro A9))))
  (k_with "k_room" => ktr_room)
  (k_with "k_all" => assumption)
  (k_with "ktr_room" => ((with_reducible rename _ + _ < recursionLimit => hd9); first | exact room_ 0 hd9 rfl rfl | exact room_ 1 hd9 rfl rfl | exact room_ 2 hd9 rfl rfl | exact room_ 3 hd9 rfl rfl | exact room_ 4 hd9 rfl rfl | exact room_ 5 hd9 rfl rfl | exact room_ 6 hd9 rfl rfl | exact room_ 7 hd9 rfl rfl | exact room_ 8 hd9 rfl rfl | exact room_ 9 hd9 rfl rfl | exact room_ 10 hd9 rfl rfl | exact room_ 11 hd9 rfl rfl | exact room_ 12 hd9 rfl rfl | exact room_ 13 hd9 rfl rfl | exact room_ 14 hd9 rfl rfl | exact room_ 15 hd9 rfl rfl | exact room_ 16 hd9 rfl rfl | exact room_ 17 hd9 rfl rfl | exact room_ 18 hd9 rfl rfl | exact room_ 19 hd9 rfl rfl | exact room_ 20 hd9 rfl rfl | exact room_ 21 hd9 rfl rfl | exact room_ 22 hd9 rfl rfl | exact room_ 23 hd9 rfl rfl | exact room_ 24 hd9 rfl rfl | exact room_ 25 hd9 rfl rfl))
  (k_with "ktr_units" => ((with_reducible rename _ + _ < cLine => hu9); first | exact units_ 0 hu9 rfl rfl | exact units_ 1 hu9 rfl rfl | exact units_ 2 hu9 rfl rfl | exact units_ 3 hu9 rfl rfl | exact units_ 4 hu9 rfl rfl | exact units_ 5 hu9 rfl rfl | exact units_ 6 hu9 rfl rfl | exact units_ 7 hu9 rfl rfl | exact units_ 8 hu9 rfl rfl | exact units_ 9 hu9 rfl rfl | exact units_ 10 hu9 rfl rfl | exact units_ 11 hu9 rfl rfl | exact units_ 12 hu9 rfl rfl | exact units_ 13 hu9 rfl rfl | exact units_ 14 hu9 rfl rfl | exact units_ 15 hu9 rfl rfl | exact units_ 16 hu9 rfl rfl | exact units_ 17 hu9 rfl rfl | exact units_ 18 hu9 rfl rfl | exact units_ 19 hu9 rfl rfl | exact units_ 20 hu9 rfl rfl | exact units_ 21 hu9 rfl rfl | exact units_ 22 hu9 rfl rfl | exact units_ 23 hu9 rfl rfl | exact units_ 24 hu9 rfl rfl | exact units_ 25 hu9 rfl rfl | exact units_ 26 hu9 rfl rfl | exact units_ 27 hu9 rfl rfl | exact units_ 28 hu9 rfl rfl | exact units_ 29 hu9 rfl rfl | exact units_ 30 hu9 rfl rfl | exact units_ 31 hu9 rfl rfl | exact units_ 32 hu9 rfl rfl | exact units_ 33 hu9 rfl rfl | exact units_ 34 hu9 rfl rfl | exact units_ 35 hu9 rfl rfl | exact units_ 36 hu9 rfl rfl | exact units_ 37 hu9 rfl rfl | exact units_ 38 hu9 rfl rfl | exact units_ 39 hu9 rfl rfl | exact units_ 40 hu9 rfl rfl | exact units_ 41 hu9 rfl rfl | exact units_ 42 hu9 rfl rfl | exact units_ 43 hu9 rfl rfl | exact units_ 44 hu9 rfl rfl | exact units_ 45 hu9 rfl rfl | exact units_ 46 hu9 rfl rfl | exact units_ 47 hu9 rfl rfl | exact units_ 48 hu9 rfl rfl | exact units_ 49 hu9 rfl rfl | exact units_ 50 hu9 rfl rfl | exact units_ 51 hu9 rfl rfl | exact units_ 52 hu9 rfl rfl | exact units_ 53 hu9 rfl rfl | exact units_ 54 hu9 rfl rfl | exact units_ 55 hu9 rfl rfl | exact units_ 56 hu9 rfl rfl | exact units_ 57 hu9 rfl rfl | exact units_ 58 hu9 rfl rfl | exact units_ 59 hu9 rfl rfl | exact units_ 60 hu9 rfl rfl))
  (k_with "k_ne" => (first | exact Nat.ne_of_lt (by assumption) | exact Nat.ne_of_gt (by assumption) | assumption | exact Ne.symm (by assumption) | exact Nat.ne_of_lt (And.left (by assumption)) | exact Nat.ne_of_gt (And.left (by assumption)) | exact Nat.ne_of_lt (And.left (And.right (by assumption))) | exact Nat.ne_of_gt (And.left (And.right (by assumption))) | exact Nat.ne_of_lt (And.left (And.right (And.right (by assumption)))) | exact Nat.ne_of_gt (And.left (And.right (And.right (by assumption)))) | exact Nat.ne_of_lt (And.left (And.right (And.right (And.right (by assumption))))) | exact Nat.ne_of_gt (And.left (And.right (And.right (And.right (by assumption))))) | exact Nat.ne_of_lt (And.left (And.right (And.right (And.right (And.right (by assumption)))))) | exact Nat.ne_of_gt (And.left (And.right (And.right (And.right (And.right (by assumption)))))) | exact Nat.ne_of_lt (And.left (And.right (And.right (And.right (And.right (And.right (by assumption))))))) | exact Nat.ne_of_gt (And.left (And.right (And.right (And.right (And.right (And.right (by assumption))))))) | exact Nat.ne_of_lt (And.left (And.right (And.right (And.right (And.right (And.right (And.right (by assumption)))))))) | exact Nat.ne_of_gt (And.left (And.right (And.right (And.right (And.right (And.right (And.right (by assumption)))))))) | exact Nat.ne_of_lt (And.left (And.right (And.right (And.right (And.right (And.right (And.right (And.right (by assumption))))))))) | exact Nat.ne_of_gt (And.left (And.right (And.right (And.right (And.right (And.right (And.right (And.right (by assumption))))))))) | exact Nat.ne_of_lt (And.left (And.right (And.right (And.right (And.right (And.right (And.right (And.right (And.right (by assumption)))))))))) | exact Nat.ne_of_gt (And.left (And.right (And.right (And.right (And.right (And.right (And.right (And.right (And.right (by assumption)))))))))) | exact Nat.ne_of_lt (And.left (And.right (And.right (And.right (And.right (And.right (And.right (And.right (And.right (And.right (by assumption))))))))))) | exact Nat.ne_of_gt (And.left (And.right (And.right (And.right (And.right (And.right (And.right (And.right (And.right (And.right (by assumption))))))))))) | (refine neN ?_; (try dsimp only); (first | lia | omega))))
  (k_with "exec If" => (refine if_fold ?_; intro q8))
  (k_with "isTrue Compare" => (refine is_cmp ?_))
  (k_with "ite" => (k_here; first | with_reducible refine ite_tt ?_ | with_reducible refine ite_ff ?_ | k_dflt (first | refine ite_pos (by decide) ?_ | refine ite_neg (by decide) ?_)))
  (k_with "execs cons" => (first | (rename Shared => s9; refine stmt_cons s9 ?_; intro t9 s8 q8; refine fold_E ?_; intro e8) | (refine wpAny_execs_cons ?_; (try k_fold))))
  (k_with "call ref" => (k_here; (with_reducible show wpAny _ _ (call (Value.ref 806) [Value.str _ _]) _ _ _); k_dflt (refine' fspath_spec ?yB ?yF ?yX ?yN ?yT ?yk ?yd ?yu ?_; (case yB => k_asm); (case yF => k_asm); (case yX => k_asm); (case yN => k_asm); (case yT => k_asm); (case yk => exact rfl); (case yd => ktr_room); (case yu => ktr_units); k_whole); intro t' h' tk' F' N'; (try k_fold)))
  (k_with "call ref" => (k_here; (with_reducible show wpAny _ _ (call (Value.ref 820) [Value.str _ _]) _ _ _); k_dflt (refine' sep_spec ?yB ?yF ?yX ?yN ?yT ?yk ?yd ?yu ?_; (case yB => k_asm); (case yF => k_asm); (case yX => k_asm); (case yN => k_asm); (case yT => k_asm); (case yk => exact rfl); (case yd => ktr_room); (case yu => ktr_units); k_whole); intro t' h' tk' F' N'; (try k_fold)))
  (k_with "exec For" => (refine stop_of ?_))
  exact trivial
theorem starts_known {prog : Program} {w : World} {A : Around} {E : Value → Shared → Prop} {s : Shared} {x y : PySem.Str} {t u : Tok} {b : Bool} {Q : Value → Shared → Prop} (h : Txt.startswith x y = b) (hq : Q (.bool b) s) : wpAny (model prog w) A (call (.builtin "str.startswith") [.str x t, .str y u]) Q E s := SC.startswith (by rw [h]; exact hq)
theorem ends_known {prog : Program} {w : World} {A : Around} {E : Value → Shared → Prop} {s : Shared} {x y : PySem.Str} {t u : Tok} {b : Bool} {Q : Value → Shared → Prop} (h : Txt.endswith x y = b) (hq : Q (.bool b) s) : wpAny (model prog w) A (call (.builtin "str.endswith") [.str x t, .str y u]) Q E s := SC.endswith (by rw [h]; exact hq)
theorem truthy_ne {prog : Program} {w : World} {A : Around} {E : Value → Shared → Prop} {s : Shared} {l : List Nat} {t : Tok} {Q : Bool → Shared → Prop} (hn : l ≠ []) (hz : l.length ≤ 4000) (h : ∀ k, Q true {s with toks := k}) : wpAny (model prog w) A (truthy (.str (st l) t)) Q E s := by
  cases l with
  | nil => exact absurd rfl hn
  | cons c l => exact truthy_cons (by simp only [List.length_cons] at hz; (first | lia | omega)) h
theorem add_eqs2 {prog : Program} {w : World} {A : Around} {E : Value → Shared → Prop} {s : Shared} {Q : Value → Shared → Prop} {t u : Tok} {x y : PySem.Str} {a b : List Nat} (hx : x = st a) (hy : y = st b) (ha : a.length ≤ 4000) (hb : b.length ≤ 4000) (h : ∀ t' k, Q (.str (st (a ++ b)) t') { s with toks := k }) : wpAny (model prog w) A (binaryOp .Add (.str x t) (.str y u)) Q E s := by
  subst hx; subst hy
  exact add_st ha hb h
theorem iadd_eqs2 {prog : Program} {w : World} {A : Around} {E : Value → Shared → Prop} {s : Shared} {Q : Value → Shared → Prop} {t u : Tok} {x y : PySem.Str} {a b : List Nat} (hx : x = st a) (hy : y = st b) (ha : a.length ≤ 4000) (hb : b.length ≤ 4000) (h : ∀ t' k, Q (.str (st (a ++ b)) t') { s with toks := k }) : wpAny (model prog w) A (inplaceOp .Add (.str x t) (.str y u)) Q E s := by
  subst hx; subst hy
  refine PyProof.Rows.iadd_str (fun t' k => ?_) (by rw [st_len, st_len, sizeLine_eq]; (first | lia | omega))
  rw [st_app]
  exact h t' k
theorem rows_J1_2 : True := by
  (k_with "inplaceOp Add str str" => (k_here; (refine' iadd_eqs2 ?xx ?xy ?xa ?xb ?_; (case xx => first | exact rfl | exact st_sl); (case xy => first | exact rfl | exact st_sl); (case xa => first | assumption | decide | (simp only [List.length_append, List.length_cons, List.length_nil]; (first | lia | omega))); (case xb => first | assumption | decide | (simp only [List.length_append, List.length_cons, List.length_nil]; (first | lia | omega)))); intro _ _))
  (k_with "call builtin:str.startswith" => (k_here; (refine' starts_known ?xh ?_; (case xh => with_reducible assumption))))
  (k_with "call builtin:str.endswith" => (k_here; (refine' ends_known ?xh ?_; (case xh => with_reducible assumption))))
  (k_with "truthy str" => (k_here; (refine' truthy_ne ?xn ?xz ?_; (case xn => assumption); (case xz => assumption)); intro _))
  (k_with "binaryOp Add str str" => (k_here; (refine' add_eqs2 ?xx ?xy ?xa ?xb ?_; (case xx => first | exact rfl | exact st_sl); (case xy => first | exact rfl | exact st_sl); (case xa => first | assumption | decide | (simp only [List.length_append, List.length_cons, List.length_nil]; (first | lia | omega))); (case xb => first | assumption | decide | (simp only [List.length_append, List.length_cons, List.length_nil]; (first | lia | omega)))); intro _ _))
  (k_with "UnrPostW" => (refine stop_of ?_))
  (k_with "own pyIter ref" => (refine stop_of ?_))
  exact trivial
/-- the loop of join: what is left, the path so far -/
noncomputable def JnI (names : List (List Nat)) (base : PySem.Str → Option Value) (led : List (Addr × Obj)) (xs : List Itm) (m' : PySem.Str → Option Value) (nw : List (Addr × Obj)) : Prop :=
  ∃ pre rest vs' t bv, xs = vs'.map .val ∧ StrsAre vs' (rest.map st) ∧ names = pre ++ rest ∧ m' = over "path" (some (.str (st (joinP pre)) t)) (over "b" bv base) ∧ nw = led
theorem jn_start {names : List (List Nat)} {base : PySem.Str → Option Value} {led : List (Addr × Obj)} {vs : List Value} {t : Tok} (hv : StrsAre vs (names.map st)) (hp : base "path" = some (.str (st [47]) t)) (hb : base "b" = none) : JnI names base led (vs.map .val) base led :=
  ⟨[], names, vs, t, none, rfl, hv, rfl, by rw [over_none hb]; exact (over_same hp).symm, rfl⟩
theorem jn_cons {names : List (List Nat)} {base : PySem.Str → Option Value} {led : List (Addr × Obj)} {a : Itm} {r : List Itm} {m' : PySem.Str → Option Value} {nw : List (Addr × Obj)} {v : Value} {h : Heap} (hJ : JnI names base led (a :: r) m' nw) (hv : a.Is v h) :
    ∃ pre x rest vs' t u bv, v = .str (st x) u ∧ r = vs'.map .val ∧ StrsAre vs' (rest.map st) ∧ names = pre ++ x :: rest ∧ m' = over "path" (some (.str (st (joinP pre)) t)) (over "b" bv base) ∧ nw = led := by
  refine fold_G ?_
  intro G9
  obtain ⟨pre, rest, vs', t, bv, e, hs, hn, hm, hw⟩ := hJ
  cases vs' with
  | nil => cases e
  | cons v' vs' =>
    cases rest with
    | nil => cases hs
    | cons x rest =>
      simp only [List.map_cons, List.cons.injEq] at e
      refine fold_G ?_
      intro G9
      obtain ⟨e1, e2⟩ := e
      subst e1
      have hv' : v = v' := hv
      subst hv'
      cases hs with
      | cons _ u hs' => exact ⟨pre, x, rest, vs', t, u, bv, rfl, e2, hs', hn, hm, hw⟩
theorem jn_nil {names : List (List Nat)} {base : PySem.Str → Option Value} {led : List (Addr × Obj)} {m' : PySem.Str → Option Value} {nw : List (Addr × Obj)} (hJ : JnI names base led [] m' nw) :
    ∃ t bv, m' = over "path" (some (.str (st (joinP names)) t)) (over "b" bv base) ∧ nw = led := by
  refine fold_G ?_
  intro G9
  obtain ⟨pre, rest, vs', t, bv, e, hs, hn, hm, hw⟩ := hJ
  cases vs' with
  | cons v' vs' => cases e
  | nil =>
    cases rest with
    | cons x rest => cases hs
    | nil => rw [List.append_nil] at hn; subst hn; exact ⟨t, bv, hm, hw⟩
theorem jn_map {v1 v2 v3 : Value} {w1 w2 : Option Value} {base : PySem.Str → Option Value} : over "path" (some v1) (over "b" (some v2) base) = fun (y : PySem.Str) => if y = "path" then some v1 else if y = "b" then some v2 else if y = "b" then some v3 else over "path" w1 (over "b" w2 base) y := by
  funext y
  unfold over
  by_cases h1 : y = "path"
  · subst h1; rfl
  by_cases h2 : y = "b"
  · subst h2; rfl
  simp only [h1, h2, if_false]
theorem joinP_one (x : List Nat) : [47] ++ x = joinP [x] := by simp [joinP]
theorem joinP_snoc {pre : List (List Nat)} (h : pre ≠ []) (x : List Nat) : joinP pre ++ ([47] ++ x) = joinP (pre ++ [x]) := by
  cases pre with
  | nil => exact absurd rfl h
  | cons y r => simp [joinP]
theorem joinP_len (names : List (List Nat)) : (joinP names).length ≤ names.flatten.length + names.length + 1 := by
  cases names with
  | nil => simp [joinP]
  | cons x r =>
    have : (r.flatMap (47 :: ·)).length = r.flatten.length + r.length := by
      induction r with
      | nil => rfl
      | cons y r ih => simp only [List.flatMap_cons, List.flatten_cons, List.length_append, List.length_cons, ih]; (first | lia | omega)
    simp only [joinP, List.length_append, List.length_cons, List.flatten_cons, this]
    (first | lia | omega)
theorem joinP_ne (names : List (List Nat)) : joinP names ≠ [] := by cases names <;> simp [joinP]
theorem joinP_end {pre : List (List Nat)} (h : pre ≠ []) (hn : ∀ x ∈ pre, x ≠ [] ∧ ∀ c ∈ x, lett c) : ∃ l c, joinP pre = l ++ [c] ∧ lett c := by
  have hl : pre = pre.dropLast ++ [pre.getLast h] := (List.dropLast_concat_getLast h).symm
  have hm := hn _ (List.getLast_mem h)
  generalize pre.getLast h = x at hl hm
  generalize pre.dropLast = q at hl
  obtain ⟨hx, hc⟩ := hm
  have hl2 : x = x.dropLast ++ [x.getLast hx] := (List.dropLast_concat_getLast hx).symm
  have hc2 := hc _ (List.getLast_mem hx)
  generalize x.getLast hx = c at hl2 hc2
  generalize x.dropLast = z at hl2
  rw [hl, hl2]
  by_cases hq : q = []
  · subst hq
    exact ⟨47 :: z, c, by simp [joinP], hc2⟩
  · exact ⟨joinP q ++ ([47] ++ z), c, by rw [← joinP_snoc hq]; simp, hc2⟩
section
variable {w : World} {mean : ExcName → Option Value} {mg mb : PySem.Str → Option Value} {dp un : Nat} {gd : Option (List Code)} {cn : PySem.Str} {cs : Scope} {a : Addr} {ccd : Value} {cl : List (PySem.Str × Addr)} {outer : List Env} {A₀ : Around} {base h₀ : Heap} {L : Addr} {m : PySem.Str → Option Value} {news : List (Addr × Obj)} {s : Shared} {Q E : Value → Shared → Prop}

theorem jn_next {g h' : Heap} {L' I : Addr} {oI : Obj} {names pre rest : List (List Nat)} {x : List Nat} {vs' : List Value} {base : PySem.Str → Option Value} {led : List (Addr × Obj)} {keep : List (Addr × Obj)} {r : List Itm} {all : List (Addr × Obj)} {tk' : Nat} {s₁ : Shared} {p : List Nat} {t' : Tok} {v2 v3 : Value} {w1 w2 : Option Value} {Q : Flow → Shared → Prop}
  (F' : Fr g L' h' (fun y => if y = "path" then some (.str (st p) t') else if y = "b" then some v2 else if y = "b" then some v3 else over "path" w1 (over "b" w2 base) y)) (N' : News g L' h' all)
  (hI : (I, oI) ∈ all) (hsub : ∀ q ∈ led, q ∈ all) (hlt : ∀ q ∈ led, @LT.lt Nat _ q.1 I) (hk : ∀ q ∈ keep, q ∈ led)
  (hp : p = joinP (pre ++ [x])) (hr : r = vs'.map .val) (hs : StrsAre vs' (rest.map st)) (hn : names = pre ++ x :: rest) :
  UnrPostW g L' s₁ [(I, oI)] (fun m n => SubL keep n ∧ JnI names base led r m n) Q .next { s₁ with heap := h', toks := tk' } := by
  refine turn_end F' N' (fun q hq => by rw [List.mem_singleton.mp hq]; exact hI) hsub (fun q hq q' hq' => by rw [List.mem_singleton.mp hq']; exact hlt q hq) hk ?_
  subst hp
  exact ⟨pre ++ [x], rest, vs', t', some v2, hr, hs, by rw [hn]; simp, jn_map.symm, rfl⟩
theorem join_spec {names : List (List Nat)} {vs : List Value} {tk : Tok}
  (B : Below A₀ base outer h₀) (F : Fr h₀ L s.heap m) (X : (Mine.K w.params).In h₀)
  (N : News h₀ L s.heap news) (T : Top VW LOO mean mg mb h₀) (hk : cs.kind = .function)
  (hdp : dp + 10 < recursionLimit) (hu : un + 100 < cLine)
  (hv : StrsAre vs (names.map st)) (hn : ∀ x ∈ names, x ≠ [] ∧ ∀ c ∈ x, lett c) (hz : names.flatten.length + names.length ≤ 3000)
  (hret : ∀ t h' tk', Fr h₀ L h' m → News h₀ L h' news → Q (.str (st (joinP names)) t) {s with heap := h', toks := tk'}) :
  wpAny (model PRG w) (ktrTop dp un gd cn cs L a ccd cl outer) (call (.ref 827) (.str "/" tk :: vs)) Q E s := by
  refine wpAny_call ?_
  have hvz : vs.length ≤ sizeLine := by
    have h1 := hv.length
    rw [List.length_map] at h1
    rw [sizeLine_eq]; (first | lia | omega)
  k_dflt (refine' enter_rest ?k1 ?k2 ?k3 ?k4 ?k5 ?kA ?kF ?kK ?k6 ?k7 ?k8 ?kV ?kP ?kB ?_ ?c2 ?c3 ?c4 ?c5; (case kA => exact rfl); (case kF => exact rfl); (case kK => assumption); (case k1 => k_asm); (case k2 => k_asm); (case k3 => k_asm); (case k4 => k_asm); (case k5 => k_asm); (case k6 => k_is); (case k7 => k_is); (case k8 => ktr_room); (case kV => exact rest_binds rfl); (case kP => exact hvz); (case kB => exact fun _ => locs rfl); (case c5 => decide); (case c2 => exact rfl); (case c3 => exact rfl); (case c4 => exact rfl); k_whole; intro D' g' L' h' l1 FG' F' N' B' X' T'; (try dsimp only); (try k_fold))
  k_steps
  refine Stop.out ?_
  (with_reducible rename Fr _ _ _ _ => F0)
  (with_reducible rename News _ _ _ _ => N0)
  rw [st_sl] at F0
  refine For_turns F0 ?_
  k_steps
  refine Stop.out ?_
  refine iter_tupTurns rfl F0 N0 (.head _) rfl rfl (fun I hI => ?_)
  refine items_inv (JnI names _ _) ?turn ?done (jn_start hv rfl rfl)
  case turn =>
    intro a r m' nw v h1 tk1 hJ hvI F1
    refine fold_G ?_
    intro G9
    obtain ⟨pre, x, rest, vs', t, u, bv, rfl, hr, hs, hnm, rfl, rfl⟩ := jn_cons hJ hvI
    clear hJ hvI F0 N0
    refine AllObj.cons (fun oI hoI => AllObj.nil (fun N1 => ?_))
    simp only [List.cons_append, List.nil_append] at N1
    obtain ⟨hx0, hxl⟩ := hn x (by rw [hnm]; simp)
    have hpn := joinP_ne pre
    have hl1 : x.length + (pre.flatten.length + pre.length) ≤ 3000 := by
      rw [hnm] at hz
      simp only [List.flatten_append, List.flatten_cons, List.length_append, List.length_cons] at hz
      (first | lia | omega)
    have hl2 : (joinP pre).length ≤ 4000 := by have := joinP_len pre; (first | lia | omega)
    have hl3 : x.length ≤ 3000 := by (first | lia | omega)
    have hl4 : x.length ≤ 4000 := by (first | lia | omega)
    have hsw : Txt.startswith (st x) (st [47]) = false := by
      cases x with
      | nil => exact absurd rfl hx0
      | cons c l =>
        have := hxl c (.head _)
        rw [sw_sl]; simp; (first | lia | omega)
    have hlt : ∀ q ∈ (D', ({ cls := Value.type "tuple", data := Data.seq vs.toArray } : Obj)) :: news, @LT.lt Nat _ q.1 I := hI
    by_cases hpre : pre = []
    · have hew : Txt.endswith (st (joinP pre)) (st [47]) = true := by subst hpre; exact ew_sl 47 []
      k_steps
      refine Stop.out ?_
      refine' jn_next ?eF ?eN (.head _) (fun q hq => .tail _ hq) hlt (fun q hq => by rw [List.mem_singleton.mp hq]; exact .head _) ?eP hr hs hnm
      case eF => k_asm
      case eN => k_asm
      case eP => subst hpre; exact joinP_one x
    · have hew : Txt.endswith (st (joinP pre)) (st [47]) = false := by
        obtain ⟨l, c, e, hc⟩ := joinP_end hpre (fun x hx => hn x (by rw [hnm]; exact List.mem_append_left _ hx))
        rw [e, ew_sl]; simp; (first | lia | omega)
      k_steps
      refine Stop.out ?_
      refine' jn_next ?eF2 ?eN2 (.head _) (fun q hq => .tail _ hq) hlt (fun q hq => by rw [List.mem_singleton.mp hq]; exact .head _) ?eP2 hr hs hnm
      case eF2 => k_asm
      case eN2 => k_asm
      case eP2 => exact joinP_snoc hpre x
  case done =>
    intro m' nw h1 tk1 hJ F1 N1
    obtain ⟨t, bv, rfl, rfl⟩ := jn_nil hJ
    clear hJ F0 N0
    k_steps
    refine' hret _ _ _ ?eF3 ?eN3
    case eF3 => k_asm
    case eN3 => first | k_asm | exact nb_tl (by k_asm)
end

end Mine
end
section
open PySem PySem.W PyProof.Rows
set_option maxRecDepth 100000
set_option maxHeartbeats 8000000
namespace Mine
theorem kfLP : (PySem.Challenge.rw_ik0083_01, Mine.K) = (PySem.Challenge.rw_ik0083_01, Mine.K) := by
  k_fill
  rfl
theorem rows_LP_1 : True := by
  k_with_none
  (k_with "ktr_enter" => (refine' code_def ?k1 ?k2 ?k3 ?k4 ?k5 ?kA ?kF ?kK ?k6 ?k7 ?k8 ?k9 ?kB ?_ ?c2 ?c3 ?c4 ?c5; (case kA => exact rfl); (case kF => exact rfl); (case kK => assumption); (case k1 => k_asm); (case k2 => k_asm); (case k3 => k_asm); (case k4 => k_asm); (case k5 => k_asm); (case k6 => k_is); (case k7 => k_is); (case k8 => ktr_room); (case k9 => first | exact BindsTo.of_eq rfl | exact binds_K (by k_in) rfl (by k_is) rfl rfl rfl); (case c5 => decide); (case kB => exact locs rfl); (case c2 => exact rfl); (case c3 => exact rfl); (case c4 => exact rfl); k_whole; intro g' L' h' FG' F' N' B' X' T'; (try dsimp only); (try k_fold); (try (refine fold_A ?_; intro A9))))
  (k_with "k_room" => ktr_room)
  (k_with "k_all" => assumption)
  (k_with "ktr_room" => ((with_reducible rename _ + _ < recursionLimit => hd9); first | exact room_ 0 hd9 rfl rfl | exact room_ 1 hd9 rfl rfl | exact room_ 2 hd9 rfl rfl | exact room_ 3 hd9 rfl rfl | exact room_ 4 hd9 rfl rfl | exact room_ 5 hd9 rfl rfl | exact room_ 6 hd9 rfl rfl | exact room_ 7 hd9 rfl rfl | exact room_ 8 hd9 rfl rfl | exact room_ 9 hd9 rfl rfl | exact room_ 10 hd9 rfl rfl | exact room_ 11 hd9 rfl rfl | exact room_ 12 hd9 rfl rfl | exact room_ 13 hd9 rfl rfl | exact room_ 14 hd9 rfl rfl | exact room_ 15 hd9 rfl rfl | exact room_ 16 hd9 rfl rfl | exact room_ 17 hd9 rfl rfl | exact room_ 18 hd9 rfl rfl | exact room_ 19 hd9 rfl rfl | exact room_ 20 hd9 rfl rfl | exact room_ 21 hd9 rfl rfl | exact room_ 22 hd9 rfl rfl | exact room_ 23 hd9 rfl rfl | exact room_ 24 hd9 rfl rfl | exact room_ 25 hd9 rfl rfl))
  (k_with "ktr_units" => ((with_reducible rename _ + _ < cLine => hu9); first | exact units_ 0 hu9 rfl rfl | exact units_ 1 hu9 rfl rfl | exact units_ 2 hu9 rfl rfl | exact units_ 3 hu9 rfl rfl | exact units_ 4 hu9 rfl rfl | exact units_ 5 hu9 rfl rfl | exact units_ 6 hu9 rfl rfl | exact units_ 7 hu9 rfl rfl | exact units_ 8 hu9 rfl rfl | exact units_ 9 hu9 rfl rfl | exact units_ 10 hu9 rfl rfl | exact units_ 11 hu9 rfl rfl | exact units_ 12 hu9 rfl rfl | exact units_ 13 hu9 rfl rfl | exact units_ 14 hu9 rfl rfl | exact units_ 15 hu9 rfl rfl | exact units_ 16 hu9 rfl rfl | exact units_ 17 hu9 rfl rfl | exact units_ 18 hu9 rfl rfl | exact units_ 19 hu9 rfl rfl | exact units_ 20 hu9 rfl rfl | exact units_ 21 hu9 rfl rfl | exact units_ 22 hu9 rfl rfl | exact units_ 23 hu9 rfl rfl | exact units_ 24 hu9 rfl rfl | exact units_ 25 hu9 rfl rfl | exact units_ 26 hu9 rfl rfl | exact units_ 27 hu9 rfl rfl | exact units_ 28 hu9 rfl rfl | exact units_ 29 hu9 rfl rfl | exact units_ 30 hu9 rfl rfl | exact units_ 31 hu9 rfl rfl | exact units_ 32 hu9 rfl rfl | exact units_ 33 hu9 rfl rfl | exact units_ 34 hu9 rfl rfl | exact units_ 35 hu9 rfl rfl | exact units_ 36 hu9 rfl rfl | exact units_ 37 hu9 rfl rfl | exact units_ 38 hu9 rfl rfl | exact units_ 39 hu9 rfl rfl | exact units_ 40 hu9 rfl rfl | exact units_ 41 hu9 rfl rfl | exact units_ 42 hu9 rfl rfl | exact units_ 43 hu9 rfl rfl | exact units_ 44 hu9 rfl rfl | exact units_ 45 hu9 rfl rfl | exact units_ 46 hu9 rfl rfl | exact units_ 47 hu9 rfl rfl | exact units_ 48 hu9 rfl rfl | exact units_ 49 hu9 rfl rfl | exact units_ 50 hu9 rfl rfl | exact units_ 51 hu9 rfl rfl | exact units_ 52 hu9 rfl rfl | exact units_ 53 hu9 rfl rfl | exact units_ 54 hu9 rfl rfl | exact units_ 55 hu9 rfl rfl | exact units_ 56 hu9 rfl rfl | exact units_ 57 hu9 rfl rfl | exact units_ 58 hu9 rfl rfl | exact units_ 59 hu9 rfl rfl | exact units_ 60 hu9 rfl rfl))
  (k_with "k_ne" => (first | exact Nat.ne_of_lt (by assumption) | exact Nat.ne_of_gt (by assumption) | assumption | exact Ne.symm (by assumption) | exact Nat.ne_of_lt (And.left (by assumption)) | exact Nat.ne_of_gt (And.left (by assumption)) | exact Nat.ne_of_lt (And.left (And.right (by assumption))) | exact Nat.ne_of_gt (And.left (And.right (by assumption))) | exact Nat.ne_of_lt (And.left (And.right (And.right (by assumption)))) | exact Nat.ne_of_gt (And.left (And.right (And.right (by assumption)))) | exact Nat.ne_of_lt (And.left (And.right (And.right (And.right (by assumption))))) | exact Nat.ne_of_gt (And.left (And.right (And.right (And.right (by assumption))))) | exact Nat.ne_of_lt (And.left (And.right (And.right (And.right (And.right (by assumption)))))) | exact Nat.ne_of_gt (And.left (And.right (And.right (And.right (And.right (by assumption)))))) | exact Nat.ne_of_lt (And.left (And.right (And.right (And.right (And.right (And.right (by assumption))))))) | exact Nat.ne_of_gt (And.left (And.right (And.right (And.right (And.right (And.right (by assumption))))))) | exact Nat.ne_of_lt (And.left (And.right (And.right (And.right (And.right (And.right (And.right (by assumption)))))))) | exact Nat.ne_of_gt (And.left (And.right (And.right (And.right (And.right (And.right (And.right (by assumption)))))))) | exact Nat.ne_of_lt (And.left (And.right (And.right (And.right (And.right (And.right (And.right (And.right (by assumption))))))))) | exact Nat.ne_of_gt (And.left (And.right (And.right (And.right (And.right (And.right (And.right (And.right (by assumption))))))))) | exact Nat.ne_of_lt (And.left (And.right (And.right (And.right (And.right (And.right (And.right (And.right (And.right (by assumption)))))))))) | exact Nat.ne_of_gt (And.left (And.right (And.right (And.right (And.right (And.right (And.right (And.right (And.right (by assumption)))))))))) | exact Nat.ne_of_lt (And.left (And.right (And.right (And.right (And.right (And.right (And.right (And.right (And.right (And.right (by assumption))))))))))) | exact Nat.ne_of_gt (And.left (And.right (And.right (And.right (And.right (And.right (And.right (And.right (And.right (And.right (by assumption))))))))))) | (refine neN ?_; (try dsimp only); (first | lia | omega))))
  (k_with "exec If" => (refine if_fold ?_; intro q8))
  (k_with "isTrue Compare" => (refine is_cmp ?_))
  (k_with "ite" => (k_here; first | with_reducible refine ite_tt ?_ | with_reducible refine ite_ff ?_ | k_dflt (first | refine ite_pos (by decide) ?_ | refine ite_neg (by decide) ?_)))
  (k_with "execs cons" => (first | (rename Shared => s9; refine stmt_cons s9 ?_; intro t9 s8 q8) | (refine wpAny_execs_cons ?_; (try k_fold))))
  (k_with "k_mem" => (first | with_reducible assumption | (refine nb_skip ?_; k_mem)))
  (k_with "UnrPostW" => (refine stop_of ?_))
  (k_with "own pyIter ref" => (refine stop_of ?_))
  (k_with "call type:enumerate" => (refine stop_of ?_))
  (k_with "exec For Tuple Call cons nil" => (k_here; (rename Fr _ _ _ _ => lF'); (with_unfolding_all refine' For_turns lF' ?_; k_whole)))
  exact trivial
section
variable {prog : Program} {w : World} {A : Around} {E : Value → Shared → Prop} {s : Shared} {h₀ : Heap} {L : Addr} {m : PySem.Str → Option Value} {news : List (Addr × Obj)}
theorem min2 {a b : Nat} {t u : Tok} {Q : Value → Shared → Prop} (hh : A.handled = none) (F : Fr h₀ L s.heap m) (N : News h₀ L s.heap news)
    (h : ∀ t' h' tk, Fr h₀ L h' m → News h₀ L h' news → Q (.int ((min a b : Nat) : Int) t') { s with heap := h', toks := tk }) : wpAny (model prog w) A (call (.builtin "min") [.int (a : Nat) t, .int (b : Nat) u]) Q E s := by
  refine min_two_N hh F N (fun h' tk F' N' => ?_)
  have e : (if (b : Int) < (a : Int) then (b : Int) else (a : Int)) = ((min a b : Nat) : Int) := by split <;> (first | lia | omega)
  rw [e]
  exact h _ h' tk F' N'
theorem max2 {a b : Nat} {t u : Tok} {Q : Value → Shared → Prop} (hh : A.handled = none) (F : Fr h₀ L s.heap m) (N : News h₀ L s.heap news)
    (h : ∀ t' h' tk, Fr h₀ L h' m → News h₀ L h' news → Q (.int ((max a b : Nat) : Int) t') { s with heap := h', toks := tk }) : wpAny (model prog w) A (call (.builtin "max") [.int (a : Nat) t, .int (b : Nat) u]) Q E s := by
  refine max_two_N hh F N (fun h' tk F' N' => ?_)
  have e : (if (b : Int) > (a : Int) then (b : Int) else (a : Int)) = ((max a b : Nat) : Int) := by split <;> (first | lia | omega)
  rw [e]
  exact h _ h' tk F' N'
theorem eq_anc {deps : List Int} {p o : Nat} {M : Int} {t u : Tok} {b : Bool} {Q : Value → Shared → Prop} (hp : p < deps.length) (ho : o < deps.length) (h1 : M ∈ strt deps (min p o) (max p o)) (h2 : ∀ a, a ∈ strt deps (min p o) (max p o) → M ≤ a) (hb : ancB deps p o = b)
    (h : Q (.bool b) s) : wpAny (model prog w) A (compareOp .Eq (.int (deps.getD o 0) t) (.int M u)) Q E s := by
  have e : decide (deps.getD o 0 = M) = b := by
    rw [← hb]
    exact Bool.eq_iff_iff.mpr (by rw [decide_eq_true_eq]; exact anc_min hp ho h1 h2)
  refine PyProof.Rows.eq_int ?_
  have e2 : (deps.getD o 0 == M) = b := by rw [← e]; exact Bool.eq_iff_iff.mpr (by simp)
  rw [e2]
  exact h
theorem item_nm {D0 : Addr} {n0 : Nat} {tv : List Value} {names : List (List Nat)} {i : Nat} {u : Tok} {value slice : PySem.Expr} {Q : Value → Shared → Prop} (N : News h₀ L s.heap news) (hm : (D0, W.listOf (List.toArray tv) n0) ∈ news) (hs' : StrsAre tv (names.map st)) (hz : names.length ≤ 4000) (hi : i < names.length)
    (h : ∀ t, Q (.str (st (names.getD i [])) t) s)
    (hs : subscripted slice false (.ref D0) (.int (i : Nat) u) = operate [.ref D0, .int (i : Nat) u] (getItem (.ref D0) (.int (i : Nat) u)) := by with_unfolding_all rfl) (hg : ∀ r, letTemporaryGo value (.ref D0) r = pure () := by intro _; with_unfolding_all rfl) :
    wpAny (model prog w) A (subscriptTail value slice (.ref D0) (.int (i : Nat) u)) Q E s := by
  refine item_strsA (News.isList N hm) hs' (by (first | lia | omega)) (by rw [List.length_map]; (first | lia | omega)) (by (first | lia | omega)) (fun t => ?_) hs hg
  have e : (names.map st).getD (Int.toNat (i : Nat)) PySem.Str.empty = st (names.getD i []) := by
    rw [Int.toNat_natCast]
    simp [List.getD, hi]
  rw [e]
  exact h t
end
theorem rows_LP_2 : True := by
  (k_with "call builtin:min" => (k_here; (with_reducible show wpAny _ _ (call (Value.builtin _) [Value.int _ _, Value.int _ _]) _ _ _); k_dflt (refine' min2 ?qh ?qF ?qN ?_; (case qh => exact rfl); (case qF => k_asm); (case qN => k_asm); k_whole); intro _ h' tk' F' N'; (try k_sweep)))
  (k_with "call builtin:max" => (k_here; (with_reducible show wpAny _ _ (call (Value.builtin _) [Value.int _ _, Value.int _ _]) _ _ _); k_dflt (refine' max2 ?qh ?qF ?qN ?_; (case qh => exact rfl); (case qF => k_asm); (case qN => k_asm); k_whole); intro _ h' tk' F' N'; (try k_sweep)))
  (k_with "call builtin:min" => (k_here; (with_reducible show wpAny _ _ (call (Value.builtin _) [Value.ref _]) _ _ _); k_dflt (refine' kso_min ?k1 ?k2 ?k3 ?k4 ?k5 ?k6 ?_; (case k1 => k_asm); (case k2 => k_asm); (case k3 => exact News.isList (by k_asm) (by k_mem)); (case k4 => assumption); (case k5 => exact strt_pos (by (first | lia | omega)) (by (first | lia | omega))); (case k6 => with_unfolding_all rfl); k_whole); intro h' M' t' k' F' N' hmem hmin; (try k_sweep)))
  (k_with "subscriptTail Name Slice ref ref" => (k_here; (with_reducible show wpAny _ _ (subscriptTail _ (PySem.Expr.Slice _ _ none _) (Value.ref _) (Value.ref _)) _ _ _); k_dflt (refine' kmk_slice_ints ?zF ?zN ?zl ?zp ?zq ?zi ?zm ?zc ?_ ?zs ?zt ?zz; (case zF => k_asm); (case zN => k_asm); (case zl => exact News.isList (by k_asm) (by k_mem)); (case zp => kmk_part); (case zq => kmk_part); (case zi => assumption); (case zm => exact run_nat (by assumption) (by (first | lia | omega))); (case zc => exact rfl); (case zs => with_unfolding_all rfl); (case zt => kmk_pure); (case zz => exact sl_size (by assumption) (by (first | lia | omega)))); intro D' ws' h' F' N' l1 hI' hC' hL'; clear hC' hL'; (try k_lt l1); (try k_sweep)))
  (k_with "compareOp Eq int int" => (k_here; (refine' eq_anc ?q1 ?q2 ?q3 ?q4 ?q5 ?_; (case q1 => assumption); (case q2 => assumption); (case q3 => assumption); (case q4 => assumption); (case q5 => assumption))))
  (k_with "subscriptTail" => (k_here; (with_reducible show wpAny _ _ (subscriptTail _ _ (Value.ref _) (Value.int (Nat.cast _) _)) _ _ _); k_dflt (refine' item_nm ?qN ?qm ?qs ?qz ?qi ?_; (case qN => k_asm); (case qm => k_mem); (case qs => assumption); (case qz => (first | lia | omega)); (case qi => (first | lia | omega)); k_whole); intro _))
  (k_with "call builtin:list.append" => (k_here; (with_reducible show wpAny _ _ (call (Value.builtin _) [Value.ref _, Value.ref _]) _ _ _); k_dflt (refine' app_snoc ?k1 ?k2 ?k3 ?qz ?_; (case k1 => k_asm); (case k2 => k_asm); (case k3 => k_upd); (case qz => (first | lia | omega)); k_whole); intro h' F' N'; (try k_sweep)))
  (k_with "call builtin:sorted" => (refine stop_of ?_))
  (k_with "eval ListComp" => (refine stop_of ?_))
  (k_with "call ref" => (k_here; (with_reducible show wpAny _ _ (call (Value.ref 827) _) _ _ _); (refine stop_of ?_)))
  exact trivial
/-- the loop of _law_path: what is left, the ledger -/
noncomputable def LpI (deps : List Int) (names : List (List Nat)) (p : Nat) (base : PySem.Str → Option Value) (news : List (Addr × Obj)) (ab : Addr) (I : Nat) (xs : List Itm) (m' : PySem.Str → Option Value) (nw : List (Addr × Obj)) : Prop :=
  ∃ i as c rest vo vd dv', xs = enumItems i dv' ∧ IntsAre dv' (deps.drop i) ∧ i ≤ deps.length ∧ m' = over "other" vo (over "depth" vd base) ∧ nw = (ab, W.listOf (List.toArray as) c) :: rest ∧ TupsIn rest as (ancD deps names p i) ∧ (∀ q ∈ news, q ∈ rest) ∧ (∀ q ∈ rest, q.1 ≠ ab) ∧ (∀ q ∈ rest, @LT.lt Nat _ q.1 I ∨ q.2.cls = .type "tuple") ∧ as.length ≤ i
theorem lp_start {deps : List Int} {names : List (List Nat)} {p : Nat} {base : PySem.Str → Option Value} {news : List (Addr × Obj)} {ab I : Nat} {dv : List Value} {c : Nat} (hi : IntsAre dv deps) (h1 : base "other" = none) (h2 : base "depth" = none) (h3 : ∀ q ∈ news, q.1 ≠ ab) (h4 : ∀ q ∈ news, @LT.lt Nat _ q.1 I) :
    LpI deps names p base news ab I (enumItems 0 dv) base ((ab, W.listOf #[] c) :: news) :=
  ⟨0, [], c, news, none, none, dv, rfl, hi, Nat.zero_le _, by rw [over_none (b := base) h2, over_none h1], rfl, .nil, fun _ h => h, h3, fun q hq => .inl (h4 q hq), Nat.le_refl _⟩
theorem lp_cons {deps : List Int} {names : List (List Nat)} {p : Nat} {base : PySem.Str → Option Value} {news : List (Addr × Obj)} {ab : Addr} {I : Nat} {a : Itm} {r : List Itm} {m' : PySem.Str → Option Value} {nw : List (Addr × Obj)} {v : Value} {h : Heap} (hJ : LpI deps names p base news ab I (a :: r) m' nw) (hv : a.Is v h) :
    ∃ i as c rest vo vd dv' T t u, v = .ref T ∧ IsTup h T #[.int (i : Nat) t, .int (deps.getD i 0) u] ∧ r = enumItems (i + 1) dv' ∧ IntsAre dv' (deps.drop (i + 1)) ∧ i < deps.length ∧ m' = over "other" vo (over "depth" vd base) ∧ nw = (ab, W.listOf (List.toArray as) c) :: rest ∧ TupsIn rest as (ancD deps names p i) ∧ (∀ q ∈ news, q ∈ rest) ∧ (∀ q ∈ rest, q.1 ≠ ab) ∧ (∀ q ∈ rest, @LT.lt Nat _ q.1 I ∨ q.2.cls = .type "tuple") ∧ as.length ≤ i := by
  refine fold_G ?_
  intro G9
  obtain ⟨i, as, c, rest, vo, vd, dv', e, hi, hle, hm, hw, ht, h1, h2, h3, h4⟩ := hJ
  have hlt : i < deps.length := by
    by_cases hlt : i < deps.length
    · exact hlt
    · rw [List.drop_eq_nil_of_le (by (first | lia | omega))] at hi
      cases hi
      cases e
  rw [List.drop_eq_getElem_cons hlt] at hi
  cases hi with
  | @cons _ u vs _ hi' =>
    simp only [enumItems, List.cons.injEq] at e
    refine fold_G ?_
    intro G9
    obtain ⟨e1, e2⟩ := e
    subst e1
    refine fold_G ?_
    intro G9
    obtain ⟨T, t, e3, hT⟩ := hv
    have e4 : deps.getD i 0 = deps[i] := by simp [List.getD, hlt]
    refine ⟨i, as, c, rest, vo, vd, vs, T, t, u, e3, ?_, e2, hi', hlt, hm, hw, ht, h1, h2, h3, h4⟩
    rw [e4]
    exact hT
theorem lp_nil {deps : List Int} {names : List (List Nat)} {p : Nat} {base : PySem.Str → Option Value} {news : List (Addr × Obj)} {ab : Addr} {I : Nat} {m' : PySem.Str → Option Value} {nw : List (Addr × Obj)} (hJ : LpI deps names p base news ab I [] m' nw) :
    ∃ as c rest vo vd, m' = over "other" vo (over "depth" vd base) ∧ nw = (ab, W.listOf (List.toArray as) c) :: rest ∧ TupsIn rest as (ancD deps names p deps.length) ∧ (∀ q ∈ news, q ∈ rest) ∧ (∀ q ∈ rest, q.1 ≠ ab) ∧ as.length ≤ deps.length := by
  refine fold_G ?_
  intro G9
  obtain ⟨i, as, c, rest, vo, vd, dv', e, hi, hle, hm, hw, ht, h1, h2, h3, h4⟩ := hJ
  have hd : dv' = [] := by cases dv' with | nil => rfl | cons v r => simp [enumItems] at e
  subst hd
  have hl := hi.length
  simp only [List.length_nil, List.length_drop] at hl
  have e : i = deps.length := by (first | lia | omega)
  subst e
  exact ⟨as, c, rest, vo, vd, hm, hw, ht, h1, h2, h4⟩
section
variable {w : World} {mean : ExcName → Option Value} {mg mb : PySem.Str → Option Value} {dp un : Nat} {gd : Option (List Code)} {cn : PySem.Str} {cs : Scope} {a : Addr} {ccd : Value} {cl : List (PySem.Str × Addr)} {outer : List Env} {A₀ : Around} {base h₀ : Heap} {L : Addr} {m : PySem.Str → Option Value} {news : List (Addr × Obj)} {s : Shared} {Q E : Value → Shared → Prop}

theorem lp_map {v1 v2 : Value} {w1 w2 : Option Value} {base : PySem.Str → Option Value} : over "other" (some v2) (over "depth" (some v1) base) = fun (y : PySem.Str) => if y = "depth" then some v1 else if y = "other" then some v2 else over "other" w2 (over "depth" w1 base) y := by
  funext y
  unfold over
  by_cases h1 : y = "depth"
  · subst h1; rfl
  by_cases h2 : y = "other"
  · subst h2; rfl
  simp only [h1, h2, if_false]
theorem lp_next {g h' : Heap} {L' : Addr} {I : Nat} {oE oI : Obj} {deps : List Int} {names : List (List Nat)} {p i : Nat} {base : PySem.Str → Option Value} {keep : List (Addr × Obj)} {r : List Itm} {all rest' : List (Addr × Obj)} {tk' : Nat} {s₁ : Shared} {v1 v2 : Value} {w1 w2 : Option Value} {Q : Flow → Shared → Prop} {ab : Addr} {as' dv' : List Value} {c' : Nat}
  (F' : Fr g L' h' (fun y => if y = "depth" then some v1 else if y = "other" then some v2 else over "other" w2 (over "depth" w1 base) y)) (N' : News g L' h' all)
  (hI : (I, oI) ∈ all) (hE : (I + 1, oE) ∈ all) (hcI : oI.cls = .type "list_iterator") (hcE : oE.cls = .type "enumerate") (hab : (ab, W.listOf (List.toArray as') c') ∈ all) (hsub : ∀ q ∈ rest', q ∈ all) (hk : ∀ q ∈ keep, q ∈ rest')
  (hlab : @LT.lt Nat _ ab I) (hr : r = enumItems (i + 1) dv') (hi' : IntsAre dv' (deps.drop (i + 1))) (hlt : i < deps.length) (ht : TupsIn rest' as' (ancD deps names p (i + 1))) (g1 : ∀ q ∈ news, q ∈ rest') (g2 : ∀ q ∈ rest', q.1 ≠ ab) (g3 : ∀ q ∈ rest', @LT.lt Nat _ q.1 I ∨ q.2.cls = .type "tuple") (g4 : as'.length ≤ i + 1) :
  UnrPostW g L' s₁ [(I + 1, oE), (I, oI)] (fun m n => SubL keep n ∧ LpI deps names p base news ab I r m n) Q .next { s₁ with heap := h', toks := tk' } := by
  refine UnrEndW.intro F' N' ((ab, W.listOf (List.toArray as') c') :: rest') (subL_of ?_) (subL_of ?_) (offW_of ?_) ⟨subL_of fun q hq => .tail _ (hk q hq), i + 1, as', c', rest', some v2, some v1, dv', hr, hi', by (first | lia | omega), lp_map.symm, rfl, ht, g1, g2, g3, g4⟩
  · intro q hq
    rcases List.mem_cons.mp hq with rfl | hq
    · exact hE
    · rw [List.mem_singleton.mp hq]; exact hI
  · intro q hq
    rcases List.mem_cons.mp hq with rfl | hq
    · exact hab
    · exact hsub q hq
  · intro q hq x hx
    have hx' : x = (I + 1, oE) ∨ x = (I, oI) := by
      rcases List.mem_cons.mp hx with rfl | hx
      · exact .inl rfl
      · exact .inr (List.mem_singleton.mp hx)
    have low : @LT.lt Nat _ q.1 I → q.1 ≠ x.1 := by
      intro h
      rcases hx' with rfl | rfl
      · exact Nat.ne_of_lt (Nat.lt_succ_of_lt h)
      · exact Nat.ne_of_lt h
    rcases List.mem_cons.mp hq with rfl | hq
    · exact .inl (low hlab)
    · rcases g3 q hq with h | h
      · exact .inl (low h)
      · refine .inr ?_
        rw [h]
        rcases hx' with rfl | rfl
        · rw [hcE]; decide
        · rw [hcI]; decide
theorem lp_yes {g h' : Heap} {L' T Dx : Addr} {I : Nat} {oE oI ox : Obj} {deps : List Int} {names : List (List Nat)} {p i : Nat} {base : PySem.Str → Option Value} {keep : List (Addr × Obj)} {r : List Itm} {rest : List (Addr × Obj)} {tk' : Nat} {s₁ : Shared} {v1 v2 : Value} {w1 w2 : Option Value} {Q : Flow → Shared → Prop} {ab : Addr} {as dv' : List Value} {c' : Nat} {u z : Tok}
  (F' : Fr g L' h' (fun y => if y = "depth" then some v1 else if y = "other" then some v2 else over "other" w2 (over "depth" w1 base) y))
  (N' : News g L' h' ((T, tupO (.int (deps.getD i 0) u) (.str (st (names.getD i [])) z)) :: (Dx, ox) :: (I + 1, oE) :: (I, oI) :: (ab, W.listOf (List.toArray (as ++ [Value.ref T])) c') :: rest)) (hl : Dx < T ∧ I + 1 < T ∧ I < T ∧ ab < T ∧ AllLt T rest)
  (hcI : oI.cls = .type "list_iterator") (hcE : oE.cls = .type "enumerate") (hk : ∀ q ∈ keep, q ∈ rest)
  (hlab : @LT.lt Nat _ ab I) (hr : r = enumItems (i + 1) dv') (hi' : IntsAre dv' (deps.drop (i + 1))) (hlt : i < deps.length) (ht : TupsIn rest as (ancD deps names p i)) (hb : ancB deps p i = true) (g1 : ∀ q ∈ news, q ∈ rest) (g2 : ∀ q ∈ rest, q.1 ≠ ab) (g3 : ∀ q ∈ rest, @LT.lt Nat _ q.1 I ∨ q.2.cls = .type "tuple") (g4 : as.length ≤ i) :
  UnrPostW g L' s₁ [(I + 1, oE), (I, oI)] (fun m n => SubL keep n ∧ LpI deps names p base news ab I r m n) Q .next { s₁ with heap := h', toks := tk' } := by
  refine lp_next (rest' := (T, tupO (.int (deps.getD i 0) u) (.str (st (names.getD i [])) z)) :: rest) F' N' (.tail _ (.tail _ (.tail _ (.head _)))) (.tail _ (.tail _ (.head _))) hcI hcE (.tail _ (.tail _ (.tail _ (.tail _ (.head _))))) (fun q hq => ?_) (fun q hq => .tail _ (hk q hq)) hlab hr hi' hlt ?_ (fun q hq => .tail _ (g1 q hq)) ?_ ?_ ?_
  · rcases List.mem_cons.mp hq with rfl | hq
    · exact .head _
    · exact .tail _ (.tail _ (.tail _ (.tail _ (.tail _ hq))))
  · rw [ancD_succ_yes hb]
    exact TupsIn.snoc (.head _) (ht.mono fun q hq => .tail _ hq)
  · intro q hq
    rcases List.mem_cons.mp hq with rfl | hq
    · exact Ne.symm (Nat.ne_of_lt hl.2.2.2.1)
    · exact g2 q hq
  · intro q hq
    rcases List.mem_cons.mp hq with rfl | hq
    · exact .inr rfl
    · exact g3 q hq
  · rw [List.length_append, List.length_singleton]; (first | lia | omega)
theorem flat_le {k : Nat} : ∀ {l : List (List Nat)}, (∀ x ∈ l, x.length ≤ k) → l.flatten.length ≤ k * l.length
  | [], _ => Nat.le_refl _
  | x :: r, h => by
    have h1 := flat_le fun y hy => h y (.tail _ hy)
    have h2 := h x (.head _)
    simp only [List.flatten_cons, List.length_append, List.length_cons, Nat.mul_succ]
    (first | lia | omega)
theorem law_path_spec {D1 D0 : Addr} {n1 n0 : Nat} {dv tv : List Value} {deps : List Int} {names : List (List Nat)} {p : Nat} {tk : Tok} {out : List Nat}
  (B : Below A₀ base outer h₀) (F : Fr h₀ L s.heap m) (X : (Mine.K w.params).In h₀)
  (N : News h₀ L s.heap news) (T : Top VW LOO mean mg mb h₀) (hk : cs.kind = .function)
  (hdp : dp + 20 < recursionLimit) (hu : un + 200 < cLine)
  (hm1 : (D1, W.listOf (List.toArray dv) n1) ∈ news) (hm0 : (D0, W.listOf (List.toArray tv) n0) ∈ news) (hi : IntsAre dv deps) (hs : StrsAre tv (names.map st)) (hln : names.length = deps.length) (hz : deps.length ≤ 6) (hp : p < deps.length)
  (hn : ∀ x ∈ names, x ≠ [] ∧ ∀ c ∈ x, lett c) (hzz : ∀ x ∈ names, x.length ≤ 10)
  (ho1 : ∀ o, o ∈ out ↔ o < deps.length ∧ ancB deps p o = true) (ho2 : out.Pairwise fun a b => deps.getD a 0 < deps.getD b 0)
  (hret : ∀ t h' tk', Fr h₀ L h' m → News h₀ L h' news → Q (.str (st (joinP (out.map fun o => names.getD o []))) t) {s with heap := h', toks := tk'}) :
  wpAny (model PRG w) (ktrTop dp un gd cn cs L a ccd cl outer) (call (.ref 858) [.int (p : Nat) tk, .ref D1, .ref D0]) Q E s := by
  have hlen := hi.length
  refine wpAny_call ?_
  k_dflt ktr_enter
  k_steps
  refine Stop.out ?_
  (with_reducible rename Fr _ _ _ _ => F0)
  (with_reducible rename News _ _ _ _ => N0)
  refine' ktu_enum ?z1 ?z2 ?z3 ?z4 ?z5 ?z6 ?z7 ?z8
  case z1 => exact rfl
  case z2 => exact F0
  case z3 => exact N0
  case z4 => exact (nb_skip hm1)
  case z5 => exact rfl
  case z6 => exact rfl
  case z7 => exact rfl
  intro I hI
  refine items_inv (LpI deps names p _ news _ I) ?turn ?done (lp_start hi rfl rfl ?s1 ?s2)
  case s1 => exact fun q hq => Nat.ne_of_lt ((by assumption : ∀ p ∈ news, p.1 < _) q hq)
  case s2 => exact fun q hq => hI q (.tail _ hq)
  case turn =>
    intro a r m' nw v h1 tk1 hJ hvI F1
    refine fold_G ?_
    intro G9
    obtain ⟨i, as, c, rest, vo, vd, dv', T, t, u, rfl, hT, hr, hi', hlt, rfl, rfl, ht, g1, g2, g3, g4⟩ := lp_cons hJ hvI
    clear hJ hvI F0 N0
    refine AllObj.cons (fun oE hoE => AllObj.cons (fun oI hoI => AllObj.nil (fun N1 => ?_)))
    simp only [List.cons_append, List.nil_append] at N1
    have gm1 := g1 _ hm1
    have gm0 := g1 _ hm0
    have gab : @LT.lt Nat _ _ I := hI _ (.head _)
    k_steps
    · refine Stop.out ?_
      have hb : ancB deps p i = true := (anc_min hp hlt (by assumption) (by assumption)).mp (by assumption)
      refine' lp_yes ?x1 ?x2 ?x3 hoI hoE (fun q hq => by rw [List.mem_singleton.mp hq]; exact gm1) gab hr hi' hlt ht hb g1 g2 g3 g4
      case x1 => k_asm
      case x2 => k_asm
      case x3 => assumption
    · refine Stop.out ?_
      have hb : ancB deps p i = false := Bool.eq_false_iff.mpr (mt (anc_min hp hlt (by assumption) (by assumption)).mpr (by assumption))
      have ht' := ancD_succ_no (names := names) hb
      rw [← ht'] at ht
      refine' lp_next ?y1 ?y2 ?y3 ?y4 hoI hoE ?y5 ?y6 (fun q hq => by rw [List.mem_singleton.mp hq]; exact gm1) gab hr hi' hlt ht g1 g2 g3 (by (first | lia | omega))
      case y1 => k_asm
      case y2 => k_asm
      case y3 => k_mem
      case y4 => k_mem
      case y5 => k_mem
      case y6 => exact fun q hq => .tail _ (.tail _ (.tail _ (.tail _ hq)))
  case done =>
    intro m' nw h1 tk1 hJ F1 N1
    refine fold_G ?_
    intro G9
    obtain ⟨as, c, rest, vo, vd, rfl, rfl, ht, g1, g2, g4⟩ := lp_nil hJ
    clear hJ F0 N0
    try dsimp only
    obtain ⟨r1, r2, r3⟩ := anc_facts (names := names) hp ho1 ho2
    have r4 : (ancD deps names p deps.length).length ≤ 6 := by
      rw [ancD_eq, List.length_map]
      have := List.length_filter_le (ancB deps p) (List.range deps.length)
      rw [List.length_range] at this
      exact Nat.le_trans this hz
    k_steps
    refine Stop.out ?_
    refine LCp.ListComp_P (F₀ := by k_asm) (by with_unfolding_all rfl) (by decide) (by rfl) (by decide) (by rfl) (by rfl) (by decide) ?_
    k_steps
    refine Stop.out ?_
    refine' sorted_tups ?w1 ?w2 ?w3 ?w4 r1 r4 r2 r3 ?w5
    case w1 => k_asm
    case w2 => k_asm
    case w3 => exact .head _
    case w4 => exact ht.mono (fun q hq => .tail _ hq)
    intro D c' h2 q outv F2 N2 l2 t2 z2 q1 q2
    have q3 := anc_out ho1 ho2 q1 q2
    refine' LCp.SrcLP.ledger ?v1 ?v2 ?v3 ?v4 ?v5 (fun g9 => ?v6)
    case v1 => exact rfl
    case v2 => exact F2
    case v3 => exact N2
    case v4 => exact .head _
    case v5 => rw [List.size_toArray, sizeLine_eq]; (first | lia | omega)
    generalize List.map (fun i => (ancD deps names p deps.length).getD i (0, Str.empty)) q = dat at t2 q3
    have l3 := t2.len
    refine restP_inv (fun i ys nw => nw = _ ∧ StrsAre ys ((dat.take i).map (·.2))) ?u1 ?u2 _ 0 [] _ (Nat.zero_add _) ⟨rfl, .nil⟩
    case u1 =>
      rintro i ys nw v hi' ⟨rfl, hy⟩ hv
      refine fold_G ?_
      intro G9
      obtain ⟨T, d, t, x, u, e1, e2, e3⟩ := t2.get (by simpa using hv)
      refine ⟨T, _, _, _, _, e1, .tail _ e3, rfl, rfl, ?_⟩
      intro I1 oI1 C1 oC1 D1 m1 h3 tk3 E3 hC1 hx1 hx2 F3 N3 off3 ne3
      k_steps
      refine LCg.CompEnd.intro F3 N3 _ (fun p hp => hp) off3 (.inr ⟨_, .head _, rfl, _, rfl⟩) ⟨rfl, ?_⟩
      rw [List.take_add_one, e2, List.map_append]
      exact hy.append' (.cons _ _ .nil)
    case u2 =>
      rintro ys nw ⟨rfl, hy⟩
      intro D2 h3 tk3 F3 N3 off3
      rw [List.size_toArray, l3, List.take_length, q3] at hy
      have l4 : ys.length ≤ 6 := by
        have := hy.length
        rw [← q3, List.length_map] at this
        (first | lia | omega)
      refine' star_seq ?o1 ?o2 ?o3 ?o4 ?o5 ?o6 ?o7 ?o8 (fun h4 F4 N4 => ?_)
      case o1 => exact F3
      case o2 => exact N3
      case o3 => exact .head _
      case o4 => exact rfl
      case o5 => exact rfl
      case o6 => exact .inl rfl
      case o7 => exact rfl
      case o8 => rw [List.size_toArray, sizeLine_eq]; (first | lia | omega)
      k_steps
      refine Stop.out ?_
      rw [List.append_nil]
      have mem' : ∀ x ∈ out.map (fun o => names.getD o []), x ∈ names := by
        intro x hx
        obtain ⟨o, ho, rfl⟩ := List.mem_map.mp hx
        have hlt := ((ho1 o).mp ho).1
        rw [← hln] at hlt
        have : names.getD o [] = names[o] := by simp [List.getD, hlt]
        rw [this]
        exact List.getElem_mem hlt
      have hol : out.length ≤ 6 := by
        have := hy.length
        rw [List.length_map, List.length_map] at this
        (first | lia | omega)
      have hfl := flat_le (k := 10) (l := out.map fun o => names.getD o []) (fun x hx => hzz x (mem' x hx))
      rw [List.length_map] at hfl
      refine' join_spec ?yB ?yF ?yX ?yN ?yT ?yk ?yd ?yu hy (fun x hx => hn x (mem' x hx)) (by rw [List.length_map]; (first | lia | omega)) ?yr
      case yB => k_asm
      case yF => exact F4
      case yX => k_asm
      case yN => exact N4
      case yT => k_asm
      case yk => exact rfl
      case yd => ktr_room
      case yu => ktr_units
      intro t5 h5 tk5 F5 N5
      dsimp only
      clear F3 N3 F4 N4
      k_steps
      refine' hret _ _ _ ?y8 ?y9
      case y8 => k_asm
      case y9 => exact nb_sub (by k_asm) (fun q hq => .tail _ (.tail _ (.tail _ (g1 q hq))))
end

end Mine
end
section
open PySem PySem.W PyProof.Rows PySem.Calls
set_option maxRecDepth 100000
namespace Mine
/-- how names stand to each other -/
noncomputable def lexN (lt : Bool) : List (List Nat) → List (List Nat) → Bool
  | [], [] => false
  | [], _ :: _ => lt
  | _ :: _, [] => !lt
  | x :: a, y :: b => if x = y then lexN lt a b else if lt then decide (x < y) else decide (y < x)
theorem lex_st (lt : Bool) : ∀ a b : List (List Nat), lexC lt (a.map st) (b.map st) = lexN lt a b
  | [], [] => rfl
  | [], _ :: _ => rfl
  | _ :: _, [] => rfl
  | x :: a, y :: b => by
    simp only [List.map_cons, lexC, lexN, st_beq, decide_eq_true_eq, lex_st lt a b]
    rfl
/-- the head that two lists of names share -/
noncomputable def cpre : List (List Nat) → List (List Nat) → List (List Nat)
  | x :: a, y :: b => if x = y then x :: cpre a b else []
  | _, _ => []
theorem cpre_comm : ∀ a b, cpre a b = cpre b a
  | [], [] => rfl
  | [], _ :: _ => rfl
  | _ :: _, [] => rfl
  | x :: a, y :: b => by
    by_cases h : x = y
    · subst h
      simp [cpre, cpre_comm a b]
    · simp only [cpre, if_neg h, if_neg fun e : y = x => h e.symm]
theorem cpre_self : ∀ a, cpre a a = a
  | [] => rfl
  | x :: a => by simp [cpre, cpre_self a]
theorem cpre_end : ∀ (a b : List (List Nat)), a = b.take a.length → cpre a b = a
  | [], b, _ => by cases b <;> rfl
  | x :: a, [], h => by cases h
  | x :: a, y :: b, h => by
    rw [List.length_cons, List.take_succ_cons] at h
    injection h with h1 h2
    subst h1
    rw [cpre, if_pos rfl, cpre_end a b h2]
theorem cpre_at : ∀ (a b : List (List Nat)) (i : Nat) (x y : List Nat), a[i]? = some x → b[i]? = some y → x ≠ y → a.take i = b.take i → cpre a b = a.take i
  | [], _, i, _, _, h, _, _, _ => by simp at h
  | _ :: _, [], i, _, _, _, h, _, _ => by simp at h
  | p :: a, q :: b, 0, x, y, hx, hy, hne, _ => by
    simp only [List.getElem?_cons_zero, Option.some.injEq] at hx hy
    subst hx; subst hy
    rw [cpre, if_neg hne]; rfl
  | p :: a, q :: b, i + 1, x, y, hx, hy, hne, ht => by
    simp only [List.getElem?_cons_succ] at hx hy
    rw [List.take_succ_cons, List.take_succ_cons] at ht
    injection ht with h1 h2
    subst h1
    rw [cpre, if_pos rfl, cpre_at a b i x y hx hy hne h2, List.take_succ_cons]
theorem list_lt_tri (x y : List Nat) (h : x ≠ y) : (x < y ∧ ¬ y < x) ∨ (y < x ∧ ¬ x < y) := by
  by_cases h1 : x < y
  · exact .inl ⟨h1, List.lt_asymm h1⟩
  · by_cases h2 : y < x
    · exact .inr ⟨h2, h1⟩
    · exact absurd (List.le_antisymm (List.not_lt.mp h2) (List.not_lt.mp h1)) h
/-- the least and the greatest of two -/
theorem min_max : ∀ a b : List (List Nat), cpre (if lexN true b a then b else a) (if lexN false b a then b else a) = cpre a b ∧
    ∀ i < (if lexN true b a then b else a).length, (if lexN true b a then b else a).take i = (if lexN false b a then b else a).take i → i < (if lexN false b a then b else a).length
  | [], [] => ⟨rfl, fun i h => by simp [lexN] at h⟩
  | [], y :: b => ⟨by simp [lexN, cpre], fun i h => by simp [lexN] at h⟩
  | x :: a, [] => ⟨by simp [lexN, cpre], fun i h => by simp [lexN] at h⟩
  | x :: a, y :: b => by
    by_cases h : y = x
    · subst h
      obtain ⟨h1, h2⟩ := min_max a b
      have e : ∀ r : Bool, (if r = true then y :: b else y :: a) = y :: (if r = true then b else a) := fun r => by cases r <;> rfl
      simp only [lexN, if_true, e]
      refine ⟨by rw [cpre, if_pos rfl, h1, cpre, if_pos rfl], fun i hi ht => ?_⟩
      cases i with
      | zero => exact Nat.zero_lt_succ _
      | succ i =>
        rw [List.take_succ_cons, List.take_succ_cons] at ht
        injection ht with _ ht
        exact Nat.succ_lt_succ (h2 i (Nat.lt_of_succ_lt_succ hi) ht)
    · rcases list_lt_tri y x h with ⟨h1, h2⟩ | ⟨h1, h2⟩
      · simp only [lexN, if_neg h, if_true, h1, h2, decide_true, decide_false, Bool.false_eq_true, if_false]
        refine ⟨cpre_comm _ _, fun i hi ht => ?_⟩
        cases i with
        | zero => exact Nat.zero_lt_succ _
        | succ i =>
          rw [List.take_succ_cons, List.take_succ_cons] at ht
          injection ht with ht _
          exact absurd ht h
      · simp only [lexN, if_neg h, if_true, h1, h2, decide_true, decide_false, Bool.false_eq_true, if_false]
        refine ⟨by first | trivial | rfl, fun i hi ht => ?_⟩
        cases i with
        | zero => exact Nat.zero_lt_succ _
        | succ i =>
          rw [List.take_succ_cons, List.take_succ_cons] at ht
          injection ht with ht _
          exact absurd ht.symm h
/-- what is not empty -/
theorem keep_names {na : List (List Nat)} (h : ∀ x ∈ na, x ≠ []) : (([] :: na).filter fun x => decide (x ≠ [])) = na := by
  rw [List.filter_cons_of_neg (by simp)]
  exact List.filter_eq_self.mpr fun x hx => decide_eq_true (h x hx)
theorem strs_at {vs : List Value} {l : List (List Nat)} {i : Nat} {v : Value} (h : StrsAre vs (l.map st)) (hv : vs.toArray[i]? = some v) : ∃ x t, l[i]? = some x ∧ v = .str (st x) t := by
  have hv' : vs[i]? = some v := by simpa using hv
  have hlt : i < vs.length := (List.getElem?_eq_some_iff.mp hv').1
  rw [h.length, List.length_map] at hlt
  obtain ⟨t, ht⟩ := h.get i (st l[i]) (by simp [hlt])
  rw [hv'] at ht
  exact ⟨l[i], t, List.getElem?_eq_getElem hlt, Option.some.inj ht⟩
theorem mem_flat {x : List Nat} : ∀ {l : List (List Nat)}, x ∈ l → x.length ≤ l.flatten.length
  | y :: l, h => by
    rw [List.flatten_cons, List.length_append]
    rcases List.mem_cons.mp h with rfl | h
    · (first | lia | omega)
    · have := mem_flat h
      (first | lia | omega)
theorem flat_take : ∀ (l : List (List Nat)) (i : Nat), (l.take i).flatten.length ≤ l.flatten.length
  | [], i => by simp
  | x :: l, 0 => by simp
  | x :: l, i + 1 => by
    have := flat_take l i
    simp only [List.take_succ_cons, List.flatten_cons, List.length_append]
    (first | lia | omega)
theorem not_dot {x : List Nat} (h : ∀ c ∈ x, lett c) : (st x == PySem.Str.ofString ".") = false := by
  show (st x == st [46]) = false
  rw [st_beq]
  refine decide_eq_false fun e => ?_
  have := h 46 (by rw [e]; simp)
  revert this; decide
theorem keep_step {l : List (List Nat)} {i : Nat} {x : List Nat} (h : l[i]? = some x) : ((l.take (i + 1)).filter fun x => decide (x ≠ [])) = ((l.take i).filter fun x => decide (x ≠ [])) ++ (if x = [] then [] else [x]) := by
  rw [List.take_add_one, h, List.filter_append]
  by_cases hx : x = []
  · simp [hx]
  · simp [hx]
section
variable {prog : Program} {w : World} {A : Around} {E : Value → Shared → Prop} {s : Shared}
theorem ne_known {x y : PySem.Str} {t u : Tok} {b : Bool} {Q : Value → Shared → Prop} (hb : (x == y) = b) (h : Q (.bool (!b)) s) : wpAny (model prog w) A (compareOp .NotEq (.str x t) (.str y u)) Q E s := by
  subst hb; exact PyProof.Rows.ne_str h
theorem truthy_nil {t : Tok} {Q : Bool → Shared → Prop} (h : ∀ k, Q false {s with toks := k}) : wpAny (model prog w) A (truthy (.str (st []) t)) Q E s := by
  refine PySem.P.truthy_str ?_ ?_
  · rw [st_len]; decide
  · exact h _
variable {h₀ : Heap} {L : Addr} {m : PySem.Str → Option Value} {news : List (Addr × Obj)}
theorem slice_take {l : Addr} {n : Nat} {vs : List Value} {names : List (List Nat)} {i : Nat} {u : Tok} {value slice : PySem.Expr} {Q : Value → Shared → Prop} (F : Fr h₀ L s.heap m) (N : News h₀ L s.heap news) (hm : (l, W.listOf vs.toArray n) ∈ news) (hv : StrsAre vs (names.map st)) (hi : i ≤ names.length) (hz : names.length ≤ 4000)
    (h : ∀ D ws h', Fr h₀ L h' m → News h₀ L h' ((D, W.listOf (List.toArray ws) 0) :: news) → (∀ p ∈ news, p.1 < D) → StrsAre ws ((names.take i).map st) → Q (.ref D) { s with heap := h' })
    (hs : subscripted slice false (.ref l) (.ref s.heap.objs.size) = operate [.ref s.heap.objs.size, .ref l] (getItem (.ref l) (.ref s.heap.objs.size))) (ht : ∀ r, letTemporaryGo value (.ref l) r = pure ()) :
    wpAny (model prog w) A (subscriptTail value slice (.ref l) (.ref s.heap.objs.size)) Q E { s with heap := s.heap.push { cls := .type "slice", data := .fields #[.none, .int (i : Nat) u, .none] } } := by
  have hl : vs.length = names.length := by rw [hv.length, List.length_map]
  refine kmk_slice F N (News.isList N hm) IsPart.none (IsPart.int _ _) (fun D h' F' N' l1 => h D (vs.take i) h' F' ?_ l1 ?_) hs ht (by rw [List.size_toArray, hl, sizeLine_eq]; (first | lia | omega))
  · rw [slicePick_upto _ _ (by rw [List.size_toArray, hl]; exact hi)] at N'
    exact N'
  · rw [List.map_take]
    exact hv.take' i
theorem glue_join {c : List (List Nat)} (h : c ≠ []) : 47 :: glue 47 c = joinP c := by
  rw [joinP_glue h]
  cases c with
  | nil => exact absurd rfl h
  | cons x r => rfl
theorem glue_le {c : List (List Nat)} (h : c ≠ []) (hz : c.flatten.length + c.length ≤ 1000) : (glue 47 c).length ≤ 4000 := by
  have h1 := congrArg List.length (glue_join h)
  have h2 := joinP_len c
  rw [List.length_cons] at h1
  (first | lia | omega)
theorem join_names {l : Addr} {n : Nat} {vs : List Value} {names : List (List Nat)} {t : Tok} {Q : Value → Shared → Prop} (N : News h₀ L s.heap news) (hm : (l, W.listOf vs.toArray n) ∈ news) (hv : StrsAre vs (names.map st)) (hz : names.flatten.length + names.length ≤ 4000)
    (h : ∀ t' k, Q (.str (st (glue 47 names)) t') { s with toks := k }) : wpAny (model prog w) A (call (.builtin "str.join") [.str (PySem.Str.ofString "/") t, .ref l]) Q E s := by
  have hsum : ((names.map st).map (·.length)).sum = names.flatten.length := by
    rw [List.map_map, List.length_flatten]
    exact congrArg List.sum (List.map_congr_left fun x _ => st_len x)
  refine join_listW (News.isList N hm) (ys := names.map st) (by simpa using hv) (by decide) (by rw [hsum, List.length_map]; (first | lia | omega)) fun t' k => ?_
  have e : Txt.join (PySem.Str.ofString "/") (names.map st) = st (glue 47 names) := (eq_of_beq (join_plain_closes _ _)).trans (join_st 47 names)
  rw [e]
  exact h t' k
end
/-- the loop of commonpath: what is left -/
noncomputable def CpI (s1 s2 : List (List Nat)) (base : PySem.Str → Option Value) (led : List (Addr × Obj)) (xs : List Itm) (m' : PySem.Str → Option Value) (nw : List (Addr × Obj)) : Prop :=
  ∃ i vi vc dv', xs = enumItems i dv' ∧ StrsAre dv' ((s1.drop i).map st) ∧ i ≤ s1.length ∧ m' = over "c" vc (over "i" vi base) ∧ nw = led ∧ s1.take i = s2.take i
theorem cp_start {s1 s2 : List (List Nat)} {base : PySem.Str → Option Value} {led : List (Addr × Obj)} {dv : List Value} (hv : StrsAre dv (s1.map st)) (h1 : base "c" = none) (h2 : base "i" = none) : CpI s1 s2 base led (enumItems 0 dv) base led :=
  ⟨0, none, none, dv, rfl, hv, Nat.zero_le _, by rw [over_none (b := base) h2, over_none h1], rfl, rfl⟩
theorem cp_cons {s1 s2 : List (List Nat)} {base : PySem.Str → Option Value} {led : List (Addr × Obj)} {a : Itm} {r : List Itm} {m' : PySem.Str → Option Value} {nw : List (Addr × Obj)} {v : Value} {h : Heap} (hJ : CpI s1 s2 base led (a :: r) m' nw) (hv : a.Is v h) :
    ∃ i x vi vc dv' T t u, v = .ref T ∧ IsTup h T #[.int (i : Nat) t, .str (st x) u] ∧ r = enumItems (i + 1) dv' ∧ StrsAre dv' ((s1.drop (i + 1)).map st) ∧ i < s1.length ∧ s1[i]? = some x ∧ m' = over "c" vc (over "i" vi base) ∧ nw = led ∧ s1.take i = s2.take i := by
  refine fold_G ?_
  intro G9
  obtain ⟨i, vi, vc, dv', e, hi, hle, hm, hw, ht⟩ := hJ
  have hlt : i < s1.length := by
    by_cases hlt : i < s1.length
    · exact hlt
    · rw [List.drop_eq_nil_of_le (by (first | lia | omega))] at hi
      cases hi
      cases e
  rw [List.drop_eq_getElem_cons hlt, List.map_cons] at hi
  cases hi with
  | @cons _ u vs _ hi' =>
    simp only [enumItems, List.cons.injEq] at e
    refine fold_G ?_
    intro G9
    obtain ⟨e1, e2⟩ := e
    subst e1
    refine fold_G ?_
    intro G9
    obtain ⟨T, t, e3, hT⟩ := hv
    exact ⟨i, s1[i], vi, vc, vs, T, t, u, e3, hT, e2, hi', hlt, List.getElem?_eq_getElem hlt, hm, hw, ht⟩
theorem cp_nil {s1 s2 : List (List Nat)} {base : PySem.Str → Option Value} {led : List (Addr × Obj)} {m' : PySem.Str → Option Value} {nw : List (Addr × Obj)} (hJ : CpI s1 s2 base led [] m' nw) :
    ∃ vi vc, m' = over "c" vc (over "i" vi base) ∧ nw = led ∧ s1 = s2.take s1.length := by
  refine fold_G ?_
  intro G9
  obtain ⟨i, vi, vc, dv', e, hi, hle, hm, hw, ht⟩ := hJ
  have hd : dv' = [] := by cases dv' with | nil => rfl | cons v r => simp [enumItems] at e
  subst hd
  have hl := hi.length
  simp only [List.length_nil, List.length_map, List.length_drop] at hl
  have e : i = s1.length := by (first | lia | omega)
  subst e
  rw [List.take_length] at ht
  exact ⟨vi, vc, hm, hw, ht⟩
theorem cp_map {v1 v2 : Value} {w1 w2 : Option Value} {base : PySem.Str → Option Value} : over "c" (some v2) (over "i" (some v1) base) = fun (y : PySem.Str) => if y = "c" then some v2 else if y = "i" then some v1 else over "c" w2 (over "i" w1 base) y := by
  funext y
  unfold over
  by_cases h1 : y = "c"
  · subst h1; rfl
  by_cases h2 : y = "i"
  · subst h2; rfl
  simp only [h1, h2, if_false]
theorem cp_next {s1 s2 : List (List Nat)} {h₀ h' : Heap} {L : Addr} {s₁ : Shared} {tk i I : Nat} {oI oE : Obj} {base : PySem.Str → Option Value} {led keep : List (Addr × Obj)} {all : List (Addr × Obj)} {v1 v2 : Value} {w1 w2 : Option Value} {r : List Itm} {dv' : List Value} {x : List Nat} {Q : Flow → Shared → Prop}
    (F : Fr h₀ L h' (fun y => if y = "c" then some v2 else if y = "i" then some v1 else over "c" w2 (over "i" w1 base) y)) (N : News h₀ L h' all) (hI : (I, oI) ∈ all) (hE : (I + 1, oE) ∈ all) (hsub : ∀ q ∈ led, q ∈ all) (hlt : ∀ q ∈ led, @LT.lt Nat _ q.1 I) (hk : ∀ q ∈ keep, q ∈ led)
    (hr : r = enumItems (i + 1) dv') (hd : StrsAre dv' ((s1.drop (i + 1)).map st)) (hi : i < s1.length) (hx : s1[i]? = some x) (hy : s2.getD i [] = x) (hl2 : i < s2.length) (ht : s1.take i = s2.take i) :
    UnrPostW h₀ L s₁ [(I + 1, oE), (I, oI)] (fun m n => SubL keep n ∧ CpI s1 s2 base led r m n) Q .next { s₁ with heap := h', toks := tk } := by
  refine turn_end F N (fun q hq => ?_) hsub (fun q hq q' hq' => ?_) hk ⟨i + 1, some v1, some v2, dv', hr, hd, hi, cp_map.symm, rfl, ?_⟩
  · rcases List.mem_cons.mp hq with rfl | hq
    · exact hE
    · rw [List.mem_singleton.mp hq]; exact hI
  · have := hlt q hq
    rcases List.mem_cons.mp hq' with rfl | hq'
    · exact Nat.lt_succ_of_lt this
    · rw [List.mem_singleton.mp hq']; exact this
  · have hy2 : s2[i]? = some x := by
      rw [← hy, List.getElem?_eq_getElem hl2]
      simp [List.getD, hl2]
    rw [List.take_add_one, List.take_add_one, hx, hy2, ht]
end Mine
end
section
open PySem PySem.W PyProof.Rows
set_option maxRecDepth 100000
set_option maxHeartbeats 8000000
namespace Mine
theorem kfCP : (PySem.Challenge.rw_ik0083_01, Mine.K) = (PySem.Challenge.rw_ik0083_01, Mine.K) := by
  k_fill
  rfl
theorem unr_brk {h₀ : Heap} {L : Addr} {s₁ s₂ : Shared} {its : List (Addr × Obj)} {rest : (PySem.Str → Option Value) → List (Addr × Obj) → Prop} {Q : Flow → Shared → Prop} (h : Q .next s₂) : UnrPostW h₀ L s₁ its rest Q .brk s₂ := h
theorem rows_CP_1 : True := by
  k_with_none
  (k_with "ktr_enter" => (refine' code_def ?k1 ?k2 ?k3 ?k4 ?k5 ?kA ?kF ?kK ?k6 ?k7 ?k8 ?k9 ?kB ?_ ?c2 ?c3 ?c4 ?c5; (case kA => exact rfl); (case kF => exact rfl); (case kK => assumption); (case k1 => k_asm); (case k2 => k_asm); (case k3 => k_asm); (case k4 => k_asm); (case k5 => k_asm); (case k6 => k_is); (case k7 => k_is); (case k8 => ktr_room); (case k9 => first | exact BindsTo.of_eq rfl | exact binds_K (by k_in) rfl (by k_is) rfl rfl rfl); (case c5 => decide); (case kB => exact locs rfl); (case c2 => exact rfl); (case c3 => exact rfl); (case c4 => exact rfl); k_whole; intro g' L' h' FG' F' N' B' X' T'; (try dsimp only); (try k_fold); (try (refine fold_A ?_; intro A9))))
  (k_with "k_room" => ktr_room)
  (k_with "k_all" => assumption)
  (k_with "ktr_room" => ((with_reducible rename _ + _ < recursionLimit => hd9); first | exact room_ 0 hd9 rfl rfl | exact room_ 1 hd9 rfl rfl | exact room_ 2 hd9 rfl rfl | exact room_ 3 hd9 rfl rfl | exact room_ 4 hd9 rfl rfl | exact room_ 5 hd9 rfl rfl | exact room_ 6 hd9 rfl rfl | exact room_ 7 hd9 rfl rfl | exact room_ 8 hd9 rfl rfl | exact room_ 9 hd9 rfl rfl | exact room_ 10 hd9 rfl rfl | exact room_ 11 hd9 rfl rfl | exact room_ 12 hd9 rfl rfl | exact room_ 13 hd9 rfl rfl | exact room_ 14 hd9 rfl rfl | exact room_ 15 hd9 rfl rfl | exact room_ 16 hd9 rfl rfl | exact room_ 17 hd9 rfl rfl | exact room_ 18 hd9 rfl rfl | exact room_ 19 hd9 rfl rfl | exact room_ 20 hd9 rfl rfl | exact room_ 21 hd9 rfl rfl | exact room_ 22 hd9 rfl rfl | exact room_ 23 hd9 rfl rfl | exact room_ 24 hd9 rfl rfl | exact room_ 25 hd9 rfl rfl))
  (k_with "ktr_units" => ((with_reducible rename _ + _ < cLine => hu9); first | exact units_ 0 hu9 rfl rfl | exact units_ 1 hu9 rfl rfl | exact units_ 2 hu9 rfl rfl | exact units_ 3 hu9 rfl rfl | exact units_ 4 hu9 rfl rfl | exact units_ 5 hu9 rfl rfl | exact units_ 6 hu9 rfl rfl | exact units_ 7 hu9 rfl rfl | exact units_ 8 hu9 rfl rfl | exact units_ 9 hu9 rfl rfl | exact units_ 10 hu9 rfl rfl | exact units_ 11 hu9 rfl rfl | exact units_ 12 hu9 rfl rfl | exact units_ 13 hu9 rfl rfl | exact units_ 14 hu9 rfl rfl | exact units_ 15 hu9 rfl rfl | exact units_ 16 hu9 rfl rfl | exact units_ 17 hu9 rfl rfl | exact units_ 18 hu9 rfl rfl | exact units_ 19 hu9 rfl rfl | exact units_ 20 hu9 rfl rfl | exact units_ 21 hu9 rfl rfl | exact units_ 22 hu9 rfl rfl | exact units_ 23 hu9 rfl rfl | exact units_ 24 hu9 rfl rfl | exact units_ 25 hu9 rfl rfl | exact units_ 26 hu9 rfl rfl | exact units_ 27 hu9 rfl rfl | exact units_ 28 hu9 rfl rfl | exact units_ 29 hu9 rfl rfl | exact units_ 30 hu9 rfl rfl | exact units_ 31 hu9 rfl rfl | exact units_ 32 hu9 rfl rfl | exact units_ 33 hu9 rfl rfl | exact units_ 34 hu9 rfl rfl | exact units_ 35 hu9 rfl rfl | exact units_ 36 hu9 rfl rfl | exact units_ 37 hu9 rfl rfl | exact units_ 38 hu9 rfl rfl | exact units_ 39 hu9 rfl rfl | exact units_ 40 hu9 rfl rfl | exact units_ 41 hu9 rfl rfl | exact units_ 42 hu9 rfl rfl | exact units_ 43 hu9 rfl rfl | exact units_ 44 hu9 rfl rfl | exact units_ 45 hu9 rfl rfl | exact units_ 46 hu9 rfl rfl | exact units_ 47 hu9 rfl rfl | exact units_ 48 hu9 rfl rfl | exact units_ 49 hu9 rfl rfl | exact units_ 50 hu9 rfl rfl | exact units_ 51 hu9 rfl rfl | exact units_ 52 hu9 rfl rfl | exact units_ 53 hu9 rfl rfl | exact units_ 54 hu9 rfl rfl | exact units_ 55 hu9 rfl rfl | exact units_ 56 hu9 rfl rfl | exact units_ 57 hu9 rfl rfl | exact units_ 58 hu9 rfl rfl | exact units_ 59 hu9 rfl rfl | exact units_ 60 hu9 rfl rfl))
  (k_with "k_ne" => (first | exact Nat.ne_of_lt (by assumption) | exact Nat.ne_of_gt (by assumption) | assumption | exact Ne.symm (by assumption) | exact Nat.ne_of_lt (And.left (by assumption)) | exact Nat.ne_of_gt (And.left (by assumption)) | exact Nat.ne_of_lt (And.left (And.right (by assumption))) | exact Nat.ne_of_gt (And.left (And.right (by assumption))) | exact Nat.ne_of_lt (And.left (And.right (And.right (by assumption)))) | exact Nat.ne_of_gt (And.left (And.right (And.right (by assumption)))) | exact Nat.ne_of_lt (And.left (And.right (And.right (And.right (by assumption))))) | exact Nat.ne_of_gt (And.left (And.right (And.right (And.right (by assumption))))) | exact Nat.ne_of_lt (And.left (And.right (And.right (And.right (And.right (by assumption)))))) | exact Nat.ne_of_gt (And.left (And.right (And.right (And.right (And.right (by assumption)))))) | exact Nat.ne_of_lt (And.left (And.right (And.right (And.right (And.right (And.right (by assumption))))))) | exact Nat.ne_of_gt (And.left (And.right (And.right (And.right (And.right (And.right (by assumption))))))) | exact Nat.ne_of_lt (And.left (And.right (And.right (And.right (And.right (And.right (And.right (by assumption)))))))) | exact Nat.ne_of_gt (And.left (And.right (And.right (And.right (And.right (And.right (And.right (by assumption)))))))) | exact Nat.ne_of_lt (And.left (And.right (And.right (And.right (And.right (And.right (And.right (And.right (by assumption))))))))) | exact Nat.ne_of_gt (And.left (And.right (And.right (And.right (And.right (And.right (And.right (And.right (by assumption))))))))) | exact Nat.ne_of_lt (And.left (And.right (And.right (And.right (And.right (And.right (And.right (And.right (And.right (by assumption)))))))))) | exact Nat.ne_of_gt (And.left (And.right (And.right (And.right (And.right (And.right (And.right (And.right (And.right (by assumption)))))))))) | exact Nat.ne_of_lt (And.left (And.right (And.right (And.right (And.right (And.right (And.right (And.right (And.right (And.right (by assumption))))))))))) | exact Nat.ne_of_gt (And.left (And.right (And.right (And.right (And.right (And.right (And.right (And.right (And.right (And.right (by assumption))))))))))) | (refine neN ?_; (try dsimp only); (first | lia | omega))))
  (k_with "exec If" => (refine if_fold ?_; intro q8))
  (k_with "isTrue Compare" => (refine is_cmp ?_))
  (k_with "ite" => (k_here; first | with_reducible refine ite_tt ?_ | with_reducible refine ite_ff ?_ | k_dflt (first | refine ite_pos (by decide) ?_ | refine ite_neg (by decide) ?_)))
  (k_with "execs cons" => (first | (rename Shared => s9; refine stmt_cons s9 ?_; intro t9 s8 q8; refine fold_E ?_; intro e8) | (refine wpAny_execs_cons ?_; (try k_fold))))
  (k_with "call ref" => (k_here; (with_reducible show wpAny _ _ (call (Value.ref 806) [Value.str _ _]) _ _ _); k_dflt (refine' fspath_spec ?yB ?yF ?yX ?yN ?yT ?yk ?yd ?yu ?_; (case yB => k_asm); (case yF => k_asm); (case yX => k_asm); (case yN => k_asm); (case yT => k_asm); (case yk => exact rfl); (case yd => ktr_room); (case yu => ktr_units); k_whole); intro t' h' tk' F' N'; (try k_fold)))
  (k_with "k_mem" => ((repeat (first | (with_reducible exact List.mem_cons_self) | with_reducible assumption | (refine nb_skip ?_))); done))
  (k_with "UnrPostW" => (refine stop_of ?_))
  (k_with "own pyIter ref" => (refine stop_of ?_))
  (k_with "call type:enumerate" => (refine stop_of ?_))
  (k_with "exec For Tuple Call cons nil" => (k_here; (rename Fr _ _ _ _ => lF'); (with_unfolding_all refine' For_turns lF' ?_; k_whole)))
  (k_with "subscriptTail" => (k_here; (with_reducible show wpAny _ _ (subscriptTail _ _ (Value.ref _) (Value.int (Nat.cast _) _)) _ _ _); k_dflt (refine' item_nm ?qN ?qm ?qs ?qz ?qi ?_; (case qN => k_asm); (case qm => k_mem); (case qs => with_reducible assumption); (case qz => with_reducible assumption); (case qi => with_reducible assumption); k_whole); intro _))
  (k_with "subscriptTail Name Name ref int" => (k_here; (with_reducible show wpAny _ _ (subscriptTail _ _ (Value.ref _) (Value.int (Nat.cast _) _)) _ _ _); k_dflt (refine' item_nm ?qN ?qm ?qs ?qz ?qi ?_; (case qN => k_asm); (case qm => k_mem); (case qs => with_reducible assumption); (case qz => with_reducible assumption); (case qi => with_reducible assumption); k_whole); intro _))
  exact trivial
theorem slice_take' {prog : Program} {w : World} {A : Around} {E : Value → Shared → Prop} {h₀ : Heap} {L : Addr} {m : PySem.Str → Option Value} {news : List (Addr × Obj)} {hp : Heap} {g : Array GenState} {d : Drawn} {tk : Nat} {os : OsState}
    {l : Addr} {n : Nat} {vs : List Value} {names : List (List Nat)} {i : Nat} {u : Tok} {value slice : PySem.Expr} {Q : Value → Shared → Prop} (F : Fr h₀ L hp m) (N : News h₀ L hp news) (hm : (l, W.listOf vs.toArray n) ∈ news) (hv : StrsAre vs (names.map st)) (hi : i ≤ names.length) (hz : names.length ≤ 4000)
    (h : ∀ D ws h', Fr h₀ L h' m → News h₀ L h' ((D, W.listOf (List.toArray ws) 0) :: news) → (∀ p ∈ news, p.1 < D) → StrsAre ws ((names.take i).map st) → Q (.ref D) ⟨h', g, d, tk, os⟩)
    (hs : subscripted slice false (.ref l) (.ref hp.objs.size) = operate [.ref hp.objs.size, .ref l] (getItem (.ref l) (.ref hp.objs.size))) (ht : ∀ r, letTemporaryGo value (.ref l) r = pure ()) :
    wpAny (model prog w) A (subscriptTail value slice (.ref l) (.ref hp.objs.size)) Q E ⟨hp.push { cls := .type "slice", data := .fields #[.none, .int (i : Nat) u, .none] }, g, d, tk, os⟩ :=
  slice_take (s := ⟨hp, g, d, tk, os⟩) F N hm hv hi hz h hs ht
theorem rows_CP_2 : True := by
  (k_with "subscriptTail Name Slice ref ref" => (k_here; (with_reducible show wpAny _ _ (subscriptTail _ (PySem.Expr.Slice _ _ none _) (Value.ref _) (Value.ref _)) _ _ _); k_dflt (refine' slice_take' ?zF ?zN ?zm ?zv ?zi ?zz ?_ ?zs ?zt; (case zF => k_asm); (case zN => k_asm); (case zm => k_mem); (case zv => with_reducible assumption); (case zi => with_reducible assumption); (case zz => with_reducible assumption); (case zs => with_unfolding_all rfl); (case zt => kmk_pure)); intro D' ws' h' F' N' l1 a'; (try k_lt l1); (try k_sweep)))
  exact trivial
theorem add_glue {prog : Program} {w : World} {A : Around} {E : Value → Shared → Prop} {s : Shared} {c : List (List Nat)} {t u : Tok} {Q : Value → Shared → Prop} (hc : c ≠ []) (hz : (glue 47 c).length ≤ 4000) (h : ∀ t' k, Q (.str (st (joinP c)) t') { s with toks := k }) :
    wpAny (model prog w) A (binaryOp .Add (.str (PySem.Str.ofString "/") t) (.str (st (glue 47 c)) u)) Q E s := by
  refine add_st (a := [47]) (by decide) hz (fun t' k => ?_)
  have e : [47] ++ glue 47 c = joinP c := glue_join hc
  rw [e]
  exact h t' k
theorem rows_CP_3 : True := by
  (k_with "binaryOp Add str str" => (k_here; (refine' add_glue ?xc ?xz ?_; (case xc => with_reducible assumption); (case xz => with_reducible assumption)); intro _ _))
  (k_with "call builtin:str.join" => (k_here; k_dflt (refine' join_names ?qN ?qm ?qs ?qz ?_; (case qN => k_asm); (case qm => k_mem); (case qs => with_reducible assumption); (case qz => with_reducible assumption); k_whole); intro _ _))
  (k_with "call builtin:min" => (refine stop_of ?_))
  (k_with "call builtin:max" => (refine stop_of ?_))
  (k_with "exec Try" => refine wpAny_Try_except ?_)
  (k_with "eval ListComp" => (refine stop_of ?_))
  (k_with "exec Assign cons ListComp" => (refine stop_of ?_))
  exact trivial
section
variable {prog : Program} {w : World} {A : Around} {E : Value → Shared → Prop} {s : Shared} {h₀ : Heap} {L : Addr} {m : PySem.Str → Option Value} {news : List (Addr × Obj)} {Q : Value → Shared → Prop}
theorem split_is {na : List (List Nat)} {t u : Tok} (F : Fr h₀ L s.heap m) (N : News h₀ L s.heap news) (hne : na ≠ []) (hn : ∀ x ∈ na, 47 ∉ x) (hz : (joinP na).length + 2 ≤ sizeLine)
    (h : ∀ D vs h' k, StrsAre vs (([] :: na).map st) → Fr h₀ L h' m → News h₀ L h' ((D, W.listOf vs.toArray 0) :: news) → (∀ p ∈ news, p.1 < D) → Q (.ref D) { s with heap := h', toks := k }) :
    wpAny (model prog w) A (call (.builtin "str.split") [.str (st (joinP na)) t, .str (PySem.Str.ofString "/") u]) Q E s := by
  refine KSpl.split1 F N (by decide) (fun D l h' k e a F' N' l1 => h D _ h' k ?_ F' N' l1) (by rw [st_len]; exact hz)
  have hs : Txt.split (st (joinP na)) (PySem.Str.ofString "/") = ([] :: na).map st := by
    rw [joinP_glue hne]
    refine split_st (c := 47) fun x hx => ?_
    rcases List.mem_cons.mp hx with rfl | hx
    · simp
    · exact hn x hx
  rw [hs] at e
  rw [e] at a
  exact a
end
theorem rows_CP_4 : True := by
  (k_with "call builtin:str.split" => (k_here; (with_reducible show wpAny _ _ (call (Value.builtin "str.split") [Value.str (st (joinP _)) _, _]) _ _ _); k_dflt (refine' split_is ?yF ?yN ?yn ?yh ?yl ?_; (case yF => k_asm); (case yN => k_asm); (case yn => assumption); (case yh => assumption); (case yl => assumption); k_whole); intro D' vs' h' k' a' F' N' l1; (try k_lt l1)))
  exact trivial
theorem end_one {h₀ : Heap} {L I C D D1 : Addr} {m : PySem.Str → Option Value} {s₁ : Shared} {oI oC oD o1 : Obj} {S : List (Addr × Obj) → Prop} {rest : Value → List (Addr × Obj) → Prop} {y : Value} {h' : Heap} {tk : Nat} {news : List (Addr × Obj)} {X : Prop}
    (F : Fr h₀ L h' m) (N : News h₀ L h' ((D1, o1) :: (I, oI) :: (C, oC) :: (D, oD) :: news)) (off : LCg.Off3 I C D news) (l : I < D1 ∧ C < D1 ∧ D < D1 ∧ X) (hS : S ((D1, o1) :: news)) (r : rest y ((D1, o1) :: news)) :
    LCg.CompEnd h₀ L m s₁ I oI C oC D oD S rest y { s₁ with heap := h', toks := tk } :=
  LCg.CompEnd.intro F N ((D1, o1) :: news) (fun p hp => by
    rcases List.mem_cons.mp hp with rfl | hp
    · exact .tail _ (.head _)
    · rcases List.mem_cons.mp hp with rfl | hp
      · exact .tail _ (.tail _ (.head _))
      · rcases List.mem_cons.mp hp with rfl | hp
        · exact .tail _ (.tail _ (.tail _ (.head _)))
        · rcases List.mem_cons.mp hp with rfl | hp
          · exact .head _
          · exact .tail _ (.tail _ (.tail _ (.tail _ hp)))) ⟨⟨Nat.ne_of_gt l.1, Nat.ne_of_gt l.2.1, Nat.ne_of_gt l.2.2.1⟩, off⟩ hS r
theorem rows_CP_5 : True := by
  (k_with "CompEnd" => (refine stop_of ?_))
  exact trivial
theorem end_off {h₀ : Heap} {L I C D D1 : Addr} {m : PySem.Str → Option Value} {s₁ : Shared} {oI oC oD o1 : Obj} {S : List (Addr × Obj) → Prop} {rest : Value → List (Addr × Obj) → Prop} {y : Value} {h' : Heap} {tk : Nat} {news : List (Addr × Obj)}
    (F : Fr h₀ L h' m) (N : News h₀ L h' ((D1, o1) :: (I, oI) :: (C, oC) :: (D, oD) :: news)) (off : LCg.Off3 I C D news) (l : LCg.Off1 D1 ((I, oI) :: (C, oC) :: (D, oD) :: news)) (hS : S ((D1, o1) :: news)) (r : rest y ((D1, o1) :: news)) :
    LCg.CompEnd h₀ L m s₁ I oI C oC D oD S rest y { s₁ with heap := h', toks := tk } :=
  LCg.CompEnd.intro F N ((D1, o1) :: news) (fun p hp => by
    rcases List.mem_cons.mp hp with rfl | hp
    · exact .tail _ (.head _)
    · rcases List.mem_cons.mp hp with rfl | hp
      · exact .tail _ (.tail _ (.head _))
      · rcases List.mem_cons.mp hp with rfl | hp
        · exact .tail _ (.tail _ (.tail _ (.head _)))
        · rcases List.mem_cons.mp hp with rfl | hp
          · exact .head _
          · exact .tail _ (.tail _ (.tail _ (.tail _ hp)))) ⟨⟨fun e => l.1 e.symm, fun e => l.2.1 e.symm, fun e => l.2.2.1 e.symm⟩, off⟩ hS r
theorem rows_CP_6 : True := by
  (k_with "CompEnd" => (k_here; k_dflt (refine' end_off ?zF ?zN ?zo ?zl ?zS ?_; (case zF => k_asm); (case zN => k_asm); (case zo => assumption); (case zl => assumption); (case zS => first | exact ⟨_, by k_mem, rfl, _, rfl⟩ | exact .inr ⟨_, by k_mem, rfl, _, rfl⟩)); (try dsimp only)))
  (k_with "CompEnd" => (k_here; k_dflt (refine' end_one ?zF ?zN ?zo ?zl ?zS ?_; (case zF => k_asm); (case zN => k_asm); (case zo => assumption); (case zl => assumption); (case zS => first | exact ⟨_, by k_mem, rfl, _, rfl⟩ | exact .inr ⟨_, by k_mem, rfl, _, rfl⟩)); (try dsimp only)))
  (k_with "call builtin:str.startswith" => (k_here; (refine' starts_known ?xh ?_; (case xh => with_reducible assumption))))
  (k_with "assign Tuple" => (k_here; k_dflt (refine' assign_true ?yh ?yF ?yN ?ym ?yn ?ys ?_; (case yh => exact rfl); (case yF => k_asm); (case yN => k_asm); (case ym => with_reducible exact List.mem_cons_self); (case yn => exact rfl); (case ys => exact rfl); k_whole); intro h' F' N'; (try dsimp only)))
  (k_with "CompSrcT" => (refine stop_of ?_))
  (k_with "truthy str" => (k_here; (refine' truthy_nil ?_); intro _))
  (k_with "truthy str" => (k_here; (refine' truthy_ne ?xn ?xz ?_; (case xn => assumption); (case xz => assumption)); intro _))
  (k_with "compareOp NotEq str str" => (k_here; (refine' ne_known ?xh ?_; (case xh => with_reducible assumption))))
  (k_with "eval SetComp" => (refine stop_of ?_))
  exact trivial
theorem nw_ne1 {D L : Addr} {news : List (Addr × Obj)} (h : D < L ∧ AllLt L news) : ∀ p ∈ news, p.1 ≠ L + 1 := fun p hp => Nat.ne_of_lt (Nat.lt_succ_of_lt (ktn_ltOf h.2 p hp))
theorem nw_ne2 {D L : Addr} {news : List (Addr × Obj)} (h : D < L ∧ AllLt L news) : ∀ p ∈ news, p.1 ≠ L + 1 + 1 := fun p hp => Nat.ne_of_lt (Nat.lt_succ_of_lt (Nat.lt_succ_of_lt (ktn_ltOf h.2 p hp)))
theorem rows_CP_7 : True := by
  (k_with "k_all" => (first | assumption | exact nw_ne1 (by assumption) | exact nw_ne2 (by assumption)))
  (k_with "ktr_enter" => (refine' code_defC ?k1 ?k2 ?k3 ?k4 ?k5 ?kA ?kF ?kK ?k6 ?k7 ?k8 ?k9 ?kB ?kD ?_ ?c2 ?c3 ?c4; (case kA => exact rfl); (case kF => exact rfl); (case kK => assumption); (case k1 => k_asm); (case k2 => k_asm); (case k3 => k_asm); (case k4 => k_asm); (case k5 => k_asm); (case k6 => k_is); (case k7 => k_is); (case k8 => ktr_room); (case k9 => first | exact BindsTo.of_eq rfl | exact binds_K (by k_in) rfl (by k_is) rfl rfl rfl); (case kB => exact rfl); (case kD => decide +kernel); (case c2 => exact rfl); (case c3 => exact rfl); (case c4 => exact rfl); k_whole; intro g' L' h' tk' cells' FG' F' N' Y' B' X' T' l1; (try k_lt l1); k_cells Y'; (try simp only [List.cons_append, List.nil_append] at N'); (try dsimp only); (try k_fold); (try (refine fold_A ?_; intro A9))))
  (k_with "call type:map" => (k_here; k_dflt (refine' map_new ?yF ?yN ?yl ?_; (case yF => k_asm); (case yN => k_asm); (case yl => exact News.isList (by k_asm) (by k_mem)); k_whole); intro I' T' M' h' F' N' l1 l2 l3; (try k_sweep)))
  (k_with "call type:tuple" => (refine stop_of ?_))
  exact trivial
theorem pick_mem {h₀ h : Heap} {L Da Db : Addr} {l : List (Addr × Obj)} {ya yb : List Value} {za zb : List (List Nat)} (_N : News h₀ L h l) (h1 : (Db, LCg.lst yb) ∈ l) (h2 : (Da, LCg.lst ya) ∈ l) (sa : StrsAre ya (za.map st)) (sb : StrsAre yb (zb.map st)) (r : Bool) :
    ∃ A ys, (if r = true then Db else Da) = A ∧ StrsAre ys ((if r = true then zb else za).map st) ∧ (A, W.listOf ys.toArray ys.length) ∈ l := by
  cases r
  · exact ⟨Da, ya, rfl, sa, h2⟩
  · exact ⟨Db, yb, rfl, sb, h1⟩
theorem pick_or (r : Bool) (za zb : List (List Nat)) : (if r = true then zb else za) = za ∨ (if r = true then zb else za) = zb := by
  cases r
  · exact .inl rfl
  · exact .inr rfl
theorem shrink3 {h₀ h : Heap} {L : Addr} {l r : List (Addr × Obj)} {x y z : Addr × Obj} (N : News h₀ L h l) (h1 : x ∈ l) (h2 : y ∈ l) (h3 : z ∈ l) (hs : ∀ q ∈ r, q ∈ l) : News h₀ L h (x :: y :: z :: r) := fun p hp => by
  refine fold_G ?_
  intro G9
  rcases List.mem_cons.mp hp with rfl | hp
  · exact N _ h1
  · refine fold_G ?_
    intro G9
    rcases List.mem_cons.mp hp with rfl | hp
    · exact N _ h2
    · refine fold_G ?_
      intro G9
      rcases List.mem_cons.mp hp with rfl | hp
      · exact N _ h3
      · exact N _ (hs _ hp)
section
variable {w : World} {mean : ExcName → Option Value} {mg mb : PySem.Str → Option Value} {dp un : Nat} {gd : Option (List Code)} {cn : PySem.Str} {cs : Scope} {a : Addr} {ccd : Value} {cl : List (PySem.Str × Addr)} {outer : List Env} {A₀ : Around} {base h₀ : Heap} {L : Addr} {m : PySem.Str → Option Value} {news : List (Addr × Obj)} {s : Shared} {Q E : Value → Shared → Prop}

theorem commonpath_spec {na nb : List (List Nat)} {Dp : Addr} {t1 t2 : Tok} {n : Nat}
  (B : Below A₀ base outer h₀) (F : Fr h₀ L s.heap m) (X : (Mine.K w.params).In h₀)
  (N : News h₀ L s.heap ((Dp, W.listOf #[.str (st (joinP na)) t1, .str (st (joinP nb)) t2] n) :: news)) (T : Top VW LOO mean mg mb h₀) (hk : cs.kind = .function)
  (hdp : dp + 10 < recursionLimit) (hu : un + 100 < cLine)
  (hret : ∀ t h' tk', Fr h₀ L h' m → News h₀ L h' ((Dp, W.listOf #[.str (st (joinP na)) t1, .str (st (joinP nb)) t2] n) :: news) → Q (.str (st (joinP (cpre na nb))) t) {s with heap := h', toks := tk'}) (hcp : cpre na nb ≠ [])
  (ha : na ≠ []) (hb : nb ≠ []) (hna : ∀ x ∈ na, x ≠ [] ∧ ∀ c ∈ x, lett c) (hnb : ∀ x ∈ nb, x ≠ [] ∧ ∀ c ∈ x, lett c) (hza : na.flatten.length + na.length ≤ 1000) (hzb : nb.flatten.length + nb.length ≤ 1000) :
  wpAny (model PRG w) (ktrTop dp un gd cn cs L a ccd cl outer) (call (.ref 839) [.ref Dp]) Q E s := by
  have za : (joinP na).length + 2 ≤ sizeLine := by
    have := joinP_len na
    rw [sizeLine_eq]; (first | lia | omega)
  have zb : (joinP nb).length + 2 ≤ sizeLine := by
    have := joinP_len nb
    rw [sizeLine_eq]; (first | lia | omega)
  have sa : Txt.startswith (st (joinP na)) (PySem.Str.ofString "/") = true := by
    rw [joinP_glue ha]
    cases na with
    | nil => exact absurd rfl ha
    | cons x r => exact (sw_sl 47 _).trans (by decide)
  have sb : Txt.startswith (st (joinP nb)) (PySem.Str.ofString "/") = true := by
    rw [joinP_glue hb]
    cases nb with
    | nil => exact absurd rfl hb
    | cons x r => exact (sw_sl 47 _).trans (by decide)
  have ga : ∀ x ∈ na, 47 ∉ x := fun x hx h47 => by
    have := (hna x hx).2 47 h47
    revert this; decide
  have gb : ∀ x ∈ nb, 47 ∉ x := fun x hx h47 => by
    have := (hnb x hx).2 47 h47
    revert this; decide
  refine wpAny_call ?_
  k_dflt ktr_enter
  k_steps
  refine Stop.out ?_
  (with_reducible rename Fr _ _ _ _ => F0)
  (with_reducible rename News _ _ _ _ => N0)
  refine' call_tuple_map2 (R1 := fun v => ∃ t, v = .str (st (joinP na)) t) (R2 := fun v => ∃ t, v = .str (st (joinP nb)) t) ?zh ?zF ?zN ?z1 ?z2 ?z3 ?z4 ?z5 ?z6 ?_
  case zh => exact rfl
  case zF => exact F0
  case zN => exact N0
  case z1 => assumption
  case z2 => assumption
  case z3 => assumption
  case z4 => k_mem
  case z5 =>
    intro s' own Q' E' F1 N1 hq
    k_dflt (refine' fspath_spec ?yB F1 ?yX N1 ?yT ?yk ?yd ?yu ?_; (case yB => k_asm); (case yX => k_asm); (case yT => k_asm); (case yk => exact rfl); (case yd => ktr_room); (case yu => ktr_units))
    exact fun t h' tk' F2 N2 => hq _ h' tk' ⟨t, rfl⟩ F2 N2
  case z6 =>
    intro s' own Q' E' F1 N1 hq
    k_dflt (refine' fspath_spec ?wB F1 ?wX N1 ?wT ?wk ?wd ?wu ?_; (case wB => k_asm); (case wX => k_asm); (case wT => k_asm); (case wk => exact rfl); (case wd => ktr_room); (case wu => ktr_units))
    exact fun t h' tk' F2 N2 => hq _ h' tk' ⟨t, rfl⟩ F2 N2
  clear F0 N0
  rintro v1 v2 Dt h1 tk1 ⟨t3, rfl⟩ ⟨t4, rfl⟩ F1 N1 l4
  k_lt l4
  k_steps
  refine Stop.out ?_
  k_dflt (refine Assign_ListComp_tup (F₀ := by k_asm) (by rfl) (by with_unfolding_all rfl) (by with_unfolding_all rfl) (by decide) (by rfl) (by decide) (by rfl) (by rfl) (by rfl) ?_)
  k_steps
  refine ⟨Dt, _, _, rfl, rfl, by k_asm, by k_asm, ⟨_, by k_mem, rfl, _, rfl⟩, by rw [sizeLine_eq]; exact Nat.le_of_ble_eq_true rfl, ?_⟩
  rintro _ ⟨g5, rfl⟩
  k_steps
  refine Stop.out ?_
  (with_reducible rename Fr _ _ _ _ => F0)
  (with_reducible rename News _ _ _ _ => N0)
  k_dflt (refine SetComp_true F0 (by with_unfolding_all rfl) (by decide) (by rfl) (by decide) (by rfl) ?_)
  k_steps
  refine ⟨Dt, _, _, _, rfl, rfl, F0, N0, ⟨_, by k_mem, rfl, _, rfl⟩, ?el, ?fin⟩
  case el =>
    intro v I oI C oC D i m₂ h tk E' hv hC hx F' N'
    clear F0 N0
    rcases hv with rfl | rfl
    · k_steps
      all_goals first | exact rfl | exact F' | exact N' | assumption
    · k_steps
      all_goals first | exact rfl | exact F' | exact N' | assumption
  case fin =>
    intro D h tk F' N' l'
    clear F0 N0
    k_lt l'
    k_sweep
    (try dsimp only)
    k_steps
    refine Stop.out ?_
    k_dflt (refine LCg.Assign_ListComp_U (F₀ := by k_asm) (by rfl) (by with_unfolding_all rfl) (by with_unfolding_all rfl) (by decide) (by rfl) (by decide) (by rfl) (by rfl) (by rfl) ?_)
    k_sweep
    (try dsimp only)
    (with_reducible rename StrsAre _ (List.map st ([] :: na)) => sna)
    (with_reducible rename StrsAre _ (List.map st ([] :: nb)) => snb)
    k_steps
    refine Stop.out ?_
    k_sweep
    (try dsimp only)
    k_dflt (refine LCt.ListComp_T (F₀ := by k_asm) (by with_unfolding_all rfl) (by decide) (by rfl) (by decide) (by rfl) ?_)
    k_steps
    refine Stop.out ?_
    (with_reducible rename Fr _ _ _ _ => Fna0)
    (with_reducible rename News _ _ _ _ => Nna0)
    refine' LCt.CompSrcT.ledger ?vna1 Fna0 Nna0 ?vna4 ?vna5 (fun g9 => ?vna6)
    case vna1 => exact rfl
    case vna4 => k_mem
    case vna5 => rw [List.size_toArray, sna.length, sizeLine_eq, List.length_map, List.length_cons]; (first | lia | omega)
    refine restT_inv (fun i ys nw => nw = _ ∧ StrsAre ys (((([] :: na).take i).filter fun x => decide (x ≠ [])).map st)) ?una1 ?una2 _ 0 [] _ (Nat.zero_add _) ⟨rfl, .nil⟩
    case una1 =>
      rintro i ys nw v hi' ⟨rfl, hy⟩ hv
      obtain ⟨x, t, hxi, rfl⟩ := strs_at sna hv
      have htk := keep_step hxi
      intro I1 oI1 C1 oC1 D1 m1 h3 tk3 E3 hC1 hx1 F3 N3 off3 ne3
      clear Fna0 Nna0
      (try dsimp only)
      by_cases hx0 : x = []
      · subst hx0
        k_steps
        refine Stop.out ?_
        refine LCg.CompEnd.intro F3 N3 _ (fun p hp => hp) off3 (.inr ⟨_, by k_mem, rfl, _, rfl⟩) ⟨rfl, ?_⟩
        rw [htk, if_pos rfl, List.append_nil]
        exact hy
      · have hmem : x ∈ na := by
          rcases List.mem_cons.mp (List.mem_of_getElem? hxi) with e | e
          · exact absurd e hx0
          · exact e
        have hx4 : x.length ≤ 4000 := by
          have := mem_flat hmem
          (first | lia | omega)
        have hdot := not_dot (hna x hmem).2
        k_steps
        refine Stop.out ?_
        refine LCg.CompEnd.intro F3 N3 _ (fun p hp => hp) off3 (.inr ⟨_, by k_mem, rfl, _, rfl⟩) ⟨rfl, ?_⟩
        rw [htk, if_neg hx0, List.map_append]
        exact hy.append' (.cons _ _ .nil)
    rintro ysna nw ⟨rfl, yna⟩
    rw [List.size_toArray, sna.length, List.length_map, List.take_length, keep_names fun x hx => (hna x hx).1] at yna
    intro Dna hna3 tkna3 Fna3 Nna3 offna3
    clear Fna0 Nna0
    (try dsimp only)
    k_steps
    refine Stop.out ?_
    k_sweep
    (try dsimp only)
    k_dflt (refine LCt.ListComp_T (F₀ := by k_asm) (by with_unfolding_all rfl) (by decide) (by rfl) (by decide) (by rfl) ?_)
    k_steps
    refine Stop.out ?_
    (with_reducible rename Fr _ _ _ _ => Fnb0)
    (with_reducible rename News _ _ _ _ => Nnb0)
    refine' LCt.CompSrcT.ledger ?vnb1 Fnb0 Nnb0 ?vnb4 ?vnb5 (fun g9 => ?vnb6)
    case vnb1 => exact rfl
    case vnb4 => k_mem
    case vnb5 => rw [List.size_toArray, snb.length, sizeLine_eq, List.length_map, List.length_cons]; (first | lia | omega)
    refine restT_inv (fun i ys nw => nw = _ ∧ StrsAre ys (((([] :: nb).take i).filter fun x => decide (x ≠ [])).map st)) ?unb1 ?unb2 _ 0 [] _ (Nat.zero_add _) ⟨rfl, .nil⟩
    case unb1 =>
      rintro i ys nw v hi' ⟨rfl, hy⟩ hv
      obtain ⟨x, t, hxi, rfl⟩ := strs_at snb hv
      have htk := keep_step hxi
      intro I1 oI1 C1 oC1 D1 m1 h3 tk3 E3 hC1 hx1 F3 N3 off3 ne3
      clear Fnb0 Nnb0
      (try dsimp only)
      by_cases hx0 : x = []
      · subst hx0
        k_steps
        refine Stop.out ?_
        refine LCg.CompEnd.intro F3 N3 _ (fun p hp => hp) off3 (.inr ⟨_, by k_mem, rfl, _, rfl⟩) ⟨rfl, ?_⟩
        rw [htk, if_pos rfl, List.append_nil]
        exact hy
      · have hmem : x ∈ nb := by
          rcases List.mem_cons.mp (List.mem_of_getElem? hxi) with e | e
          · exact absurd e hx0
          · exact e
        have hx4 : x.length ≤ 4000 := by
          have := mem_flat hmem
          (first | lia | omega)
        have hdot := not_dot (hnb x hmem).2
        k_steps
        refine Stop.out ?_
        refine LCg.CompEnd.intro F3 N3 _ (fun p hp => hp) off3 (.inr ⟨_, by k_mem, rfl, _, rfl⟩) ⟨rfl, ?_⟩
        rw [htk, if_neg hx0, List.map_append]
        exact hy.append' (.cons _ _ .nil)
    rintro ysnb nw ⟨rfl, ynb⟩
    rw [List.size_toArray, snb.length, List.length_map, List.take_length, keep_names fun x hx => (hnb x hx).1] at ynb
    intro Dnb hnb3 tknb3 Fnb3 Nnb3 offnb3
    clear Fnb0 Nnb0
    (try dsimp only)
    k_steps
    refine Stop.out ?_
    k_sweep
    (with_reducible rename Fr _ _ _ _ => F6)
    (with_reducible rename News _ _ _ _ => N6)
    refine' min_two (r := lexN true nb na) ?x1 F6 N6 ?x4 ?x5 ?x6
    case x1 => exact rfl
    case x4 => k_mem
    case x5 =>
      intro s' Q' E' N' hq
      refine rc_lex (lt := true) (N' _ (.tail _ (.head _))).1 (N' _ (.tail _ (.tail _ (.head _)))).1 ynb yna (by ktr_units) ?_
      rw [lex_st]
      exact hq
    clear F6 N6
    intro h7 tk7 F7 N7
    k_steps
    refine Stop.out ?_
    k_sweep
    (with_reducible rename Fr _ _ _ _ => F6)
    (with_reducible rename News _ _ _ _ => N6)
    refine' max_two (r := lexN false nb na) ?w1 F6 N6 ?w4 ?w5 ?w6
    case w1 => exact rfl
    case w4 => k_mem
    case w5 =>
      intro s' Q' E' N' hq
      refine rc_lex (lt := false) (N' _ (.tail _ (.head _))).1 (N' _ (.tail _ (.tail _ (.head _)))).1 ynb yna (by ktr_units) ?_
      rw [lex_st]
      exact hq
    clear F6 N6
    intro h8 tk8 F8 N8
    obtain ⟨e1, e2⟩ := min_max na nb
    obtain ⟨A1, ys1, p1, p2, p3⟩ := pick_mem N8 (.tail _ (.head _)) (.tail _ (.tail _ (.head _))) yna ynb (lexN true nb na)
    obtain ⟨A2, ys2, q1, q2, q3⟩ := pick_mem N8 (.tail _ (.head _)) (.tail _ (.tail _ (.head _))) yna ynb (lexN false nb na)
    have o1 := pick_or (lexN true nb na) na nb
    have o2 := pick_or (lexN false nb na) na nb
    rw [p1] at F8
    rw [q1]
    generalize (if lexN true nb na = true then nb else na) = s1 at p2 e1 e2 o1
    generalize (if lexN false nb na = true then nb else na) = s2 at q2 e1 e2 o2
    have b1 : s1.flatten.length + s1.length ≤ 1000 := by rcases o1 with rfl | rfl <;> assumption
    have b2 : s2.flatten.length + s2.length ≤ 1000 := by rcases o2 with rfl | rfl <;> assumption
    have z1 : s1.length ≤ 4000 := Nat.le_trans (Nat.le_trans (Nat.le_add_left _ _) b1) (by decide)
    have z2 : s2.length ≤ 4000 := Nat.le_trans (Nat.le_trans (Nat.le_add_left _ _) b2) (by decide)
    clear o1 o2 p1 q1
    k_steps
    refine Stop.out ?_
    k_sweep
    (with_reducible rename Fr _ _ _ _ => F9)
    (with_reducible rename News _ _ _ _ => N9)
    have N10 := shrink3 N9 p3 q3 (.tail _ (.tail _ (.tail _ (.tail _ (.tail _ (.tail _ (.tail _ (.tail _ (.tail _ (.head _)))))))))) (fun q hq => .tail _ (.tail _ (.tail _ (.tail _ (.tail _ (.tail _ (.tail _ (.tail _ (.tail _ (.tail _ hq))))))))))
    clear N9 p3 q3 offnb3 offna3 yna ynb sna snb
    refine' ktu_enum ?e1 F9 N10 (.head _) ?e5 ?e6 ?e7 ?e8
    case e1 => exact rfl
    case e5 => exact rfl
    case e6 => exact rfl
    case e7 => exact rfl
    intro I hI
    refine items_inv (CpI s1 s2 _ _) ?turn ?done (cp_start p2 rfl rfl)
    case turn =>
      intro a r m' nw v h1 tk1 hJ hvI F1
      refine fold_G ?_
      intro G9
      obtain ⟨i, x, vi, vc, dv', T, t, u, rfl, hT, hr, hi', hlt, hxi, rfl, rfl, ht⟩ := cp_cons hJ hvI
      clear hJ hvI F9 N10
      refine AllObj.cons (fun oE hoE => AllObj.cons (fun oI hoI => AllObj.nil (fun N1 => ?_)))
      simp only [List.cons_append, List.nil_append] at N1
      have hl2 := e2 i hlt ht
      have hle := Nat.le_of_lt hlt
      by_cases hxy : s2.getD i [] = x
      · have hcmp : (st x == st (s2.getD i [])) = true := by rw [hxy]; exact beq_self_eq_true _
        (try dsimp only)
        (repeat (first | (walk1; (try dsimp only)) | (dsimp only; walk1)))
        refine Stop.out ?_
        refine' cp_next (x := x) ?f1 ?f2 (.tail _ (.head _)) (.head _) (fun q hq => .tail _ (.tail _ hq)) hI (fun q hq => by rw [List.mem_singleton.mp hq]; exact .head _) hr hi' hlt hxi hxy hl2 ht
        case f1 => k_asm
        case f2 => k_asm
      · have hcmp : (st x == st (s2.getD i [])) = false := by rw [st_beq]; exact decide_eq_false fun e => hxy e.symm
        (try dsimp only)
        (repeat (first | (walk1; (try dsimp only)) | (dsimp only; walk1)))
        refine Stop.out ?_
        have ec : cpre na nb = s1.take i := by
          have hy2 : s2[i]? = some (s2.getD i []) := by rw [List.getElem?_eq_getElem hl2]; simp [List.getD, hl2]
          rw [← e1]
          exact cpre_at s1 s2 i x _ hxi hy2 (fun e => hxy e.symm) ht
        rw [ec] at hcp hret
        have zt : (s1.take i).flatten.length + (s1.take i).length ≤ 1000 := by
          have h1 := flat_take s1 i
          have h2 : (s1.take i).length ≤ s1.length := List.length_take_le' _ _
          exact Nat.le_trans (Nat.add_le_add h1 h2) b1
        have zt4 := Nat.le_trans zt (by decide : 1000 ≤ 4000)
        have zg := glue_le hcp zt
        refine unr_brk ?_
        (repeat (first | (walk1; (try dsimp only)) | (dsimp only; walk1)))
        k_steps
        refine' hret _ _ _ ?g1 ?g2
        case g1 => k_asm
        case g2 => exact nb_sub (by k_asm) (fun q hq => .tail _ (.tail _ (.tail _ (.tail _ (.tail _ (.tail _ hq))))))
    case done =>
      intro m' nw h1 tk1 hJ F1 N1
      obtain ⟨vi, vc, rfl, rfl, ht⟩ := cp_nil hJ
      clear hJ F9 N10
      have ec : cpre na nb = s1 := e1.symm.trans (cpre_end s1 s2 ht)
      rw [ec] at hcp hret
      have zt4 := Nat.le_trans b1 (by decide : 1000 ≤ 4000)
      have zg := glue_le hcp b1
      try dsimp only
      (repeat (first | (walk1; (try dsimp only)) | (dsimp only; walk1)))
      k_steps
      refine' hret _ _ _ ?g3 ?g4
      case g3 => k_asm
      case g4 => exact nb_sub (by k_asm) (fun q hq => .tail _ (.tail _ (.tail _ hq)))
end

end Mine
end
section
open PySem PySem.W PyProof.Rows
set_option maxRecDepth 100000
namespace Mine
/-- brackets opened less brackets shut -/
noncomputable def bal (p : List Nat) : Int := (p.count 40 : Nat) - (p.count 41 : Nat)
theorem bal_app (p q : List Nat) : bal (p ++ q) = bal p + bal q := by unfold bal; simp only [List.count_append]; (first | lia | omega)
/-- the tokens of pairs (brackets, word) and of the brackets behind -/
noncomputable def toks : List (List Nat × List Nat) → List Nat → List (List Nat)
  | [], t => [t]
  | (p, w) :: r, t => p :: w :: toks r t
/-- the row's pairs, behind the brackets pre -/
noncomputable def pairs : Nat → List Nat → List Int → List (List Nat × List Nat) × List Nat
  | 0, pre, _ => ([], pre)
  | k + 1, pre, ns => if ns = [] then ([], pre) else
    ((pairs k (pre ++ [40]) (ns.take (ns.idxOf (minI ns)))).1 ++ ((pairs k (pre ++ [40]) (ns.take (ns.idxOf (minI ns)))).2, apL (minI ns).toNat) :: (pairs k [] (ns.drop (ns.idxOf (minI ns) + 1))).1,
      (pairs k [] (ns.drop (ns.idxOf (minI ns) + 1))).2 ++ [41])
/-- the row's depths -/
noncomputable def depF : Int → Nat → List Int → List Int
  | _, 0, _ => []
  | d, k + 1, ns => if ns = [] then [] else depF (d + 1) k (ns.take (ns.idxOf (minI ns))) ++ (d + 1) :: depF (d + 1) k (ns.drop (ns.idxOf (minI ns) + 1))
theorem minI_mem {ns : List Int} (hn : ns ≠ []) : minI ns ∈ ns := by
  unfold minI
  cases e : ns.min? with
  | none => exact absurd (List.min?_eq_none_iff.mp e) hn
  | some M => exact (List.min?_eq_some_iff.mp e).1
theorem minI_le {ns : List Int} {a : Int} (ha : a ∈ ns) : minI ns ≤ a := by
  unfold minI
  cases e : ns.min? with
  | none => rw [List.min?_eq_none_iff.mp e] at ha; cases ha
  | some M => exact (List.min?_eq_some_iff.mp e).2 a ha
theorem row_split {ns : List Int} (h : ns ≠ []) : ns = ns.take (ns.idxOf (minI ns)) ++ minI ns :: ns.drop (ns.idxOf (minI ns) + 1) ∧ ns.idxOf (minI ns) < ns.length := by
  have hm := minI_mem h
  have hl := List.idxOf_lt_length_of_mem hm
  have e : ns[ns.idxOf (minI ns)] = minI ns := List.getElem_idxOf hl
  refine ⟨?_, hl⟩
  conv => lhs; rw [← List.take_append_drop (ns.idxOf (minI ns)) ns, List.drop_eq_getElem_cons hl, e]
noncomputable def flatP (r : List (List Nat × List Nat)) : List Nat := (r.map fun x => x.1 ++ x.2).flatten
theorem flatP_app (r r' : List (List Nat × List Nat)) : flatP (r ++ r') = flatP r ++ flatP r' := by simp [flatP]
theorem flatP_cons (p w : List Nat) (r : List (List Nat × List Nat)) : flatP ((p, w) :: r) = p ++ (w ++ flatP r) := by simp [flatP]
theorem toks_flat : ∀ (r : List (List Nat × List Nat)) (t : List Nat), (toks r t).flatten = flatP r ++ t
  | [], t => by simp [toks, flatP]
  | (p, w) :: r, t => by simp [toks, toks_flat r t, flatP_cons]
theorem toks_len : ∀ (r : List (List Nat × List Nat)) (t : List Nat), (toks r t).length = 2 * r.length + 1
  | [], t => rfl
  | (p, w) :: r, t => by rw [toks, List.length_cons, List.length_cons, toks_len r t, List.length_cons]; (first | lia | omega)
theorem pairs_flat : ∀ (k : Nat) (pre : List Nat) (ns : List Int), flatP (pairs k pre ns).1 ++ (pairs k pre ns).2 = pre ++ lineF k ns
  | 0, pre, ns => by simp [pairs, lineF, flatP]
  | k + 1, pre, ns => by
    by_cases h : ns = []
    · simp [pairs, lineF, h, flatP]
    · have h1 := pairs_flat k (pre ++ [40]) (ns.take (ns.idxOf (minI ns)))
      have h2 := pairs_flat k [] (ns.drop (ns.idxOf (minI ns) + 1))
      rw [List.nil_append] at h2
      rw [pairs, if_neg h, lineF_cons h, flatP_app, flatP_cons, ← h2]
      calc _ = (flatP (pairs k (pre ++ [40]) (ns.take (ns.idxOf (minI ns)))).1 ++ (pairs k (pre ++ [40]) (ns.take (ns.idxOf (minI ns)))).2) ++ (apL (minI ns).toNat ++ (flatP (pairs k [] (ns.drop (ns.idxOf (minI ns) + 1))).1 ++ (pairs k [] (ns.drop (ns.idxOf (minI ns) + 1))).2) ++ [41]) := by simp [List.append_assoc]
        _ = _ := by rw [h1]; simp [List.append_assoc]
theorem pairs_len : ∀ (k : Nat) (pre : List Nat) (ns : List Int), ns.length ≤ k → (pairs k pre ns).1.length = ns.length
  | 0, pre, ns, hk => by
    have : ns = [] := List.eq_nil_of_length_eq_zero (by (first | lia | omega))
    subst this; rfl
  | k + 1, pre, ns, hk => by
    by_cases h : ns = []
    · simp [pairs, h]
    · obtain ⟨_, hl⟩ := row_split h
      have h1 := pairs_len k (pre ++ [40]) (ns.take (ns.idxOf (minI ns))) (by rw [List.length_take]; (first | lia | omega))
      have h2 := pairs_len k [] (ns.drop (ns.idxOf (minI ns) + 1)) (by rw [List.length_drop]; (first | lia | omega))
      rw [List.length_take] at h1
      rw [List.length_drop] at h2
      rw [pairs, if_neg h, List.length_append, List.length_cons, h1, h2]; (first | lia | omega)
theorem pairs_words : ∀ (k : Nat) (pre : List Nat) (ns : List Int), ns.length ≤ k → (pairs k pre ns).1.map (·.2) = ns.map fun n => apL n.toNat
  | 0, pre, ns, hk => by
    have : ns = [] := List.eq_nil_of_length_eq_zero (by (first | lia | omega))
    subst this; rfl
  | k + 1, pre, ns, hk => by
    by_cases h : ns = []
    · simp [pairs, h]
    · obtain ⟨e, hl⟩ := row_split h
      have h1 := pairs_words k (pre ++ [40]) (ns.take (ns.idxOf (minI ns))) (by rw [List.length_take]; (first | lia | omega))
      have h2 := pairs_words k [] (ns.drop (ns.idxOf (minI ns) + 1)) (by rw [List.length_drop]; (first | lia | omega))
      rw [pairs, if_neg h, List.map_append, List.map_cons, h1, h2]
      conv => rhs; rw [e, List.map_append, List.map_cons]
/-- brackets and words, none empty -/
noncomputable def PairsOk (r : List (List Nat × List Nat)) : Prop := ∀ x ∈ r, x.1 ≠ [] ∧ (∀ c ∈ x.1, par c) ∧ x.2 ≠ [] ∧ ∀ c ∈ x.2, lett c
theorem pairs_ok : ∀ (k : Nat) (pre : List Nat) (ns : List Int), ns.length ≤ k → (∀ x ∈ ns, 0 < x) → (∀ c ∈ pre, par c) →
    PairsOk (pairs k pre ns).1 ∧ (∀ c ∈ (pairs k pre ns).2, par c) ∧ (pre ≠ [] ∨ ns ≠ [] → (pairs k pre ns).2 ≠ [])
  | 0, pre, ns, hk, hp, hc => by
    have : ns = [] := List.eq_nil_of_length_eq_zero (by (first | lia | omega))
    subst this
    refine ⟨fun x hx => (by cases hx), hc, fun h => ?_⟩
    rcases h with h | h
    · exact h
    · exact absurd rfl h
  | k + 1, pre, ns, hk, hp, hc => by
    by_cases h : ns = []
    · subst h
      rw [pairs, if_pos rfl]
      refine ⟨fun x hx => (by cases hx), hc, fun h => ?_⟩
      rcases h with h | h
      · exact h
      · exact absurd rfl h
    · obtain ⟨e, hl⟩ := row_split h
      obtain ⟨a1, a2, a3⟩ := pairs_ok k (pre ++ [40]) (ns.take (ns.idxOf (minI ns))) (by rw [List.length_take]; (first | lia | omega)) (fun x hx => hp x (List.mem_of_mem_take hx)) (fun c hc' => by
        rcases List.mem_append.mp hc' with h | h
        · exact hc c h
        · rw [List.mem_singleton.mp h]; exact .inl rfl)
      obtain ⟨b1, b2, b3⟩ := pairs_ok k [] (ns.drop (ns.idxOf (minI ns) + 1)) (by rw [List.length_drop]; (first | lia | omega)) (fun x hx => hp x (List.mem_of_mem_drop hx)) (fun c hc' => by cases hc')
      have hpos := hp _ (minI_mem h)
      rw [pairs, if_neg h]
      refine ⟨fun x hx => ?_, fun c hc' => ?_, fun _ => by simp⟩
      · rcases List.mem_append.mp hx with hx | hx
        · exact a1 x hx
        · rcases List.mem_cons.mp hx with rfl | hx
          · exact ⟨a3 (.inl (by simp)), a2, apL_ne (by (first | lia | omega)), apL_lett _⟩
          · exact b1 x hx
      · rcases List.mem_append.mp hc' with h | h
        · exact b2 c h
        · rw [List.mem_singleton.mp h]; exact .inr rfl
theorem toks_alt : ∀ {r : List (List Nat × List Nat)} {t : List Nat}, PairsOk r → (∀ c ∈ t, par c) → t ≠ [] → Alt false (toks r t)
  | [], t, _, h1, h2 => .last h2 h1
  | (p, w) :: r, t, h, h1, h2 => by
    obtain ⟨q1, q2, q3, q4⟩ := h _ (.head _)
    exact .pars q1 q2 (.letts q3 q4 (toks_alt (fun x hx => h x (.tail _ hx)) h1 h2))
/-- the depths behind each run of brackets -/
noncomputable def scan : Int → List (List Nat × List Nat) → List Int
  | _, [] => []
  | d, (p, _) :: r => (d + bal p) :: scan (d + bal p) r
noncomputable def endD : Int → List (List Nat × List Nat) → Int
  | d, [] => d
  | d, (p, _) :: r => endD (d + bal p) r
theorem scan_app : ∀ (d : Int) (r r' : List (List Nat × List Nat)), scan d (r ++ r') = scan d r ++ scan (endD d r) r'
  | d, [], r' => rfl
  | d, (p, w) :: r, r' => by simp only [List.cons_append, scan, endD, scan_app _ r r']
theorem endD_app : ∀ (d : Int) (r r' : List (List Nat × List Nat)), endD d (r ++ r') = endD (endD d r) r'
  | d, [], r' => rfl
  | d, (p, w) :: r, r' => by simp only [List.cons_append, endD, endD_app _ r r']
theorem scan_pairs : ∀ (k : Nat) (pre : List Nat) (ns : List Int) (d : Int), scan d (pairs k pre ns).1 = depF (d + bal pre) k ns ∧ endD d (pairs k pre ns).1 + bal (pairs k pre ns).2 = d + bal pre
  | 0, pre, ns, d => ⟨rfl, rfl⟩
  | k + 1, pre, ns, d => by
    by_cases h : ns = []
    · subst h
      rw [pairs, if_pos rfl, depF, if_pos rfl]
      exact ⟨rfl, rfl⟩
    · obtain ⟨a1, a2⟩ := scan_pairs k (pre ++ [40]) (ns.take (ns.idxOf (minI ns))) d
      have e40 : bal (pre ++ [40]) = bal pre + 1 := by rw [bal_app]; rfl
      rw [e40] at a1 a2
      have e1 : d + (bal pre + 1) = d + bal pre + 1 := by (first | lia | omega)
      rw [e1] at a1 a2
      obtain ⟨b1, b2⟩ := scan_pairs k [] (ns.drop (ns.idxOf (minI ns) + 1)) (d + bal pre + 1)
      have e0 : d + bal pre + 1 + bal [] = d + bal pre + 1 := by show _ + (0 : Int) = _; (first | lia | omega)
      rw [e0] at b1 b2
      rw [pairs, if_neg h, depF, if_neg h]
      dsimp only
      rw [scan_app, endD_app, scan, endD, a2, a1, b1]
      refine ⟨rfl, ?_⟩
      rw [bal_app, ← Int.add_assoc, b2]
      show _ + (-1 : Int) = _
      (first | lia | omega)
theorem toks_fold : ∀ (r : List (List Nat × List Nat)) (t : List Nat) (left deps : List Int) (last : Int) (told : List PySem.Str), PairsOk r → (∀ c ∈ t, par c) → t ≠ [] →
    ∃ left', (toks r t).foldl rdStep (left, last, deps, told) = (left', endD last r + bal t, deps ++ scan last r, told ++ (r.map (·.2)).map st) ∧ left' ++ [endD last r + bal t] = left ++ [last] ++ scan last r ++ [endD last r + bal t]
  | [], t, left, deps, last, told, _, h1, h2 => by
    refine ⟨left ++ [last], ?_, ?_⟩
    · cases t with
      | nil => exact absurd rfl h2
      | cons c t =>
        have hc : c = 40 ∨ c = 41 := h1 c (.head _)
        rw [toks, List.foldl_cons, List.foldl_nil, rdStep, List.headD_cons, if_pos hc]
        simp only [scan, endD, bal, List.append_nil, List.map_nil]
        congr 2
        (first | lia | omega)
    · simp [scan, endD]
  | (p, w) :: r, t, left, deps, last, told, h, h1, h2 => by
    obtain ⟨q1, q2, q3, q4⟩ := h _ (.head _)
    obtain ⟨left', e1, e2⟩ := toks_fold r t (left ++ [last]) (deps ++ [last + bal p]) (last + bal p) (told ++ [st w]) (fun x hx => h x (.tail _ hx)) h1 h2
    refine ⟨left', ?_, ?_⟩
    · rw [toks, List.foldl_cons, List.foldl_cons]
      have s1 : rdStep (left, last, deps, told) p = (left ++ [last], last + bal p, deps, told) := by
        cases p with
        | nil => exact absurd rfl q1
        | cons c p =>
          have hc : c = 40 ∨ c = 41 := q2 c (.head _)
          rw [rdStep, List.headD_cons, if_pos hc]
          simp only [bal]
          congr 2
          (first | lia | omega)
      have s2 : rdStep (left ++ [last], last + bal p, deps, told) w = (left ++ [last], last + bal p, deps ++ [last + bal p], told ++ [st w]) := by
        cases w with
        | nil => exact absurd rfl q3
        | cons c w =>
          have hc : ¬ (c = 40 ∨ c = 41) := by
            obtain ⟨_, h2⟩ := q4 c (.head _)
            have := (q4 c (.head _)).1
            (first | lia | omega)
          rw [rdStep, List.headD_cons, if_neg hc]
      rw [s1, s2, e1]
      simp only [scan, endD, List.append_assoc, List.map_cons, List.cons_append, List.nil_append]
    · rw [endD, e2]
      simp only [scan, List.append_assoc, List.cons_append, List.nil_append]
/-- the reader's answer for the line of a row -/
theorem read_line {k : Nat} {ns : List Int} (hk : ns.length ≤ k) (hp : ∀ x ∈ ns, 0 < x) (hne : ns ≠ []) :
    ∃ tks left, Alt false tks ∧ lineF k ns = tks.flatten ∧ tks.length = 2 * ns.length + 1 ∧
      tks.foldl rdStep ([], 0, [], []) = (left, 0, depF 0 k ns, (ns.map fun n => apL n.toNat).map st) ∧ left ++ [0] = 0 :: (depF 0 k ns ++ [0]) := by
  refine fold_G ?_
  intro G9
  obtain ⟨a1, a2, a3⟩ := pairs_ok k [] ns hk hp (fun c hc => by cases hc)
  refine fold_G ?_
  intro G9
  obtain ⟨b1, b2⟩ := scan_pairs k [] ns 0
  have e0 : (0 : Int) + bal [] = 0 := rfl
  rw [e0] at b1 b2
  obtain ⟨left, c1, c2⟩ := toks_fold (pairs k [] ns).1 (pairs k [] ns).2 [] [] 0 [] a1 a2 (a3 (.inr hne))
  rw [b1, b2, pairs_words k [] ns hk] at c1
  rw [b1, b2] at c2
  refine ⟨toks (pairs k [] ns).1 (pairs k [] ns).2, left, toks_alt a1 a2 (a3 (.inr hne)), ?_, ?_, ?_, ?_⟩
  · rw [toks_flat, pairs_flat, List.nil_append]
  · rw [toks_len, pairs_len k [] ns hk]
  · rw [c1, List.nil_append, List.nil_append]
  · rw [c2]; rfl
theorem depF_len : ∀ (k : Nat) (ns : List Int) (d : Int), ns.length ≤ k → (depF d k ns).length = ns.length
  | 0, ns, d, hk => by
    have : ns = [] := List.eq_nil_of_length_eq_zero (by (first | lia | omega))
    subst this; rfl
  | k + 1, ns, d, hk => by
    by_cases h : ns = []
    · subst h; rw [depF, if_pos rfl]
    · obtain ⟨_, hl⟩ := row_split h
      have h1 := depF_len k (ns.take (ns.idxOf (minI ns))) (d + 1) (by rw [List.length_take]; (first | lia | omega))
      have h2 := depF_len k (ns.drop (ns.idxOf (minI ns) + 1)) (d + 1) (by rw [List.length_drop]; (first | lia | omega))
      rw [List.length_take] at h1
      rw [List.length_drop] at h2
      rw [depF, if_neg h, List.length_append, List.length_cons, h1, h2]; (first | lia | omega)
theorem getD_app_l {a b : List Int} {i : Nat} (h : i < a.length) : (a ++ b).getD i 0 = a.getD i 0 := by simp [List.getD, List.getElem?_append_left h]
theorem getD_app_r {a b : List Int} {i : Nat} : (a ++ b).getD (a.length + i) 0 = b.getD i 0 := by simp [List.getD, List.getElem?_append_right]
theorem tree_of {f g : Nat → Int} : ∀ (k : Nat) (ns : List Int) (d : Int) (lo : Nat), ns.length ≤ k → (∀ i, i < ns.length → f (lo + i) = ns.getD i 0) → (∀ i, i < ns.length → g (lo + i) = (depF d k ns).getD i 0) → Tree f g lo (lo + ns.length) d
  | 0, ns, d, lo, hk, _, _ => by
    have : ns = [] := List.eq_nil_of_length_eq_zero (by (first | lia | omega))
    subst this; exact .nil
  | k + 1, ns, d, lo, hk, hf, hg => by
    by_cases h : ns = []
    · subst h; exact .nil
    · obtain ⟨e, hl⟩ := row_split h
      rw [depF, if_neg h] at hg
      have la : (ns.take (ns.idxOf (minI ns))).length = ns.idxOf (minI ns) := by rw [List.length_take]; (first | lia | omega)
      have lb : (ns.drop (ns.idxOf (minI ns) + 1)).length = ns.length - (ns.idxOf (minI ns) + 1) := by rw [List.length_drop]
      have lda := depF_len k (ns.take (ns.idxOf (minI ns))) (d + 1) (by (first | lia | omega))
      generalize hi : ns.idxOf (minI ns) = i at *
      have fi : f (lo + i) = minI ns := by
        rw [hf i hl]
        conv => lhs; rw [e]
        have := getD_app_r (a := ns.take i) (b := minI ns :: ns.drop (i + 1)) (i := 0)
        rw [la, Nat.add_zero i] at this
        exact this
      refine .node (i := lo + i) (Nat.le_add_right _ _) (by (first | lia | omega)) (fun j j1 j2 => ?_) ?_ ?_ ?_
      · rw [fi]
        have := hf (j - lo) (by (first | lia | omega))
        rw [show lo + (j - lo) = j by (first | lia | omega)] at this
        rw [this]
        have hj : j - lo < ns.length := by (first | lia | omega)
        refine minI_le ?_
        simp [List.getD, hj]
      · rw [hg i hl]
        have := getD_app_r (a := depF (d + 1) k (ns.take i)) (b := (d + 1) :: depF (d + 1) k (ns.drop (i + 1))) (i := 0)
        rw [lda, la, Nat.add_zero i] at this
        exact this
      · have := tree_of (f := f) (g := g) k (ns.take i) (d + 1) lo (by (first | lia | omega)) (fun j hj => ?_) (fun j hj => ?_)
        · rw [la] at this; exact this
        · rw [hf j (by (first | lia | omega))]
          conv => lhs; rw [e]
          exact getD_app_l hj
        · rw [hg j (by (first | lia | omega))]
          exact getD_app_l (by (first | lia | omega))
      · have := tree_of (f := f) (g := g) k (ns.drop (i + 1)) (d + 1) (lo + i + 1) (by (first | lia | omega)) (fun j hj => ?_) (fun j hj => ?_)
        · rw [lb] at this
          rw [show lo + i + 1 + (ns.length - (i + 1)) = lo + ns.length by (first | lia | omega)] at this
          exact this
        · rw [show lo + i + 1 + j = lo + (i + (j + 1)) by (first | lia | omega), hf (i + (j + 1)) (by (first | lia | omega))]
          conv => lhs; rw [e]
          have := getD_app_r (a := ns.take i) (b := minI ns :: ns.drop (i + 1)) (i := j + 1)
          rw [la] at this
          rw [this]; rfl
        · rw [show lo + i + 1 + j = lo + (i + (j + 1)) by (first | lia | omega), hg (i + (j + 1)) (by (first | lia | omega))]
          have := getD_app_r (a := depF (d + 1) k (ns.take i)) (b := (d + 1) :: depF (d + 1) k (ns.drop (i + 1))) (i := j + 1)
          rw [lda, la] at this
          rw [this]; rfl
theorem cpre_map {nm : Nat → List Nat} : ∀ {a b : List Nat}, (∀ x ∈ a, ∀ y ∈ b, nm x = nm y → x = y) → cpre (a.map nm) (b.map nm) = (cpreI a b).map nm
  | [], [], _ => rfl
  | [], _ :: _, _ => rfl
  | _ :: _, [], _ => rfl
  | x :: a, y :: b, h => by
    rw [List.map_cons, List.map_cons, cpre, cpreI]
    by_cases e : x = y
    · subst e
      rw [if_pos rfl, if_pos rfl, List.map_cons, cpre_map fun x hx y hy => h x (.tail _ hx) y (.tail _ hy)]
    · rw [if_neg e, if_neg fun e' => e (h x (.head _) y (.head _) e')]; rfl
/-- what the law needs of the paths -/
theorem plain_law {k : Nat} {ns : List Int} (hk : ns.length ≤ k) (hp : ∀ x ∈ ns, 0 < x) (hd : ns.Nodup) :
    ∃ R : Nat → List Nat, (∀ p, p < ns.length → (∀ o, o ∈ R p ↔ o < (depF 0 k ns).length ∧ ancB (depF 0 k ns) p o = true) ∧ (R p).Pairwise fun a b => (depF 0 k ns).getD a 0 < (depF 0 k ns).getD b 0) ∧
    ∀ e l, e ≤ l → l < ns.length → ∃ pre m, m < ns.length ∧ cpre ((R e).map fun o => (ns.map fun n => apL n.toNat).getD o []) ((R l).map fun o => (ns.map fun n => apL n.toNat).getD o []) = pre ++ [apL (ns.getD m 0).toNat] ∧
      ns.getD m 0 = minI (strt ns e l) ∧ (pre.length : Int) + 1 = minI (strt (depF 0 k ns) e l) := by
  have ln := depF_len k ns 0 hk
  have T := tree_of (f := fun i => ns.getD i 0) (g := fun i => (depF 0 k ns).getD i 0) k ns 0 0 hk (fun i _ => by rw [Nat.zero_add]) (fun i _ => by rw [Nat.zero_add])
  rw [Nat.zero_add] at T
  refine fold_G ?_
  intro G9
  obtain ⟨R, h1, h2⟩ := tree_paths T
  refine ⟨R, fun p hp => ⟨fun o => ?_, (h1 p (Nat.zero_le _) hp).2⟩, fun e l hel hl => ?_⟩
  · rw [(h1 p (Nat.zero_le _) hp).1 o, ancB_iff, ln]
    constructor
    · rintro ⟨_, q1, q2⟩
      exact ⟨q1, fun j _ => q2 j⟩
    · rintro ⟨q1, q2⟩
      exact ⟨Nat.zero_le _, q1, fun j j1 j2 => q2 j (by (first | lia | omega)) j1 j2⟩
  · refine fold_G ?_
    intro G9
    obtain ⟨pre, m, e1, e2, e3, e4, e5, e6⟩ := h2 e l (Nat.zero_le _) hel hl
    have hm : m < ns.length := by (first | lia | omega)
    have nmD : ∀ o, o < ns.length → (ns.map fun n => apL n.toNat).getD o [] = apL (ns.getD o 0).toNat := fun o ho => by simp [List.getD, ho]
    have lt : ∀ p, p < ns.length → ∀ o ∈ R p, o < ns.length := fun p hp o ho => (((h1 p (Nat.zero_le _) hp).1 o).mp ho).2.1
    refine ⟨pre.map fun o => (ns.map fun n => apL n.toNat).getD o [], m, hm, ?_, ?_, ?_⟩
    · rw [cpre_map, e1, List.map_append, List.map_singleton, nmD m hm]
      intro x hx y hy hxy
      have lx := lt e (by (first | lia | omega)) x hx
      have ly := lt l hl y hy
      rw [nmD x lx, nmD y ly] at hxy
      have h3 := apL_inj hxy
      have gx : ns.getD x 0 = ns[x] := by simp [List.getD, lx]
      have gy : ns.getD y 0 = ns[y] := by simp [List.getD, ly]
      have px := hp _ (List.getElem_mem lx)
      have py := hp _ (List.getElem_mem ly)
      rw [gx, gy] at h3
      have : ns[x] = ns[y] := (by (first | lia | omega))
      exact (List.getElem_inj hd).mp this
    · symm
      refine minI_eq ((strt_mem hl).mpr ⟨m, e2, e3, rfl⟩) fun a ha => ?_
      obtain ⟨j, j1, j2, rfl⟩ := (strt_mem hl).mp ha
      exact e4 j j1 j2
    · rw [List.length_map]
      have hl' : l < (depF 0 k ns).length := by (first | lia | omega)
      rw [minI_eq (M := (depF 0 k ns).getD m 0) ((strt_mem hl').mpr ⟨m, e2, e3, rfl⟩) fun a ha => ?_]
      · (first | lia | omega)
      · obtain ⟨j, j1, j2, rfl⟩ := (strt_mem hl').mp ha
        exact e5 j j1 j2
end Mine
end
section
open PySem PySem.W PyProof.Rows PySem.Calls
set_option maxRecDepth 100000
namespace Mine
noncomputable def lawStmt : List PySem.Stmt × Scope := match PySem.Challenge.pw_ik0083_01.main.body.getLast? with
  | some (.FunctionDef _ _ body _ _ _ scope _ _ _) => (body, scope)
  | _ => ([], default)
noncomputable abbrev BODY : List PySem.Stmt := lawStmt.1
noncomputable abbrev SCOPE : Scope := lawStmt.2
noncomputable abbrev envL (L fa : Addr) (cdv : Value) : Env := envOfC (PySem.Str.ofString "law") SCOPE L fa cdv
noncomputable abbrev arL (dp un : Nat) (gd : Option (List Code)) (L fa : Addr) (cdv : Value) (outer : List Env) : Around := { handled := none, depth := dp, frames := some (envL L fa cdv :: outer), guards := gd, units := un }
theorem body_len : BODY.length = 8 := by rfl
end Mine
end
section
open PySem PySem.W PyProof.Rows
set_option maxRecDepth 100000
set_option maxHeartbeats 8000000
namespace Mine
theorem kfLF : (PySem.Challenge.rw_ik0083_01, Mine.K) = (PySem.Challenge.rw_ik0083_01, Mine.K) := by
  k_fill
  rfl
theorem rangeItems_cons {a : Itm} {r : List Itm} {i k : Nat} (h : a :: r = rangeItems i k) : ∃ k', k = k' + 1 ∧ a = .tok (fun t => .int (i : Int) t) ∧ r = rangeItems (i + 1) k' := by
  cases k with
  | zero => cases h
  | succ k =>
    simp only [rangeItems, List.cons.injEq] at h
    exact ⟨k, rfl, h.1, h.2⟩
/-- the inner loop -/
noncomputable def EaI (n : Nat) (b2 : PySem.Str → Option Value) (led : List (Addr × Obj)) (xs : List Itm) (m' : PySem.Str → Option Value) (nw : List (Addr × Obj)) : Prop :=
  ∃ i ve vs, xs = rangeItems i (n - i) ∧ i ≤ n ∧ m' = over "shared" vs (over "early" ve b2) ∧ nw = led
/-- the outer loop -/
noncomputable def LaI (n : Nat) (b2 : PySem.Str → Option Value) (led : List (Addr × Obj)) (xs : List Itm) (m' : PySem.Str → Option Value) (nw : List (Addr × Obj)) : Prop :=
  ∃ i vl ve vs, xs = rangeItems i (n - i) ∧ i ≤ n ∧ m' = over "shared" vs (over "early" ve (over "late" vl b2)) ∧ nw = led
theorem ea_start {n : Nat} {b2 : PySem.Str → Option Value} {led : List (Addr × Obj)} : EaI n b2 led (rangeItems 0 n) b2 led :=
  ⟨0, b2 "early", b2 "shared", rfl, Nat.zero_le _, by
    rw [over_same (x := "early") (b := b2) rfl]
    exact (over_same (x := "shared") (b := b2) rfl).symm, rfl⟩
theorem la_start {n : Nat} {b2 : PySem.Str → Option Value} {led : List (Addr × Obj)} : LaI n b2 led (rangeItems 0 n) b2 led :=
  ⟨0, b2 "late", b2 "early", b2 "shared", rfl, Nat.zero_le _, by
    rw [over_same (x := "late") (b := b2) rfl, over_same (x := "early") (b := b2) rfl]
    exact (over_same (x := "shared") (b := b2) rfl).symm, rfl⟩
theorem ea_cons {n : Nat} {b2 : PySem.Str → Option Value} {led : List (Addr × Obj)} {a : Itm} {r : List Itm} {m' : PySem.Str → Option Value} {nw : List (Addr × Obj)} {v : Value} {h : Heap} (hJ : EaI n b2 led (a :: r) m' nw) (hv : a.Is v h) :
    ∃ i t ve vs, v = .int (i : Nat) t ∧ r = rangeItems (i + 1) (n - (i + 1)) ∧ i < n ∧ m' = over "shared" vs (over "early" ve b2) ∧ nw = led := by
  refine fold_G ?_
  intro G9
  obtain ⟨i, ve, vs, hx, hi, hm, hw⟩ := hJ
  refine fold_G ?_
  intro G9
  obtain ⟨k', e1, e2, e3⟩ := rangeItems_cons hx
  subst e2
  obtain ⟨t, e⟩ := hv
  exact ⟨i, t, ve, vs, e, by rw [e3]; congr 1; (first | lia | omega), by (first | lia | omega), hm, hw⟩
theorem la_cons {n : Nat} {b2 : PySem.Str → Option Value} {led : List (Addr × Obj)} {a : Itm} {r : List Itm} {m' : PySem.Str → Option Value} {nw : List (Addr × Obj)} {v : Value} {h : Heap} (hJ : LaI n b2 led (a :: r) m' nw) (hv : a.Is v h) :
    ∃ i t vl ve vs, v = .int (i : Nat) t ∧ r = rangeItems (i + 1) (n - (i + 1)) ∧ i < n ∧ m' = over "shared" vs (over "early" ve (over "late" vl b2)) ∧ nw = led := by
  refine fold_G ?_
  intro G9
  obtain ⟨i, vl, ve, vs, hx, hi, hm, hw⟩ := hJ
  refine fold_G ?_
  intro G9
  obtain ⟨k', e1, e2, e3⟩ := rangeItems_cons hx
  subst e2
  obtain ⟨t, e⟩ := hv
  exact ⟨i, t, vl, ve, vs, e, by rw [e3]; congr 1; (first | lia | omega), by (first | lia | omega), hm, hw⟩
theorem ea_map {v2 v3 : Value} {a b : Option Value} {b2 : PySem.Str → Option Value} : (fun (y : PySem.Str) => if y = "shared" then some v3 else if y = "early" then some v2 else over "shared" a (over "early" b b2) y) = over "shared" (some v3) (over "early" (some v2) b2) := by
  funext y
  unfold over
  by_cases h1 : y = "shared"
  · subst h1; rfl
  by_cases h2 : y = "early"
  · subst h2; rfl
  simp only [h1, h2, if_false]
theorem la_map {v1 : Value} {v2 v3 a b c : Option Value} {b2 : PySem.Str → Option Value} : over "shared" v3 (over "early" v2 (fun (y : PySem.Str) => if y = "late" then some v1 else over "shared" a (over "early" b (over "late" c b2)) y)) = over "shared" v3 (over "early" v2 (over "late" (some v1) b2)) := by
  funext y
  unfold over
  by_cases h1 : y = "shared"
  · subst h1; rfl
  by_cases h2 : y = "early"
  · subst h2; rfl
  by_cases h3 : y = "late"
  · subst h3; rfl
  simp only [h1, h2, h3, if_false]
theorem ea_next {n i I : Nat} {b2 : PySem.Str → Option Value} {led all : List (Addr × Obj)} {h₀ h' : Heap} {L : Addr} {s₁ : Shared} {tk : Nat} {oI : Obj} {v2 v3 : Value} {a b : Option Value} {r : List Itm} {Q : Flow → Shared → Prop}
    (F : Fr h₀ L h' (fun (y : PySem.Str) => if y = "shared" then some v3 else if y = "early" then some v2 else over "shared" a (over "early" b b2) y)) (N : News h₀ L h' all) (hI : (I, oI) ∈ all) (hsub : ∀ q ∈ led, q ∈ all) (hlt : ∀ q ∈ led, @LT.lt Nat _ q.1 I) (hr : r = rangeItems (i + 1) (n - (i + 1))) (hi : i < n) :
    UnrPostW h₀ L s₁ [(I, oI)] (fun m nw => SubL [] nw ∧ EaI n b2 led r m nw) Q .next { s₁ with heap := h', toks := tk } :=
  turn_end F N (fun q hq => by rw [List.mem_singleton.mp hq]; exact hI) hsub (fun q hq q' hq' => by rw [List.mem_singleton.mp hq']; exact hlt q hq) (fun q hq => by cases hq) ⟨i + 1, some v2, some v3, hr, hi, ea_map, rfl⟩
theorem la_next {n i I : Nat} {b2 : PySem.Str → Option Value} {led all : List (Addr × Obj)} {h₀ h' : Heap} {L : Addr} {s₁ : Shared} {tk : Nat} {oI : Obj} {v1 : Value} {v2 v3 a b c : Option Value} {r : List Itm} {Q : Flow → Shared → Prop}
    (F : Fr h₀ L h' (over "shared" v3 (over "early" v2 (fun (y : PySem.Str) => if y = "late" then some v1 else over "shared" a (over "early" b (over "late" c b2)) y)))) (N : News h₀ L h' all) (hI : (I, oI) ∈ all) (hsub : ∀ q ∈ led, q ∈ all) (hlt : ∀ q ∈ led, @LT.lt Nat _ q.1 I) (hr : r = rangeItems (i + 1) (n - (i + 1))) (hi : i < n) :
    UnrPostW h₀ L s₁ [(I, oI)] (fun m nw => SubL [] nw ∧ LaI n b2 led r m nw) Q .next { s₁ with heap := h', toks := tk } :=
  turn_end F N (fun q hq => by rw [List.mem_singleton.mp hq]; exact hI) hsub (fun q hq q' hq' => by rw [List.mem_singleton.mp hq']; exact hlt q hq) (fun q hq => by cases hq) ⟨i + 1, some v1, v2, v3, hr, hi, la_map, rfl⟩
section
variable {prog : Program} {w : World} {A : Around} {E : Value → Shared → Prop} {s : Shared} {h₀ : Heap} {L : Addr} {m : PySem.Str → Option Value} {news : List (Addr × Obj)}
theorem min_row {D : Addr} {n : Nat} {vs : List Value} {ns : List Int} {Q : Value → Shared → Prop} (hh : A.handled = none) (F : Fr h₀ L s.heap m) (N : News h₀ L s.heap news) (hm : (D, W.listOf (List.toArray vs) n) ∈ news) (hi : IntsAre vs ns) (hne : 0 < ns.length)
    (h : ∀ h' (t : Tok) tk, Fr h₀ L h' m → News h₀ L h' news → Q (.int (minI ns) t) { s with heap := h', toks := tk }) : wpAny (model prog w) A (call (.builtin "min") [.ref D]) Q E s :=
  kso_min F N (News.isList N hm) hi hne hh fun h' M t tk F' N' h1 h2 => by
    rw [← minI_eq h1 h2]
    exact h h' t tk F' N'
/-- the paths -/
noncomputable def PathsAre (pv : List Value) (NA : Nat → List (List Nat)) : Prop := pv.length = 6 ∧ ∀ i, i < 6 → ∃ t, pv[i]? = some (.str (st (joinP (NA i))) t)
theorem item_path {D : Addr} {n i : Nat} {pv : List Value} {NA : Nat → List (List Nat)} {u : Tok} {value slice : PySem.Expr} {Q : Value → Shared → Prop} (N : News h₀ L s.heap news) (hm : (D, W.listOf (List.toArray pv) n) ∈ news) (hp : PathsAre pv NA) (hi : i < 6)
    (h : ∀ t, Q (.str (st (joinP (NA i))) t) s)
    (hs : subscripted slice false (.ref D) (.int (i : Nat) u) = operate [.ref D, .int (i : Nat) u] (getItem (.ref D) (.int (i : Nat) u)) := by with_unfolding_all rfl) (hg : ∀ r, letTemporaryGo value (.ref D) r = pure () := by intro _; with_unfolding_all rfl) :
    wpAny (model prog w) A (subscriptTail value slice (.ref D) (.int (i : Nat) u)) Q E s := by
  obtain ⟨t, e⟩ := hp.2 i hi
  have hl := News.isList N hm
  exact tail_any hl.typeIs slot_list_getitem.lookup (wpAny_getItem_list hl (by (first | lia | omega)) (by (first | lia | omega)) (by rw [Int.toNat_natCast]; simpa using e) (h t)) hs
theorem neq_same {a b : Int} {t u : Tok} {Q : Value → Shared → Prop} (he : a = b) (h : Q (.bool false) s) : wpAny (model prog w) A (compareOp .NotEq (.int a t) (.int b u)) Q E s := by
  subst he
  refine PyProof.Rows.ne_int ?_
  have : (!(a == a)) = false := by simp
  first | (rw [this]; exact h) | (simpa using h)
theorem nes_same {a : PySem.Str} {t u : Tok} {Q : Value → Shared → Prop} (h : Q (.bool false) s) : wpAny (model prog w) A (compareOp .NotEq (.str a t) (.str a u)) Q E s :=
  ne_known (b := true) (by simp) h
theorem slice_row {l : Addr} {n a b : Nat} {vs : List Value} {ns : List Int} {t u : Tok} {hp : Heap} {g : Array GenState} {d : Drawn} {tk : Nat} {os : OsState} {value slice : PySem.Expr} {Q : Value → Shared → Prop} (F : Fr h₀ L hp m) (N : News h₀ L hp news) (hm : (l, W.listOf vs.toArray n) ∈ news) (hi : IntsAre vs ns) (hb : b < ns.length) (hz : ns.length ≤ 4000)
    (h : ∀ D ws h', Fr h₀ L h' m → News h₀ L h' ((D, W.listOf (List.toArray ws) 0) :: news) → (∀ p ∈ news, p.1 < D) → IntsAre ws (strt ns a b) → Q (.ref D) ⟨h', g, d, tk, os⟩)
    (hs : subscripted slice false (.ref l) (.ref hp.objs.size) = operate [.ref hp.objs.size, .ref l] (getItem (.ref l) (.ref hp.objs.size))) (ht : ∀ r, letTemporaryGo value (.ref l) r = pure ()) :
    wpAny (model prog w) A (subscriptTail value slice (.ref l) (.ref hp.objs.size)) Q E ⟨hp.push { cls := .type "slice", data := .fields #[.int (a : Nat) t, .int ((b : Nat) + 1) u, .none] }, g, d, tk, os⟩ :=
  kmk_slice_ints (s := ⟨hp, g, d, tk, os⟩) F N (News.isList N hm) (IsPart.int _ _) (IsPart.int _ _) hi (run_nat hi hb) rfl (fun D ws h' F' N' l1 hI' _ _ => h D ws h' F' N' l1 hI') hs ht (sl_size hi hz)
end
/-- what the loops of the law know -/
structure LawF (w : World) (news : List (Addr × Obj)) (c1 : Addr) (o1 : Obj) (c2 : Addr) (o2 : Obj) (Dp Dn Dd Wd : Addr) (np nn nd : Nat) (pv nv dv : List Value) (ns deps : List Int) (ow : Obj) (NA : Nat → List (List Nat)) : Prop where
  m1 : (c1, o1) ∈ news
  d1 : o1.data = .cell (some (.ref Wd))
  m2 : (c2, o2) ∈ news
  d2 : o2.data = .cell (some (.ref Dd))
  mp : (Dp, W.listOf pv.toArray np) ∈ news
  mn : (Dn, W.listOf nv.toArray nn) ∈ news
  md : (Dd, W.listOf dv.toArray nd) ∈ news
  mw : (Wd, ow) ∈ news
  ip : PathsAre pv NA
  iN : IntsAre nv ns
  iD : IntsAre dv deps
  W : WordsObj w ow ns
  Bm : (Wd == sysModules) = false
  ln : ns.length = 6
  ld : deps.length = 6
  pos : ∀ x ∈ ns, x.toNat < 16 ^ 6
  na : ∀ i, i < 6 → NA i ≠ [] ∧ (∀ x ∈ NA i, x ≠ [] ∧ ∀ c ∈ x, lett c) ∧ (NA i).flatten.length + (NA i).length ≤ 1000
  pl : ∀ e l, e ≤ l → l < 6 → ∃ pre, cpre (NA e) (NA l) = pre ++ [apL (minI (strt ns e l)).toNat] ∧ (pre.length : Int) + 1 = minI (strt deps e l)

end Mine
end
section
open PySem PySem.W PyProof.Rows
set_option maxRecDepth 100000
set_option maxHeartbeats 8000000
namespace Mine
theorem kfLF2 : (PySem.Challenge.rw_ik0083_01, Mine.K) = (PySem.Challenge.rw_ik0083_01, Mine.K) := by
  k_fill
  rfl
theorem rows_LF2_1 : True := by
  k_with_none
  (k_with "ktr_enter" => (refine' code_def ?k1 ?k2 ?k3 ?k4 ?k5 ?kA ?kF ?kK ?k6 ?k7 ?k8 ?k9 ?kB ?_ ?c2 ?c3 ?c4 ?c5; (case kA => exact rfl); (case kF => exact rfl); (case kK => assumption); (case k1 => k_asm); (case k2 => k_asm); (case k3 => k_asm); (case k4 => k_asm); (case k5 => k_asm); (case k6 => k_is); (case k7 => k_is); (case k8 => ktr_room); (case k9 => first | exact BindsTo.of_eq rfl | exact binds_K (by k_in) rfl (by k_is) rfl rfl rfl); (case c5 => decide); (case kB => exact locs rfl); (case c2 => exact rfl); (case c3 => exact rfl); (case c4 => exact rfl); k_whole; intro g' L' h' FG' F' N' B' X' T'; (try dsimp only); (try k_fold); (try (refine fold_A ?_; intro A9))))
  (k_with "k_room" => ktr_room)
  (k_with "k_all" => assumption)
  (k_with "ktr_room" => ((with_reducible rename _ + _ < recursionLimit => hd9); first | exact room_ 0 hd9 rfl rfl | exact room_ 1 hd9 rfl rfl | exact room_ 2 hd9 rfl rfl | exact room_ 3 hd9 rfl rfl | exact room_ 4 hd9 rfl rfl | exact room_ 5 hd9 rfl rfl | exact room_ 6 hd9 rfl rfl | exact room_ 7 hd9 rfl rfl | exact room_ 8 hd9 rfl rfl | exact room_ 9 hd9 rfl rfl | exact room_ 10 hd9 rfl rfl | exact room_ 11 hd9 rfl rfl | exact room_ 12 hd9 rfl rfl | exact room_ 13 hd9 rfl rfl | exact room_ 14 hd9 rfl rfl | exact room_ 15 hd9 rfl rfl | exact room_ 16 hd9 rfl rfl | exact room_ 17 hd9 rfl rfl | exact room_ 18 hd9 rfl rfl | exact room_ 19 hd9 rfl rfl | exact room_ 20 hd9 rfl rfl | exact room_ 21 hd9 rfl rfl | exact room_ 22 hd9 rfl rfl | exact room_ 23 hd9 rfl rfl | exact room_ 24 hd9 rfl rfl | exact room_ 25 hd9 rfl rfl))
  (k_with "ktr_units" => ((with_reducible rename _ + _ < cLine => hu9); first | exact units_ 0 hu9 rfl rfl | exact units_ 1 hu9 rfl rfl | exact units_ 2 hu9 rfl rfl | exact units_ 3 hu9 rfl rfl | exact units_ 4 hu9 rfl rfl | exact units_ 5 hu9 rfl rfl | exact units_ 6 hu9 rfl rfl | exact units_ 7 hu9 rfl rfl | exact units_ 8 hu9 rfl rfl | exact units_ 9 hu9 rfl rfl | exact units_ 10 hu9 rfl rfl | exact units_ 11 hu9 rfl rfl | exact units_ 12 hu9 rfl rfl | exact units_ 13 hu9 rfl rfl | exact units_ 14 hu9 rfl rfl | exact units_ 15 hu9 rfl rfl | exact units_ 16 hu9 rfl rfl | exact units_ 17 hu9 rfl rfl | exact units_ 18 hu9 rfl rfl | exact units_ 19 hu9 rfl rfl | exact units_ 20 hu9 rfl rfl | exact units_ 21 hu9 rfl rfl | exact units_ 22 hu9 rfl rfl | exact units_ 23 hu9 rfl rfl | exact units_ 24 hu9 rfl rfl | exact units_ 25 hu9 rfl rfl | exact units_ 26 hu9 rfl rfl | exact units_ 27 hu9 rfl rfl | exact units_ 28 hu9 rfl rfl | exact units_ 29 hu9 rfl rfl | exact units_ 30 hu9 rfl rfl | exact units_ 31 hu9 rfl rfl | exact units_ 32 hu9 rfl rfl | exact units_ 33 hu9 rfl rfl | exact units_ 34 hu9 rfl rfl | exact units_ 35 hu9 rfl rfl | exact units_ 36 hu9 rfl rfl | exact units_ 37 hu9 rfl rfl | exact units_ 38 hu9 rfl rfl | exact units_ 39 hu9 rfl rfl | exact units_ 40 hu9 rfl rfl | exact units_ 41 hu9 rfl rfl | exact units_ 42 hu9 rfl rfl | exact units_ 43 hu9 rfl rfl | exact units_ 44 hu9 rfl rfl | exact units_ 45 hu9 rfl rfl | exact units_ 46 hu9 rfl rfl | exact units_ 47 hu9 rfl rfl | exact units_ 48 hu9 rfl rfl | exact units_ 49 hu9 rfl rfl | exact units_ 50 hu9 rfl rfl | exact units_ 51 hu9 rfl rfl | exact units_ 52 hu9 rfl rfl | exact units_ 53 hu9 rfl rfl | exact units_ 54 hu9 rfl rfl | exact units_ 55 hu9 rfl rfl | exact units_ 56 hu9 rfl rfl | exact units_ 57 hu9 rfl rfl | exact units_ 58 hu9 rfl rfl | exact units_ 59 hu9 rfl rfl | exact units_ 60 hu9 rfl rfl))
  (k_with "k_ne" => (first | exact Nat.ne_of_lt (by assumption) | exact Nat.ne_of_gt (by assumption) | assumption | exact Ne.symm (by assumption) | exact Nat.ne_of_lt (And.left (by assumption)) | exact Nat.ne_of_gt (And.left (by assumption)) | exact Nat.ne_of_lt (And.left (And.right (by assumption))) | exact Nat.ne_of_gt (And.left (And.right (by assumption))) | exact Nat.ne_of_lt (And.left (And.right (And.right (by assumption)))) | exact Nat.ne_of_gt (And.left (And.right (And.right (by assumption)))) | exact Nat.ne_of_lt (And.left (And.right (And.right (And.right (by assumption))))) | exact Nat.ne_of_gt (And.left (And.right (And.right (And.right (by assumption))))) | exact Nat.ne_of_lt (And.left (And.right (And.right (And.right (And.right (by assumption)))))) | exact Nat.ne_of_gt (And.left (And.right (And.right (And.right (And.right (by assumption)))))) | exact Nat.ne_of_lt (And.left (And.right (And.right (And.right (And.right (And.right (by assumption))))))) | exact Nat.ne_of_gt (And.left (And.right (And.right (And.right (And.right (And.right (by assumption))))))) | exact Nat.ne_of_lt (And.left (And.right (And.right (And.right (And.right (And.right (And.right (by assumption)))))))) | exact Nat.ne_of_gt (And.left (And.right (And.right (And.right (And.right (And.right (And.right (by assumption)))))))) | exact Nat.ne_of_lt (And.left (And.right (And.right (And.right (And.right (And.right (And.right (And.right (by assumption))))))))) | exact Nat.ne_of_gt (And.left (And.right (And.right (And.right (And.right (And.right (And.right (And.right (by assumption))))))))) | exact Nat.ne_of_lt (And.left (And.right (And.right (And.right (And.right (And.right (And.right (And.right (And.right (by assumption)))))))))) | exact Nat.ne_of_gt (And.left (And.right (And.right (And.right (And.right (And.right (And.right (And.right (And.right (by assumption)))))))))) | exact Nat.ne_of_lt (And.left (And.right (And.right (And.right (And.right (And.right (And.right (And.right (And.right (And.right (by assumption))))))))))) | exact Nat.ne_of_gt (And.left (And.right (And.right (And.right (And.right (And.right (And.right (And.right (And.right (And.right (by assumption))))))))))) | (refine neN ?_; (try dsimp only); (first | lia | omega))))
  (k_with "exec If" => (refine if_fold ?_; intro q8))
  (k_with "isTrue Compare" => (refine is_cmp ?_))
  (k_with "ite" => (k_here; first | with_reducible refine ite_tt ?_ | with_reducible refine ite_ff ?_ | k_dflt (first | refine ite_pos (by decide) ?_ | refine ite_neg (by decide) ?_)))
  (k_with "execs cons" => (first | (rename Shared => s9; refine stmt_cons s9 ?_; intro t9 s8 q8) | (refine wpAny_execs_cons ?_; (try k_fold))))
  (k_with "k_mem" => (first | with_reducible assumption | (refine nb_skip ?_; k_mem)))
  (k_with "UnrPostW" => (refine stop_of ?_))
  (k_with "call type:range" => (refine stop_of ?_))
  (k_with "exec For Name Call cons nil" => (k_here; (rename Fr _ _ _ _ => lF'); (with_unfolding_all refine' For_turns lF' ?_ (hE := by assumption); k_whole)))
  (k_with "subscriptTail Name Name ref int" => (k_here; (with_reducible show wpAny _ _ (subscriptTail _ _ (Value.ref _) (Value.int (Nat.cast _) _)) _ _ _); k_dflt (refine' item_path ?qN ?qm ?qp ?qi ?_; (case qN => k_asm); (case qm => k_mem); (case qp => with_reducible assumption); (case qi => with_reducible assumption); k_whole); intro _))
  exact trivial
theorem cpre_take : ∀ a b : List (List Nat), ∃ k, cpre a b = a.take k
  | [], [] => ⟨0, rfl⟩
  | [], _ :: _ => ⟨0, rfl⟩
  | _ :: _, [] => ⟨0, rfl⟩
  | x :: a, y :: b => by
    by_cases h : x = y
    · obtain ⟨k, e⟩ := cpre_take a b
      exact ⟨k + 1, by rw [cpre, if_pos h, e, List.take_succ_cons]⟩
    · exact ⟨0, by rw [cpre, if_neg h, List.take_zero]⟩
theorem cpre_len {a b : List (List Nat)} (h : a.flatten.length + a.length ≤ 1000) : (joinP (cpre a b)).length ≤ 1100 := by
  obtain ⟨k, e⟩ := cpre_take a b
  have h1 := flat_take a k
  have h2 : (a.take k).length ≤ a.length := List.length_take_le' _ _
  have h3 := joinP_len (a.take k)
  rw [e]
  (first | lia | omega)
section
variable {w : World} {mean : ExcName → Option Value} {mg mb : PySem.Str → Option Value} {dp un : Nat} {gd : Option (List Code)} {cn : PySem.Str} {cs : Scope} {a : Addr} {ccd : Value} {cl : List (PySem.Str × Addr)} {outer : List Env} {A₀ : Around} {base h₀ : Heap} {L : Addr} {m : PySem.Str → Option Value} {news : List (Addr × Obj)} {s : Shared} {Q E : Value → Shared → Prop}

theorem common_use {na nb pre : List (List Nat)} {x : List Nat} {Dp : Addr} {t1 t2 : Tok} {n : Nat}
  (B : Below A₀ base outer h₀) (F : Fr h₀ L s.heap m) (X : (Mine.K w.params).In h₀)
  (N : News h₀ L s.heap ((Dp, W.listOf #[.str (st (joinP na)) t1, .str (st (joinP nb)) t2] n) :: news)) (T : Top VW LOO mean mg mb h₀) (hk : cs.kind = .function)
  (hdp : dp + 10 < recursionLimit) (hu : un + 100 < cLine)
  (hc : cpre na nb = pre ++ [x]) (hna : na ≠ [] ∧ (∀ x ∈ na, x ≠ [] ∧ ∀ c ∈ x, lett c) ∧ na.flatten.length + na.length ≤ 1000) (hnb : nb ≠ [] ∧ (∀ x ∈ nb, x ≠ [] ∧ ∀ c ∈ x, lett c) ∧ nb.flatten.length + nb.length ≤ 1000)
  (hret : ∀ t h' tk', Fr h₀ L h' m → News h₀ L h' ((Dp, W.listOf #[.str (st (joinP na)) t1, .str (st (joinP nb)) t2] n) :: news) → Q (.str (st (joinP (pre ++ [x]))) t) {s with heap := h', toks := tk'}) :
  wpAny (model PRG w) (ktrTop dp un gd cn cs L a ccd cl outer) (call (.ref 839) [.ref Dp]) Q E s :=
  commonpath_spec B F X N T hk hdp hu (by rw [hc]; exact hret) (by rw [hc]; simp) hna.1 hnb.1 hna.2.1 hnb.2.1 hna.2.2 hnb.2.2
theorem base_use {pre : List (List Nat)} {x : List Nat} {tk : Tok}
  (B : Below A₀ base outer h₀) (F : Fr h₀ L s.heap m) (X : (Mine.K w.params).In h₀)
  (N : News h₀ L s.heap news) (T : Top VW LOO mean mg mb h₀) (hk : cs.kind = .function)
  (hdp : dp + 10 < recursionLimit) (hu : un + 100 < cLine)
  (hx : 47 ∉ x) (hz : (joinP (pre ++ [x])).length ≤ 1100)
  (hret : ∀ t h' tk', Fr h₀ L h' m → News h₀ L h' news → Q (.str (st x) t) {s with heap := h', toks := tk'}) :
  wpAny (model PRG w) (ktrTop dp un gd cn cs L a ccd cl outer) (call (.ref 834) [.str (st (joinP (pre ++ [x]))) tk]) Q E s := by
  obtain ⟨f, e⟩ := joinP_last (pre := pre) (x := x)
  rw [e] at hz ⊢
  rw [List.length_append, List.length_cons] at hz
  exact basename_spec B F X N T hk hdp hu hx (by (first | lia | omega)) hret
end
theorem count_path {c : List (List Nat)} (hc : c ≠ []) (h : ∀ x ∈ c, 47 ∉ x) : Txt.count (st (joinP c)) (PySem.Str.ofString "/") = (c.length : Int) := by
  rw [st_sl, count_st, joinP_count hc h]
theorem rows_LF2_2 : True := by
  (k_with "call ref" => (k_here; (with_reducible show wpAny _ _ (call (Value.ref 839) [Value.ref _]) _ _ _); k_dflt (refine' common_use ?yB ?yF ?yX ?yN ?yT ?yk ?yd ?yu ?yc ?ya ?yb ?_; (case yB => k_asm); (case yF => k_asm); (case yX => k_asm); (case yN => k_asm); (case yT => k_asm); (case yk => exact rfl); (case yd => ktr_room); (case yu => ktr_units); (case yc => with_reducible assumption); (case ya => with_reducible assumption); (case yb => with_reducible assumption); k_whole); intro t' h' tk' F' N'; (try k_fold)))
  (k_with "call ref" => (k_here; (with_reducible show wpAny _ _ (call (Value.ref 834) [Value.str _ _]) _ _ _); k_dflt (refine' base_use ?yB ?yF ?yX ?yN ?yT ?yk ?yd ?yu ?yx ?yz ?_; (case yB => k_asm); (case yF => k_asm); (case yX => k_asm); (case yN => k_asm); (case yT => k_asm); (case yk => exact rfl); (case yd => ktr_room); (case yu => ktr_units); (case yx => with_reducible assumption); (case yz => with_reducible assumption); k_whole); intro t' h' tk' F' N'; (try k_fold)))
  (k_with "call builtin:min" => (k_here; (with_reducible show wpAny _ _ (call (Value.builtin _) [Value.ref _]) _ _ _); k_dflt (refine' min_row ?k1 ?k2 ?k3 ?k4 ?k5 ?k6 ?_; (case k1 => exact rfl); (case k2 => k_asm); (case k3 => k_asm); (case k4 => k_mem); (case k5 => with_reducible assumption); (case k6 => exact strt_pos (by (first | lia | omega)) (by with_reducible assumption)); k_whole); intro h' t' k' F' N'; (try k_sweep)))
  (k_with "subscriptTail Name Slice ref ref" => (k_here; (with_reducible show wpAny _ _ (subscriptTail _ (PySem.Expr.Slice _ _ none _) (Value.ref _) (Value.ref _)) _ _ _); k_dflt (refine' slice_row ?zF ?zN ?zm ?zi ?zb ?zz ?_ ?zs ?zt; (case zF => k_asm); (case zN => k_asm); (case zm => k_mem); (case zi => with_reducible assumption); (case zb => (first | lia | omega)); (case zz => (first | lia | omega)); (case zs => with_unfolding_all rfl); (case zt => kmk_pure)); intro D' ws' h' F' N' l1 hI'; (try k_lt l1); (try k_sweep)))
  (k_with "subscriptTail Name Call ref int" => (k_here; (with_reducible show wpAny _ _ (subscriptTail _ _ (Value.ref _) (Value.int _ _)) _ _ _); k_dflt (refine' words_item ?N ?m ?W ?k ?B ?b ?_; (case N => k_asm); (case m => k_mem); (case W => with_reducible assumption); (case k => with_reducible assumption); (case B => with_reducible assumption); (case b => with_reducible assumption); k_whole); intro _ _ _))
  (k_with "compareOp NotEq int int" => (k_here; refine' neq_same ?xh ?_; (case xh => with_reducible assumption)))
  (k_with "compareOp NotEq str str" => (k_here; with_reducible refine nes_same ?_))
  exact trivial
theorem law_F {w : World} {mean : ExcName → Option Value} {mg mb : PySem.Str → Option Value} {dp un : Nat} {gd : Option (List Code)} {outer : List Env} {A₀ : Around} {base h₀ : Heap} {L fa : Addr} {cdv : Value} {news : List (Addr × Obj)} {s : Shared} {Q : Flow → Shared → Prop} {E : Value → Shared → Prop}
  {o1 o2 : Obj} {Dp Dl Dn Dc Ds Dd Wd : Addr} {np nn nd : Nat} {pv nv dv : List Value} {ns deps : List Int} {ow : Obj} {NA : Nat → List (List Nat)}
  (B : Below A₀ base outer h₀) (F : Fr h₀ L s.heap (fun y => if y = "paths" then some (.ref Dp) else if y = "left" then some (.ref Dl) else if y = "numbers" then some (.ref Dn) else if y = "cells" then some (.ref Dc) else if y = "script" then some (.ref Ds) else none))
  (X : (Mine.K w.params).In h₀) (N : News h₀ L s.heap news) (T : Top VW LOO mean mg mb h₀) (hE : PassesOwn (model PRG w) (arL dp un gd L fa cdv outer) (envL L fa cdv) E)
  (hdp : dp + 20 < recursionLimit) (hu : un + 200 < cLine)
  (H : LawF w news (L + 1) o1 (L + 1 + 1) o2 Dp Dn Dd Wd np nn nd pv nv dv ns deps ow NA)
  (hret : ∀ h' tk' m', Fr h₀ L h' m' → Q (.ret (.bool true)) {s with heap := h', toks := tk'}) :
  wpAny (model PRG w) (arL dp un gd L fa cdv outer) (execs (BODY.drop 6) (envL L fa cdv)) Q E s := by
  show wpAny _ _ (execs (_ :: _) _) _ _ _
  obtain ⟨m1, d1, m2, d2, mp, mn, md, mw, ip, iN, iD, hW, Bm, ln, ld, pos, na, pl⟩ := H
  k_steps
  refine Stop.out ?_
  (with_reducible rename Fr _ _ _ _ => F0)
  refine range_turns (n := 6) rfl F0 N (by decide) (fun I hI => ?_)
  refine items_inv (LaI 6 _ _) ?turn ?done la_start
  case turn =>
    intro a r m' nw v h1 tk1 hJ hvI F1
    refine fold_G ?_
    intro G9
    obtain ⟨i, t, vl, ve, vs, rfl, hr, hi, rfl, rfl⟩ := la_cons hJ hvI
    clear hJ hvI F0 N
    refine AllObj.cons (fun oI hoI => AllObj.nil (fun N1 => ?_))
    simp only [List.cons_append, List.nil_append] at N1
    k_steps
    refine Stop.out ?_
    (with_reducible rename Fr _ _ _ _ => F0)
    (with_reducible rename News _ _ _ _ => N0)
    refine range_turns (n := i + 1) rfl F0 N0 (by (first | lia | omega)) (fun I2 hI2 => ?_)
    refine items_inv (EaI (i + 1) _ _) ?turn2 ?done2 ea_start
    case turn2 =>
      intro a2 r2 m2' nw2 v2 h2 tk2 hJ2 hvI2 F2
      refine fold_G ?_
      intro G9
      obtain ⟨j, t2, ve2, vs2, rfl, hr2, hj, rfl, rfl⟩ := ea_cons hJ2 hvI2
      clear hJ2 hvI2 F0 N0
      refine AllObj.cons (fun oI2 hoI2 => AllObj.nil (fun N2 => ?_))
      simp only [List.cons_append, List.nil_append] at N2
      have hj6 : j < 6 := by (first | lia | omega)
      have hji : j ≤ i := by (first | lia | omega)
      have hil : i < ns.length := by (first | lia | omega)
      have hid : i < deps.length := by (first | lia | omega)
      refine fold_G ?_
      intro G9
      obtain ⟨pre, pc, pd⟩ := pl j i hji hi
      have naj := na j hj6
      have nai := na i hi
      have pz : (joinP (pre ++ [apL (minI (strt ns j i)).toNat])).length ≤ 1100 := by rw [← pc]; exact cpre_len naj.2.2
      have p47 : ∀ x ∈ pre ++ [apL (minI (strt ns j i)).toNat], 47 ∉ x := fun x hx h47 => by
        rw [← pc] at hx
        obtain ⟨k, ek⟩ := cpre_take (NA j) (NA i)
        rw [ek] at hx
        have := (naj.2.1 x (List.mem_of_mem_take hx)).2 47 h47
        revert this; decide
      have px : 47 ∉ apL (minI (strt ns j i)).toNat := p47 _ (by simp)
      have pcount : Txt.count (st (joinP (pre ++ [apL (minI (strt ns j i)).toNat]))) (PySem.Str.ofString "/") = minI (strt deps j i) := by
        rw [count_path (by simp) p47, ← pd, List.length_append, List.length_singleton]; (first | lia | omega)
      have pm : minI (strt ns j i) ∈ ns := List.mem_of_mem_drop (List.mem_of_mem_take (minI_mem (List.ne_nil_of_length_pos (strt_pos hil hji))))
      k_steps
      refine Stop.out ?_
      refine' ea_next ?f1 ?f2 ?f3 (fun q hq => nb_skip (nb_skip (nb_skip (nb_skip hq)))) hI2 hr2 hj
      case f1 => k_asm
      case f2 => k_asm
      case f3 => exact nb_skip (nb_skip (nb_skip (.head _)))
    case done2 =>
      intro m2' nw2 h2 tk2 hJ2 F2 N2
      obtain ⟨j, ve2, vs2, _, _, rfl, rfl⟩ := hJ2
      clear F0 N0
      dsimp only
      k_steps
      refine Stop.out ?_
      refine' la_next ?f4 ?f5 ?f6 (fun q hq => nb_skip hq) hI hr hi
      case f4 => k_asm
      case f5 => k_asm
      case f6 => exact .head _
  case done =>
    intro m' nw h1 tk1 hJ F1 N1
    obtain ⟨i, vl, ve, vs, _, _, rfl, rfl⟩ := hJ
    dsimp only
    k_steps
    refine' hret _ _ _ ?g3
    case g3 => k_asm

end Mine
end
section
open PySem PySem.W PyProof.Rows
set_option maxRecDepth 100000
set_option maxHeartbeats 8000000
namespace Mine
theorem kfLE : (PySem.Challenge.rw_ik0083_01, Mine.K) = (PySem.Challenge.rw_ik0083_01, Mine.K) := by
  k_fill
  rfl
theorem rows_LE_1 : True := by
  k_with_none
  (k_with "ktr_enter" => (refine' code_def ?k1 ?k2 ?k3 ?k4 ?k5 ?kA ?kF ?kK ?k6 ?k7 ?k8 ?k9 ?kB ?_ ?c2 ?c3 ?c4 ?c5; (case kA => exact rfl); (case kF => exact rfl); (case kK => assumption); (case k1 => k_asm); (case k2 => k_asm); (case k3 => k_asm); (case k4 => k_asm); (case k5 => k_asm); (case k6 => k_is); (case k7 => k_is); (case k8 => ktr_room); (case k9 => first | exact BindsTo.of_eq rfl | exact binds_K (by k_in) rfl (by k_is) rfl rfl rfl); (case c5 => decide); (case kB => exact locs rfl); (case c2 => exact rfl); (case c3 => exact rfl); (case c4 => exact rfl); k_whole; intro g' L' h' FG' F' N' B' X' T'; (try dsimp only); (try k_fold); (try (refine fold_A ?_; intro A9))))
  (k_with "k_room" => ktr_room)
  (k_with "k_all" => assumption)
  (k_with "ktr_room" => ((with_reducible rename _ + _ < recursionLimit => hd9); first | exact room_ 0 hd9 rfl rfl | exact room_ 1 hd9 rfl rfl | exact room_ 2 hd9 rfl rfl | exact room_ 3 hd9 rfl rfl | exact room_ 4 hd9 rfl rfl | exact room_ 5 hd9 rfl rfl | exact room_ 6 hd9 rfl rfl | exact room_ 7 hd9 rfl rfl | exact room_ 8 hd9 rfl rfl | exact room_ 9 hd9 rfl rfl | exact room_ 10 hd9 rfl rfl | exact room_ 11 hd9 rfl rfl | exact room_ 12 hd9 rfl rfl | exact room_ 13 hd9 rfl rfl | exact room_ 14 hd9 rfl rfl | exact room_ 15 hd9 rfl rfl | exact room_ 16 hd9 rfl rfl | exact room_ 17 hd9 rfl rfl | exact room_ 18 hd9 rfl rfl | exact room_ 19 hd9 rfl rfl | exact room_ 20 hd9 rfl rfl | exact room_ 21 hd9 rfl rfl | exact room_ 22 hd9 rfl rfl | exact room_ 23 hd9 rfl rfl | exact room_ 24 hd9 rfl rfl | exact room_ 25 hd9 rfl rfl))
  (k_with "ktr_units" => ((with_reducible rename _ + _ < cLine => hu9); first | exact units_ 0 hu9 rfl rfl | exact units_ 1 hu9 rfl rfl | exact units_ 2 hu9 rfl rfl | exact units_ 3 hu9 rfl rfl | exact units_ 4 hu9 rfl rfl | exact units_ 5 hu9 rfl rfl | exact units_ 6 hu9 rfl rfl | exact units_ 7 hu9 rfl rfl | exact units_ 8 hu9 rfl rfl | exact units_ 9 hu9 rfl rfl | exact units_ 10 hu9 rfl rfl | exact units_ 11 hu9 rfl rfl | exact units_ 12 hu9 rfl rfl | exact units_ 13 hu9 rfl rfl | exact units_ 14 hu9 rfl rfl | exact units_ 15 hu9 rfl rfl | exact units_ 16 hu9 rfl rfl | exact units_ 17 hu9 rfl rfl | exact units_ 18 hu9 rfl rfl | exact units_ 19 hu9 rfl rfl | exact units_ 20 hu9 rfl rfl | exact units_ 21 hu9 rfl rfl | exact units_ 22 hu9 rfl rfl | exact units_ 23 hu9 rfl rfl | exact units_ 24 hu9 rfl rfl | exact units_ 25 hu9 rfl rfl | exact units_ 26 hu9 rfl rfl | exact units_ 27 hu9 rfl rfl | exact units_ 28 hu9 rfl rfl | exact units_ 29 hu9 rfl rfl | exact units_ 30 hu9 rfl rfl | exact units_ 31 hu9 rfl rfl | exact units_ 32 hu9 rfl rfl | exact units_ 33 hu9 rfl rfl | exact units_ 34 hu9 rfl rfl | exact units_ 35 hu9 rfl rfl | exact units_ 36 hu9 rfl rfl | exact units_ 37 hu9 rfl rfl | exact units_ 38 hu9 rfl rfl | exact units_ 39 hu9 rfl rfl | exact units_ 40 hu9 rfl rfl | exact units_ 41 hu9 rfl rfl | exact units_ 42 hu9 rfl rfl | exact units_ 43 hu9 rfl rfl | exact units_ 44 hu9 rfl rfl | exact units_ 45 hu9 rfl rfl | exact units_ 46 hu9 rfl rfl | exact units_ 47 hu9 rfl rfl | exact units_ 48 hu9 rfl rfl | exact units_ 49 hu9 rfl rfl | exact units_ 50 hu9 rfl rfl | exact units_ 51 hu9 rfl rfl | exact units_ 52 hu9 rfl rfl | exact units_ 53 hu9 rfl rfl | exact units_ 54 hu9 rfl rfl | exact units_ 55 hu9 rfl rfl | exact units_ 56 hu9 rfl rfl | exact units_ 57 hu9 rfl rfl | exact units_ 58 hu9 rfl rfl | exact units_ 59 hu9 rfl rfl | exact units_ 60 hu9 rfl rfl))
  (k_with "k_ne" => (first | exact Nat.ne_of_lt (by assumption) | exact Nat.ne_of_gt (by assumption) | assumption | exact Ne.symm (by assumption) | exact Nat.ne_of_lt (And.left (by assumption)) | exact Nat.ne_of_gt (And.left (by assumption)) | exact Nat.ne_of_lt (And.left (And.right (by assumption))) | exact Nat.ne_of_gt (And.left (And.right (by assumption))) | exact Nat.ne_of_lt (And.left (And.right (And.right (by assumption)))) | exact Nat.ne_of_gt (And.left (And.right (And.right (by assumption)))) | exact Nat.ne_of_lt (And.left (And.right (And.right (And.right (by assumption))))) | exact Nat.ne_of_gt (And.left (And.right (And.right (And.right (by assumption))))) | exact Nat.ne_of_lt (And.left (And.right (And.right (And.right (And.right (by assumption)))))) | exact Nat.ne_of_gt (And.left (And.right (And.right (And.right (And.right (by assumption)))))) | exact Nat.ne_of_lt (And.left (And.right (And.right (And.right (And.right (And.right (by assumption))))))) | exact Nat.ne_of_gt (And.left (And.right (And.right (And.right (And.right (And.right (by assumption))))))) | exact Nat.ne_of_lt (And.left (And.right (And.right (And.right (And.right (And.right (And.right (by assumption)))))))) | exact Nat.ne_of_gt (And.left (And.right (And.right (And.right (And.right (And.right (And.right (by assumption)))))))) | exact Nat.ne_of_lt (And.left (And.right (And.right (And.right (And.right (And.right (And.right (And.right (by assumption))))))))) | exact Nat.ne_of_gt (And.left (And.right (And.right (And.right (And.right (And.right (And.right (And.right (by assumption))))))))) | exact Nat.ne_of_lt (And.left (And.right (And.right (And.right (And.right (And.right (And.right (And.right (And.right (by assumption)))))))))) | exact Nat.ne_of_gt (And.left (And.right (And.right (And.right (And.right (And.right (And.right (And.right (And.right (by assumption)))))))))) | exact Nat.ne_of_lt (And.left (And.right (And.right (And.right (And.right (And.right (And.right (And.right (And.right (And.right (by assumption))))))))))) | exact Nat.ne_of_gt (And.left (And.right (And.right (And.right (And.right (And.right (And.right (And.right (And.right (And.right (by assumption))))))))))) | (refine neN ?_; (try dsimp only); (first | lia | omega))))
  (k_with "exec If" => (refine if_fold ?_; intro q8))
  (k_with "isTrue Compare" => (refine is_cmp ?_))
  (k_with "ite" => (k_here; first | with_reducible refine ite_tt ?_ | with_reducible refine ite_ff ?_ | k_dflt (first | refine ite_pos (by decide) ?_ | refine ite_neg (by decide) ?_)))
  (k_with "execs cons" => (first | (rename Shared => s9; refine stmt_cons s9 ?_; intro t9 s8 q8) | (refine wpAny_execs_cons ?_; (try k_fold))))
  exact trivial
theorem nodup_le : ∀ (n : Nat) (l : List Nat), l.Nodup → (∀ x ∈ l, x < n) → l.length ≤ n
  | 0, [], _, _ => Nat.le_refl _
  | 0, x :: l, _, h => absurd (h x (.head _)) (Nat.not_lt_zero _)
  | n + 1, l, hd, h => by
    by_cases hm : n ∈ l
    · have h1 := nodup_le n (l.erase n) (hd.erase n) fun x hx => by
        have := (List.Nodup.mem_erase_iff hd).mp hx
        have h2 := h x this.2
        have h3 := this.1
        (first | lia | omega)
      rw [List.length_erase_of_mem hm] at h1
      (first | lia | omega)
    · have := nodup_le n l hd fun x hx => by
        have h2 := h x hx
        have : x ≠ n := fun e => hm (e ▸ hx)
        (first | lia | omega)
      (first | lia | omega)
/-- the names on the way to a place -/
noncomputable def namesAt (ns : List Int) (R : Nat → List Nat) (p : Nat) : List (List Nat) := (R p).map fun o => (ns.map fun n => apL n.toNat).getD o []
structure LawE (w : World) (news : List (Addr × Obj)) (c1 : Addr) (o1 : Obj) (c2 : Addr) (o2 : Obj) (c3 : Addr) (o3 : Obj) (Dn Dd Dt Wd : Addr) (nn nd nt : Nat) (nv dv tv : List Value) (ns : List Int) (ow : Obj) : Prop where
  m1 : (c1, o1) ∈ news
  d1 : o1.data = .cell (some (.ref Wd))
  m2 : (c2, o2) ∈ news
  d2 : o2.data = .cell (some (.ref Dd))
  m3 : (c3, o3) ∈ news
  d3 : o3.data = .cell (some (.ref Dt))
  mn : (Dn, W.listOf nv.toArray nn) ∈ news
  md : (Dd, W.listOf dv.toArray nd) ∈ news
  mt : (Dt, W.listOf tv.toArray nt) ∈ news
  mw : (Wd, ow) ∈ news
  iN : IntsAre nv ns
  iD : IntsAre dv (depF 0 6 ns)
  iT : StrsAre tv ((ns.map fun n => apL n.toNat).map st)
  W : WordsObj w ow ns
  Bm : (Wd == sysModules) = false
  ln : ns.length = 6
  pos : ∀ x ∈ ns, 0 < x ∧ x.toNat < 16 ^ 6
  nd : ns.Nodup
theorem LawE.f {w : World} {news : List (Addr × Obj)} {c1 c2 c3 : Addr} {o1 o2 o3 : Obj} {Dn Dd Dt Wd : Addr} {nn nd nt : Nat} {nv dv tv : List Value} {ns : List Int} {ow : Obj} {R : Nat → List Nat}
    (H : LawE w news c1 o1 c2 o2 c3 o3 Dn Dd Dt Wd nn nd nt nv dv tv ns ow)
    (h1 : ∀ p, p < ns.length → (∀ o, o ∈ R p ↔ o < (depF 0 6 ns).length ∧ ancB (depF 0 6 ns) p o = true) ∧ (R p).Pairwise fun a b => (depF 0 6 ns).getD a 0 < (depF 0 6 ns).getD b 0)
    (h2 : ∀ e l, e ≤ l → l < ns.length → ∃ pre m, m < ns.length ∧ cpre (namesAt ns R e) (namesAt ns R l) = pre ++ [apL (ns.getD m 0).toNat] ∧ ns.getD m 0 = minI (strt ns e l) ∧ (pre.length : Int) + 1 = minI (strt (depF 0 6 ns) e l))
    {Dp : Addr} {np : Nat} {pv : List Value} (hp : PathsAre pv (namesAt ns R)) (nw : List (Addr × Obj)) (hm : (Dp, W.listOf pv.toArray np) ∈ nw) (hsub : ∀ q ∈ news, q ∈ nw) :
    LawF w nw c1 o1 c2 o2 Dp Dn Dd Wd np nn nd pv nv dv ns (depF 0 6 ns) ow (namesAt ns R) := by
  have ld := depF_len 6 ns 0 (by rw [H.ln]; exact Nat.le_refl _)
  refine ⟨hsub _ H.m1, H.d1, hsub _ H.m2, H.d2, hm, hsub _ H.mn, hsub _ H.md, hsub _ H.mw, hp, H.iN, H.iD, H.W, H.Bm, H.ln, by rw [ld, H.ln], fun x hx => (H.pos x hx).2, fun i hi => ?_, fun e l hel hl => ?_⟩
  · obtain ⟨g1, g2⟩ := h1 i (by rw [H.ln]; exact hi)
    have hlt : ∀ o ∈ R i, o < 6 := fun o ho => by
      have := ((g1 o).mp ho).1
      rw [ld, H.ln] at this
      exact this
    have nm : ∀ x ∈ namesAt ns R i, x ≠ [] ∧ (∀ c ∈ x, lett c) ∧ x.length ≤ 6 := fun x hx => by
      obtain ⟨o, ho, rfl⟩ := List.mem_map.mp hx
      have ho6 := hlt o ho
      have hol : o < ns.length := by rw [H.ln]; exact ho6
      have e : (ns.map fun n => apL n.toNat).getD o [] = apL (ns[o]).toNat := by simp [List.getD, hol]
      rw [e]
      have hp := H.pos _ (List.getElem_mem hol)
      exact ⟨apL_ne (by (first | lia | omega)), apL_lett _, apL_len hp.2⟩
    have hlen : (namesAt ns R i).length ≤ 6 := by
      unfold namesAt
      rw [List.length_map]
      refine nodup_le 6 (R i) (g2.imp fun {a b} hab e => by subst e; exact absurd hab (Int.lt_irrefl _)) hlt
    refine ⟨?_, fun x hx => ⟨(nm x hx).1, (nm x hx).2.1⟩, ?_⟩
    · have : i ∈ R i := (g1 i).mpr ⟨by rw [ld, H.ln]; exact hi, ancB_iff.mpr fun j _ j1 j2 => by
        have : j = i := by (first | lia | omega)
        subst this; exact Int.le_refl _⟩
      intro e
      unfold namesAt at e
      rw [List.map_eq_nil_iff.mp e] at this
      cases this
    · have := flat_le (k := 6) (l := namesAt ns R i) fun x hx => (nm x hx).2.2
      (first | lia | omega)
  · obtain ⟨pre, m, _, e1, e2, e3⟩ := h2 e l hel (by rw [H.ln]; exact hl)
    exact ⟨pre, by rw [e1, e2], e3⟩
theorem rows_LE_2 : True := by
  (k_with "k_mem" => (first | with_reducible assumption | (refine nb_skip ?_; k_mem)))
  (k_with "CompSrc" => (refine stop_of ?_))
  (k_with "CompEnd" => (refine stop_of ?_))
  (k_with "exec Assign cons ListComp" => (refine stop_of ?_))
  (k_with "call ref" => (k_here; (with_reducible show wpAny _ _ (call (Value.ref 858) _) _ _ _); (refine stop_of ?_)))
  exact trivial
theorem law_E {w : World} {mean : ExcName → Option Value} {mg mb : PySem.Str → Option Value} {dp un : Nat} {gd : Option (List Code)} {outer : List Env} {A₀ : Around} {base h₀ : Heap} {L fa : Addr} {cdv : Value} {news : List (Addr × Obj)} {s : Shared} {Q : Flow → Shared → Prop} {E : Value → Shared → Prop}
  {o1 o2 o3 : Obj} {Dl Dn Dc Ds Dd Dt Wd : Addr} {nn nd nt : Nat} {nv dv tv : List Value} {ns : List Int} {ow : Obj}
  (B : Below A₀ base outer h₀) (F : Fr h₀ L s.heap (fun y => if y = "left" then some (.ref Dl) else if y = "numbers" then some (.ref Dn) else if y = "cells" then some (.ref Dc) else if y = "script" then some (.ref Ds) else none))
  (X : (Mine.K w.params).In h₀) (N : News h₀ L s.heap news) (T : Top VW LOO mean mg mb h₀) (hE : PassesOwn (model PRG w) (arL dp un gd L fa cdv outer) (envL L fa cdv) E)
  (hdp : dp + 40 < recursionLimit) (hu : un + 400 < cLine)
  (H : LawE w news (L + 1) o1 (L + 1 + 1) o2 (L + 1 + 1 + 1) o3 Dn Dd Dt Wd nn nd nt nv dv tv ns ow)
  (hret : ∀ h' tk' m', Fr h₀ L h' m' → Q (.ret (.bool true)) {s with heap := h', toks := tk'}) :
  wpAny (model PRG w) (arL dp un gd L fa cdv outer) (execs (BODY.drop 5) (envL L fa cdv)) Q E s := by
  refine fold_G ?_
  intro G9
  obtain ⟨R, h1, h2⟩ := plain_law (k := 6) (ns := ns) (by rw [H.ln]; exact Nat.le_refl _) (fun x hx => (H.pos x hx).1) H.nd
  have ld := depF_len 6 ns 0 (by rw [H.ln]; exact Nat.le_refl _)
  have hF := fun Dp np pv hp nw hm hsub => LawE.f H h1 h2 (Dp := Dp) (np := np) (pv := pv) hp nw hm hsub
  have ln := H.ln
  show wpAny _ _ (execs (_ :: _) _) _ _ _
  obtain ⟨m1, d1, m2, d2, m3, d3, mn, md, mt, mw, iN, iD, iT, hW, Bm, _, pos, _⟩ := H
  k_steps
  refine Stop.out ?_
  k_dflt (refine LCg.Assign_ListComp_U (F₀ := by k_asm) (by rfl) (by with_unfolding_all rfl) (by with_unfolding_all rfl) (by decide) (by rfl) (by decide) (by rfl) (by rfl) (by rfl) ?_)
  k_steps
  refine Stop.out ?_
  (with_reducible rename Fr _ _ _ _ => F1)
  (with_reducible rename News _ _ _ _ => N1)
  refine' LCg.CompSrc.range (n := 6) ?v1 F1 N1 (by assumption) ?v2 ?v3 ?v4 (fun g9 => ?_)
  case v1 => exact rfl
  case v2 => decide
  case v3 => decide
  case v4 => decide
  clear F1 N1
  refine restU_inv (fun i ys nw => nw = news ∧ ys.length = i ∧ ∀ k, k < i → ∃ t, ys[k]? = some (.str (st (joinP (namesAt ns R k))) t)) ?turn ?fin _ 0 [] _ (Nat.zero_add _) ⟨rfl, rfl, fun k hk => absurd hk (Nat.not_lt_zero _)⟩
  case turn =>
    rintro i ys nw v hi ⟨rfl, hyl, hy⟩ ⟨tv', hv⟩
    rw [Int.zero_add] at hv
    subst hv
    intro I oI C oC D m₂ h2' tk E' hC hx F2 N2 off ne
    (try dsimp only)
    k_steps
    refine Stop.out ?_
    (with_reducible rename Fr _ _ _ _ => F3)
    (with_reducible rename News _ _ _ _ => N3)
    obtain ⟨g1, g2⟩ := h1 i (by (first | lia | omega))
    refine' law_path_spec (D1 := Dd) (D0 := Dt) (deps := depF 0 6 ns) (names := ns.map fun n => apL n.toNat) (p := i) (out := R i) ?yB F3 ?yX N3 ?yT ?yk ?yd ?yu ?ym1 ?ym0 iD iT ?yl ?yz ?yp ?yn ?yzz g1 g2 ?yr
    case yB => k_asm
    case yX => k_asm
    case yT => k_asm
    case yk => exact rfl
    case yd => ktr_room
    case yu => ktr_units
    case ym1 => k_mem
    case ym0 => k_mem
    case yl => rw [ld, List.length_map]
    case yz => rw [ld, ln]; exact Nat.le_refl _
    case yp => rw [ld, ln]; exact hi
    case yn =>
      intro x hx
      obtain ⟨n, hn, rfl⟩ := List.mem_map.mp hx
      exact ⟨apL_ne (by have := (pos n hn).1; (first | lia | omega)), apL_lett _⟩
    case yzz =>
      intro x hx
      obtain ⟨n, hn, rfl⟩ := List.mem_map.mp hx
      exact Nat.le_trans (apL_len (pos n hn).2) (by decide)
    case yr =>
      intro t5 h5 tk5 F5 N5
      (try dsimp only)
      clear F3 N3
      k_steps
      refine Stop.out ?_
      refine LCg.CompEnd.intro F5 N5 _ (fun p hp => hp) off trivial ⟨rfl, by rw [List.length_append, hyl]; rfl, fun k hk => ?_⟩
      by_cases hki : k < i
      · rw [List.getElem?_append_left (by (first | lia | omega))]
        exact hy k hki
      · have : k = i := by (first | lia | omega)
        subst this
        exact ⟨t5, by rw [List.getElem?_append_right (by (first | lia | omega)), hyl, Nat.sub_self]; rfl⟩
  case fin =>
    intro ys nw hZ9
    refine fold_G ?_
    intro G9
    obtain ⟨rfl, hyl, hy⟩ := hZ9
    intro D h3 tk3 F3 N3 off3
    (try dsimp only)
    refine law_F B F3 X N3 T hE (by (first | lia | omega)) (by (first | lia | omega)) (hF D _ ys ⟨hyl, hy⟩ _ (.head _) (fun q hq => .tail _ hq)) ?_
    exact hret

end Mine
end
section
open PySem PySem.W PyProof.Rows
set_option maxRecDepth 100000
set_option maxHeartbeats 8000000
namespace Mine
theorem kfLD : (PySem.Challenge.rw_ik0083_01, Mine.K) = (PySem.Challenge.rw_ik0083_01, Mine.K) := by
  k_fill
  rfl
open PyProof.V in
theorem carried_names : ∀ {vs : List Value} {l : List (List Nat)}, StrsAre vs (l.map st) → CarriedAll vs (l.map fun x => PyData.str (st x))
  | _, [], .nil => .nil
  | _, x :: r, .cons _ t h => .cons (.str _ t) (carried_names h)
theorem strOk_st {x : List Nat} (h : ∀ c ∈ x, lett c) : PyData.strOk (st x) = true := by
  unfold PyData.strOk
  show Array.all (List.toArray x) _ = true
  rw [Array.all_eq_true']
  intro c hc
  have := (h c (by simpa using hc)).2
  exact decide_eq_true (by (first | lia | omega))
theorem canLay_names : ∀ {l : List (List Nat)}, (∀ x ∈ l, ∀ c ∈ x, lett c) → PyData.canLayAll0 (l.map fun x => PyData.str (st x)) = true
  | [], _ => rfl
  | x :: r, h => by simp [PyData.canLayAll0, PyData.canLay0, strOk_st (h x (.head _)), canLay_names fun y hy => h y (.tail _ hy)]
theorem depth_names : ∀ l : List (List Nat), PyData.depthAll (l.map fun x => PyData.str (st x)) = 0
  | [] => rfl
  | _ :: r => by simp [PyData.depthAll, PyData.depth, depth_names r]
theorem shaped_names {l : List (List Nat)} (h : ∀ x ∈ l, ∀ c ∈ x, lett c) : SeqAt.shaped (.list (l.map fun x => PyData.str (st x))) = true := by
  simp [SeqAt.shaped, PyData.canLay0, PyData.depth, canLay_names h, depth_names]
theorem same_names : ∀ l : List (List Nat), PySem.Spec.sameAll (l.map fun x => PyData.str (st x)) (l.map fun x => PyData.str (st x)) = true
  | [] => by simp [PySem.Spec.sameAll]
  | x :: r => by
    simp only [List.map_cons, PySem.Spec.sameAll, same_names r, Bool.and_true]
    rw [PyProof.V.same_str]; simp
section
variable {prog : Program} {w : World} {A : Around} {E : Value → Shared → Prop} {s : Shared} {h₀ : Heap} {L : Addr} {m : PySem.Str → Option Value} {news : List (Addr × Obj)}
theorem ne_names {a b : Addr} {n k : Nat} {xs ys : List Value} {l : List (List Nat)} {Q : Value → Shared → Prop} (N : News h₀ L s.heap news) (ha : (a, W.listOf xs.toArray n) ∈ news) (hb : (b, W.listOf ys.toArray k) ∈ news) (hi : StrsAre xs (l.map st)) (hj : StrsAre ys (l.map st)) (hl : ∀ x ∈ l, ∀ c ∈ x, lett c) (hu : A.units + 64 < cLine) (h : Q (.bool false) s) :
    wpAny (model prog w) A (compareOp .NotEq (.ref a) (.ref b)) Q E s :=
  ne_dataH_same (reads_newData (News.isList N ha) (carried_names hi)) (reads_newData (News.isList N hb) (carried_names hj)) (shaped_names hl) (shaped_names hl) hu (SeqAt.noMix_of_shape (.list .str) rfl _ _ (list_map_has fun _ => rfl) (list_map_has fun _ => rfl)) (by
    have : PySem.Spec.same (.list (l.map fun x => PyData.str (st x))) (.list (l.map fun x => PyData.str (st x))) = true := by simp only [PySem.Spec.same]; exact same_names l
    rw [this]; exact h)
theorem ne_ints_same {a b : Addr} {n k : Nat} {xs ys : List Value} {l l' : List Int} {Q : Value → Shared → Prop} (N : News h₀ L s.heap news) (ha : (a, W.listOf xs.toArray n) ∈ news) (hb : (b, W.listOf ys.toArray k) ∈ news) (hi : IntsAre xs l) (hj : IntsAre ys l') (e : l = l') (hu : A.units + 64 < cLine) (h : Q (.bool false) s) :
    wpAny (model prog w) A (compareOp .NotEq (.ref a) (.ref b)) Q E s := by
  subst e
  exact ke_ne_ints (News.isList N ha) (News.isList N hb) hi hj hu (by simpa using h)
end

end Mine
end
section
open PySem PySem.W PyProof.Rows
set_option maxRecDepth 100000
set_option maxHeartbeats 8000000
namespace Mine
theorem kfLD2 : (PySem.Challenge.rw_ik0083_01, Mine.K) = (PySem.Challenge.rw_ik0083_01, Mine.K) := by
  k_fill
  rfl
theorem rows_LD2_1 : True := by
  k_with_none
  (k_with "ktr_enter" => (refine' code_def ?k1 ?k2 ?k3 ?k4 ?k5 ?kA ?kF ?kK ?k6 ?k7 ?k8 ?k9 ?kB ?_ ?c2 ?c3 ?c4 ?c5; (case kA => exact rfl); (case kF => exact rfl); (case kK => assumption); (case k1 => k_asm); (case k2 => k_asm); (case k3 => k_asm); (case k4 => k_asm); (case k5 => k_asm); (case k6 => k_is); (case k7 => k_is); (case k8 => ktr_room); (case k9 => first | exact BindsTo.of_eq rfl | exact binds_K (by k_in) rfl (by k_is) rfl rfl rfl); (case c5 => decide); (case kB => exact locs rfl); (case c2 => exact rfl); (case c3 => exact rfl); (case c4 => exact rfl); k_whole; intro g' L' h' FG' F' N' B' X' T'; (try dsimp only); (try k_fold); (try (refine fold_A ?_; intro A9))))
  (k_with "k_room" => ktr_room)
  (k_with "k_all" => assumption)
  (k_with "ktr_room" => ((with_reducible rename _ + _ < recursionLimit => hd9); first | exact room_ 0 hd9 rfl rfl | exact room_ 1 hd9 rfl rfl | exact room_ 2 hd9 rfl rfl | exact room_ 3 hd9 rfl rfl | exact room_ 4 hd9 rfl rfl | exact room_ 5 hd9 rfl rfl | exact room_ 6 hd9 rfl rfl | exact room_ 7 hd9 rfl rfl | exact room_ 8 hd9 rfl rfl | exact room_ 9 hd9 rfl rfl | exact room_ 10 hd9 rfl rfl | exact room_ 11 hd9 rfl rfl | exact room_ 12 hd9 rfl rfl | exact room_ 13 hd9 rfl rfl | exact room_ 14 hd9 rfl rfl | exact room_ 15 hd9 rfl rfl | exact room_ 16 hd9 rfl rfl | exact room_ 17 hd9 rfl rfl | exact room_ 18 hd9 rfl rfl | exact room_ 19 hd9 rfl rfl | exact room_ 20 hd9 rfl rfl | exact room_ 21 hd9 rfl rfl | exact room_ 22 hd9 rfl rfl | exact room_ 23 hd9 rfl rfl | exact room_ 24 hd9 rfl rfl | exact room_ 25 hd9 rfl rfl))
  (k_with "ktr_units" => ((with_reducible rename _ + _ < cLine => hu9); first | exact units_ 0 hu9 rfl rfl | exact units_ 1 hu9 rfl rfl | exact units_ 2 hu9 rfl rfl | exact units_ 3 hu9 rfl rfl | exact units_ 4 hu9 rfl rfl | exact units_ 5 hu9 rfl rfl | exact units_ 6 hu9 rfl rfl | exact units_ 7 hu9 rfl rfl | exact units_ 8 hu9 rfl rfl | exact units_ 9 hu9 rfl rfl | exact units_ 10 hu9 rfl rfl | exact units_ 11 hu9 rfl rfl | exact units_ 12 hu9 rfl rfl | exact units_ 13 hu9 rfl rfl | exact units_ 14 hu9 rfl rfl | exact units_ 15 hu9 rfl rfl | exact units_ 16 hu9 rfl rfl | exact units_ 17 hu9 rfl rfl | exact units_ 18 hu9 rfl rfl | exact units_ 19 hu9 rfl rfl | exact units_ 20 hu9 rfl rfl | exact units_ 21 hu9 rfl rfl | exact units_ 22 hu9 rfl rfl | exact units_ 23 hu9 rfl rfl | exact units_ 24 hu9 rfl rfl | exact units_ 25 hu9 rfl rfl | exact units_ 26 hu9 rfl rfl | exact units_ 27 hu9 rfl rfl | exact units_ 28 hu9 rfl rfl | exact units_ 29 hu9 rfl rfl | exact units_ 30 hu9 rfl rfl | exact units_ 31 hu9 rfl rfl | exact units_ 32 hu9 rfl rfl | exact units_ 33 hu9 rfl rfl | exact units_ 34 hu9 rfl rfl | exact units_ 35 hu9 rfl rfl | exact units_ 36 hu9 rfl rfl | exact units_ 37 hu9 rfl rfl | exact units_ 38 hu9 rfl rfl | exact units_ 39 hu9 rfl rfl | exact units_ 40 hu9 rfl rfl | exact units_ 41 hu9 rfl rfl | exact units_ 42 hu9 rfl rfl | exact units_ 43 hu9 rfl rfl | exact units_ 44 hu9 rfl rfl | exact units_ 45 hu9 rfl rfl | exact units_ 46 hu9 rfl rfl | exact units_ 47 hu9 rfl rfl | exact units_ 48 hu9 rfl rfl | exact units_ 49 hu9 rfl rfl | exact units_ 50 hu9 rfl rfl | exact units_ 51 hu9 rfl rfl | exact units_ 52 hu9 rfl rfl | exact units_ 53 hu9 rfl rfl | exact units_ 54 hu9 rfl rfl | exact units_ 55 hu9 rfl rfl | exact units_ 56 hu9 rfl rfl | exact units_ 57 hu9 rfl rfl | exact units_ 58 hu9 rfl rfl | exact units_ 59 hu9 rfl rfl | exact units_ 60 hu9 rfl rfl))
  (k_with "k_ne" => (first | exact Nat.ne_of_lt (by assumption) | exact Nat.ne_of_gt (by assumption) | assumption | exact Ne.symm (by assumption) | exact Nat.ne_of_lt (And.left (by assumption)) | exact Nat.ne_of_gt (And.left (by assumption)) | exact Nat.ne_of_lt (And.left (And.right (by assumption))) | exact Nat.ne_of_gt (And.left (And.right (by assumption))) | exact Nat.ne_of_lt (And.left (And.right (And.right (by assumption)))) | exact Nat.ne_of_gt (And.left (And.right (And.right (by assumption)))) | exact Nat.ne_of_lt (And.left (And.right (And.right (And.right (by assumption))))) | exact Nat.ne_of_gt (And.left (And.right (And.right (And.right (by assumption))))) | exact Nat.ne_of_lt (And.left (And.right (And.right (And.right (And.right (by assumption)))))) | exact Nat.ne_of_gt (And.left (And.right (And.right (And.right (And.right (by assumption)))))) | exact Nat.ne_of_lt (And.left (And.right (And.right (And.right (And.right (And.right (by assumption))))))) | exact Nat.ne_of_gt (And.left (And.right (And.right (And.right (And.right (And.right (by assumption))))))) | exact Nat.ne_of_lt (And.left (And.right (And.right (And.right (And.right (And.right (And.right (by assumption)))))))) | exact Nat.ne_of_gt (And.left (And.right (And.right (And.right (And.right (And.right (And.right (by assumption)))))))) | exact Nat.ne_of_lt (And.left (And.right (And.right (And.right (And.right (And.right (And.right (And.right (by assumption))))))))) | exact Nat.ne_of_gt (And.left (And.right (And.right (And.right (And.right (And.right (And.right (And.right (by assumption))))))))) | exact Nat.ne_of_lt (And.left (And.right (And.right (And.right (And.right (And.right (And.right (And.right (And.right (by assumption)))))))))) | exact Nat.ne_of_gt (And.left (And.right (And.right (And.right (And.right (And.right (And.right (And.right (And.right (by assumption)))))))))) | exact Nat.ne_of_lt (And.left (And.right (And.right (And.right (And.right (And.right (And.right (And.right (And.right (And.right (by assumption))))))))))) | exact Nat.ne_of_gt (And.left (And.right (And.right (And.right (And.right (And.right (And.right (And.right (And.right (And.right (by assumption))))))))))) | (refine neN ?_; (try dsimp only); (first | lia | omega))))
  (k_with "exec If" => (refine if_fold ?_; intro q8))
  (k_with "isTrue Compare" => (refine is_cmp ?_))
  (k_with "ite" => (k_here; first | with_reducible refine ite_tt ?_ | with_reducible refine ite_ff ?_ | k_dflt (first | refine ite_pos (by decide) ?_ | refine ite_neg (by decide) ?_)))
  (k_with "execs cons" => (first | (rename Shared => s9; refine stmt_cons s9 ?_; intro t9 s8 q8) | (refine wpAny_execs_cons ?_; (try k_fold))))
  (k_with "k_mem" => (first | with_reducible assumption | (refine nb_skip ?_; k_mem)))
  (k_with "CompSrc" => (refine stop_of ?_))
  (k_with "CompEnd" => (refine stop_of ?_))
  (k_with "execs cons Assign cons" => (refine stop_of ?_))
  (k_with "eval ListComp" => (refine stop_of ?_))
  (k_with "compareOp NotEq ref ref" => (refine stop_of ?_))
  (k_with "binaryOp Add ref ref" => (refine stop_of ?_))
  (k_with "subscriptTail Name Name ref int" => (k_here; (with_reducible show wpAny _ _ (subscriptTail _ _ (Value.ref _) (Value.int _ _)) _ _ _); k_dflt (refine' words_item ?N ?m ?W ?k ?B ?b ?_; (case N => k_asm); (case m => k_mem); (case W => with_reducible assumption); (case k => with_reducible assumption); (case B => with_reducible assumption); (case b => with_reducible assumption); k_whole); intro _ _ _))
  exact trivial
theorem ints_get : ∀ {vs : List Value} {ns : List Int} {i : Nat} {v : Value}, IntsAre vs ns → vs[i]? = some v → ∃ n t, ns[i]? = some n ∧ v = .int n t
  | _, _, i, v, .nil, h => by simp at h
  | _, _, 0, v, .cons n t r, h => ⟨n, t, rfl, by simpa using h.symm⟩
  | _, _, i + 1, v, .cons n t r, h => by
    rw [List.getElem?_cons_succ] at h ⊢
    exact ints_get r h
theorem LawE.mono {w : World} {news nw : List (Addr × Obj)} {c1 c2 c3 : Addr} {o1 o2 o3 : Obj} {Dn Dd Dt Wd : Addr} {nn nd nt : Nat} {nv dv tv : List Value} {ns : List Int} {ow : Obj}
    (H : LawE w news c1 o1 c2 o2 c3 o3 Dn Dd Dt Wd nn nd nt nv dv tv ns ow) (hs : ∀ q ∈ news, q ∈ nw) : LawE w nw c1 o1 c2 o2 c3 o3 Dn Dd Dt Wd nn nd nt nv dv tv ns ow :=
  ⟨hs _ H.m1, H.d1, hs _ H.m2, H.d2, hs _ H.m3, H.d3, hs _ H.mn, hs _ H.md, hs _ H.mt, hs _ H.mw, H.iN, H.iD, H.iT, H.W, H.Bm, H.ln, H.pos, H.nd⟩
theorem law_D {w : World} {mean : ExcName → Option Value} {mg mb : PySem.Str → Option Value} {dp un : Nat} {gd : Option (List Code)} {outer : List Env} {A₀ : Around} {base h₀ : Heap} {L fa : Addr} {cdv : Value} {news : List (Addr × Obj)} {s : Shared} {Q : Flow → Shared → Prop} {E : Value → Shared → Prop}
  {o1 o2 o3 : Obj} {Dl Dn Dc Ds Dd Dt Wd : Addr} {nl nn nd nt : Nat} {lv nv dv tv : List Value} {ns : List Int} {ow : Obj}
  (B : Below A₀ base outer h₀) (F : Fr h₀ L s.heap (fun y => if y = "left" then some (.ref Dl) else if y = "numbers" then some (.ref Dn) else if y = "cells" then some (.ref Dc) else if y = "script" then some (.ref Ds) else none))
  (X : (Mine.K w.params).In h₀) (N : News h₀ L s.heap news) (T : Top VW LOO mean mg mb h₀) (hE : PassesOwn (model PRG w) (arL dp un gd L fa cdv outer) (envL L fa cdv) E)
  (hdp : dp + 40 < recursionLimit) (hu : un + 400 < cLine)
  (H : LawE w news (L + 1) o1 (L + 1 + 1) o2 (L + 1 + 1 + 1) o3 Dn Dd Dt Wd nn nd nt nv dv tv ns ow)
  (ml : (Dl, W.listOf lv.toArray nl) ∈ news) (iL : IntsAre lv (0 :: (depF 0 6 ns ++ [0])))
  (hret : ∀ h' tk' m', Fr h₀ L h' m' → Q (.ret (.bool true)) {s with heap := h', toks := tk'}) :
  wpAny (model PRG w) (arL dp un gd L fa cdv outer) (execs (BODY.drop 4) (envL L fa cdv)) Q E s := by
  have ld := depF_len 6 ns 0 (by rw [H.ln]; exact Nat.le_refl _)
  have ln := H.ln
  show wpAny _ _ (execs (_ :: _) _) _ _ _
  have H0 := H
  obtain ⟨m1, d1, m2, d2, m3, d3, mn, md, mt, mw, iN, iD, iT, hW, Bm, _, pos, _⟩ := H
  have pos6 : ∀ x ∈ ns, x.toNat < 16 ^ 6 := fun x hx => (pos x hx).2
  k_steps
  refine Stop.out ?_
  k_dflt (refine LCg.ListComp_U (F₀ := by k_asm) (by with_unfolding_all rfl) (by decide) (by rfl) (by decide) (by rfl) ?_)
  k_steps
  refine Stop.out ?_
  (with_reducible rename Fr _ _ _ _ => F1)
  (with_reducible rename News _ _ _ _ => N1)
  refine' LCg.CompSrc.ledger (k := nn) (its := nv.toArray) ?v1 F1 N1 ?v2 ?v3 (fun g9 => ?_)
  case v1 => exact rfl
  case v2 => exact mn
  case v3 => rw [List.size_toArray, iN.length, ln]; decide
  refine restU_inv (fun i ys nw => nw = news ∧ StrsAre ys (((ns.take i).map fun n => apL n.toNat).map st)) ?turn ?fin _ 0 [] _ (Nat.zero_add _) ⟨rfl, .nil⟩
  case turn =>
    rintro i ys nw v hi ⟨rfl, hy⟩ hv
    obtain ⟨n, t, hn, rfl⟩ := ints_get iN (by simpa using hv)
    have hnm : n ∈ ns := List.mem_of_getElem? hn
    intro I oI C oC D m₂ h2' tk E' hC hx F2 N2 off ne
    (try dsimp only)
    k_steps
    refine Stop.out ?_
    refine LCg.CompEnd.intro F2 N2 _ (fun p hp => hp) off (.inr ⟨_, mn, rfl, _, rfl⟩) ⟨rfl, ?_⟩
    rw [List.take_add_one, hn, List.map_append, List.map_append]
    exact hy.append' (.cons _ _ .nil)
  case fin =>
    rintro ys nw ⟨rfl, yN⟩
    rw [List.size_toArray, iN.length, List.take_length] at yN
    intro D h3 tk3 F3 N3 off3
    clear F1 N1
    (try dsimp only)
    have hlet : ∀ x ∈ ns.map (fun n => apL n.toNat), ∀ c ∈ x, lett c := fun x hx => by
      obtain ⟨n, _, rfl⟩ := List.mem_map.mp hx
      exact apL_lett _
    k_steps
    refine Stop.out ?_
    refine' ne_names N3 ?q1 ?q2 iT yN hlet ?q5 ?_
    case q1 => exact nb_skip mt
    case q2 => exact .head _
    case q5 => ktr_units
    k_steps
    refine Stop.out ?_
    (with_reducible rename Fr _ _ _ _ => F4)
    (with_reducible rename News _ _ _ _ => N4)
    refine' kmk_add_ints F4 N4 (News.isList N4 (.head _)) (News.isList N4 (nb_skip (nb_skip md))) (.cons _ _ .nil) iD ?_ ?z1
    case z1 => rw [ld, ln]; decide
    intro D5 ws5 h5 F5 N5 l5 i5
    k_lt l5
    clear F4 N4
    k_steps
    refine Stop.out ?_
    (with_reducible rename Fr _ _ _ _ => F6)
    (with_reducible rename News _ _ _ _ => N6)
    refine' kmk_add_ints F6 N6 (News.isList N6 (nb_skip (.head _))) (News.isList N6 (.head _)) i5 (.cons _ _ .nil) ?_ ?z2
    case z2 => rw [List.length_append, ld, ln]; decide
    intro D7 ws7 h7 F7 N7 l7 i7
    k_lt l7
    clear F6 N6
    k_steps
    refine Stop.out ?_
    (with_reducible rename Fr _ _ _ _ => F8)
    (with_reducible rename News _ _ _ _ => N8)
    refine' ne_ints_same N8 ?r1 ?r2 iL i7 rfl ?r5 ?_
    case r1 => exact nb_skip (nb_skip (nb_skip (nb_skip (nb_skip ml))))
    case r2 => exact .head _
    case r5 => ktr_units
    k_steps
    refine Stop.out ?_
    refine law_E B F8 X N8 T hE hdp hu (LawE.mono H0 (fun q hq => nb_skip (nb_skip (nb_skip (nb_skip (nb_skip hq)))))) hret

end Mine
end
section
open PySem PySem.W PyProof.Rows
set_option maxRecDepth 100000
set_option maxHeartbeats 8000000
namespace Mine
theorem kfLC : (PySem.Challenge.rw_ik0083_01, Mine.K) = (PySem.Challenge.rw_ik0083_01, Mine.K) := by
  k_fill
  rfl
theorem rows_LC_1 : True := by
  k_with_none
  (k_with "ktr_enter" => (refine' code_def ?k1 ?k2 ?k3 ?k4 ?k5 ?kA ?kF ?kK ?k6 ?k7 ?k8 ?k9 ?kB ?_ ?c2 ?c3 ?c4 ?c5; (case kA => exact rfl); (case kF => exact rfl); (case kK => assumption); (case k1 => k_asm); (case k2 => k_asm); (case k3 => k_asm); (case k4 => k_asm); (case k5 => k_asm); (case k6 => k_is); (case k7 => k_is); (case k8 => ktr_room); (case k9 => first | exact BindsTo.of_eq rfl | exact binds_K (by k_in) rfl (by k_is) rfl rfl rfl); (case c5 => decide); (case kB => exact locs rfl); (case c2 => exact rfl); (case c3 => exact rfl); (case c4 => exact rfl); k_whole; intro g' L' h' FG' F' N' B' X' T'; (try dsimp only); (try k_fold); (try (refine fold_A ?_; intro A9))))
  (k_with "k_room" => ktr_room)
  (k_with "k_all" => assumption)
  (k_with "ktr_room" => ((with_reducible rename _ + _ < recursionLimit => hd9); first | exact room_ 0 hd9 rfl rfl | exact room_ 1 hd9 rfl rfl | exact room_ 2 hd9 rfl rfl | exact room_ 3 hd9 rfl rfl | exact room_ 4 hd9 rfl rfl | exact room_ 5 hd9 rfl rfl | exact room_ 6 hd9 rfl rfl | exact room_ 7 hd9 rfl rfl | exact room_ 8 hd9 rfl rfl | exact room_ 9 hd9 rfl rfl | exact room_ 10 hd9 rfl rfl | exact room_ 11 hd9 rfl rfl | exact room_ 12 hd9 rfl rfl | exact room_ 13 hd9 rfl rfl | exact room_ 14 hd9 rfl rfl | exact room_ 15 hd9 rfl rfl | exact room_ 16 hd9 rfl rfl | exact room_ 17 hd9 rfl rfl | exact room_ 18 hd9 rfl rfl | exact room_ 19 hd9 rfl rfl | exact room_ 20 hd9 rfl rfl | exact room_ 21 hd9 rfl rfl | exact room_ 22 hd9 rfl rfl | exact room_ 23 hd9 rfl rfl | exact room_ 24 hd9 rfl rfl | exact room_ 25 hd9 rfl rfl))
  (k_with "ktr_units" => ((with_reducible rename _ + _ < cLine => hu9); first | exact units_ 0 hu9 rfl rfl | exact units_ 1 hu9 rfl rfl | exact units_ 2 hu9 rfl rfl | exact units_ 3 hu9 rfl rfl | exact units_ 4 hu9 rfl rfl | exact units_ 5 hu9 rfl rfl | exact units_ 6 hu9 rfl rfl | exact units_ 7 hu9 rfl rfl | exact units_ 8 hu9 rfl rfl | exact units_ 9 hu9 rfl rfl | exact units_ 10 hu9 rfl rfl | exact units_ 11 hu9 rfl rfl | exact units_ 12 hu9 rfl rfl | exact units_ 13 hu9 rfl rfl | exact units_ 14 hu9 rfl rfl | exact units_ 15 hu9 rfl rfl | exact units_ 16 hu9 rfl rfl | exact units_ 17 hu9 rfl rfl | exact units_ 18 hu9 rfl rfl | exact units_ 19 hu9 rfl rfl | exact units_ 20 hu9 rfl rfl | exact units_ 21 hu9 rfl rfl | exact units_ 22 hu9 rfl rfl | exact units_ 23 hu9 rfl rfl | exact units_ 24 hu9 rfl rfl | exact units_ 25 hu9 rfl rfl | exact units_ 26 hu9 rfl rfl | exact units_ 27 hu9 rfl rfl | exact units_ 28 hu9 rfl rfl | exact units_ 29 hu9 rfl rfl | exact units_ 30 hu9 rfl rfl | exact units_ 31 hu9 rfl rfl | exact units_ 32 hu9 rfl rfl | exact units_ 33 hu9 rfl rfl | exact units_ 34 hu9 rfl rfl | exact units_ 35 hu9 rfl rfl | exact units_ 36 hu9 rfl rfl | exact units_ 37 hu9 rfl rfl | exact units_ 38 hu9 rfl rfl | exact units_ 39 hu9 rfl rfl | exact units_ 40 hu9 rfl rfl | exact units_ 41 hu9 rfl rfl | exact units_ 42 hu9 rfl rfl | exact units_ 43 hu9 rfl rfl | exact units_ 44 hu9 rfl rfl | exact units_ 45 hu9 rfl rfl | exact units_ 46 hu9 rfl rfl | exact units_ 47 hu9 rfl rfl | exact units_ 48 hu9 rfl rfl | exact units_ 49 hu9 rfl rfl | exact units_ 50 hu9 rfl rfl | exact units_ 51 hu9 rfl rfl | exact units_ 52 hu9 rfl rfl | exact units_ 53 hu9 rfl rfl | exact units_ 54 hu9 rfl rfl | exact units_ 55 hu9 rfl rfl | exact units_ 56 hu9 rfl rfl | exact units_ 57 hu9 rfl rfl | exact units_ 58 hu9 rfl rfl | exact units_ 59 hu9 rfl rfl | exact units_ 60 hu9 rfl rfl))
  (k_with "k_ne" => (first | exact Nat.ne_of_lt (by assumption) | exact Nat.ne_of_gt (by assumption) | assumption | exact Ne.symm (by assumption) | exact Nat.ne_of_lt (And.left (by assumption)) | exact Nat.ne_of_gt (And.left (by assumption)) | exact Nat.ne_of_lt (And.left (And.right (by assumption))) | exact Nat.ne_of_gt (And.left (And.right (by assumption))) | exact Nat.ne_of_lt (And.left (And.right (And.right (by assumption)))) | exact Nat.ne_of_gt (And.left (And.right (And.right (by assumption)))) | exact Nat.ne_of_lt (And.left (And.right (And.right (And.right (by assumption))))) | exact Nat.ne_of_gt (And.left (And.right (And.right (And.right (by assumption))))) | exact Nat.ne_of_lt (And.left (And.right (And.right (And.right (And.right (by assumption)))))) | exact Nat.ne_of_gt (And.left (And.right (And.right (And.right (And.right (by assumption)))))) | exact Nat.ne_of_lt (And.left (And.right (And.right (And.right (And.right (And.right (by assumption))))))) | exact Nat.ne_of_gt (And.left (And.right (And.right (And.right (And.right (And.right (by assumption))))))) | exact Nat.ne_of_lt (And.left (And.right (And.right (And.right (And.right (And.right (And.right (by assumption)))))))) | exact Nat.ne_of_gt (And.left (And.right (And.right (And.right (And.right (And.right (And.right (by assumption)))))))) | exact Nat.ne_of_lt (And.left (And.right (And.right (And.right (And.right (And.right (And.right (And.right (by assumption))))))))) | exact Nat.ne_of_gt (And.left (And.right (And.right (And.right (And.right (And.right (And.right (And.right (by assumption))))))))) | exact Nat.ne_of_lt (And.left (And.right (And.right (And.right (And.right (And.right (And.right (And.right (And.right (by assumption)))))))))) | exact Nat.ne_of_gt (And.left (And.right (And.right (And.right (And.right (And.right (And.right (And.right (And.right (by assumption)))))))))) | exact Nat.ne_of_lt (And.left (And.right (And.right (And.right (And.right (And.right (And.right (And.right (And.right (And.right (by assumption))))))))))) | exact Nat.ne_of_gt (And.left (And.right (And.right (And.right (And.right (And.right (And.right (And.right (And.right (And.right (by assumption))))))))))) | (refine neN ?_; (try dsimp only); (first | lia | omega))))
  (k_with "exec If" => (refine if_fold ?_; intro q8))
  (k_with "isTrue Compare" => (refine is_cmp ?_))
  (k_with "ite" => (k_here; first | with_reducible refine ite_tt ?_ | with_reducible refine ite_ff ?_ | k_dflt (first | refine ite_pos (by decide) ?_ | refine ite_neg (by decide) ?_)))
  (k_with "execs cons" => (first | (rename Shared => s9; refine stmt_cons s9 ?_; intro t9 s8 q8) | (refine wpAny_execs_cons ?_; (try k_fold))))
  (k_with "k_mem" => (first | with_reducible assumption | (refine nb_skip ?_; k_mem)))
  (k_with "call ref" => (k_here; (with_reducible show wpAny _ _ (call (Value.ref 846) _) _ _ _); (refine stop_of ?_)))
  (k_with "call ref" => (k_here; (with_reducible show wpAny _ _ (call (Value.ref 853) _) _ _ _); (refine stop_of ?_)))
  exact trivial
theorem all_c2 {L : Addr} {o1 : Obj} {news : List (Addr × Obj)} (hlow : ∀ q ∈ news, q.1 ≠ L + 1 ∧ q.1 ≠ L + 1 + 1 ∧ q.1 ≠ L + 1 + 1 + 1) : ∀ q ∈ (L + 1, o1) :: news, q.1 ≠ L + 1 + 1 := by
  intro q hq
  rcases List.mem_cons.mp hq with rfl | hq
  · exact Nat.ne_of_lt (Nat.lt_succ_self _)
  · exact (hlow q hq).2.1
theorem all_c3 {L : Addr} {o1 o2 : Obj} {news : List (Addr × Obj)} (hlow : ∀ q ∈ news, q.1 ≠ L + 1 ∧ q.1 ≠ L + 1 + 1 ∧ q.1 ≠ L + 1 + 1 + 1) : ∀ q ∈ (L + 1 + 1, o2) :: (L + 1, o1) :: news, q.1 ≠ L + 1 + 1 + 1 := by
  intro q hq
  rcases List.mem_cons.mp hq with rfl | hq
  · exact Nat.ne_of_lt (Nat.lt_succ_self _)
  · rcases List.mem_cons.mp hq with rfl | hq
    · exact Nat.ne_of_lt (Nat.lt_succ_of_lt (Nat.lt_succ_self _))
    · exact (hlow q hq).2.2
theorem rows_LC_2 : True := by
  (k_with "k_all" => (first | assumption | exact all_c2 (by assumption) | exact all_c3 (by assumption)))
  (k_with "execs cons If" => (refine stop_of ?_))
  exact trivial
theorem law_C {w : World} {mean : ExcName → Option Value} {mg mb : PySem.Str → Option Value} {dp un : Nat} {gd : Option (List Code)} {outer : List Env} {A₀ : Around} {base h₀ : Heap} {L fa : Addr} {cdv : Value} {news : List (Addr × Obj)} {s : Shared} {Q : Flow → Shared → Prop} {E : Value → Shared → Prop}
  {o1 o2 o3 : Obj} {Dn Dc Ds Wd : Addr} {nn : Nat} {nv : List Value} {ns : List Int} {ow : Obj}
  (B : Below A₀ base outer h₀) (F : Fr h₀ L s.heap (fun y => if y = "numbers" then some (.ref Dn) else if y = "cells" then some (.ref Dc) else if y = "script" then some (.ref Ds) else none))
  (X : (Mine.K w.params).In h₀) (N : News h₀ L s.heap ((L + 1 + 1 + 1, o3) :: (L + 1 + 1, o2) :: (L + 1, o1) :: news)) (T : Top VW LOO mean mg mb h₀) (hE : PassesOwn (model PRG w) (arL dp un gd L fa cdv outer) (envL L fa cdv) E)
  (hdp : dp + 40 < recursionLimit) (hu : un + 400 < cLine)
  (d1 : o1.data = .cell (some (.ref Wd))) (d2 : o2.data = .cell none) (d3 : o3.data = .cell none) (hlow : ∀ q ∈ news, q.1 ≠ L + 1 ∧ q.1 ≠ L + 1 + 1 ∧ q.1 ≠ L + 1 + 1 + 1)
  (mn : (Dn, W.listOf nv.toArray nn) ∈ news) (mw : (Wd, ow) ∈ news) (iN : IntsAre nv ns) (hW : WordsObj w ow ns) (Bm : (Wd == sysModules) = false) (ln : ns.length = 6) (pos : ∀ x ∈ ns, 0 < x ∧ x.toNat < 16 ^ 6) (nd : ns.Nodup)
  (hret : ∀ h' tk' m', Fr h₀ L h' m' → Q (.ret (.bool true)) {s with heap := h', toks := tk'}) :
  wpAny (model PRG w) (arL dp un gd L fa cdv outer) (execs (BODY.drop 3) (envL L fa cdv)) Q E s := by
  have ld := depF_len 6 ns 0 (by rw [ln]; exact Nat.le_refl _)
  have pos6 : ∀ x ∈ ns, x.toNat < 16 ^ 6 := fun x hx => (pos x hx).2
  show wpAny _ _ (execs (_ :: _) _) _ _ _
  k_steps
  refine Stop.out ?_
  refine' line_use (k := 6) (line_all 6) B F X N T ?yk ?yd ?yu ?y1 ?y2 iN ?yz ?yz2 pos6 hW Bm ?_
  case yk => exact rfl
  case yd => exact Nat.lt_of_le_of_lt (by (first | lia | omega)) hdp
  case yu => exact Nat.lt_of_le_of_lt (by (first | lia | omega)) hu
  case y1 => exact nb_skip (nb_skip (nb_skip mn))
  case y2 => exact nb_skip (nb_skip (nb_skip mw))
  case yz => exact Nat.le_of_eq ln
  case yz2 => rw [ln]; decide
  intro t1 h1 tk1 hl1 F1 N1
  clear F N
  refine fold_G ?_
  intro G9
  obtain ⟨tks, left, hA, hfl, htl, hfold, hleft⟩ := read_line (k := 6) (ns := ns) (Nat.le_of_eq ln) (fun x hx => (pos x hx).1) (by intro e; rw [e] at ln; cases ln)
  have hz : ∀ w ∈ tks, w.length ≤ 3900 := fun w hw => by
    have := mem_flat hw
    rw [← hfl] at this
    (first | lia | omega)
  k_steps
  refine Stop.out ?_
  refine' law_read_spec (l := lineF 6 ns) B F1 X N1 T ?zk ?zd ?zu ?zx hA hz hfl ?zn hfold ?_
  case zk => exact rfl
  case zd => exact Nat.lt_of_le_of_lt (by (first | lia | omega)) hdp
  case zu => exact Nat.lt_of_le_of_lt (by (first | lia | omega)) hu
  case zx => (first | lia | omega)
  case zn => rw [htl, ln]; decide
  intro aT a0 a1 a2 pv dv tv tl n0 n1 n2 h2 tk2 F2 N2 i1 i2 i3 l21 l10 l0T lnew
  clear F1 N1
  dsimp only at i1 i2 i3 N2
  have g2 : @LT.lt Nat _ (L + 1 + 1 + 1) a2 := lnew _ (.head _)
  k_steps
  refine Stop.out ?_
  (with_reducible rename Fr _ _ _ _ => F9)
  (with_reducible rename News _ _ _ _ => N9)
  (with_reducible rename Obj.data _ = Data.cell (some (Value.ref a1)) => d2')
  (with_reducible rename Obj.data _ = Data.cell (some (Value.ref a0)) => d3')
  have iL := i1.append (.cons 0 tl .nil)
  rw [hleft] at iL
  try dsimp only
  refine law_D (nn := nn) (nd := n1) (nt := n0) B F9 X N9 T hE hdp hu ⟨?m1, d1, ?m2, d2', ?m3, d3', ?mn, ?md, ?mt, ?mw, iN, i2, i3, hW, Bm, ln, pos, nd⟩ (nb_skip (.head _)) iL hret
  case m1 => exact nb_skip (nb_skip (nb_skip (nb_skip (nb_skip (nb_skip (.head _))))))
  case m2 => exact nb_skip (nb_skip (nb_skip (nb_skip (nb_skip (.head _)))))
  case m3 => exact nb_skip (nb_skip (nb_skip (nb_skip (.head _))))
  case mn => exact nb_skip (nb_skip (nb_skip (nb_skip (nb_skip (nb_skip (nb_skip mn))))))
  case md => exact nb_skip (nb_skip (.head _))
  case mt => exact nb_skip (nb_skip (nb_skip (.head _)))
  case mw => exact nb_skip (nb_skip (nb_skip (nb_skip (nb_skip (nb_skip (nb_skip mw))))))

end Mine
end
section
open PySem PySem.W PyProof.Rows
set_option maxRecDepth 100000
set_option maxHeartbeats 8000000
namespace Mine
theorem kfLBw : (PySem.Challenge.rw_ik0083_01, Mine.K) = (PySem.Challenge.rw_ik0083_01, Mine.K) := by
  k_fill
  rfl
theorem rows_LBw_1 : True := by
  k_with_none
  (k_with "ktr_enter" => (refine' code_def ?k1 ?k2 ?k3 ?k4 ?k5 ?kA ?kF ?kK ?k6 ?k7 ?k8 ?k9 ?kB ?_ ?c2 ?c3 ?c4 ?c5; (case kA => exact rfl); (case kF => exact rfl); (case kK => assumption); (case k1 => k_asm); (case k2 => k_asm); (case k3 => k_asm); (case k4 => k_asm); (case k5 => k_asm); (case k6 => k_is); (case k7 => k_is); (case k8 => ktr_room); (case k9 => first | exact BindsTo.of_eq rfl | exact binds_K (by k_in) rfl (by k_is) rfl rfl rfl); (case c5 => decide); (case kB => exact locs rfl); (case c2 => exact rfl); (case c3 => exact rfl); (case c4 => exact rfl); k_whole; intro g' L' h' FG' F' N' B' X' T'; (try dsimp only); (try k_fold); (try (refine fold_A ?_; intro A9))))
  (k_with "k_room" => ktr_room)
  (k_with "k_all" => assumption)
  (k_with "ktr_room" => ((with_reducible rename _ + _ < recursionLimit => hd9); first | exact room_ 0 hd9 rfl rfl | exact room_ 1 hd9 rfl rfl | exact room_ 2 hd9 rfl rfl | exact room_ 3 hd9 rfl rfl | exact room_ 4 hd9 rfl rfl | exact room_ 5 hd9 rfl rfl | exact room_ 6 hd9 rfl rfl | exact room_ 7 hd9 rfl rfl | exact room_ 8 hd9 rfl rfl | exact room_ 9 hd9 rfl rfl | exact room_ 10 hd9 rfl rfl | exact room_ 11 hd9 rfl rfl | exact room_ 12 hd9 rfl rfl | exact room_ 13 hd9 rfl rfl | exact room_ 14 hd9 rfl rfl | exact room_ 15 hd9 rfl rfl | exact room_ 16 hd9 rfl rfl | exact room_ 17 hd9 rfl rfl | exact room_ 18 hd9 rfl rfl | exact room_ 19 hd9 rfl rfl | exact room_ 20 hd9 rfl rfl | exact room_ 21 hd9 rfl rfl | exact room_ 22 hd9 rfl rfl | exact room_ 23 hd9 rfl rfl | exact room_ 24 hd9 rfl rfl | exact room_ 25 hd9 rfl rfl))
  (k_with "ktr_units" => ((with_reducible rename _ + _ < cLine => hu9); first | exact units_ 0 hu9 rfl rfl | exact units_ 1 hu9 rfl rfl | exact units_ 2 hu9 rfl rfl | exact units_ 3 hu9 rfl rfl | exact units_ 4 hu9 rfl rfl | exact units_ 5 hu9 rfl rfl | exact units_ 6 hu9 rfl rfl | exact units_ 7 hu9 rfl rfl | exact units_ 8 hu9 rfl rfl | exact units_ 9 hu9 rfl rfl | exact units_ 10 hu9 rfl rfl | exact units_ 11 hu9 rfl rfl | exact units_ 12 hu9 rfl rfl | exact units_ 13 hu9 rfl rfl | exact units_ 14 hu9 rfl rfl | exact units_ 15 hu9 rfl rfl | exact units_ 16 hu9 rfl rfl | exact units_ 17 hu9 rfl rfl | exact units_ 18 hu9 rfl rfl | exact units_ 19 hu9 rfl rfl | exact units_ 20 hu9 rfl rfl | exact units_ 21 hu9 rfl rfl | exact units_ 22 hu9 rfl rfl | exact units_ 23 hu9 rfl rfl | exact units_ 24 hu9 rfl rfl | exact units_ 25 hu9 rfl rfl | exact units_ 26 hu9 rfl rfl | exact units_ 27 hu9 rfl rfl | exact units_ 28 hu9 rfl rfl | exact units_ 29 hu9 rfl rfl | exact units_ 30 hu9 rfl rfl | exact units_ 31 hu9 rfl rfl | exact units_ 32 hu9 rfl rfl | exact units_ 33 hu9 rfl rfl | exact units_ 34 hu9 rfl rfl | exact units_ 35 hu9 rfl rfl | exact units_ 36 hu9 rfl rfl | exact units_ 37 hu9 rfl rfl | exact units_ 38 hu9 rfl rfl | exact units_ 39 hu9 rfl rfl | exact units_ 40 hu9 rfl rfl | exact units_ 41 hu9 rfl rfl | exact units_ 42 hu9 rfl rfl | exact units_ 43 hu9 rfl rfl | exact units_ 44 hu9 rfl rfl | exact units_ 45 hu9 rfl rfl | exact units_ 46 hu9 rfl rfl | exact units_ 47 hu9 rfl rfl | exact units_ 48 hu9 rfl rfl | exact units_ 49 hu9 rfl rfl | exact units_ 50 hu9 rfl rfl | exact units_ 51 hu9 rfl rfl | exact units_ 52 hu9 rfl rfl | exact units_ 53 hu9 rfl rfl | exact units_ 54 hu9 rfl rfl | exact units_ 55 hu9 rfl rfl | exact units_ 56 hu9 rfl rfl | exact units_ 57 hu9 rfl rfl | exact units_ 58 hu9 rfl rfl | exact units_ 59 hu9 rfl rfl | exact units_ 60 hu9 rfl rfl))
  (k_with "k_ne" => (first | exact Nat.ne_of_lt (by assumption) | exact Nat.ne_of_gt (by assumption) | assumption | exact Ne.symm (by assumption) | exact Nat.ne_of_lt (And.left (by assumption)) | exact Nat.ne_of_gt (And.left (by assumption)) | exact Nat.ne_of_lt (And.left (And.right (by assumption))) | exact Nat.ne_of_gt (And.left (And.right (by assumption))) | exact Nat.ne_of_lt (And.left (And.right (And.right (by assumption)))) | exact Nat.ne_of_gt (And.left (And.right (And.right (by assumption)))) | exact Nat.ne_of_lt (And.left (And.right (And.right (And.right (by assumption))))) | exact Nat.ne_of_gt (And.left (And.right (And.right (And.right (by assumption))))) | exact Nat.ne_of_lt (And.left (And.right (And.right (And.right (And.right (by assumption)))))) | exact Nat.ne_of_gt (And.left (And.right (And.right (And.right (And.right (by assumption)))))) | exact Nat.ne_of_lt (And.left (And.right (And.right (And.right (And.right (And.right (by assumption))))))) | exact Nat.ne_of_gt (And.left (And.right (And.right (And.right (And.right (And.right (by assumption))))))) | exact Nat.ne_of_lt (And.left (And.right (And.right (And.right (And.right (And.right (And.right (by assumption)))))))) | exact Nat.ne_of_gt (And.left (And.right (And.right (And.right (And.right (And.right (And.right (by assumption)))))))) | exact Nat.ne_of_lt (And.left (And.right (And.right (And.right (And.right (And.right (And.right (And.right (by assumption))))))))) | exact Nat.ne_of_gt (And.left (And.right (And.right (And.right (And.right (And.right (And.right (And.right (by assumption))))))))) | exact Nat.ne_of_lt (And.left (And.right (And.right (And.right (And.right (And.right (And.right (And.right (And.right (by assumption)))))))))) | exact Nat.ne_of_gt (And.left (And.right (And.right (And.right (And.right (And.right (And.right (And.right (And.right (by assumption)))))))))) | exact Nat.ne_of_lt (And.left (And.right (And.right (And.right (And.right (And.right (And.right (And.right (And.right (And.right (by assumption))))))))))) | exact Nat.ne_of_gt (And.left (And.right (And.right (And.right (And.right (And.right (And.right (And.right (And.right (And.right (by assumption))))))))))) | (refine neN ?_; (try dsimp only); (first | lia | omega))))
  (k_with "exec If" => (refine if_fold ?_; intro q8))
  (k_with "isTrue Compare" => (refine is_cmp ?_))
  (k_with "ite" => (k_here; first | with_reducible refine ite_tt ?_ | with_reducible refine ite_ff ?_ | k_dflt (first | refine ite_pos (by decide) ?_ | refine ite_neg (by decide) ?_)))
  (k_with "execs cons" => (first | (rename Shared => s9; refine stmt_cons s9 ?_; intro t9 s8 q8) | (refine wpAny_execs_cons ?_; (try k_fold))))
  (k_with "k_mem" => (first | with_reducible assumption | (refine nb_skip ?_; k_mem)))
  (k_with "k_all" => (first | assumption | exact all_c2 (by assumption) | exact all_c3 (by assumption)))
  (k_with "eval DictComp" => (refine stop_of ?_))
  (k_with "DictEnd" => (refine stop_of ?_))
  (k_with "SrcD" => (refine stop_of ?_))
  (k_with "call ref" => (k_here; (with_reducible show wpAny _ _ (call (Value.ref 733) _) _ _ _); (refine stop_of ?_)))
  exact trivial
theorem stored_new {kvs : List (Int × Value)} {k : Int} {v : Value} (h : k ∉ kvs.map (·.1)) : stored kvs k v = kvs ++ [(k, v)] := by
  unfold stored
  have : (kvs.any fun kv => decide (kv.1 = k)) = false := by
    rw [List.any_eq_false]
    intro x hx
    simp only [decide_eq_true_eq]
    exact fun e => h (e ▸ List.mem_map_of_mem hx)
  rw [this]
  rfl
theorem flat_snoc {enc : Int → PyData} {k : Int} {v : Value} {d : PyData} (hv : PyProof.V.Flat v d) : ∀ {kvs : List (Int × Value)} {D : List (PyData × PyData)}, PyProof.V.FlatPairs enc kvs D → PyProof.V.FlatPairs enc (kvs ++ [(k, v)]) (D ++ [(enc k, d)])
  | _, _, .nil => .cons hv .nil
  | _, _, .cons h r => .cons h (flat_snoc hv r)
theorem take_new {ns : List Int} {i : Nat} {k : Int} (hd : ns.Nodup) (h : ns[i]? = some k) : k ∉ ns.take i := by
  have h1 : (ns.take (i + 1)).Nodup := hd.sublist (List.take_sublist _ _)
  rw [List.take_add_one, h, List.nodup_append] at h1
  intro hm
  exact h1.2.2 k hm k (by simp) rfl
theorem rows_LBw_2 : True := by
  (k_with "getMethod bytes" => (k_here; (with_reducible refine dec_method ?_)))
  (k_with "call builtin:bytes.decode" => (k_here; (refine' dec_call ?xl ?xn ?xz ?_; (case xl => with_reducible assumption); (case xn => with_reducible assumption); (case xz => with_reducible assumption)); intro _ _))
  exact trivial
/-- the words as data -/
noncomputable def wordsD (ns : List Int) : List (PyData × PyData) := ns.map fun n => (PyData.int n, PyData.str (st (apL n.toNat)))
theorem words_look {n : Int} : ∀ {ns : List Int}, n ∈ ns → PySem.Spec.lookup (.int n) (wordsD ns) = some (.str (st (apL n.toNat)))
  | a :: r, h => by
    by_cases e : a = n
    · subst e
      simp [wordsD, PySem.Spec.lookup, PySem.Spec.same]
    · have hr : n ∈ r := by
        rcases List.mem_cons.mp h with h | h
        · exact absurd h.symm e
        · exact h
      have ih := words_look hr
      unfold wordsD at ih
      simp only [wordsD, List.map_cons, PySem.Spec.lookup, PySem.Spec.same]
      simpa [e] using ih
theorem all_c1 {L : Addr} {news : List (Addr × Obj)} (hlow : ∀ q ∈ news, q.1 ≠ L + 1 ∧ q.1 ≠ L + 1 + 1 ∧ q.1 ≠ L + 1 + 1 + 1) : ∀ q ∈ news, q.1 ≠ L + 1 :=
  fun q hq => (hlow q hq).1
theorem perm_words {α : Type} {a b c d : α} {r : List α} : ∀ q ∈ b :: c :: d :: a :: r, q ∈ a :: b :: c :: d :: r := by
  intro q hq
  simp only [List.mem_cons] at hq ⊢
  rcases hq with h | h | h | h | h <;> simp [h]
theorem rows_LBw_3 : True := by
  (k_with "k_all" => (first | assumption | exact all_c1 (by assumption)))
  (k_with "execs cons Assign cons" => (refine stop_of ?_))
  exact trivial
theorem law_B {w : World} {mean : ExcName → Option Value} {mg mb : PySem.Str → Option Value} {dp un : Nat} {gd : Option (List Code)} {outer : List Env} {A₀ : Around} {base h₀ : Heap} {L fa : Addr} {cdv : Value} {news : List (Addr × Obj)} {s : Shared} {Q : Flow → Shared → Prop} {E : Value → Shared → Prop}
  {o1 o2 o3 : Obj} {Dn Dc Ds : Addr} {nn : Nat} {nv : List Value} {ns : List Int}
  (B : Below A₀ base outer h₀) (F : Fr h₀ L s.heap (fun y => if y = "numbers" then some (.ref Dn) else if y = "cells" then some (.ref Dc) else if y = "script" then some (.ref Ds) else none))
  (X : (Mine.K w.params).In h₀) (N : News h₀ L s.heap ((L + 1 + 1 + 1, o3) :: (L + 1 + 1, o2) :: (L + 1, o1) :: news)) (T : Top VW LOO mean mg mb h₀) (hE : PassesOwn (model PRG w) (arL dp un gd L fa cdv outer) (envL L fa cdv) E)
  (hdp : dp + 40 < recursionLimit) (hu : un + 400 < cLine)
  (d1 : o1.data = .cell none) (d2 : o2.data = .cell none) (d3 : o3.data = .cell none) (hlow : ∀ q ∈ news, q.1 ≠ L + 1 ∧ q.1 ≠ L + 1 + 1 ∧ q.1 ≠ L + 1 + 1 + 1)
  (mn : (Dn, W.listOf nv.toArray nn) ∈ news) (iN : IntsAre nv ns) (ln : ns.length = 6) (pos : ∀ x ∈ ns, 0 < x ∧ x.toNat < 16 ^ 6) (nd : ns.Nodup)
  (hret : ∀ h' tk' m', Fr h₀ L h' m' → Q (.ret (.bool true)) {s with heap := h', toks := tk'}) :
  wpAny (model PRG w) (arL dp un gd L fa cdv outer) (execs (BODY.drop 2) (envL L fa cdv)) Q E s := by
  have hbig : sysModules < h₀.objs.size := modules_low (Top.nolimit T)
  show wpAny _ _ (execs (_ :: _) _) _ _ _
  refine wpAny_execs_cons ?_
  k_steps
  refine Stop.out ?_
  k_dflt (refine' DictComp_list (h₀ := h₀) (L := L) (knd := intKind PRG w) (its := nv.toArray) (news := (L + 1 + 1 + 1, o3) :: (L + 1 + 1, o2) :: (L + 1, o1) :: news) (m := (fun y => if y = "numbers" then some (.ref Dn) else if y = "cells" then some (.ref Dc) else if y = "script" then some (.ref Ds) else none)) (J := fun i kvs => kvs.map (·.1) = ns.take i ∧ PyProof.V.FlatPairs PyData.int kvs (wordsD (ns.take i))) ?h2 ?h3 ?h4 ?h5 ?h6 hbig ?_ ?h10)
  case h2 => with_unfolding_all rfl
  case h3 => decide
  case h4 => rfl
  case h5 => decide
  case h6 => rfl
  case h10 => intro _; rfl
  k_steps
  refine Stop.out ?_
  refine ⟨Dn, nn, rfl, rfl, F, N, nb_skip (nb_skip (nb_skip mn)), ?sz, ⟨rfl, .nil⟩, ?len, fun g => ?turn, fun g => ?fin⟩
  case sz => rw [List.size_toArray, iN.length, ln]; decide
  case len =>
    rintro i kvs ⟨h, _⟩
    have := congrArg List.length h
    rw [List.length_map, List.length_take] at this
    (first | lia | omega)
  case turn =>
    rintro i v kvs hv ⟨hk1, hk2⟩ I oI C oC D oD m₂ h2 tk E' hC hx F2 N2
    refine fold_G ?_
    intro G9
    obtain ⟨n, t, hn, rfl⟩ := ints_get iN (by simpa using hv)
    have hnm : n ∈ ns := List.mem_of_getElem? hn
    have hp := pos n hnm
    obtain ⟨k, rfl⟩ : ∃ k : Nat, n = (k : Int) := ⟨n.toNat, by (first | lia | omega)⟩
    (try dsimp only)
    k_steps
    refine Stop.out ?_
    (with_reducible rename Fr _ _ _ _ => F3)
    (with_reducible rename News _ _ _ _ => N3)
    have hk : (k : Int).toNat = k := Int.toNat_natCast k
    rw [hk] at hp
    refine' int2ap_spec (n := k) B F3 X N3 T ?yk ?yd ?yu ?yn ?_
    case yk => exact rfl
    case yd => exact Nat.lt_of_le_of_lt (by (first | lia | omega)) hdp
    case yu => exact Nat.lt_of_le_of_lt (by (first | lia | omega)) hu
    case yn => have := hp.2; (first | lia | omega)
    intro t4 h4 tk4 F4 N4
    clear F3 N3
    have hl6 := apL_len hp.2
    have hne : apL k ≠ [] := apL_ne (by (first | lia | omega))
    have hz6 : (apL k).length ≤ 1000 := by (first | lia | omega)
    have hlt := apL_lett k
    (try dsimp only)
    k_steps
    refine Stop.out ?_
    refine ⟨h4, _, rfl, F4, N4, (k : Int), intKind_is _ _ _ _, ?_, ?_⟩
    · rw [stored_new (by rw [hk1]; exact take_new nd hn), List.map_append, hk1, List.take_add_one, hn]; rfl
    · rw [stored_new (by rw [hk1]; exact take_new nd hn), List.take_add_one, hn]
      unfold wordsD
      rw [List.map_append]
      exact flat_snoc (PyProof.V.Flat.str _ _) hk2
  case fin =>
    intro D oD kvs h5 tk5 hJ F5 N5 l5 b5 hD
    have gD : @LT.lt Nat _ (L + 1 + 1 + 1) D := l5 _ (.head _)
    have hsz : nv.toArray.size = ns.length := by rw [List.size_toArray, iN.length]
    rw [hsz, List.take_length] at hJ
    have hW : WordsObj w oD ns := ⟨kvs, _, hD, hJ.2, fun n hn => words_look hn⟩
    (try dsimp only)
    k_steps
    refine Stop.out ?_
    (with_reducible rename Fr _ _ _ _ => F9)
    (with_reducible rename News _ _ _ _ => N9)
    (with_reducible rename Obj.data _ = Data.cell (some (Value.ref D)) => d1')
    refine law_C (news := (D, oD) :: news) (nn := nn) B F9 X (nb_sub N9 perm_words) T hE hdp hu d1' d2 d3 (fun q hq => ?_) (.tail _ mn) (.head _) iN hW b5 ln pos nd hret
    rcases List.mem_cons.mp hq with rfl | hq
    · exact ⟨Nat.ne_of_gt (Nat.lt_of_succ_lt (Nat.lt_of_succ_lt gD)), Nat.ne_of_gt (Nat.lt_of_succ_lt gD), Nat.ne_of_gt gD⟩
    · exact hlow q hq

end Mine
end
section
open PySem PySem.W PyProof.Rows
set_option maxRecDepth 100000
set_option maxHeartbeats 8000000
namespace Mine
theorem kfLA : (PySem.Challenge.rw_ik0083_01, Mine.K) = (PySem.Challenge.rw_ik0083_01, Mine.K) := by
  k_fill
  rfl
theorem rows_LA_1 : True := by
  k_with_none
  (k_with "ktr_enter" => (refine' code_def ?k1 ?k2 ?k3 ?k4 ?k5 ?kA ?kF ?kK ?k6 ?k7 ?k8 ?k9 ?kB ?_ ?c2 ?c3 ?c4 ?c5; (case kA => exact rfl); (case kF => exact rfl); (case kK => assumption); (case k1 => k_asm); (case k2 => k_asm); (case k3 => k_asm); (case k4 => k_asm); (case k5 => k_asm); (case k6 => k_is); (case k7 => k_is); (case k8 => ktr_room); (case k9 => first | exact BindsTo.of_eq rfl | exact binds_K (by k_in) rfl (by k_is) rfl rfl rfl); (case c5 => decide); (case kB => exact locs rfl); (case c2 => exact rfl); (case c3 => exact rfl); (case c4 => exact rfl); k_whole; intro g' L' h' FG' F' N' B' X' T'; (try dsimp only); (try k_fold); (try (refine fold_A ?_; intro A9))))
  (k_with "k_room" => ktr_room)
  (k_with "k_all" => assumption)
  (k_with "ktr_room" => ((with_reducible rename _ + _ < recursionLimit => hd9); first | exact room_ 0 hd9 rfl rfl | exact room_ 1 hd9 rfl rfl | exact room_ 2 hd9 rfl rfl | exact room_ 3 hd9 rfl rfl | exact room_ 4 hd9 rfl rfl | exact room_ 5 hd9 rfl rfl | exact room_ 6 hd9 rfl rfl | exact room_ 7 hd9 rfl rfl | exact room_ 8 hd9 rfl rfl | exact room_ 9 hd9 rfl rfl | exact room_ 10 hd9 rfl rfl | exact room_ 11 hd9 rfl rfl | exact room_ 12 hd9 rfl rfl | exact room_ 13 hd9 rfl rfl | exact room_ 14 hd9 rfl rfl | exact room_ 15 hd9 rfl rfl | exact room_ 16 hd9 rfl rfl | exact room_ 17 hd9 rfl rfl | exact room_ 18 hd9 rfl rfl | exact room_ 19 hd9 rfl rfl | exact room_ 20 hd9 rfl rfl | exact room_ 21 hd9 rfl rfl | exact room_ 22 hd9 rfl rfl | exact room_ 23 hd9 rfl rfl | exact room_ 24 hd9 rfl rfl | exact room_ 25 hd9 rfl rfl))
  (k_with "ktr_units" => ((with_reducible rename _ + _ < cLine => hu9); first | exact units_ 0 hu9 rfl rfl | exact units_ 1 hu9 rfl rfl | exact units_ 2 hu9 rfl rfl | exact units_ 3 hu9 rfl rfl | exact units_ 4 hu9 rfl rfl | exact units_ 5 hu9 rfl rfl | exact units_ 6 hu9 rfl rfl | exact units_ 7 hu9 rfl rfl | exact units_ 8 hu9 rfl rfl | exact units_ 9 hu9 rfl rfl | exact units_ 10 hu9 rfl rfl | exact units_ 11 hu9 rfl rfl | exact units_ 12 hu9 rfl rfl | exact units_ 13 hu9 rfl rfl | exact units_ 14 hu9 rfl rfl | exact units_ 15 hu9 rfl rfl | exact units_ 16 hu9 rfl rfl | exact units_ 17 hu9 rfl rfl | exact units_ 18 hu9 rfl rfl | exact units_ 19 hu9 rfl rfl | exact units_ 20 hu9 rfl rfl | exact units_ 21 hu9 rfl rfl | exact units_ 22 hu9 rfl rfl | exact units_ 23 hu9 rfl rfl | exact units_ 24 hu9 rfl rfl | exact units_ 25 hu9 rfl rfl | exact units_ 26 hu9 rfl rfl | exact units_ 27 hu9 rfl rfl | exact units_ 28 hu9 rfl rfl | exact units_ 29 hu9 rfl rfl | exact units_ 30 hu9 rfl rfl | exact units_ 31 hu9 rfl rfl | exact units_ 32 hu9 rfl rfl | exact units_ 33 hu9 rfl rfl | exact units_ 34 hu9 rfl rfl | exact units_ 35 hu9 rfl rfl | exact units_ 36 hu9 rfl rfl | exact units_ 37 hu9 rfl rfl | exact units_ 38 hu9 rfl rfl | exact units_ 39 hu9 rfl rfl | exact units_ 40 hu9 rfl rfl | exact units_ 41 hu9 rfl rfl | exact units_ 42 hu9 rfl rfl | exact units_ 43 hu9 rfl rfl | exact units_ 44 hu9 rfl rfl | exact units_ 45 hu9 rfl rfl | exact units_ 46 hu9 rfl rfl | exact units_ 47 hu9 rfl rfl | exact units_ 48 hu9 rfl rfl | exact units_ 49 hu9 rfl rfl | exact units_ 50 hu9 rfl rfl | exact units_ 51 hu9 rfl rfl | exact units_ 52 hu9 rfl rfl | exact units_ 53 hu9 rfl rfl | exact units_ 54 hu9 rfl rfl | exact units_ 55 hu9 rfl rfl | exact units_ 56 hu9 rfl rfl | exact units_ 57 hu9 rfl rfl | exact units_ 58 hu9 rfl rfl | exact units_ 59 hu9 rfl rfl | exact units_ 60 hu9 rfl rfl))
  (k_with "k_ne" => (first | exact Nat.ne_of_lt (by assumption) | exact Nat.ne_of_gt (by assumption) | assumption | exact Ne.symm (by assumption) | exact Nat.ne_of_lt (And.left (by assumption)) | exact Nat.ne_of_gt (And.left (by assumption)) | exact Nat.ne_of_lt (And.left (And.right (by assumption))) | exact Nat.ne_of_gt (And.left (And.right (by assumption))) | exact Nat.ne_of_lt (And.left (And.right (And.right (by assumption)))) | exact Nat.ne_of_gt (And.left (And.right (And.right (by assumption)))) | exact Nat.ne_of_lt (And.left (And.right (And.right (And.right (by assumption))))) | exact Nat.ne_of_gt (And.left (And.right (And.right (And.right (by assumption))))) | exact Nat.ne_of_lt (And.left (And.right (And.right (And.right (And.right (by assumption)))))) | exact Nat.ne_of_gt (And.left (And.right (And.right (And.right (And.right (by assumption)))))) | exact Nat.ne_of_lt (And.left (And.right (And.right (And.right (And.right (And.right (by assumption))))))) | exact Nat.ne_of_gt (And.left (And.right (And.right (And.right (And.right (And.right (by assumption))))))) | exact Nat.ne_of_lt (And.left (And.right (And.right (And.right (And.right (And.right (And.right (by assumption)))))))) | exact Nat.ne_of_gt (And.left (And.right (And.right (And.right (And.right (And.right (And.right (by assumption)))))))) | exact Nat.ne_of_lt (And.left (And.right (And.right (And.right (And.right (And.right (And.right (And.right (by assumption))))))))) | exact Nat.ne_of_gt (And.left (And.right (And.right (And.right (And.right (And.right (And.right (And.right (by assumption))))))))) | exact Nat.ne_of_lt (And.left (And.right (And.right (And.right (And.right (And.right (And.right (And.right (And.right (by assumption)))))))))) | exact Nat.ne_of_gt (And.left (And.right (And.right (And.right (And.right (And.right (And.right (And.right (And.right (by assumption)))))))))) | exact Nat.ne_of_lt (And.left (And.right (And.right (And.right (And.right (And.right (And.right (And.right (And.right (And.right (by assumption))))))))))) | exact Nat.ne_of_gt (And.left (And.right (And.right (And.right (And.right (And.right (And.right (And.right (And.right (And.right (by assumption))))))))))) | (refine neN ?_; (try dsimp only); (first | lia | omega))))
  (k_with "exec If" => (refine if_fold ?_; intro q8))
  (k_with "isTrue Compare" => (refine is_cmp ?_))
  (k_with "ite" => (k_here; first | with_reducible refine ite_tt ?_ | with_reducible refine ite_ff ?_ | k_dflt (first | refine ite_pos (by decide) ?_ | refine ite_neg (by decide) ?_)))
  (k_with "execs cons" => (first | (rename Shared => s9; refine stmt_cons s9 ?_; intro t9 s8 q8) | (refine wpAny_execs_cons ?_; (try k_fold))))
  exact trivial
/-- the numbers of a row of cells -/
noncomputable def numsOf : Nat → List Int → List Int
  | _, [] => []
  | i, c :: r => (8 * c + (i : Int) + 1) :: numsOf (i + 1) r
theorem numsOf_len : ∀ (cs : List Int) (i : Nat), (numsOf i cs).length = cs.length
  | [], _ => rfl
  | _ :: r, i => congrArg (· + 1) (numsOf_len r (i + 1))
theorem numsOf_get : ∀ {cs : List Int} {i k : Nat} {c : Int}, cs[k]? = some c → (numsOf i cs)[k]? = some (8 * c + ((i + k : Nat) : Int) + 1)
  | a :: r, i, 0, c, h => by
    have e : a = c := by simpa using h
    subst e; rfl
  | a :: r, i, k + 1, c, h => by
    have h' : r[k]? = some c := by simpa using h
    have q := numsOf_get (i := i + 1) h'
    have e : i + 1 + k = i + (k + 1) := by (first | lia | omega)
    rw [e] at q
    simpa [numsOf] using q
theorem numsOf_mem : ∀ {cs : List Int} {i : Nat} {x : Int}, x ∈ numsOf i cs → ∃ c ∈ cs, ∃ j : Nat, i ≤ j ∧ j < i + cs.length ∧ x = 8 * c + (j : Int) + 1
  | a :: r, i, x, h => by
    rcases List.mem_cons.mp h with rfl | h
    · exact ⟨a, .head _, i, Nat.le_refl _, by rw [List.length_cons]; (first | lia | omega), rfl⟩
    · refine fold_G ?_
      intro G9
      obtain ⟨c, hc, j, j1, j2, e⟩ := numsOf_mem h
      exact ⟨c, .tail _ hc, j, by (first | lia | omega), by rw [List.length_cons]; (first | lia | omega), e⟩
theorem numsOf_nodup : ∀ {cs : List Int} {i : Nat}, i + cs.length ≤ 8 → (numsOf i cs).Nodup
  | [], _, _ => List.nodup_nil
  | a :: r, i, h => by
    rw [List.length_cons] at h
    refine List.nodup_cons.mpr ⟨fun hm => ?_, numsOf_nodup (by (first | lia | omega))⟩
    obtain ⟨c, _, j, j1, j2, e⟩ := numsOf_mem hm
    (first | lia | omega)
theorem rows_LA_2 : True := by
  (k_with "k_mem" => (first | with_reducible assumption | (refine nb_skip ?_; k_mem)))
  (k_with "exec Assign cons ListComp" => (refine stop_of ?_))
  (k_with "call type:enumerate" => (refine stop_of ?_))
  exact trivial
theorem law_A {w : World} {mean : ExcName → Option Value} {mg mb : PySem.Str → Option Value} {dp un : Nat} {gd : Option (List Code)} {outer : List Env} {A₀ : Around} {base h₀ : Heap} {L fa : Addr} {cdv : Value} {news : List (Addr × Obj)} {s : Shared} {Q : Flow → Shared → Prop} {E : Value → Shared → Prop}
  {o1 o2 o3 : Obj} {Dc Ds : Addr} {nc : Nat} {cv : List Value} {cs : List Int}
  (B : Below A₀ base outer h₀) (F : Fr h₀ L s.heap (fun y => if y = "cells" then some (.ref Dc) else if y = "script" then some (.ref Ds) else none))
  (X : (Mine.K w.params).In h₀) (N : News h₀ L s.heap ((L + 1 + 1 + 1, o3) :: (L + 1 + 1, o2) :: (L + 1, o1) :: news)) (T : Top VW LOO mean mg mb h₀) (hE : PassesOwn (model PRG w) (arL dp un gd L fa cdv outer) (envL L fa cdv) E)
  (hdp : dp + 40 < recursionLimit) (hu : un + 400 < cLine)
  (d1 : o1.data = .cell none) (d2 : o2.data = .cell none) (d3 : o3.data = .cell none) (hlow : ∀ q ∈ news, q.1 ≠ L + 1 ∧ q.1 ≠ L + 1 + 1 ∧ q.1 ≠ L + 1 + 1 + 1)
  (mc : (Dc, W.listOf cv.toArray nc) ∈ news) (iC : IntsAre cv cs) (lc : cs.length = 6) (hcs : ∀ c ∈ cs, 0 ≤ c ∧ c < 1000000)
  (hret : ∀ h' tk' m', Fr h₀ L h' m' → Q (.ret (.bool true)) {s with heap := h', toks := tk'}) :
  wpAny (model PRG w) (arL dp un gd L fa cdv outer) (execs (BODY.drop 1) (envL L fa cdv)) Q E s := by
  have ln : (numsOf 0 cs).length = 6 := by rw [numsOf_len, lc]
  have nd : (numsOf 0 cs).Nodup := numsOf_nodup (by (first | lia | omega))
  have pos : ∀ x ∈ numsOf 0 cs, 0 < x ∧ x.toNat < 16 ^ 6 := fun x hx => by
    refine fold_G ?_
    intro G9
    obtain ⟨c, hc, j, _, j2, rfl⟩ := numsOf_mem hx
    have := hcs c hc
    (first | lia | omega)
  show wpAny _ _ (execs (_ :: _) _) _ _ _
  refine wpAny_execs_cons ?_
  k_steps
  refine Stop.out ?_
  k_dflt (refine Assign_ListComp_enum (F₀ := by k_asm) (by rfl) (by with_unfolding_all rfl) (by with_unfolding_all rfl) (by decide) (by rfl) (by decide) (by rfl) (by rfl) (by decide) (by rfl) (by rfl) ?_)
  k_steps
  refine Stop.out ?_
  refine' src_enum (items := cv.toArray) (k := nc) (fun i ys => IntsAre ys ((numsOf 0 cs).take i)) ?x1 F N ?x2 ?x3 .nil ?x4 ?x5
  case x1 => exact rfl
  case x2 => exact nb_skip (nb_skip (nb_skip mc))
  case x3 => rw [List.size_toArray, iC.length, lc]; decide
  case x4 =>
    intro i ys v t hv hJ C oC D m₂ h2 tk E' hC hx1 hx2 F2 N2
    refine fold_G ?_
    intro G9
    obtain ⟨c, t2, hc, rfl⟩ := ints_get iC (by simpa using hv)
    (try dsimp only)
    k_steps
    rw [List.take_add_one, numsOf_get hc, Nat.zero_add]
    exact hJ.append (.cons _ _ .nil)
  case x5 =>
    intro g ys hJ hl
    intro D h3 tk3 F3 N3 off3
    have e : cv.toArray.size = (numsOf 0 cs).length := by rw [List.size_toArray, iC.length, numsOf_len]
    rw [e, List.take_length] at hJ
    (try dsimp only)
    refine law_B (news := (D, LCg.lst ys) :: news) (nn := ys.length) B F3 X (nb_sub N3 perm_words) T hE hdp hu d1 d2 d3 (fun q hq => ?_) (.head _) hJ ln pos nd hret
    rcases List.mem_cons.mp hq with rfl | hq
    · exact ⟨Ne.symm off3.2.2.1, Ne.symm off3.2.1, Ne.symm off3.1⟩
    · exact hlow q hq

end Mine
end
section
open PySem PySem.W PyProof.Rows
set_option maxRecDepth 100000
set_option maxHeartbeats 8000000
namespace Mine
theorem kfL0 : (PySem.Challenge.rw_ik0083_01, Mine.K) = (PySem.Challenge.rw_ik0083_01, Mine.K) := by
  k_fill
  rfl
theorem rows_L0_1 : True := by
  k_with_none
  (k_with "ktr_enter" => (refine' code_def ?k1 ?k2 ?k3 ?k4 ?k5 ?kA ?kF ?kK ?k6 ?k7 ?k8 ?k9 ?kB ?_ ?c2 ?c3 ?c4 ?c5; (case kA => exact rfl); (case kF => exact rfl); (case kK => assumption); (case k1 => k_asm); (case k2 => k_asm); (case k3 => k_asm); (case k4 => k_asm); (case k5 => k_asm); (case k6 => k_is); (case k7 => k_is); (case k8 => ktr_room); (case k9 => first | exact BindsTo.of_eq rfl | exact binds_K (by k_in) rfl (by k_is) rfl rfl rfl); (case c5 => decide); (case kB => exact locs rfl); (case c2 => exact rfl); (case c3 => exact rfl); (case c4 => exact rfl); k_whole; intro g' L' h' FG' F' N' B' X' T'; (try dsimp only); (try k_fold); (try (refine fold_A ?_; intro A9))))
  (k_with "k_room" => ktr_room)
  (k_with "k_all" => assumption)
  (k_with "ktr_room" => ((with_reducible rename _ + _ < recursionLimit => hd9); first | exact room_ 0 hd9 rfl rfl | exact room_ 1 hd9 rfl rfl | exact room_ 2 hd9 rfl rfl | exact room_ 3 hd9 rfl rfl | exact room_ 4 hd9 rfl rfl | exact room_ 5 hd9 rfl rfl | exact room_ 6 hd9 rfl rfl | exact room_ 7 hd9 rfl rfl | exact room_ 8 hd9 rfl rfl | exact room_ 9 hd9 rfl rfl | exact room_ 10 hd9 rfl rfl | exact room_ 11 hd9 rfl rfl | exact room_ 12 hd9 rfl rfl | exact room_ 13 hd9 rfl rfl | exact room_ 14 hd9 rfl rfl | exact room_ 15 hd9 rfl rfl | exact room_ 16 hd9 rfl rfl | exact room_ 17 hd9 rfl rfl | exact room_ 18 hd9 rfl rfl | exact room_ 19 hd9 rfl rfl | exact room_ 20 hd9 rfl rfl | exact room_ 21 hd9 rfl rfl | exact room_ 22 hd9 rfl rfl | exact room_ 23 hd9 rfl rfl | exact room_ 24 hd9 rfl rfl | exact room_ 25 hd9 rfl rfl))
  (k_with "ktr_units" => ((with_reducible rename _ + _ < cLine => hu9); first | exact units_ 0 hu9 rfl rfl | exact units_ 1 hu9 rfl rfl | exact units_ 2 hu9 rfl rfl | exact units_ 3 hu9 rfl rfl | exact units_ 4 hu9 rfl rfl | exact units_ 5 hu9 rfl rfl | exact units_ 6 hu9 rfl rfl | exact units_ 7 hu9 rfl rfl | exact units_ 8 hu9 rfl rfl | exact units_ 9 hu9 rfl rfl | exact units_ 10 hu9 rfl rfl | exact units_ 11 hu9 rfl rfl | exact units_ 12 hu9 rfl rfl | exact units_ 13 hu9 rfl rfl | exact units_ 14 hu9 rfl rfl | exact units_ 15 hu9 rfl rfl | exact units_ 16 hu9 rfl rfl | exact units_ 17 hu9 rfl rfl | exact units_ 18 hu9 rfl rfl | exact units_ 19 hu9 rfl rfl | exact units_ 20 hu9 rfl rfl | exact units_ 21 hu9 rfl rfl | exact units_ 22 hu9 rfl rfl | exact units_ 23 hu9 rfl rfl | exact units_ 24 hu9 rfl rfl | exact units_ 25 hu9 rfl rfl | exact units_ 26 hu9 rfl rfl | exact units_ 27 hu9 rfl rfl | exact units_ 28 hu9 rfl rfl | exact units_ 29 hu9 rfl rfl | exact units_ 30 hu9 rfl rfl | exact units_ 31 hu9 rfl rfl | exact units_ 32 hu9 rfl rfl | exact units_ 33 hu9 rfl rfl | exact units_ 34 hu9 rfl rfl | exact units_ 35 hu9 rfl rfl | exact units_ 36 hu9 rfl rfl | exact units_ 37 hu9 rfl rfl | exact units_ 38 hu9 rfl rfl | exact units_ 39 hu9 rfl rfl | exact units_ 40 hu9 rfl rfl | exact units_ 41 hu9 rfl rfl | exact units_ 42 hu9 rfl rfl | exact units_ 43 hu9 rfl rfl | exact units_ 44 hu9 rfl rfl | exact units_ 45 hu9 rfl rfl | exact units_ 46 hu9 rfl rfl | exact units_ 47 hu9 rfl rfl | exact units_ 48 hu9 rfl rfl | exact units_ 49 hu9 rfl rfl | exact units_ 50 hu9 rfl rfl | exact units_ 51 hu9 rfl rfl | exact units_ 52 hu9 rfl rfl | exact units_ 53 hu9 rfl rfl | exact units_ 54 hu9 rfl rfl | exact units_ 55 hu9 rfl rfl | exact units_ 56 hu9 rfl rfl | exact units_ 57 hu9 rfl rfl | exact units_ 58 hu9 rfl rfl | exact units_ 59 hu9 rfl rfl | exact units_ 60 hu9 rfl rfl))
  (k_with "k_ne" => (first | exact Nat.ne_of_lt (by assumption) | exact Nat.ne_of_gt (by assumption) | assumption | exact Ne.symm (by assumption) | exact Nat.ne_of_lt (And.left (by assumption)) | exact Nat.ne_of_gt (And.left (by assumption)) | exact Nat.ne_of_lt (And.left (And.right (by assumption))) | exact Nat.ne_of_gt (And.left (And.right (by assumption))) | exact Nat.ne_of_lt (And.left (And.right (And.right (by assumption)))) | exact Nat.ne_of_gt (And.left (And.right (And.right (by assumption)))) | exact Nat.ne_of_lt (And.left (And.right (And.right (And.right (by assumption))))) | exact Nat.ne_of_gt (And.left (And.right (And.right (And.right (by assumption))))) | exact Nat.ne_of_lt (And.left (And.right (And.right (And.right (And.right (by assumption)))))) | exact Nat.ne_of_gt (And.left (And.right (And.right (And.right (And.right (by assumption)))))) | exact Nat.ne_of_lt (And.left (And.right (And.right (And.right (And.right (And.right (by assumption))))))) | exact Nat.ne_of_gt (And.left (And.right (And.right (And.right (And.right (And.right (by assumption))))))) | exact Nat.ne_of_lt (And.left (And.right (And.right (And.right (And.right (And.right (And.right (by assumption)))))))) | exact Nat.ne_of_gt (And.left (And.right (And.right (And.right (And.right (And.right (And.right (by assumption)))))))) | exact Nat.ne_of_lt (And.left (And.right (And.right (And.right (And.right (And.right (And.right (And.right (by assumption))))))))) | exact Nat.ne_of_gt (And.left (And.right (And.right (And.right (And.right (And.right (And.right (And.right (by assumption))))))))) | exact Nat.ne_of_lt (And.left (And.right (And.right (And.right (And.right (And.right (And.right (And.right (And.right (by assumption)))))))))) | exact Nat.ne_of_gt (And.left (And.right (And.right (And.right (And.right (And.right (And.right (And.right (And.right (by assumption)))))))))) | exact Nat.ne_of_lt (And.left (And.right (And.right (And.right (And.right (And.right (And.right (And.right (And.right (And.right (by assumption))))))))))) | exact Nat.ne_of_gt (And.left (And.right (And.right (And.right (And.right (And.right (And.right (And.right (And.right (And.right (by assumption))))))))))) | (refine neN ?_; (try dsimp only); (first | lia | omega))))
  (k_with "exec If" => (refine if_fold ?_; intro q8))
  (k_with "isTrue Compare" => (refine is_cmp ?_))
  (k_with "ite" => (k_here; first | with_reducible refine ite_tt ?_ | with_reducible refine ite_ff ?_ | k_dflt (first | refine ite_pos (by decide) ?_ | refine ite_neg (by decide) ?_)))
  (k_with "execs cons" => (first | (rename Shared => s9; refine stmt_cons s9 ?_; intro t9 s8 q8) | (refine wpAny_execs_cons ?_; (try k_fold))))
  (k_with "k_mem" => (first | with_reducible assumption | (refine nb_skip ?_; k_mem)))
  (k_with "eval ListComp" => (refine stop_of ?_))
  (k_with "CompSrc" => (refine stop_of ?_))
  (k_with "CompEnd" => (refine stop_of ?_))
  (k_with "binaryOp Add ref ref" => (refine stop_of ?_))
  (k_with "execs cons Assign cons" => (refine stop_of ?_))
  (k_with "subscriptTail Name Slice ref ref" => (refine stop_of ?_))
  (k_with "subscriptTail BinOp Slice ref ref" => (refine stop_of ?_))
  exact trivial
/-- the six cells of a script -/
noncomputable def cellsOf (ms : List Int) : List Int := ((ms.take 6).map (fun (n : Int) => n.fmod (10 ^ Int.toNat 6)) ++ [23, 4, 61, 9, 35, 12]).take (Int.toNat 6)
theorem cellsOf_len (ms : List Int) : (cellsOf ms).length = 6 := by
  unfold cellsOf
  rw [List.length_take, List.length_append]
  simp only [List.length_cons, List.length_nil]
  have : Int.toNat 6 = 6 := rfl
  (first | lia | omega)
theorem cellsOf_mem {ms : List Int} : ∀ c ∈ cellsOf ms, 0 ≤ c ∧ c < 1000000 := by
  intro c hc
  unfold cellsOf at hc
  rcases List.mem_append.mp (List.mem_of_mem_take hc) with h | h
  · obtain ⟨n, _, rfl⟩ := List.mem_map.mp h
    have e : (10 : Int) ^ Int.toNat 6 = 1000000 := by decide
    rw [e]
    exact ⟨Int.fmod_nonneg_of_pos _ (by decide), Int.fmod_lt_of_pos _ (by decide)⟩
  · simp only [List.mem_cons, List.not_mem_nil, or_false] at h
    (first | lia | omega)
theorem law_0 {w : World} {mean : ExcName → Option Value} {mg mb : PySem.Str → Option Value} {dp un : Nat} {gd : Option (List Code)} {outer : List Env} {A₀ : Around} {base h₀ : Heap} {L fa : Addr} {cdv : Value} {s : Shared} {Q : Flow → Shared → Prop} {E : Value → Shared → Prop}
  {o1 o2 o3 : Obj} {Ds : Addr} {sv : List Value} {ms : List Int}
  (B : Below A₀ base outer h₀) (F : Fr h₀ L s.heap (fun y => if y = "script" then some (.ref Ds) else none))
  (X : (Mine.K w.params).In h₀) (N : News h₀ L s.heap [(L + 1 + 1 + 1, o3), (L + 1 + 1, o2), (L + 1, o1)]) (T : Top VW LOO mean mg mb h₀) (hE : PassesOwn (model PRG w) (arL dp un gd L fa cdv outer) (envL L fa cdv) E)
  (hdp : dp + 40 < recursionLimit) (hu : un + 400 < cLine)
  (d1 : o1.data = .cell none) (d2 : o2.data = .cell none) (d3 : o3.data = .cell none)
  (hl : h₀.IsList Ds sv.toArray) (hi : IntsAre sv ms) (lm : ms.length ≤ 63)
  (hret : ∀ h' tk' m', Fr h₀ L h' m' → Q (.ret (.bool true)) {s with heap := h', toks := tk'}) :
  wpAny (model PRG w) (arL dp un gd L fa cdv outer) (execs BODY (envL L fa cdv)) Q E s := by
  show wpAny _ _ (execs (_ :: _) _) _ _ _
  refine wpAny_execs_cons ?_
  k_steps
  refine Stop.out ?_
  k_dflt (refine LCg.ListComp_U (F₀ := by k_asm) (by with_unfolding_all rfl) (by decide) (by rfl) (by decide) (by rfl) ?_)
  k_steps
  refine Stop.out ?_
  have hl2 : s.heap.IsList Ds sv.toArray := by obtain ⟨o, e, r⟩ := hl; exact ⟨o, F.keep _ _ e, r⟩
  k_dflt (refine' kmk_slice_ints (ms := ms.take 6) F N hl2 IsPart.none (IsPart.int _ _) hi ?zm rfl ?_ ?zs ?zt ?zz)
  case zm => exact kmk_upto hi (by decide)
  case zs => with_unfolding_all rfl
  case zt => kmk_pure
  case zz => rw [List.size_toArray, hi.length, sizeLine_eq]; (first | lia | omega)
  intro D1 w1 h1 F1 N1 l1 i1 _ _
  k_lt l1
  k_steps
  refine Stop.out ?_
  refine' LCg.CompSrc.ledger (its := w1.toArray) ?v1 F1 N1 (.head _) ?v3 (fun g9 => ?_)
  case v1 => exact rfl
  case v3 => rw [List.size_toArray, i1.length, List.length_take, sizeLine_eq]; (first | lia | omega)
  refine restU_inv (fun i ys nw => nw = _ ∧ IntsAre ys (((ms.take 6).take i).map fun n => n.fmod (10 ^ Int.toNat 6))) ?turn ?fin _ 0 [] _ (Nat.zero_add _) ⟨rfl, .nil⟩
  case turn =>
    rintro i ys nw v hi' ⟨rfl, hy⟩ hv
    refine fold_G ?_
    intro G9
    obtain ⟨n, t, hn, rfl⟩ := ints_get i1 (by simpa using hv)
    intro I oI C oC D m₂ h2' tk E' hC hx F2 N2 off ne
    (try dsimp only)
    k_steps
    refine Stop.out ?_
    refine LCg.CompEnd.intro F2 N2 _ (fun p hp => hp) off (.inr ⟨_, .head _, rfl, _, rfl⟩) ⟨rfl, ?_⟩
    rw [List.take_add_one, hn, List.map_append]
    exact hy.append (.cons _ _ .nil)
  case fin =>
    rintro ys nw ⟨rfl, iY⟩
    rw [List.size_toArray, i1.length, List.take_length] at iY
    intro D2 h3 tk3 F3 N3 off3
    clear F1 N1 F N
    (try dsimp only)
    k_steps
    refine Stop.out ?_
    (with_reducible rename Fr _ _ _ _ => F4)
    (with_reducible rename News _ _ _ _ => N4)
    refine' kmk_add_ints F4 N4 (News.isList N4 (nb_skip (.head _))) (News.isList N4 (.head _)) iY (.cons 23 _ (.cons 4 _ (.cons 61 _ (.cons 9 _ (.cons 35 _ (.cons 12 _ .nil)))))) ?_ ?z1
    case z1 => rw [List.length_map, List.length_take, sizeLine_eq]; simp only [List.length_cons, List.length_nil]; (first | lia | omega)
    intro D5 w5 h5 F5 N5 l5 i5
    k_lt l5
    clear F4 N4
    k_steps
    refine Stop.out ?_
    k_dflt (refine' kmk_slice_ints (ms := cellsOf ms) F5 N5 (News.isList N5 (.head _)) IsPart.none (IsPart.int _ _) i5 ?zm rfl ?_ ?zs ?zt ?zz)
    case zm => exact kmk_upto i5 (by decide)
    case zs => with_unfolding_all rfl
    case zt => kmk_pure
    case zz => rw [List.size_toArray, i5.length, List.length_append, List.length_map, List.length_take, sizeLine_eq]; simp only [List.length_cons, List.length_nil]; (first | lia | omega)
    intro D6 w6 h6 F6 N6 l6 i6 _ _
    k_lt l6
    clear F5 N5
    k_steps
    refine Stop.out ?_
    (with_reducible rename Fr _ _ _ _ => F7)
    (with_reducible rename News _ _ _ _ => N7)
    dsimp only
    refine law_A (news := [(D6, W.listOf w6.toArray 0)]) (nc := 0) B F7 X (nb_sub N7 ?p1) T hE hdp hu d1 d2 d3 ?p2 (.head _) i6 (cellsOf_len ms) cellsOf_mem hret
    case p1 =>
      intro q hq
      simp only [List.mem_cons, List.not_mem_nil, or_false] at hq ⊢
      rcases hq with h | h | h | h <;> simp [h]
    case p2 =>
      intro q hq
      rw [List.mem_singleton.mp hq]
      exact ⟨Nat.ne_of_gt l6.2.2.2.2.2.2, Nat.ne_of_gt l6.2.2.2.2.2.1, Nat.ne_of_gt l6.2.2.2.2.1⟩

end Mine
end
section
open PySem PySem.W PyProof.Rows
set_option maxRecDepth 100000
set_option maxHeartbeats 8000000
namespace Mine
theorem rows_LH : True := by
  k_with_none
  exact trivial
theorem law_holds : PySem.Challenge.rw_ik0083_01.Holds := by
  w_on
  refine holds_law said fun h => ?_
  refine holds_open (q := V) (loose := LO0) (Xt := XT) (XP := XL V []) (Yf := HK.obs) (Ya := HK.val) (YP := HK.says) (N := 6000) left (Hook.of HK) (Hook.keeps HK) (fun s e => xl_of s (Bool.and_eq_true_iff.mp e).1) XL.keeps (by rfl) (by rfl) (by rfl) (fun s e => recFacts_of (Bool.and_eq_true_iff.mp e).2) (by rfl) h parts_ok ⟨rfl, rfl, rfl, rfl, rfl, whole_ok⟩ ?hw ?hc
  case hw => w_witness2
  case hc =>
    k_fill
    intro w s₀ s₁ mg mb G Y fa o pm cd doc dV kV ho hd hcd hD hmg hg args vals as hpre hlay hrd hwl hlo
    have KX := kIn_of Y
    refine Ground.open G ?_
    intro T B D TE TW
    try (refine guard_noD D (by decide +kernel) ?_; clear D)
    obtain ⟨_, _, M⟩ := bmod_of_top T
    have TA := at_of_top T
    try (obtain ⟨_, _, he, B0⟩ := based_of_top T rfl hmg ho hd; have he' : cd = _ := he; subst he'; clear he)
    clear hmg
    wrow_args hpre hlay hrd hwl hlo
    all_goals (
      first | refine callC_kw (enter_call ?_) | refine enter_call ?_ | refine callC_kw (enter_callW ?_) | refine enter_callW ?_ | w_how
      w_top on
      try refine codeAny_mono ?_ (fun _ _ g => GoodW.toG g)
      have K0 := below_caller (Top.heap T)
      w_call any ho hd hcd hD T F
      clear hd TA
      k_drop
      skip)
    all_goals (try k_fold)
    (with_reducible rename Fr _ _ _ _ => F0)
    (with_reducible rename News _ _ _ _ => N0)
    (with_reducible rename Below _ _ _ _ => K0)
    (with_reducible rename Top _ _ _ _ _ _ => T0)
    (with_reducible rename Frag.In _ _ => X0)
    (with_reducible rename IntsAre _ _ => I0)
    (with_reducible rename Heap.IsList _ _ _ => L0)
    refine law_0 K0 F0 X0 N0 T0 ?hE ?hdp ?hu ?d1 ?d2 ?d3 L0 I0 ?lm ?hret
    case hE => passes_own
    case hdp => decide
    case hu => exact Nat.le_of_ble_eq_true rfl
    case d1 => assumption
    case d2 => assumption
    case d3 => assumption
    case lm => (first | lia | omega)
    case hret =>
      intro h' tk' m' F'
      k_steps
end Mine
end
set_option maxRecDepth 100000 in
set_option maxHeartbeats 8000000 in
theorem PySem.Challenge.cw_ik0083_01_holds : PySem.Challenge.rw_ik0083_01.Holds := by
  exact Mine.law_holds
