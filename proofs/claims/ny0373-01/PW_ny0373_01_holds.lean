import PyProof.Rows.All
import Wide.All
import OpenK.AllK
import Wide.FinOn
import Lean
import PySem.Challenge.RW_ny0373_01
set_option Elab.async false
set_option maxRecDepth 100000
set_option linter.unusedVariables false
set_option linter.deprecated false
set_option linter.unnecessarySimpa false
section
open PySem PySem.W PyProof.Rows
namespace Mine

noncomputable def goI (stp : SharedT → Thread → Option (SharedT × Thread)) : Nat → SharedT → Thread → Option SharedT
  | 0, _, _ => none
  | n + 1, s, t => match t.atExitBegin with
    | some [] => some s
    | some (_ :: _) => none
    | none => match stp s t with
      | some (s', t') => goI stp n s' t'
      | none => none
theorem goI_spec {tb : String → Option Builtin} {p : Program} {w : World} : ∀ (n : Nat) (s : SharedT) (t : Thread) (s' : SharedT), goI (stepT (denote tb) p w) n s t = some s' → importEnds tb p w n s.abs t = some s'.abs
  | 0, _, _, _, h => by cases h
  | n + 1, s, t, s', h => by
    unfold goI at h
    unfold importEnds
    cases he : t.atExitBegin with
    | some x =>
      rw [he] at h
      cases x with
      | nil => cases h; rfl
      | cons _ _ => cases h
    | none =>
      rw [he] at h
      cases hs : stepT (denote tb) p w s t with
      | none => rw [hs] at h; cases h
      | some r =>
        obtain ⟨s₂, t₂⟩ := r
        rw [hs] at h
        dsimp only
        rw [stepT_spec hs]
        exact goI_spec n s₂ t₂ s' h

noncomputable def goR (stp : SharedT → Thread → Option (SharedT × Thread)) (n₀ : Nat) (ann : Option Value) : Nat → SharedT → Thread → Option SharedT
  | 0, _, _ => none
  | n + 1, s, t => match through t with
    | true => some s
    | false => match stepOk n₀ ann t with
      | false => none
      | true => match stp s t with
        | some (s', t') => goR stp n₀ ann n s' t'
        | none => none
theorem goR_spec {tb : String → Option Builtin} {p : Program} {w : World} {n₀ : Nat} {ann : Option Value} : ∀ (n : Nat) (s : SharedT) (t : Thread) (s' : SharedT), goR (stepT (denote tb) p w) n₀ ann n s t = some s' → topRun tb p w n₀ ann n s.abs t = some s'.abs
  | 0, _, _, _, h => by cases h
  | n + 1, s, t, s', h => by
    unfold goR at h
    unfold topRun
    cases ht : through t with
    | true => rw [ht] at h; cases h; rfl
    | false =>
      rw [ht] at h
      cases hk : stepOk n₀ ann t with
      | false => rw [hk] at h; cases h
      | true =>
        rw [hk] at h
        cases hs : stepT (denote tb) p w s t with
        | none => rw [hs] at h; cases h
        | some r =>
          obtain ⟨s₂, t₂⟩ := r
          rw [hs] at h
          dsimp only
          rw [stepT_spec hs]
          exact goR_spec n s₂ t₂ s' h

noncomputable def tree (l : List Obj) : Nat → Nat → Nat → BT
  | 0, _, _ => .nil
  | d + 1, a, b => match l[b]? with
    | some o => .node o (tree l d (2 * a) (a + b)) (tree l d (2 * a) (2 * a + b))
    | none => .nil
theorem tree_get (l : List Obj) : ∀ (d a b j : Nat), 0 < a → l.length ≤ d + b → (tree l d a b).get j = l[a * j + b]?
  | 0, a, b, j, ha, h => by
    show (none : Option Obj) = _
    rw [List.getElem?_eq_none]
    have : 0 ≤ a * j := Nat.zero_le _
    omega
  | d + 1, a, b, j, ha, h => by
    unfold tree
    cases e : l[b]? with
    | none =>
      show (none : Option Obj) = _
      have := List.getElem?_eq_none_iff.mp e
      rw [List.getElem?_eq_none]
      have : 0 ≤ a * j := Nat.zero_le _
      omega
    | some o =>
      show (BT.node o _ _).get j = _
      rw [BT.get_node]
      by_cases h0 : j = 0
      · subst h0; rw [if_pos rfl, Nat.mul_zero, Nat.zero_add, e]
      · rw [if_neg h0]
        by_cases p : j % 2 = 1
        · rw [if_pos p, tree_get l d (2 * a) (a + b) (j / 2) (by omega) (by omega)]
          congr 1
          have hj : j = 2 * (j / 2) + 1 := by omega
          generalize j / 2 = q at hj
          subst hj
          rw [Nat.mul_add, Nat.mul_one, ← Nat.mul_assoc, Nat.mul_comm a 2]; omega
        · rw [if_neg p, tree_get l d (2 * a) (2 * a + b) (j / 2 - 1) (by omega) (by omega)]
          congr 1
          have hj : j = 2 * (j / 2 - 1) + 2 := by omega
          generalize j / 2 - 1 = q at hj
          subst hj
          rw [Nat.mul_add, ← Nat.mul_assoc, Nat.mul_comm a 2]; omega
noncomputable def toT (s : Shared) : SharedT := ⟨tree s.heap.objs.toList s.heap.objs.size 1 0, s.heap.objs.size, s.heap.life, s.gens, s.drawn, s.toks, s.os⟩
theorem toT_abs (s : Shared) : (toT s).abs = s := by
  obtain ⟨⟨objs, life⟩, gens, drawn, toks, os⟩ := s
  show Shared.mk (absHeap (tree objs.toList objs.size 1 0) objs.size life) gens drawn toks os = _
  congr 1
  unfold absHeap
  congr 1
  apply Array.ext'
  show (BT.list (tree objs.toList objs.size 1 0) objs.size) = _
  unfold BT.list
  apply List.ext_getElem?
  intro i
  rw [List.getElem?_map]
  by_cases h : i < objs.size
  · rw [List.getElem?_range h]
    show some (((tree objs.toList objs.size 1 0).get i).getD default) = _
    rw [tree_get _ _ _ _ _ (by omega) (by simp)]
    simp [h]
  · rw [List.getElem?_eq_none (by simp; omega), List.getElem?_eq_none (by simp; omega)]
    rfl

section
variable (p : Program) (st1 st2 : SharedT → Thread → Option (SharedT × Thread)) (t0 : Thread) (os0 : OsState) (fence : Shared → Option Shared) (N : Nat)
noncomputable def openT : Option Shared := (goI st1 N ⟨.nil, 0, {}, #[], {}, 1, os0⟩ t0).bind fun s => fence s.abs
noncomputable def topT (s₀ : Shared) : Option Shared := match s₀.heap.isNs mainGlobals && s₀.gens.size == 0 with
  | true => (goR st2 s₀.heap.objs.size (s₀.heap.nsMap mainGlobals "__annotations__") N (toT s₀) (topStub p)).bind fun s₁ => match staticsOk (importedModules p.main.body) s₀.heap s₁.abs.heap && namesBound p s₁.abs.heap && gensDone s₁.abs && laidKept s₀.heap s₁.abs.heap with
      | true => some s₁.abs
      | false => none
  | false => none
end
theorem openT_spec {p : Program} {w : World} {N : Nat} {s₀ : Shared} (h : openT (stepT (denote treeTable) (opening p) w) (start (opening p)).2 (start (opening p)).1.os (fenceModules? p) N = some s₀) : fencedOpening treeTable p w N = some s₀ := by
  obtain ⟨s, h1, h2⟩ := Option.bind_eq_some_iff.mp h
  have := goI_spec _ _ _ _ h1
  unfold fencedOpening
  have e : (start (opening p)).1 = (SharedT.abs ⟨.nil, 0, {}, #[], {}, 1, (start (opening p)).1.os⟩) := rfl
  rw [e, this]
  exact h2
theorem topT_spec {p : Program} {w : World} {N : Nat} {s₀ s₁ : Shared} (h : topT p (stepT (denote treeTable) p w) N s₀ = some s₁) : topFrom treeTable p w N s₀ = some s₁ := by
  unfold topT at h
  unfold topFrom
  split at h
  · rename_i e
    rw [e]
    obtain ⟨s, h1, h2⟩ := Option.bind_eq_some_iff.mp h
    have := goR_spec _ _ _ _ h1
    rw [toT_abs] at this
    dsimp only
    rw [this]
    split at h2
    · rename_i e2
      cases h2
      show (match _ with | true => _ | false => _) = _
      rw [e2]
    · cases h2
  · cases h
end Mine
end
section
open PySem PySem.W PyProof.Rows
namespace Mine
noncomputable abbrev pg : Program := PySem.Challenge.pw_ny0373_01
noncomputable abbrev lw : OpenLaw := PySem.Challenge.rw_ny0373_01
noncomputable def qv : Program := view pg [0, 1, 59]
noncomputable def looseN : List Str := (["_wall", "sep", "_plain_name", "ABCMeta", "_ABCLike", "_abc_plain_meta", "fspath", "_kind", "_fspath", "_check_arg_types", "isabs", "join", "join_path", "splitext", "_c_path", "_splitroot", "basename", "dirname", "dirname_path", "_normpath", "normpath", "_Ignore", "_modname", "_get_sep", "dirname_posixpath", "_twin_re_1", "_whence", "_index", "UnsupportedOperation", "IOBase", "BufferedIOBase", "TextIOBase", "BytesIO", "StringIO", "shlex", "split", "join_shlex", "_find_unsafe", "quote", "_law_climbed", "_law_fronts", "_law_chosen", "_law_does", "_law_held", "_law_fits"] : List String).map Str.ofString
noncomputable def stm (i : Nat) : Stmt := (pg.main.body[i]?).getD (.Pass ⟨0, 0, 0, 0⟩)
noncomputable def mth (i j : Nat) : Stmt := match stm i with
  | .ClassDef _ _ _ b _ _ _ _ _ _ _ => (b[j]?).getD (.Pass ⟨0, 0, 0, 0⟩)
  | _ => .Pass ⟨0, 0, 0, 0⟩
noncomputable def nmS : Stmt → Str
  | .FunctionDef name _ _ _ _ _ _ _ _ _ => name
  | _ => Str.empty
noncomputable def arS : Stmt → Arguments
  | .FunctionDef _ args _ _ _ _ _ _ _ _ => args
  | _ => default
noncomputable def bdS : Stmt → List Stmt
  | .FunctionDef _ _ body _ _ _ _ _ _ _ => body
  | _ => []
noncomputable def scS : Stmt → Scope
  | .FunctionDef _ _ _ _ _ _ scope _ _ _ => scope
  | _ => default
noncomputable def fdOf (st : Stmt) (qual : Str) (dV kV doc cd pm ct : Value) : FuncData :=
  { name := nmS st, qualname := qual, params := arS st, body := .stmts (bdS st), scope := scS st, globals := 3, closure := [], defaults := dV, kwdefaults := kV, doc := doc, pyModule := pm, annotations := none, code := cd, closureTuple := ct, builtins := 0 }
noncomputable def kv (P : Params) (x : Str) (t : Tok) (v : Value) : DictEntry := ⟨PyData.keyHash P x, .str x t, v⟩
noncomputable def fd117 : FuncData := fdOf (stm 12) "fspath" .none .none .none (.ref 116) (.str "os" 420) .none
noncomputable def fd124 : FuncData := fdOf (stm 14) "_kind" .none .none .none (.ref 123) (.str "os.path" 432) .none
noncomputable def fd131 : FuncData := fdOf (stm 15) "_fspath" .none .none .none (.ref 130) (.str "os.path" 432) .none
noncomputable def fd159 : FuncData := fdOf (stm 20) "splitext" .none .none .none (.ref 158) (.str "os.path" 432) .none
noncomputable def fd166 : FuncData := fdOf (stm 21) "_c_path" .none .none .none (.ref 165) (.str "os.path" 432) .none
noncomputable def fd173 : FuncData := fdOf (stm 22) "_splitroot" .none .none .none (.ref 172) (.str "os.path" 432) .none
noncomputable def fd180 : FuncData := fdOf (stm 23) "basename" .none .none .none (.ref 179) (.str "os.path" 432) .none
noncomputable def fd194 : FuncData := fdOf (stm 26) "_normpath" .none .none .none (.ref 193) (.str "os.path" 432) .none
noncomputable def fd201 : FuncData := fdOf (stm 27) "normpath" .none .none .none (.ref 200) (.str "os.path" 432) .none
noncomputable def fd214 : FuncData := fdOf (mth 29 0) "_Ignore.__init__" (.ref 209) .none .none (.ref 213) (.str "cpy313.trace" 557) .none
noncomputable def fd221 : FuncData := fdOf (mth 29 1) "_Ignore.names" .none .none .none (.ref 220) (.str "cpy313.trace" 557) .none
noncomputable def fd235 : FuncData := fdOf (stm 30) "_modname" .none .none .none (.ref 234) (.str "cpy313.trace" 557) .none
noncomputable def fd242 : FuncData := fdOf (stm 32) "_get_sep" .none .none .none (.ref 241) (.str "cpy313.posixpath" 609) .none
noncomputable def fd249 : FuncData := fdOf (stm 33) "dirname" .none .none .none (.ref 248) (.str "cpy313.posixpath" 609) .none
noncomputable def fd268 : FuncData := fdOf (stm 38) "_index" .none .none .none (.ref 267) (.str "io" 669) .none
noncomputable def fd295 : FuncData := fdOf (mth 40 1) "IOBase.__new__" .none .none .none (.ref 294) (.str "io" 669) .none
noncomputable def fd572 : FuncData := fdOf (mth 44 1) "StringIO.__init__" (.ref 565) .none .none (.ref 571) (.str "io" 669) .none
noncomputable def fd579 : FuncData := fdOf (mth 44 2) "StringIO.__translated" .none .none .none (.ref 578) (.str "io" 669) .none
noncomputable def fd586 : FuncData := fdOf (mth 44 3) "StringIO.__check" .none .none .none (.ref 585) (.str "io" 669) .none
noncomputable def fd748 : FuncData := fdOf (mth 44 25) "StringIO.read" (.ref 741) .none .none (.ref 747) (.str "io" 669) .none
noncomputable def fd819 : FuncData := fdOf (mth 46 0) "shlex.__init__" (.ref 812) .none .none (.ref 818) (.str "cpy313.shlex" 1326) .none
noncomputable def fd826 : FuncData := fdOf (mth 46 1) "shlex.punctuation_chars" .none .none .none (.ref 825) (.str "cpy313.shlex" 1326) .none
noncomputable def fd856 : FuncData := fdOf (mth 46 5) "shlex.get_token" .none .none .none (.ref 855) (.str "cpy313.shlex" 1326) .none
noncomputable def fd863 : FuncData := fdOf (mth 46 6) "shlex.read_token" .none .none .none (.ref 862) (.str "cpy313.shlex" 1326) .none
noncomputable def fd885 : FuncData := fdOf (mth 46 9) "shlex.__iter__" .none .none .none (.ref 884) (.str "cpy313.shlex" 1326) .none
noncomputable def fd892 : FuncData := fdOf (mth 46 10) "shlex.__next__" .none .none .none (.ref 891) (.str "cpy313.shlex" 1326) .none
noncomputable def fd907 : FuncData := fdOf (stm 47) "split" (.ref 900) .none .none (.ref 906) (.str "cpy313.shlex" 1326) .none
noncomputable def fd914 : FuncData := fdOf (stm 48) "join" .none .none .none (.ref 913) (.str "cpy313.shlex" 1326) .none
noncomputable def fd922 : FuncData := fdOf (stm 51) "quote" .none .none .none (.ref 921) (.str "cpy313.shlex" 1326) .none
noncomputable def fd929 : FuncData := fdOf (stm 53) "_law_climbed" .none .none .none (.ref 928) (.str "law_ny0373_01" 1494) .none
noncomputable def fd936 : FuncData := fdOf (stm 54) "_law_fronts" .none .none .none (.ref 935) (.str "law_ny0373_01" 1494) .none
noncomputable def fd941 : FuncData := fdOf (stm 55) "_law_chosen" .none .none .none (.ref 940) (.str "law_ny0373_01" 1494) .none
noncomputable def fd948 : FuncData := fdOf (stm 56) "_law_does" .none .none .none (.ref 947) (.str "law_ny0373_01" 1494) .none
noncomputable def fd953 : FuncData := fdOf (stm 57) "_law_held" .none .none .none (.ref 952) (.str "law_ny0373_01" 1494) .none
noncomputable def fd958 : FuncData := fdOf (stm 58) "_law_fits" .none .none .none (.ref 957) (.str "law_ny0373_01" 1494) .none
noncomputable def fd963 : FuncData := fdOf (stm 59) "law" .none .none .none (.ref 962) (.str "law_ny0373_01" 1494) .none
noncomputable def KP (P : Params) : List (Addr × Obj) := [
  (3, ⟨(.type "dict"), none, .dict #[kv P "__name__" 165 (.str "law_ny0373_01" 1494), kv P "__doc__" 166 .none, kv P "__package__" 167 .none, kv P "__loader__" 168 (.builtin "__main__.__loader__#opaque"), kv P "__spec__" 169 .none, kv P "__annotations__" 170 (.ref 6), kv P "__builtins__" 171 (.ref 4), kv P "__file__" 173 (.str "/claim/cut.py" 172), kv P "__cached__" 174 .none, kv P "_sre" 275 (.ref 12), kv P "deque" 317 (.type "collections.deque"), kv P "_wall" 330 (.ref 44), kv P "sep" 334 (.str "/" 333), kv P "_plain_name" 343 (.ref 51), kv P "ABCMeta" 369 (.ref 68), kv P "_ABCLike" 412 (.ref 101), kv P "_abc_plain_meta" 419 (.ref 110), kv P "fspath" 431 (.ref 117), kv P "_kind" 442 (.ref 124), kv P "_fspath" 451 (.ref 131), kv P "_check_arg_types" 461 (.ref 138), kv P "isabs" 468 (.ref 145), kv P "join" 479 (.ref 914), kv P "join_path" 480 (.ref 152), kv P "splitext" 492 (.ref 159), kv P "_c_path" 505 (.ref 166), kv P "_splitroot" 514 (.ref 173), kv P "basename" 522 (.ref 180), kv P "dirname" 532 (.ref 249), kv P "dirname_path" 533 (.ref 187), kv P "_normpath" 548 (.ref 194), kv P "normpath" 556 (.ref 201), kv P "_Ignore" 598 (.ref 224), kv P "_modname" 608 (.ref 235), kv P "_get_sep" 617 (.ref 242), kv P "dirname_posixpath" 628 (.ref 249), kv P "_twin_re_1" 668 (.ref 254), kv P "_whence" 678 (.ref 261), kv P "_index" 686 (.ref 268), kv P "UnsupportedOperation" 708 (.ref 278), kv P "IOBase" 740 (.ref 298), kv P "BufferedIOBase" 758 (.ref 313), kv P "TextIOBase" 776 (.ref 325), kv P "BytesIO" 1038 (.ref 555), kv P "StringIO" 1325 (.ref 802), kv P "shlex" 1466 (.ref 895), kv P "split" 1476 (.ref 907), kv P "join_shlex" 1484 (.ref 914), kv P "_find_unsafe" 1486 (.ref 915), kv P "quote" 1493 (.ref 922), kv P "_law_climbed" 1505 (.ref 929), kv P "_law_fronts" 1515 (.ref 936), kv P "_law_chosen" 1521 (.ref 941), kv P "_law_does" 1533 (.ref 948), kv P "_law_held" 1539 (.ref 953), kv P "_law_fits" 1545 (.ref 958), kv P "law" 1551 (.ref 963)] 57, #[]⟩),
  (116, ⟨(.type "code"), none, .fields #[(.str "fspath" 422), (.str "fspath" 423), (.str "/claim/cut.py" 424), (.int (38) 0), (.int (1) 0), (.int (0) 0), (.int (0) 0), (.int (3) 0), (.ref 111), (.bool true), (.int (318) 0), (.ref 112), .none, (.ref 113), (.ref 114), (.ref 115), (.int (429) 0), (.int (38) 0), (.str "/claim/cut.py" 430)], #[]⟩),
  (117, ⟨(.type "function"), none, .func fd117, #[]⟩),
  (123, ⟨(.type "code"), none, .fields #[(.str "_kind" 434), (.str "_kind" 435), (.str "/claim/cut.py" 436), (.int (55) 0), (.int (2) 0), (.int (0) 0), (.int (0) 0), (.int (3) 0), (.ref 118), (.bool true), (.int (318) 0), (.ref 119), .none, (.ref 120), (.ref 121), (.ref 122), (.int (440) 0), (.int (55) 0), (.str "/claim/cut.py" 441)], #[]⟩),
  (124, ⟨(.type "function"), none, .func fd124, #[]⟩),
  (130, ⟨(.type "code"), none, .fields #[(.str "_fspath" 443), (.str "_fspath" 444), (.str "/claim/cut.py" 445), (.int (76) 0), (.int (2) 0), (.int (0) 0), (.int (0) 0), (.int (3) 0), (.ref 125), (.bool true), (.int (318) 0), (.ref 126), .none, (.ref 127), (.ref 128), (.ref 129), (.int (449) 0), (.int (76) 0), (.str "/claim/cut.py" 450)], #[]⟩),
  (131, ⟨(.type "function"), none, .func fd131, #[]⟩),
  (158, ⟨(.type "code"), none, .fields #[(.str "splitext" 481), (.str "splitext" 482), (.str "/claim/cut.py" 483), (.int (110) 0), (.int (1) 0), (.int (0) 0), (.int (0) 0), (.int (3) 0), (.ref 153), (.bool true), (.int (318) 0), (.ref 154), .none, (.ref 155), (.ref 156), (.ref 157), (.int (490) 0), (.int (110) 0), (.str "/claim/cut.py" 491)], #[]⟩),
  (159, ⟨(.type "function"), none, .func fd159, #[]⟩),
  (165, ⟨(.type "code"), none, .fields #[(.str "_c_path" 493), (.str "_c_path" 494), (.str "/claim/cut.py" 495), (.int (123) 0), (.int (5) 0), (.int (0) 0), (.int (0) 0), (.int (3) 0), (.ref 160), (.bool true), (.int (318) 0), (.ref 161), .none, (.ref 162), (.ref 163), (.ref 164), (.int (503) 0), (.int (123) 0), (.str "/claim/cut.py" 504)], #[]⟩),
  (166, ⟨(.type "function"), none, .func fd166, #[]⟩),
  (172, ⟨(.type "code"), none, .fields #[(.str "_splitroot" 506), (.str "_splitroot" 507), (.str "/claim/cut.py" 508), (.int (134) 0), (.int (1) 0), (.int (0) 0), (.int (0) 0), (.int (3) 0), (.ref 167), (.bool true), (.int (318) 0), (.ref 168), .none, (.ref 169), (.ref 170), (.ref 171), (.int (512) 0), (.int (134) 0), (.str "/claim/cut.py" 513)], #[]⟩),
  (173, ⟨(.type "function"), none, .func fd173, #[]⟩),
  (179, ⟨(.type "code"), none, .fields #[(.str "basename" 515), (.str "basename" 516), (.str "/claim/cut.py" 517), (.int (143) 0), (.int (1) 0), (.int (0) 0), (.int (0) 0), (.int (3) 0), (.ref 174), (.bool true), (.int (318) 0), (.ref 175), .none, (.ref 176), (.ref 177), (.ref 178), (.int (520) 0), (.int (143) 0), (.str "/claim/cut.py" 521)], #[]⟩),
  (180, ⟨(.type "function"), none, .func fd180, #[]⟩),
  (193, ⟨(.type "code"), none, .fields #[(.str "_normpath" 534), (.str "_normpath" 535), (.str "/claim/cut.py" 536), (.int (156) 0), (.int (1) 0), (.int (0) 0), (.int (0) 0), (.int (3) 0), (.ref 188), (.bool true), (.int (318) 0), (.ref 189), .none, (.ref 190), (.ref 191), (.ref 192), (.int (546) 0), (.int (156) 0), (.str "/claim/cut.py" 547)], #[]⟩),
  (194, ⟨(.type "function"), none, .func fd194, #[]⟩),
  (200, ⟨(.type "code"), none, .fields #[(.str "normpath" 549), (.str "normpath" 550), (.str "/claim/cut.py" 551), (.int (175) 0), (.int (0) 0), (.int (0) 0), (.int (0) 0), (.int (15) 0), (.ref 195), (.bool true), (.int (318) 0), (.ref 196), .none, (.ref 197), (.ref 198), (.ref 199), (.int (554) 0), (.int (175) 0), (.str "/claim/cut.py" 555)], #[]⟩),
  (201, ⟨(.type "function"), none, .func fd201, #[]⟩),
  (209, ⟨(.type "tuple"), none, .seq #[.none, .none] 0, #[]⟩),
  (213, ⟨(.type "code"), none, .fields #[(.str "__init__" 571), (.str "_Ignore.__init__" 572), (.str "/claim/cut.py" 573), (.int (180) 0), (.int (3) 0), (.int (0) 0), (.int (0) 0), (.int (3) 0), (.ref 210), (.bool true), (.int (318) 0), (.ref 211), .none, .none, .none, (.ref 212), (.int (574) 0), (.int (180) 0), (.str "/claim/cut.py" 575)], #[]⟩),
  (214, ⟨(.type "function"), none, .func fd214, #[]⟩),
  (220, ⟨(.type "code"), none, .fields #[(.str "names" 577), (.str "_Ignore.names" 578), (.str "/claim/cut.py" 579), (.int (185) 0), (.int (3) 0), (.int (0) 0), (.int (0) 0), (.int (3) 0), (.ref 215), (.bool true), (.int (318) 0), (.ref 216), .none, (.ref 217), (.ref 218), (.ref 219), (.int (585) 0), (.int (185) 0), (.str "/claim/cut.py" 586)], #[]⟩),
  (221, ⟨(.type "function"), none, .func fd221, #[]⟩),
  (223, ⟨(.type "dict"), none, .dict #[kv P "__module__" 566 (.str "cpy313.trace" 557), kv P "__firstlineno__" 570 (.int (178) 569), kv P "__init__" 576 (.ref 214), kv P "names" 587 (.ref 221), kv P "__static_attributes__" 591 (.ref 222), kv P "__dict__" 593 (.ref 225), kv P "__weakref__" 595 (.ref 226), kv P "__doc__" 596 .none] 4, #[]⟩),
  (224, ⟨(.type "type"), none, .cls { name := "_Ignore", bases := [(.type "object")], mro := [(.ref 224), (.type "object")], ns := 223, qualname := "_Ignore", hasDict := true, slotNames := [], subclasses := [], abstract := false, collection := none, hasDel := false }, #[none, none, some (.str "_Ignore" 559), some (.str "_Ignore" 567), some (.builtin "object.__new__"), some (.bool true)]⟩),
  (234, ⟨(.type "code"), none, .fields #[(.str "_modname" 599), (.str "_modname" 600), (.str "/claim/cut.py" 601), (.int (204) 0), (.int (1) 0), (.int (0) 0), (.int (0) 0), (.int (3) 0), (.ref 229), (.bool true), (.int (318) 0), (.ref 230), .none, (.ref 231), (.ref 232), (.ref 233), (.int (606) 0), (.int (204) 0), (.str "/claim/cut.py" 607)], #[]⟩),
  (235, ⟨(.type "function"), none, .func fd235, #[]⟩),
  (241, ⟨(.type "code"), none, .fields #[(.str "_get_sep" 611), (.str "_get_sep" 612), (.str "/claim/cut.py" 613), (.int (209) 0), (.int (1) 0), (.int (0) 0), (.int (0) 0), (.int (3) 0), (.ref 236), (.bool true), (.int (318) 0), (.ref 237), .none, (.ref 238), (.ref 239), (.ref 240), (.int (615) 0), (.int (209) 0), (.str "/claim/cut.py" 616)], #[]⟩),
  (242, ⟨(.type "function"), none, .func fd242, #[]⟩),
  (248, ⟨(.type "code"), none, .fields #[(.str "dirname" 618), (.str "dirname" 619), (.str "/claim/cut.py" 620), (.int (214) 0), (.int (1) 0), (.int (0) 0), (.int (0) 0), (.int (3) 0), (.ref 243), (.bool true), (.int (318) 0), (.ref 244), .none, (.ref 245), (.ref 246), (.ref 247), (.int (625) 0), (.int (214) 0), (.str "/claim/cut.py" 626)], #[]⟩),
  (249, ⟨(.type "function"), none, .func fd249, #[]⟩),
  (253, ⟨(.type "tuple"), none, .seq #[(.int (14) 0), (.int (17) 0), (.int (4) 0), (.int (1) 0), (.int (1) 0), (.int (21) 0), (.int (9) 0), (.int (0) 0), (.int (604043296) 0), (.int (1) 0), (.int (0) 0), (.int (0) 0), (.int (0) 0), (.int (0) 0), (.int (0) 0), (.int (8) 0), (.int (4) 0), (.int (0) 0), (.int (13) 0), (.int (14) 0), (.int (21) 0), (.int (9) 0), (.int (0) 0), (.int (604043296) 0), (.int (1) 0), (.int (0) 0), (.int (0) 0), (.int (0) 0), (.int (0) 0), (.int (0) 0), (.int (8) 0), (.int (4) 0), (.int (0) 0), (.int (1) 0)] 0, #[]⟩),
  (254, ⟨(.type "re.Pattern"), none, .fields #[(.str "[^\\w@%+=:,./-]" 630), (.int (256) 667), (.int (0) 0), .none, .none, (.ref 253), (.int (0) 0)], #[]⟩),
  (267, ⟨(.type "code"), none, .fields #[(.str "_index" 679), (.str "_index" 680), (.str "/claim/cut.py" 681), (.int (230) 0), (.int (2) 0), (.int (0) 0), (.int (0) 0), (.int (3) 0), (.ref 262), (.bool true), (.int (318) 0), (.ref 263), .none, (.ref 264), (.ref 265), (.ref 266), (.int (684) 0), (.int (230) 0), (.str "/claim/cut.py" 685)], #[]⟩),
  (268, ⟨(.type "function"), none, .func fd268, #[]⟩),
  (294, ⟨(.type "code"), none, .fields #[(.str "__new__" 723), (.str "IOBase.__new__" 724), (.str "/claim/cut.py" 725), (.int (242) 0), (.int (1) 0), (.int (1) 0), (.int (0) 0), (.int (15) 0), (.ref 289), (.bool true), (.int (318) 0), (.ref 290), .none, (.ref 291), (.ref 292), (.ref 293), (.int (729) 0), (.int (242) 0), (.str "/claim/cut.py" 730)], #[]⟩),
  (295, ⟨(.type "function"), none, .func fd295, #[]⟩),
  (297, ⟨(.type "dict"), none, .dict #[kv P "__module__" 716 (.str "io" 721), kv P "__firstlineno__" 720 (.int (239) 719), kv P "__new__" 731 (.ref 299), kv P "__static_attributes__" 732 (.ref 296), kv P "__dict__" 735 (.ref 300), kv P "__weakref__" 737 (.ref 301), kv P "__doc__" 738 .none] 4, #[]⟩),
  (298, ⟨(.type "type"), none, .cls { name := "IOBase", bases := [(.type "object")], mro := [(.ref 298), (.type "object")], ns := 297, qualname := "IOBase", hasDict := true, slotNames := [], subclasses := [(.ref 313), (.ref 325)], abstract := false, collection := none, hasDel := false }, #[none, none, some (.str "IOBase" 709), some (.str "IOBase" 717), some .none, some (.bool true)]⟩),
  (299, ⟨(.type "staticmethod"), none, .fields #[(.ref 295)], #[]⟩),
  (324, ⟨(.type "dict"), none, .dict #[kv P "__module__" 766 (.str "io" 771), kv P "__firstlineno__" 770 (.int (248) 769), kv P "__static_attributes__" 773 (.ref 323), kv P "__doc__" 774 .none] 2, #[]⟩),
  (325, ⟨(.type "type"), none, .cls { name := "TextIOBase", bases := [(.ref 298)], mro := [(.ref 325), (.ref 298), (.type "object")], ns := 324, qualname := "TextIOBase", hasDict := true, slotNames := [], subclasses := [(.ref 802)], abstract := false, collection := none, hasDel := false }, #[some (.ref 316), none, some (.str "TextIOBase" 759), some (.str "TextIOBase" 767), some .none, some (.bool true)]⟩),
  (565, ⟨(.type "tuple"), none, .seq #[(.str "" 1053), (.str "\n" 1054)] 0, #[]⟩),
  (571, ⟨(.type "code"), none, .fields #[(.str "__init__" 1055), (.str "StringIO.__init__" 1056), (.str "/claim/cut.py" 1057), (.int (423) 0), (.int (3) 0), (.int (0) 0), (.int (0) 0), (.int (3) 0), (.ref 566), (.bool true), (.int (318) 0), (.ref 567), .none, (.ref 568), (.ref 569), (.ref 570), (.int (1061) 0), (.int (423) 0), (.str "/claim/cut.py" 1062)], #[]⟩),
  (572, ⟨(.type "function"), none, .func fd572, #[]⟩),
  (578, ⟨(.type "code"), none, .fields #[(.str "__translated" 1064), (.str "StringIO.__translated" 1065), (.str "/claim/cut.py" 1066), (.int (436) 0), (.int (2) 0), (.int (0) 0), (.int (0) 0), (.int (3) 0), (.ref 573), (.bool true), (.int (318) 0), (.ref 574), .none, (.ref 575), (.ref 576), (.ref 577), (.int (1070) 0), (.int (436) 0), (.str "/claim/cut.py" 1071)], #[]⟩),
  (579, ⟨(.type "function"), none, .func fd579, #[]⟩),
  (585, ⟨(.type "code"), none, .fields #[(.str "__check" 1073), (.str "StringIO.__check" 1074), (.str "/claim/cut.py" 1075), (.int (444) 0), (.int (1) 0), (.int (0) 0), (.int (0) 0), (.int (3) 0), (.ref 580), (.bool true), (.int (318) 0), (.ref 581), .none, (.ref 582), (.ref 583), (.ref 584), (.int (1077) 0), (.int (444) 0), (.str "/claim/cut.py" 1078)], #[]⟩),
  (586, ⟨(.type "function"), none, .func fd586, #[]⟩),
  (741, ⟨(.type "tuple"), none, .seq #[(.int (-1) 1246)] 0, #[]⟩),
  (747, ⟨(.type "code"), none, .fields #[(.str "read" 1247), (.str "StringIO.read" 1248), (.str "/claim/cut.py" 1249), (.int (566) 0), (.int (2) 0), (.int (2) 0), (.int (0) 0), (.int (3) 0), (.ref 742), (.bool true), (.int (318) 0), (.ref 743), .none, (.ref 744), (.ref 745), (.ref 746), (.int (1254) 0), (.int (566) 0), (.str "/claim/cut.py" 1255)], #[]⟩),
  (748, ⟨(.type "function"), none, .func fd748, #[]⟩),
  (801, ⟨(.type "dict"), none, .dict #[kv P "__module__" 1046 (.str "_io" 1051), kv P "__firstlineno__" 1050 (.int (420) 1049), kv P "__init__" 1063 (.ref 572), kv P "_StringIO__translated" 1072 (.ref 579), kv P "_StringIO__check" 1079 (.ref 586), kv P "_StringIO__check_dot" 1086 (.ref 593), kv P "_StringIO__line" 1101 (.ref 600), kv P "closed" 1109 (.ref 608), kv P "line_buffering" 1117 (.ref 616), kv P "newlines" 1125 (.ref 624), kv P "encoding" 1133 (.ref 632), kv P "errors" 1141 (.ref 640), kv P "close" 1148 (.ref 647), kv P "__enter__" 1155 (.ref 654), kv P "__exit__" 1163 (.ref 661), kv P "readable" 1170 (.ref 668), kv P "writable" 1177 (.ref 675), kv P "seekable" 1184 (.ref 682), kv P "isatty" 1191 (.ref 689), kv P "flush" 1198 (.ref 696), kv P "fileno" 1205 (.ref 703), kv P "detach" 1212 (.ref 710), kv P "getvalue" 1219 (.ref 717), kv P "tell" 1226 (.ref 724), kv P "seek" 1236 (.ref 732), kv P "truncate" 1244 (.ref 740), kv P "read" 1256 (.ref 748), kv P "readline" 1266 (.ref 756), kv P "readlines" 1276 (.ref 764), kv P "__iter__" 1283 (.ref 771), kv P "__next__" 1291 (.ref 778), kv P "write" 1303 (.ref 785), kv P "writelines" 1311 (.ref 792), kv P "__repr__" 1318 (.ref 799), kv P "__static_attributes__" 1322 (.ref 800), kv P "__doc__" 1323 .none] 2, #[]⟩),
  (802, ⟨(.type "type"), none, .cls { name := "StringIO", bases := [(.ref 325)], mro := [(.ref 802), (.ref 325), (.ref 298), (.type "object")], ns := 801, qualname := "StringIO", hasDict := true, slotNames := [], subclasses := [], abstract := false, collection := none, hasDel := false }, #[some (.ref 558), none, some (.str "StringIO" 1039), some (.str "StringIO" 1047), some .none, some (.bool true)]⟩),
  (812, ⟨(.type "tuple"), none, .seq #[.none, .none, (.bool false), (.bool false)] 0, #[]⟩),
  (818, ⟨(.type "code"), none, .fields #[(.str "__init__" 1340), (.str "shlex.__init__" 1341), (.str "/claim/cut.py" 1342), (.int (628) 0), (.int (5) 0), (.int (0) 0), (.int (0) 0), (.int (3) 0), (.ref 813), (.bool true), (.int (318) 0), (.ref 814), .none, (.ref 815), (.ref 816), (.ref 817), (.int (1349) 0), (.int (628) 0), (.str "/claim/cut.py" 1350)], #[]⟩),
  (819, ⟨(.type "function"), none, .func fd819, #[]⟩),
  (825, ⟨(.type "code"), none, .fields #[(.str "punctuation_chars" 1352), (.str "shlex.punctuation_chars" 1353), (.str "/claim/cut.py" 1354), (.int (669) 0), (.int (1) 0), (.int (0) 0), (.int (0) 0), (.int (3) 0), (.ref 820), (.bool true), (.int (318) 0), (.ref 821), .none, (.ref 822), (.ref 823), (.ref 824), (.int (1356) 0), (.int (669) 0), (.str "/claim/cut.py" 1357)], #[]⟩),
  (826, ⟨(.type "function"), none, .func fd826, #[]⟩),
  (827, ⟨(.type "property"), none, .fields #[(.ref 826), .none, .none, .none, (.str "punctuation_chars" 1359), (.bool false)], #[]⟩),
  (855, ⟨(.type "code"), none, .fields #[(.str "get_token" 1384), (.str "shlex.get_token" 1385), (.str "/claim/cut.py" 1386), (.int (696) 0), (.int (1) 0), (.int (0) 0), (.int (0) 0), (.int (3) 0), (.ref 850), (.bool true), (.int (318) 0), (.ref 851), .none, (.ref 852), (.ref 853), (.ref 854), (.int (1393) 0), (.int (696) 0), (.str "/claim/cut.py" 1394)], #[]⟩),
  (856, ⟨(.type "function"), none, .func fd856, #[]⟩),
  (862, ⟨(.type "code"), none, .fields #[(.str "read_token" 1396), (.str "shlex.read_token" 1397), (.str "/claim/cut.py" 1398), (.int (723) 0), (.int (1) 0), (.int (0) 0), (.int (0) 0), (.int (3) 0), (.ref 857), (.bool true), (.int (318) 0), (.ref 858), .none, (.ref 859), (.ref 860), (.ref 861), (.int (1404) 0), (.int (723) 0), (.str "/claim/cut.py" 1405)], #[]⟩),
  (863, ⟨(.type "function"), none, .func fd863, #[]⟩),
  (884, ⟨(.type "code"), none, .fields #[(.str "__iter__" 1424), (.str "shlex.__iter__" 1425), (.str "/claim/cut.py" 1426), (.int (870) 0), (.int (1) 0), (.int (0) 0), (.int (0) 0), (.int (3) 0), (.ref 879), (.bool true), (.int (318) 0), (.ref 880), .none, (.ref 881), (.ref 882), (.ref 883), (.int (1428) 0), (.int (870) 0), (.str "/claim/cut.py" 1429)], #[]⟩),
  (885, ⟨(.type "function"), none, .func fd885, #[]⟩),
  (891, ⟨(.type "code"), none, .fields #[(.str "__next__" 1431), (.str "shlex.__next__" 1432), (.str "/claim/cut.py" 1433), (.int (873) 0), (.int (1) 0), (.int (0) 0), (.int (0) 0), (.int (3) 0), (.ref 886), (.bool true), (.int (318) 0), (.ref 887), .none, (.ref 888), (.ref 889), (.ref 890), (.int (1436) 0), (.int (873) 0), (.str "/claim/cut.py" 1437)], #[]⟩),
  (892, ⟨(.type "function"), none, .func fd892, #[]⟩),
  (894, ⟨(.type "dict"), none, .dict #[kv P "__module__" 1335 (.str "cpy313.shlex" 1326), kv P "__firstlineno__" 1339 (.int (626) 1338), kv P "__init__" 1351 (.ref 819), kv P "punctuation_chars" 1359 (.ref 827), kv P "push_token" 1367 (.ref 834), kv P "push_source" 1376 (.ref 842), kv P "pop_source" 1383 (.ref 849), kv P "get_token" 1395 (.ref 856), kv P "read_token" 1406 (.ref 863), kv P "sourcehook" 1414 (.ref 870), kv P "error_leader" 1423 (.ref 878), kv P "__iter__" 1430 (.ref 885), kv P "__next__" 1438 (.ref 892), kv P "__static_attributes__" 1459 (.ref 893), kv P "__dict__" 1461 (.ref 896), kv P "__weakref__" 1463 (.ref 897), kv P "__doc__" 1464 .none] 4, #[]⟩),
  (895, ⟨(.type "type"), none, .cls { name := "shlex", bases := [(.type "object")], mro := [(.ref 895), (.type "object")], ns := 894, qualname := "shlex", hasDict := true, slotNames := [], subclasses := [], abstract := false, collection := none, hasDel := false }, #[none, none, some (.str "shlex" 1328), some (.str "shlex" 1336), some (.builtin "object.__new__"), some (.bool true)]⟩),
  (900, ⟨(.type "tuple"), none, .seq #[(.bool false), (.bool true)] 0, #[]⟩),
  (906, ⟨(.type "code"), none, .fields #[(.str "split" 1467), (.str "split" 1468), (.str "/claim/cut.py" 1469), (.int (878) 0), (.int (3) 0), (.int (0) 0), (.int (0) 0), (.int (3) 0), (.ref 901), (.bool true), (.int (318) 0), (.ref 902), .none, (.ref 903), (.ref 904), (.ref 905), (.int (1474) 0), (.int (878) 0), (.str "/claim/cut.py" 1475)], #[]⟩),
  (907, ⟨(.type "function"), none, .func fd907, #[]⟩),
  (913, ⟨(.type "code"), none, .fields #[(.str "join" 1477), (.str "join" 1478), (.str "/claim/cut.py" 1479), (.int (886) 0), (.int (1) 0), (.int (0) 0), (.int (0) 0), (.int (3) 0), (.ref 908), (.bool true), (.int (318) 0), (.ref 909), .none, (.ref 910), (.ref 911), (.ref 912), (.int (1481) 0), (.int (886) 0), (.str "/claim/cut.py" 1482)], #[]⟩),
  (914, ⟨(.type "function"), none, .func fd914, #[]⟩),
  (915, ⟨(.type "builtin_function_or_method"), none, .fields #[(.builtin "re.Pattern.search"), (.ref 254)], #[]⟩),
  (921, ⟨(.type "code"), none, .fields #[(.str "quote" 1487), (.str "quote" 1488), (.str "/claim/cut.py" 1489), (.int (890) 0), (.int (1) 0), (.int (0) 0), (.int (0) 0), (.int (3) 0), (.ref 916), (.bool true), (.int (318) 0), (.ref 917), .none, (.ref 918), (.ref 919), (.ref 920), (.int (1491) 0), (.int (890) 0), (.str "/claim/cut.py" 1492)], #[]⟩),
  (922, ⟨(.type "function"), none, .func fd922, #[]⟩),
  (928, ⟨(.type "code"), none, .fields #[(.str "_law_climbed" 1496), (.str "_law_climbed" 1497), (.str "/claim/cut.py" 1498), (.int (897) 0), (.int (1) 0), (.int (0) 0), (.int (0) 0), (.int (3) 0), (.ref 923), (.bool true), (.int (318) 0), (.ref 924), .none, (.ref 925), (.ref 926), (.ref 927), (.int (1503) 0), (.int (897) 0), (.str "/claim/cut.py" 1504)], #[]⟩),
  (929, ⟨(.type "function"), none, .func fd929, #[]⟩),
  (935, ⟨(.type "code"), none, .fields #[(.str "_law_fronts" 1506), (.str "_law_fronts" 1507), (.str "/claim/cut.py" 1508), (.int (906) 0), (.int (1) 0), (.int (0) 0), (.int (0) 0), (.int (3) 0), (.ref 930), (.bool true), (.int (318) 0), (.ref 931), .none, (.ref 932), (.ref 933), (.ref 934), (.int (1513) 0), (.int (906) 0), (.str "/claim/cut.py" 1514)], #[]⟩),
  (936, ⟨(.type "function"), none, .func fd936, #[]⟩),
  (940, ⟨(.type "code"), none, .fields #[(.str "_law_chosen" 1516), (.str "_law_chosen" 1517), (.str "/claim/cut.py" 1518), (.int (913) 0), (.int (2) 0), (.int (0) 0), (.int (0) 0), (.int (3) 0), (.ref 937), (.bool true), (.int (318) 0), (.ref 938), .none, .none, .none, (.ref 939), (.int (1519) 0), (.int (913) 0), (.str "/claim/cut.py" 1520)], #[]⟩),
  (941, ⟨(.type "function"), none, .func fd941, #[]⟩),
  (947, ⟨(.type "code"), none, .fields #[(.str "_law_does" 1522), (.str "_law_does" 1523), (.str "/claim/cut.py" 1524), (.int (915) 0), (.int (3) 0), (.int (0) 0), (.int (0) 0), (.int (3) 0), (.ref 942), (.bool true), (.int (318) 0), (.ref 943), .none, (.ref 944), (.ref 945), (.ref 946), (.int (1531) 0), (.int (915) 0), (.str "/claim/cut.py" 1532)], #[]⟩),
  (948, ⟨(.type "function"), none, .func fd948, #[]⟩),
  (952, ⟨(.type "code"), none, .fields #[(.str "_law_held" 1534), (.str "_law_held" 1535), (.str "/claim/cut.py" 1536), (.int (924) 0), (.int (2) 0), (.int (0) 0), (.int (0) 0), (.int (3) 0), (.ref 949), (.bool true), (.int (318) 0), (.ref 950), .none, .none, .none, (.ref 951), (.int (1537) 0), (.int (924) 0), (.str "/claim/cut.py" 1538)], #[]⟩),
  (953, ⟨(.type "function"), none, .func fd953, #[]⟩),
  (957, ⟨(.type "code"), none, .fields #[(.str "_law_fits" 1540), (.str "_law_fits" 1541), (.str "/claim/cut.py" 1542), (.int (926) 0), (.int (3) 0), (.int (0) 0), (.int (0) 0), (.int (3) 0), (.ref 954), (.bool true), (.int (318) 0), (.ref 955), .none, .none, .none, (.ref 956), (.int (1543) 0), (.int (926) 0), (.str "/claim/cut.py" 1544)], #[]⟩),
  (958, ⟨(.type "function"), none, .func fd958, #[]⟩),
  (962, ⟨(.type "code"), none, .fields #[(.str "law" 1546), (.str "law" 1547), (.str "/claim/cut.py" 1548), (.int (931) 0), (.int (1) 0), (.int (0) 0), (.int (0) 0), (.int (3) 0), (.ref 959), (.bool true), (.int (318) 0), (.ref 960), .none, .none, .none, (.ref 961), (.int (1549) 0), (.int (931) 0), (.str "/claim/cut.py" 1550)], #[]⟩),
  (963, ⟨(.type "function"), none, .func fd963, #[]⟩)]
noncomputable def KA : List Addr := [3,116,117,123,124,130,131,158,159,165,166,172,173,179,180,193,194,200,201,209,213,214,220,221,223,224,234,235,241,242,248,249,253,254,267,268,294,295,297,298,299,324,325,565,571,572,578,579,585,586,741,747,748,801,802,812,818,819,825,826,827,855,856,862,863,884,885,891,892,894,895,900,906,907,913,914,915,921,922,928,929,935,936,940,941,947,948,952,953,957,958,962,963]
noncomputable def cst (P : Params) : Obj := ⟨.none, none, .dict #[kv P "i\u006dport.loaded._sre" 183 (.bool true), kv P "class._frozen_importlib.BuiltinImporter" 185 (.ref 14), kv P "watched.i\u006dport" 206 (.ref 18), kv P "class._frozen_importlib.ModuleSpec" 216 (.ref 22), kv P "sys.modules.booked-epoch" 245 (.int (4) 0), kv P "i\u006dport.later-laid._sre" 270 (.bool true), kv P "watched.library" 272 (.ref 27), kv P "watched.library-objects" 0 (.str "\x0c\x1e" 0), kv P "watched.library-deep._sre" 273 (.str "\x04\x00\x00\x0b\x04\x00\x00\x0b\x04\x00\x00\x03\x04\x00\x00\x0b\x08\x04dict\x02" 0), kv P "i\u006dport.loaded._collections" 280 (.bool true), kv P "sys.modules.landed._collections" 294 (.bool true), kv P "i\u006dport.later-laid._collections" 309 (.bool true), kv P "watched.library-deep._collections" 311 (.str "\x04\x00\x00\x1d\x04\x00\x00\x1d\x04\x00\x00\x03\x04\x00\x00\x1d\x08\x04dict\x02" 0), kv P "type.__subclasses__.OSError.0" 705 (.int (278) 0), kv P "type.__subclasses__.OSError.n" 706 (.int (1) 0)] 15, #[]⟩
noncomputable def c555 : Obj := ⟨(.type "type"), none, .cls { name := "BytesIO", bases := [(.ref 313)], mro := [(.ref 555), (.ref 313), (.ref 298), (.type "object")], ns := 554, qualname := "BytesIO", hasDict := true, slotNames := [], subclasses := [], abstract := false, collection := none, hasDel := false }, #[some (.ref 328), none, some (.str "BytesIO" 777), some (.str "BytesIO" 785), some .none, some (.bool true)]⟩
noncomputable def KPX (P : Params) : List (Addr × Obj) := (909, ⟨.none, none, .fields #[], #[]⟩) :: (2, cst P) :: (555, c555) :: KP P
noncomputable def KAX : List Addr := 909 :: 2 :: 555 :: KA
noncomputable def stpQ (p : Program) (w : World) : SharedT → Thread → Option (SharedT × Thread) := PySem.W.Fast.tw10156331382660048174 (PySem.W.Fast.tw11892475500146522536 PySem.W.Fast.tw14364793385576792824) p w
theorem stpQ_eq (p : Program) (w : World) : stepT (denote treeTable) p w = stpQ p w := by
  unfold stpQ
  rw [PySem.W.Fast.te10156331382660048174, PySem.W.Fast.te11892475500146522536, PySem.W.Fast.te14364793385576792824]
noncomputable abbrev XtQ (s : Shared) : Bool := xlAt qv [] s && recOk [] s
noncomputable def obsQ (s : Shared) := (PySem.W.Fast.tw4187177175401517315 qv looseN (importedModules pg.main.body) XtQ true s, KAX.map s.heap.get?)
noncomputable def wholeQ (w : World) :=
  ((openT (stpQ (opening pg) w) (PySem.W.Fast.tw1435165496053646825 (opening pg)).2 (start (opening pg)).1.os (PySem.W.Fast.tw14289696077712309145 pg) 20000).bind (topT pg (stpQ pg w) 20000)).map obsQ
end Mine
end
section
open PySem PySem.W PyProof.Rows
set_option maxHeartbeats 0
namespace Mine
theorem said1 : PySem.W.Fast.tw17960256430627541270 (PySem.W.Fast.tw2368527892694137696 lw) = true := by kernel_rfl
theorem said : lw.wellSaid = true := by
  rw [PySem.W.Fast.te9446332074065402090]
  delta PySem.W.Fast.tw9446332074065402090
  dsimp only
  rw [said1]
  kernel_rfl
end Mine
end
section
open PySem PySem.W PyProof.Rows
set_option maxHeartbeats 0
namespace Mine
theorem wholeQ_is (w : World) : wholeQ w = some (openGood qv looseN, (KPX w.params).map fun p => some p.2) := by kernel_rfl
end Mine
end
section
open PySem PySem.W PyProof.Rows
set_option maxHeartbeats 400000
namespace Mine
theorem left : LeftO pg qv looseN XtQ (fun s => KAX.map s.heap.get?) (fun w => (KPX w.params).map fun p => some p.2) 20000 := by
  intro w
  have h := wholeQ_is w
  unfold wholeQ at h
  obtain ⟨s₁, h1, e⟩ := Option.map_eq_some_iff.mp h
  obtain ⟨s₀, h2, h3⟩ := Option.bind_eq_some_iff.mp h1
  rw [← stpQ_eq] at h2 h3
  rw [← PySem.W.Fast.te1435165496053646825, ← PySem.W.Fast.te14289696077712309145] at h2
  have a := openT_spec h2
  have b := topT_spec h3
  unfold openEnds
  rw [a]
  show Option.map _ (topFrom treeTable pg w 20000 s₀) = _
  rw [b]
  refine congrArg some ?_
  unfold obsQ at e
  rw [← PySem.W.Fast.te4187177175401517315] at e
  exact e
theorem hKA (P : Params) : KAX = (KPX P).map (·.1) := by kernel_rfl
noncomputable def hook : Hook := kHook KPX KAX hKA
theorem bare : pg.bare := ⟨rfl, rfl, rfl, rfl, rfl, by decide +kernel⟩
end Mine
end
section
open PySem PySem.W PyProof.Rows
set_option maxHeartbeats 400000
namespace Mine
noncomputable def psS : Stmt → Pos
  | .FunctionDef _ _ _ _ _ _ _ _ _ pos => pos
  | _ => default
noncomputable def dLaw : DefRec := ⟨nmS (stm 59), arS (stm 59), bdS (stm 59), scS (stm 59), psS (stm 59)⟩
theorem hdef : defOf qv lw.row.name = some (dLaw, []) := by kernel_rfl
theorem hthe : lw.row.prog.theDef lw.row.name = some (dLaw.params, dLaw.body, dLaw.scope) := by kernel_rfl
theorem okQ : (chainsOk qv && opensWell lw.row.prog && (frees lw.row.toRowW && lw.row.within.isEmpty)) = true := by decide +kernel
theorem prom : lw.row.toRowW.promised := ⟨[.list []], by decide +kernel, by decide +kernel⟩
noncomputable abbrev WalkLaw : Prop := WalkO qv looseN (XL qv []) hook.says lw.row.toRowW dLaw [] (fun f vs => PySem.call f vs)
theorem hd (call : WalkLaw) : PySem.Challenge.rw_ny0373_01.Holds := by
  refine holds_law said fun k1 => ?_
  exact holds_open (q := qv) (loose := looseN) (Xt := XtQ) (XP := XL qv []) (Yf := hook.obs) (Ya := hook.val) (YP := hook.says) (N := 20000) left hook.of hook.keeps (fun s e => xl_of s (Bool.and_eq_true_iff.mp e).1) XL.keeps hdef hthe rfl (fun s e => recFacts_of (Bool.and_eq_true_iff.mp e).2) rfl k1 okQ bare prom call
end Mine
end
section
open PySem PySem.W PySem.Calls PyProof.Rows PySem.Spec
namespace Mine

/-! views of a heap -/
theorem hide_sub {h h' : Heap} {H : List Addr} (hk : ∀ b o, b ∉ H → h.get? b = some o → h'.get? b = some o) : ∀ b o, (hideAll h H).get? b = some o → (hideAll h' H).get? b = some o := fun b o e => by
  by_cases hb : b ∈ H
  · rw [hideAll_none H hb] at e; cases e
  · exact hideAll_get H (hk b o hb (of_hideAll H e)) hb
theorem hide_more {h : Heap} {H H' : List Addr} (hs : ∀ b ∈ H, b ∈ H') : ∀ b o, (hideAll h H').get? b = some o → (hideAll h H).get? b = some o := fun b o e => by
  by_cases hb : b ∈ H
  · rw [hideAll_none H' (hs b hb)] at e; cases e
  · exact hideAll_get H (of_hideAll H' e) hb
noncomputable def Kp (s s' : Shared) : Prop := Keeps s s'
theorem Kp.hide {s s' : Shared} {H : List Addr} (k : Kp s s') : ∀ b o, (hideAll s.heap H).get? b = some o → (hideAll s'.heap H).get? b = some o := by
  obtain ⟨h', tk, rfl, hk⟩ := k
  exact hide_sub fun b o _ e => hk b o e
theorem Kp.keep {s s' : Shared} (k : Kp s s') : ∀ b o, s.heap.get? b = some o → s'.heap.get? b = some o := by
  obtain ⟨h', tk, rfl, hk⟩ := k
  exact hk
theorem Kp.rfl' {s : Shared} : Kp s s := ⟨s.heap, s.toks, rfl, fun _ _ e => e⟩
theorem Kp.tok {s : Shared} (t : Nat) : Kp s { s with toks := t } := ⟨s.heap, t, rfl, fun _ _ e => e⟩
theorem Kp.to {s : Shared} {h' : Heap} {t : Nat} (hk : ∀ b o, s.heap.get? b = some o → h'.get? b = some o) : Kp s { s with heap := h', toks := t } := ⟨h', t, rfl, hk⟩
theorem Kp.comp {s s' s'' : Shared} (k : Kp s s') (k' : Kp s' s'') : Kp s s'' := by
  obtain ⟨h', tk, rfl, hk⟩ := k
  obtain ⟨h'', tk', rfl, hk'⟩ := k'
  exact ⟨h'', tk', rfl, fun b o e => hk' b o (hk b o e)⟩

theorem sm_trans {s s₁ s₂ : Shared} (a : ∃ h t, s₁ = { s with heap := h, toks := t }) (b : ∃ h t, s₂ = { s₁ with heap := h, toks := t }) : ∃ h t, s₂ = { s with heap := h, toks := t } := by
  obtain ⟨h, t, rfl⟩ := a
  exact b
theorem Kp.of {s s' : Shared} (a : ∃ h t, s' = { s with heap := h, toks := t }) (hk : ∀ b o, s.heap.get? b = some o → s'.heap.get? b = some o) : Kp s s' := by
  obtain ⟨h, t, rfl⟩ := a
  exact ⟨h, t, rfl, hk⟩
theorem sm_gens {s s' : Shared} (a : ∃ h t, s' = { s with heap := h, toks := t }) : s'.gens = s.gens := let ⟨_, _, e⟩ := a; e ▸ rfl
theorem sm_os {s s' : Shared} (a : ∃ h t, s' = { s with heap := h, toks := t }) : s'.os = s.os := let ⟨_, _, e⟩ := a; e ▸ rfl
theorem Kp.sm {s s' : Shared} (k : Kp s s') : ∃ h t, s' = { s with heap := h, toks := t } := let ⟨h, t, e, _⟩ := k; ⟨h, t, e⟩
structure AOK (k : Nat) (A : Around) : Prop where
  handled : A.handled = none
  depth : A.depth + k < 900
  units : A.units + 20 * k < 9000
theorem AOK.deeper {k : Nat} {A : Around} {env : Env} (h : AOK (k + 1) A) : AOK k (A.deeper env) := ⟨h.handled, by have := h.depth; show A.depth + 1 + k < 900; omega, by have := h.units; show A.units + 3 + 20 * k < 9000; omega⟩
theorem AOK.less {k j : Nat} {A : Around} (h : AOK k A) (hj : j ≤ k) : AOK j A := ⟨h.handled, by have := h.depth; omega, by have := h.units; omega⟩
theorem AOK.in1 {k : Nat} {A : Around} (h : AOK (k + 1) A) : AOK k A.in1 := ⟨h.handled, by have := h.depth; show A.depth + k < 900; omega, by have := h.units; show A.units + 1 + 20 * k < 9000; omega⟩
theorem AOK.room {k : Nat} {A : Around} (h : AOK k A) : A.depth < recursionLimit := by have := h.depth; show A.depth < 1000; omega
theorem AOK.line {k : Nat} {A : Around} (h : AOK k A) : A.units + 64 < cLine := by have := h.units; show A.units + 64 < 9900; omega

structure Bs (w : World) (B : Heap) : Prop where
  K : Frag.In (KP w.params) B
  g : ∃ mg, B.Ns mainGlobals mg
  m : ∃ mg bm ob, BMod B mainGlobals mg bm ob
  b : ∃ mb, B.Ns builtinsNs mb ∧ ∀ x : Str, x ≠ "__name__" → mb x = bootBuiltins x
  nolimit : B.NoLimit
  nodigits : ∃ mc, B.Ns cStatics mc ∧ mc "sys.int_max_str_digits" = none
  c2 : B.get? 2 = some (cst w.params)
  c5 : B.get? 555 = some c555

noncomputable def Var (env : Env) (h : Heap) (x : Str) (v : Value) : Prop := ∀ {M : Model} {A : Around} {s : Shared} {Q : Value → Shared → Prop} {E : Value → Shared → Prop}, (∀ b o, h.get? b = some o → s.heap.get? b = some o) → Q v s → wpAny M A (loadName env x) Q E s
theorem Var.keeps {env : Env} {h h' : Heap} {x : Str} {v : Value} (V : Var env h x v) (hk : ∀ b o, h.get? b = some o → h'.get? b = some o) : Var env h' x v := fun hs hq => V (fun b o e => hs b o (hk b o e)) hq
theorem Var.local {env : Env} {h : Heap} {m : Str → Option Value} {x : Str} {v : Value} (hk : env.scope.kind = .function) (hl : env.kindOf x = some .local) (hn : h.Ns env.locals m) (hv : m x = some v) : Var env h x v := fun hs hq => wpAny_loadName_local hk hl (hn.keeps hs) hv hq
theorem Var.cell {env : Env} {h : Heap} {x : Str} {c : Addr} {v : Value} (hk : env.scope.kind = .function) (hl : env.kindOf x = some .cell) (hc : env.cells.lookup x = some c) (hv : h.IsCell c (some v)) : Var env h x v := fun hs hq =>
  wpAny_loadName_cell hk hl hc (let ⟨o, a, b⟩ := hv; ⟨o, hs _ _ a, b⟩) hq
theorem Var.free {env : Env} {h : Heap} {x : Str} {c : Addr} {v : Value} (hk : env.scope.kind = .function) (hl : env.kindOf x = some .free) (hc : env.cells.lookup x = some c) (hv : h.IsCell c (some v)) (hn : (x == ("__classdict__" : Str)) = false := by decide) : Var env h x v := fun hs hq =>
  wpAny_loadName_free hk hl hc (let ⟨o, a, b⟩ := hv; ⟨o, hs _ _ a, b⟩) hq hn

noncomputable abbrev Vars := List (Str × PyData)
noncomputable def Rep (env : Env) (H : List Addr) (h : Heap) (ρ : Vars) : Prop := ∀ x d, ρ.lookup x = some d → ∃ v as, Var env h x v ∧ Reads (hideAll h H) v d as
theorem Rep.keeps {env : Env} {H : List Addr} {s s' : Shared} {ρ : Vars} (R : Rep env H s.heap ρ) (k : Kp s s') : Rep env H s'.heap ρ := fun x d e =>
  let ⟨v, as, V, r⟩ := R x d e; ⟨v, as, V.keeps k.keep, Reads.keeps k.hide r⟩

structure Cx (B : Heap) (env : Env) (H : List Addr) (h : Heap) (ρ : Vars) : Prop where
  base : B.StaysIn h
  rep : Rep env H h ρ
  al : ∀ b ∈ H, ∃ o, h.get? b = some o
theorem Cx.keeps {B : Heap} {env : Env} {H : List Addr} {s s' : Shared} {ρ : Vars} (C : Cx B env H s.heap ρ) (k : Kp s s') : Cx B env H s'.heap ρ := ⟨fun b o e => k.keep b o (C.base b o e), C.rep.keeps k, fun b hb => let ⟨o, e⟩ := C.al b hb; ⟨o, k.keep b o e⟩⟩
noncomputable def Ev (w : World) (B : Heap) (k : Nat) (env : Env) (ρ : Vars) (e : Expr) (d : PyData) : Prop :=
  ∀ (A : Around) (s : Shared) (H : List Addr) (Q : Value → Shared → Prop) (E : Value → Shared → Prop), AOK k A → Cx B env H s.heap ρ →
    (∀ v as s', Kp s s' → Reads (hideAll s'.heap H) v d as → Q v s') → wpAny (model pg w) A (eval e env) Q E s
noncomputable def Ts (w : World) (B : Heap) (k : Nat) (env : Env) (ρ : Vars) (e : Expr) (b : Bool) : Prop :=
  ∀ (A : Around) (s : Shared) (H : List Addr) (Q : Bool → Shared → Prop) (E : Value → Shared → Prop), AOK k A → Cx B env H s.heap ρ →
    (∀ s', Kp s s' → Q b s') → wpAny (model pg w) A (isTrue e env (eval e env)) Q E s

section
variable {w : World} {B : Heap} {k : Nat} {env : Env} {ρ : Vars}
theorem Ev.eq {e : Expr} {d d' : PyData} (h : Ev w B k env ρ e d) (q : d = d') : Ev w B k env ρ e d' := q ▸ h
theorem Ts.eq {e : Expr} {b b' : Bool} (h : Ts w B k env ρ e b) (q : b = b') : Ts w B k env ρ e b' := q ▸ h
theorem Ev.name {x : Str} {pos : Pos} {d : PyData} (h : ρ.lookup x = some d := by rfl) (hd : (x == ("__debug__" : Str)) = false := by decide) : Ev w B k env ρ (.Name x pos) d := fun A s H Q E _ C hq => by
  obtain ⟨v, as, V, r⟩ := C.rep x d h
  exact wpAny_Name (V (fun _ _ e => e) (hq v as s Kp.rfl' r)) hd
theorem Ev.cStr {x : Str} {c : Nat} {pos : Pos} : Ev w B k env ρ (.Constant (.str x) c pos) (.str x) := fun A s H Q E _ _ hq => Constant_str (hq _ _ _ (Kp.tok _) (.str _ _))
theorem Ev.cInt {x : Int} {c : Nat} {pos : Pos} : Ev w B k env ρ (.Constant (.int x) c pos) (.int x) := fun A s H Q E _ _ hq => wpAny_Constant_int (hq _ _ _ (Kp.tok _) (.int _ _))
theorem Ev.cNone {c : Nat} {pos : Pos} : Ev w B k env ρ (.Constant .none c pos) .none := fun A s H Q E _ _ hq => wpAny_Constant_none (hq _ _ _ Kp.rfl' .none)
theorem Ev.cBool {b : Bool} {c : Nat} {pos : Pos} : Ev w B k env ρ (.Constant (.bool b) c pos) (.bool b) := fun A s H Q E _ _ hq => wpAny_Constant_bool (hq _ _ _ Kp.rfl' (.bool _))

theorem Ev.bin {l r : Expr} {op : Operator} {pos : Pos} {a b d : PyData} (hl : Ev w B k env ρ l a) (hr : Ev w B k env ρ r b)
    (h : ∀ (A : Around) (s : Shared) (H : List Addr) (x y : Value) (as bs : List Addr) (Q : Value → Shared → Prop) (E : Value → Shared → Prop), AOK k A → B.StaysIn s.heap → Reads (hideAll s.heap H) x a as → Reads (hideAll s.heap H) y b bs →
      (∀ v as s', Kp s s' → Reads (hideAll s'.heap H) v d as → Q v s') → wpAny (model pg w) A (binaryOp op x y) Q E s) : Ev w B k env ρ (.BinOp l op r pos) d := fun A s H Q E hA C hq =>
  wpAny_BinOp (hl A s H _ E hA C fun x as s₁ k₁ r₁ => hr A s₁ H _ E hA (C.keeps k₁) fun y bs s₂ k₂ r₂ =>
    h A s₂ H x y as bs Q E hA ((C.keeps k₁).keeps k₂).base (Reads.keeps k₂.hide r₁) r₂ fun v cs s₃ k₃ r₃ => hq v cs s₃ ((k₁.comp k₂).comp k₃) r₃)
theorem Ev.addI {l r : Expr} {pos : Pos} {a b : Int} (hl : Ev w B k env ρ l (.int a)) (hr : Ev w B k env ρ r (.int b)) : Ev w B k env ρ (.BinOp l .Add r pos) (.int (a + b)) :=
  Ev.bin hl hr fun A s H x y as bs Q E _ _ r₁ r₂ hq => by cases r₁; cases r₂; exact add_int (hq _ _ _ (Kp.tok _) (.int _ _))
theorem Ev.subI {l r : Expr} {pos : Pos} {a b : Int} (hl : Ev w B k env ρ l (.int a)) (hr : Ev w B k env ρ r (.int b)) : Ev w B k env ρ (.BinOp l .Sub r pos) (.int (a - b)) :=
  Ev.bin hl hr fun A s H x y as bs Q E _ _ r₁ r₂ hq => by cases r₁; cases r₂; exact sub_int (hq _ _ _ (Kp.tok _) (.int _ _))
theorem Ev.modI {l r : Expr} {pos : Pos} {a b : Int} (hl : Ev w B k env ρ l (.int a)) (hr : Ev w B k env ρ r (.int b)) (hb : b ≠ 0) : Ev w B k env ρ (.BinOp l .Mod r pos) (.int (a.fmod b)) :=
  Ev.bin hl hr fun A s H x y as bs Q E _ _ r₁ r₂ hq => by cases r₁; cases r₂; exact mod_int' hb (hq _ _ _ (Kp.tok _) (.int _ _))
theorem Ev.divI {l r : Expr} {pos : Pos} {a b : Int} (hl : Ev w B k env ρ l (.int a)) (hr : Ev w B k env ρ r (.int b)) (hb : b ≠ 0) (hp : Builtin.divisionGoesByPylong a b = false) : Ev w B k env ρ (.BinOp l .FloorDiv r pos) (.int (a.fdiv b)) :=
  Ev.bin hl hr fun A s H x y as bs Q E _ _ r₁ r₂ hq => by cases r₁; cases r₂; exact floordiv_int hb (hq _ _ _ (Kp.tok _) (.int _ _)) (Or.inl hp)
theorem Ev.addS {l r : Expr} {pos : Pos} {a b : Str} (hl : Ev w B k env ρ l (.str a)) (hr : Ev w B k env ρ r (.str b)) (hz : a.length + b.length ≤ sizeLine) : Ev w B k env ρ (.BinOp l .Add r pos) (.str (a ++ b)) :=
  Ev.bin hl hr fun A s H x y as bs Q E _ _ r₁ r₂ hq => by cases r₁; cases r₂; exact add_str (fun t' tk => hq _ _ _ (Kp.tok _) (.str _ _)) hz
end
end Mine
end
section
open PySem PySem.W PySem.Calls PyProof.Rows PySem.Spec
namespace Mine

theorem reads_of_hide {h : Heap} {H : List Addr} {v : Value} {d : PyData} {as : List Addr} (r : Reads (hideAll h H) v d as) : Reads h v d as := Reads.keeps (fun _ _ e => of_hideAll H e) r
theorem readsAll_of_hide {h : Heap} {H : List Addr} {v : List Value} {d : List PyData} {as : List Addr} (r : ReadsAll (hideAll h H) v d as) : ReadsAll h v d as := ReadsAll.keeps (fun _ _ e => of_hideAll H e) r
theorem stays_kp {B : Heap} {s s' : Shared} (hB : B.StaysIn s.heap) (k : Kp s s') : B.StaysIn s'.heap := fun b o e => k.keep b o (hB b o e)

noncomputable def Cmp (w : World) (k : Nat) (op : CmpOp) (a b : PyData) (c : Bool) : Prop :=
  ∀ (A : Around) (s : Shared) (x y : Value) (as bs : List Addr) (Q : Value → Shared → Prop) (E : Value → Shared → Prop), AOK k A → Reads s.heap x a as → Reads s.heap y b bs → (∀ s', Kp s s' → Q (.bool c) s') → wpAny (model pg w) A (compareOp op x y) Q E s
section
variable {w : World} {k : Nat}
theorem Cmp.eqv {op : CmpOp} {a b : PyData} {c c' : Bool} (h : Cmp w k op a b c) (q : c = c') : Cmp w k op a b c' := q ▸ h
theorem Cmp.eq {a b : PyData} (ha : SeqAt.shaped a = true) (hb : SeqAt.shaped b = true) : Cmp w k .Eq a b (PyData.eqv a b) := fun A s x y as bs Q E hA r₁ r₂ hq => eq_dataH r₁ r₂ ha hb hA.line (hq _ Kp.rfl')
theorem Cmp.ne {a b : PyData} (ha : SeqAt.shaped a = true) (hb : SeqAt.shaped b = true) : Cmp w k .NotEq a b (!PyData.eqv a b) := fun A s x y as bs Q E hA r₁ r₂ hq => ne_dataH r₁ r₂ ha hb hA.line (hq _ Kp.rfl')
theorem Cmp.eqS {a b : Str} : Cmp w k .Eq (.str a) (.str b) (a == b) := fun A s x y as bs Q E hA r₁ r₂ hq => by cases r₁; cases r₂; exact eq_str (hq _ Kp.rfl')
theorem Cmp.neS {a b : Str} : Cmp w k .NotEq (.str a) (.str b) (a != b) := fun A s x y as bs Q E hA r₁ r₂ hq => by cases r₁; cases r₂; exact ne_str (hq _ Kp.rfl')
theorem Cmp.eqI {a b : Int} : Cmp w k .Eq (.int a) (.int b) (a == b) := fun A s x y as bs Q E hA r₁ r₂ hq => by cases r₁; cases r₂; exact eq_int (hq _ Kp.rfl')
theorem Cmp.ltI {a b : Int} : Cmp w k .Lt (.int a) (.int b) (decide (a < b)) := fun A s x y as bs Q E hA r₁ r₂ hq => by cases r₁; cases r₂; exact P.lt_int (hq _ Kp.rfl')
theorem Cmp.gtI {a b : Int} : Cmp w k .Gt (.int a) (.int b) (decide (a > b)) := fun A s x y as bs Q E hA r₁ r₂ hq => by cases r₁; cases r₂; exact P.gt_int (hq _ Kp.rfl')
theorem Cmp.geI {a b : Int} : Cmp w k .GtE (.int a) (.int b) (decide (a ≥ b)) := fun A s x y as bs Q E hA r₁ r₂ hq => by cases r₁; cases r₂; exact P.ge_int (hq _ Kp.rfl')
theorem Cmp.inL {d : PyData} {xs : List PyData} (hxs : PyData.canLayAll0 xs = true) (hd : d.canLay0 = true) (hz : min (PyData.depthAll xs) d.depth ≤ 60) : Cmp w k .In d (.list xs) (xs.any fun y => PyData.eqv y d) := fun A s x y as bs Q E hA r₁ r₂ hq =>
  SeqAt.in_list_reads r₂ r₁ hxs hd (by have := hA.line; omega) (hq _ Kp.rfl')
theorem Cmp.ninL {d : PyData} {xs : List PyData} (hxs : PyData.canLayAll0 xs = true) (hd : d.canLay0 = true) (hz : min (PyData.depthAll xs) d.depth ≤ 60) : Cmp w k .NotIn d (.list xs) (!xs.any fun y => PyData.eqv y d) := fun A s x y as bs Q E hA r₁ r₂ hq =>
  SeqAt.notIn_list_reads r₂ r₁ hxs hd (by have := hA.line; omega) (hq _ Kp.rfl')
theorem Cmp.isN {d : PyData} (hd : d ≠ .none) : Cmp w k .Is d .none false := fun A s x y as bs Q E hA r₁ r₂ hq => by
  cases r₂
  cases r₁ <;> first | exact absurd rfl hd | exact wpAny_is_other (by rfl) (by intro e; cases e) (hq _ Kp.rfl')
theorem Cmp.nisN {d : PyData} (hd : d ≠ .none) : Cmp w k .IsNot d .none true := fun A s x y as bs Q E hA r₁ r₂ hq => by
  cases r₂
  cases r₁ <;> first | exact absurd rfl hd | exact wpAny_isNot_other (by rfl) (by intro e; cases e) (hq _ Kp.rfl')
end

section
variable {w : World} {B : Heap} {k : Nat} {env : Env} {ρ : Vars}
theorem Ev.cmp {l r : Expr} {op : CmpOp} {pos : Pos} {a b : PyData} {c : Bool} (hl : Ev w B k env ρ l a) (hr : Ev w B k env ρ r b) (h : Cmp w k op a b c) (hm : behindInMarks op r = false := by with_unfolding_all rfl) : Ev w B k env ρ (.Compare l [op] [r] pos) (.bool c) := fun A s H Q E hA C hq =>
  wpAny_Compare1 (hl A s H _ E hA C fun x as s₁ k₁ r₁ => hr A s₁ H _ E hA (C.keeps k₁) fun y bs s₂ k₂ r₂ =>
    h A s₂ x y as bs Q E hA (reads_of_hide (Reads.keeps k₂.hide r₁)) (reads_of_hide r₂) fun s₃ k₃ => hq _ [] s₃ ((k₁.comp k₂).comp k₃) (.bool _)) hm
theorem Ts.cmp {l r : Expr} {op : CmpOp} {pos : Pos} {a b : PyData} {c : Bool} (hl : Ev w B k env ρ l a) (hr : Ev w B k env ρ r b) (h : Cmp w k op a b c) (hm : behindInMarks op r = false := by with_unfolding_all rfl) : Ts w B k env ρ (.Compare l [op] [r] pos) c := fun A s H Q E hA C hq =>
  wpAny_isTrue_Compare1 (hl A s H _ E hA C fun x as s₁ k₁ r₁ => hr A s₁ H _ E hA (C.keeps k₁) fun y bs s₂ k₂ r₂ =>
    h A s₂ x y as bs _ E hA (reads_of_hide (Reads.keeps k₂.hide r₁)) (reads_of_hide r₂) fun s₃ k₃ => wpAny_truthy_bool (hq s₃ ((k₁.comp k₂).comp k₃))) hm
theorem Ts.not {x : Expr} {pos : Pos} {c : Bool} (h : Ts w B k env ρ x c) : Ts w B k env ρ (.UnaryOp .Not x pos) (!c) := fun A s H Q E hA C hq => isTrue_not (h A s H _ E hA C fun s' k' => hq s' k')
theorem Ts.and0 {pos : Pos} : Ts w B k env ρ (.BoolOp .And [] pos) true := fun A s H Q E hA C hq => isTrue_and_nil (hq s Kp.rfl')
theorem Ts.or0 {pos : Pos} : Ts w B k env ρ (.BoolOp .Or [] pos) false := fun A s H Q E hA C hq => isTrue_or_nil (hq s Kp.rfl')
theorem Ts.and {x : Expr} {rest : List Expr} {pos : Pos} {c d : Bool} (h : Ts w B k env ρ x c) (hr : c = true → Ts w B k env ρ (.BoolOp .And rest pos) d) : Ts w B k env ρ (.BoolOp .And (x :: rest) pos) (c && d) := fun A s H Q E hA C hq =>
  isTrue_and (h A s H _ E hA C fun s' k' => by
    cases c with
    | false => exact hq s' k'
    | true => exact hr rfl A s' H Q E hA (C.keeps k') fun s'' k'' => hq s'' (k'.comp k''))
theorem Ts.or {x : Expr} {rest : List Expr} {pos : Pos} {c d : Bool} (h : Ts w B k env ρ x c) (hr : c = false → Ts w B k env ρ (.BoolOp .Or rest pos) d) : Ts w B k env ρ (.BoolOp .Or (x :: rest) pos) (c || d) := fun A s H Q E hA C hq =>
  isTrue_or (h A s H _ E hA C fun s' k' => by
    cases c with
    | true => exact hq s' k'
    | false => exact hr rfl A s' H Q E hA (C.keeps k') fun s'' k'' => hq s'' (k'.comp k''))

noncomputable def tru : PyData → Bool
  | .none => false
  | .bool b => b
  | .int i => i != 0
  | .str x => x.length != 0
  | .list xs => !xs.isEmpty
  | .tuple xs => !xs.isEmpty
  | .dict xs => !xs.isEmpty
theorem readsAll_ind {h : Heap} {P : List Value → List PyData → Prop} (h0 : P [] []) (h1 : ∀ v vs d ds as bs, Reads h v d as → ReadsAll h vs ds bs → P vs ds → P (v :: vs) (d :: ds)) {vs : List Value} {ds : List PyData} {as : List Addr} (r : ReadsAll h vs ds as) : P vs ds :=
  ReadsAll.rec (motive_1 := fun _ _ _ _ => True) (motive_2 := fun vs ds _ _ => P vs ds) trivial (fun _ => trivial) (fun _ _ => trivial) (fun _ _ => trivial) (fun _ _ _ _ _ => trivial) (fun _ _ _ _ _ => trivial) (fun _ _ _ _ _ _ _ => trivial) h0 (fun r1 r2 _ ih => h1 _ _ _ _ _ _ r1 r2 ih) r
theorem readsAll_length {h : Heap} {vs : List Value} {ds : List PyData} {as : List Addr} (r : ReadsAll h vs ds as) : vs.length = ds.length :=
  readsAll_ind (P := fun vs ds => vs.length = ds.length) rfl (fun _ _ _ _ _ _ _ _ ih => congrArg (· + 1) ih) r
noncomputable def small : PyData → Prop
  | .str x => x.length ≤ 1000000
  | .list xs => xs.length ≤ 1000000
  | .tuple _ => False
  | .dict _ => False
  | _ => True
theorem truthy_data {A : Around} {s : Shared} {v : Value} {d : PyData} {as : List Addr} {Q : Bool → Shared → Prop} {E : Value → Shared → Prop} (r : Reads s.heap v d as) (hs : small d) (hq : ∀ s', Kp s s' → Q (tru d) s') : wpAny (model pg w) A (truthy v) Q E s := by
  cases r with
  | none => exact truthy_none (hq _ Kp.rfl')
  | bool b => exact wpAny_truthy_bool (hq _ Kp.rfl')
  | int i t => exact P.truthy_int (hq _ Kp.rfl')
  | str x t =>
    have : x.length ≤ 1000000 := hs
    refine P.truthy_str (by omega) ?_
    have e : ((x.length : Int) != 0) = tru (.str x) := by
      show _ = (x.length != 0)
      cases h : x.length with
      | zero => rfl
      | succ n => rw [bne_iff_ne.mpr (by omega), bne_iff_ne.mpr (by omega)]
    rw [e]
    exact hq _ (Kp.tok _)
  | list h1 h2 h3 h4 =>
    rename_i a o vs n xs as'
    have hl := readsAll_length h4
    have : xs.length ≤ 1000000 := hs
    refine wpAny_truthy_list ⟨_, h1, h2, _, h3⟩ ?_ ?_
    · simp only [Array.length_toList] at hl; omega
    · have e : (!vs.isEmpty) = tru (.list xs) := by
        show _ = (!xs.isEmpty)
        rw [← Array.isEmpty_toList]
        cases h : vs.toList with
        | nil => rw [h] at hl; cases xs with
          | nil => rfl
          | cons => simp at hl
        | cons => rw [h] at hl; cases xs with
          | nil => simp at hl
          | cons => rfl
      rw [e]
      exact hq _ (Kp.tok _)
  | tuple => exact hs.elim
  | dict => exact hs.elim
theorem Ts.plain {e : Expr} {d : PyData} (h : Ev w B k env ρ e d) (hs : small d) (he : ∀ whole, isTrue e env whole = (do let v ← whole; standAt e.pos; holding [v] (truthy v)) := by intro _; rfl) : Ts w B k env ρ e (tru d) := fun A s H Q E hA C hq =>
  isTrue_plain (h A s H _ E hA C fun v as s' k' r => truthy_data (reads_of_hide r) hs fun s'' k'' => hq s'' (k'.comp k'')) (he _)

/-! names of the top and of the builtins -/
theorem top_get {P : Params} {a : Addr} {o : Obj} {h : Heap} (HB : Bs w B) (hs : B.StaysIn h) (e : List.lookup a (KP w.params) = some o) : h.get? a = some o := hs _ _ (HB.K a o e)
end
end Mine
end
section
open PySem PySem.W PySem.Calls PyProof.Rows PySem.Spec
namespace Mine

noncomputable def fp (env : Env) : List Addr := env.locals :: env.cells.map (·.2)
noncomputable def isVar (env : Env) (x : Str) : Prop := env.kindOf x = some .local ∨ env.kindOf x = some .cell
structure Fm (B : Heap) (env : Env) (h : Heap) (vs : Str → Option Value) : Prop where
  kind : env.scope.kind = .function
  loc : ∃ m, h.Ns env.locals m ∧ ∀ x, env.kindOf x = some .local → m x = vs x
  cel : ∀ x, env.kindOf x = some .cell → ∃ c, env.cells.lookup x = some c ∧ h.IsCell c (vs x)
  apart : ∀ x y c, env.cells.lookup x = some c → env.cells.lookup y = some c → x = y
  apartL : ∀ x c, env.cells.lookup x = some c → c ≠ env.locals
  new : ∀ b ∈ fp env, B.get? b = none
theorem mem_fp_cell {env : Env} {x : Str} {c : Addr} (h : env.cells.lookup x = some c) : c ∈ fp env := by
  refine List.mem_cons_of_mem _ (List.mem_map.mpr ⟨(x, c), ?_, rfl⟩)
  generalize env.cells = l at h
  induction l with
  | nil => cases h
  | cons p r ih =>
    obtain ⟨y, c'⟩ := p
    rw [List.lookup_cons] at h
    split at h
    · rename_i e; cases h; rw [beq_iff_eq.mp e]; exact .head _
    · exact .tail _ (ih h)
theorem Fm.var {B : Heap} {env : Env} {h : Heap} {vs : Str → Option Value} (F : Fm B env h vs) {x : Str} {v : Value} (hx : isVar env x) (hv : vs x = some v) : Var env h x v := by
  rcases hx with hx | hx
  · obtain ⟨m, hn, hm⟩ := F.loc
    exact Var.local F.kind hx hn ((hm x hx).trans hv)
  · obtain ⟨c, hc, hi⟩ := F.cel x hx
    exact Var.cell F.kind hx hc (hv ▸ hi)
theorem Fm.keeps {B : Heap} {env : Env} {h h' : Heap} {vs : Str → Option Value} (F : Fm B env h vs) (hk : ∀ b o, b ∈ fp env → h.get? b = some o → h'.get? b = some o) : Fm B env h' vs :=
  ⟨F.kind, let ⟨m, hn, hm⟩ := F.loc; ⟨m, hn.at' fun o e => hk _ o (.head _) e, hm⟩, fun x hx => let ⟨c, hc, o, ho, hd⟩ := F.cel x hx; ⟨c, hc, o, hk _ _ (mem_fp_cell hc) ho, hd⟩, F.apart, F.apartL, F.new⟩
theorem Fm.store {M : Model} {A : Around} {E : Value → Shared → Prop} {B : Heap} {env : Env} {s : Shared} {vs : Str → Option Value} {x : Str} {v : Value} {Q : Unit → Shared → Prop} (F : Fm B env s.heap vs) (hx : isVar env x)
    (h : ∀ h' tk, Fm B env h' (fun y => if y = x then some v else vs y) → (∀ b o, b ∉ fp env → s.heap.get? b = some o → h'.get? b = some o) → (∀ b o, s.heap.get? b = some o → ∃ o', h'.get? b = some o') → Q () { s with heap := h', toks := tk }) : wpAny M A (storeName env x v) Q E s := by
  have hp : (env.scope.kind == .class || (env.scope.kind == .module && env.locals != env.globals)) = false := by rw [F.kind]; rfl
  rcases hx with hx | hx
  · obtain ⟨m, hn, hm⟩ := F.loc
    refine wpAny_storeName_local hx hn (fun h' hn' hs => h h' _ ⟨F.kind, ⟨_, hn', fun y hy => ?_⟩, fun y hy => ?_, F.apart, F.apartL, F.new⟩ (fun b o hb e => (hs.2 b fun q => hb (q ▸ .head _)).trans e) fun b o e => ?_) hp
    · by_cases e : y = x
      · simp [e]
      · simp [e, hm y hy]
    · obtain ⟨c, hc, o, ho, hd⟩ := F.cel y hy
      have e : y ≠ x := fun e => by rw [e, hx] at hy; cases hy
      exact ⟨c, hc, o, (hs.2 c (F.apartL y c hc)).trans ho, by simp [e, hd]⟩
    · by_cases q : b = env.locals
      · obtain ⟨o', _, _, e', _⟩ := hn'
        exact ⟨o', q ▸ e'⟩
      · exact ⟨o, (hs.2 b q).trans e⟩
  · obtain ⟨c, hc, hi⟩ := F.cel x hx
    refine wpAny_storeName_cell F.kind hx hc hi fun h' hv hs => h h' _ ⟨F.kind, ?_, fun y hy => ?_, F.apart, F.apartL, F.new⟩ (fun b o hb e => (hs.2 b fun q => hb (q ▸ mem_fp_cell hc)).trans e) fun b o e => ?_
    · obtain ⟨m, hn, hm⟩ := F.loc
      refine ⟨m, hn.sameBut hs (Ne.symm (F.apartL x c hc)), fun y hy => ?_⟩
      have e : y ≠ x := fun e => by rw [e, hx] at hy; cases hy
      simp [e, hm y hy]
    · by_cases e : y = x
      · subst e; exact ⟨c, hc, by simpa using hv⟩
      · obtain ⟨c', hc', o, ho, hd⟩ := F.cel y hy
        refine ⟨c', hc', o, (hs.2 c' fun q => e ?_).trans ho, by simp [e, hd]⟩
        subst q; exact F.apart y x _ hc' hc
    · by_cases q : b = c
      · obtain ⟨o', e', _⟩ := hv
        exact ⟨o', q ▸ e'⟩
      · exact ⟨o, (hs.2 b q).trans e⟩

structure Sg where
  ρ : Vars
  own : Option (Str × List PyData) := none
inductive Out where
  | next (σ : Sg)
  | brk (σ : Sg)
  | cont (σ : Sg)
  | ret (d : PyData)
structure Sr (B : Heap) (env : Env) (Hc H : List Addr) (h : Heap) (σ : Sg) : Prop where
  base : B.StaysIn h
  fr : ∃ vs, Fm B env h vs ∧ (∀ x d, σ.ρ.lookup x = some d → isVar env x ∧ ∃ v as, vs x = some v ∧ Reads (hideAll h H) v d as) ∧
    ∀ x ds, σ.own = some (x, ds) → isVar env x ∧ ∃ a us as, vs x = some (.ref a) ∧ h.PlainList a us ∧ ReadsAll (hideAll h H) us.toList ds as ∧ a ∈ H ∧ a ∉ Hc ∧ a ∉ fp env ∧ B.get? a = none
  fpH : ∀ b ∈ fp env, b ∈ H
  hc : ∀ b ∈ Hc, b ∈ H ∧ b ∉ fp env
  lt : ∀ b ∈ H, ∃ o, h.get? b = some o
structure Mv (Hc H : List Addr) (s s' : Shared) : Prop where
  same : ∃ h' tk, s' = { s with heap := h', toks := tk }
  sub : ∀ b o, b ∈ Hc ∨ b ∉ H → s.heap.get? b = some o → s'.heap.get? b = some o
noncomputable def Gr (s : Shared) (H H' : List Addr) : Prop := (∀ b ∈ H, b ∈ H') ∧ ∀ b ∈ H', b ∈ H ∨ s.heap.get? b = none
theorem Mv.rfl' {Hc H : List Addr} {s : Shared} : Mv Hc H s s := ⟨⟨s.heap, s.toks, rfl⟩, fun _ _ _ e => e⟩
theorem Gr.rfl' {H : List Addr} {s : Shared} : Gr s H H := ⟨fun _ h => h, fun _ h => .inl h⟩
theorem Mv.comp {Hc H H' : List Addr} {s s' s'' : Shared} (m : Mv Hc H s s') (g : Gr s H H') (m' : Mv Hc H' s' s'') : Mv Hc H s s'' := by
  obtain ⟨⟨h', tk, rfl⟩, sb⟩ := m
  obtain ⟨⟨h'', tk', rfl⟩, sb'⟩ := m'
  exact ⟨⟨h'', tk', rfl⟩, fun b o hb e => sb' b o (hb.imp id fun hb hq => (g.2 b hq).elim hb fun q => by rw [q] at e; cases e) (sb b o hb e)⟩
theorem Gr.comp {Hc H H' H'' : List Addr} {s s' : Shared} (m : Mv Hc H s s') (g : Gr s H H') (g' : Gr s' H' H'') : Gr s H H'' := by
  refine ⟨fun b h => g'.1 b (g.1 b h), fun b h => (g'.2 b h).elim (g.2 b) fun q => ?_⟩
  by_cases hb : b ∈ H
  · exact .inl hb
  · refine .inr ?_
    cases e : s.heap.get? b with
    | none => rfl
    | some o => rw [m.sub b o (.inr hb) e] at q; cases q
theorem Kp.mv {Hc H : List Addr} {s s' : Shared} (k : Kp s s') : Mv Hc H s s' := ⟨let ⟨h', tk, e, _⟩ := k; ⟨h', tk, e⟩, fun b o _ e => k.keep b o e⟩
noncomputable def OutOK (B : Heap) (env : Env) (Hc : List Addr) (s : Shared) (H : List Addr) : Out → Flow → Shared → Prop
  | .next σ, f, s' => f = .next ∧ ∃ H', Sr B env Hc H' s'.heap σ ∧ Mv Hc H s s' ∧ Gr s H H'
  | .brk σ, f, s' => f = .brk ∧ ∃ H', Sr B env Hc H' s'.heap σ ∧ Mv Hc H s s' ∧ Gr s H H'
  | .cont σ, f, s' => f = .cont ∧ ∃ H', Sr B env Hc H' s'.heap σ ∧ Mv Hc H s s' ∧ Gr s H H'
  | .ret d, f, s' => ∃ v as, f = .ret v ∧ Reads (hideAll s'.heap Hc) v d as ∧ Mv Hc H s s'
theorem OutOK.comp {B : Heap} {env : Env} {Hc H H' : List Addr} {s s₁ s' : Shared} {o : Out} {f : Flow} (m : Mv Hc H s s₁) (g : Gr s H H') (h : OutOK B env Hc s₁ H' o f s') : OutOK B env Hc s H o f s' := by
  cases o with
  | next σ => obtain ⟨e, H'', a, b, c⟩ := h; exact ⟨e, H'', a, m.comp g b, g.comp m c⟩
  | brk σ => obtain ⟨e, H'', a, b, c⟩ := h; exact ⟨e, H'', a, m.comp g b, g.comp m c⟩
  | cont σ => obtain ⟨e, H'', a, b, c⟩ := h; exact ⟨e, H'', a, m.comp g b, g.comp m c⟩
  | ret d => obtain ⟨v, as, e, r, b⟩ := h; exact ⟨v, as, e, r, m.comp g b⟩

noncomputable def Ex (w : World) (B : Heap) (k : Nat) (env : Env) (σ : Sg) (ss : List Stmt) (K : Out → Prop) : Prop :=
  ∀ (A : Around) (s : Shared) (Hc H : List Addr) (Q : Flow → Shared → Prop) (E : Value → Shared → Prop), AOK k A → Sr B env Hc H s.heap σ → (∀ o f s', K o → OutOK B env Hc s H o f s' → Q f s') → wpAny (model pg w) A (execs ss env) Q E s
noncomputable def Es (w : World) (B : Heap) (k : Nat) (env : Env) (σ : Sg) (st : Stmt) (K : Out → Prop) : Prop :=
  ∀ (A : Around) (s : Shared) (Hc H : List Addr) (Q : Flow → Shared → Prop) (E : Value → Shared → Prop), AOK k A → Sr B env Hc H s.heap σ → (∀ o f s', K o → OutOK B env Hc s H o f s' → Q f s') → wpAny (model pg w) A (exec st env) Q E s
noncomputable def Then (w : World) (B : Heap) (k : Nat) (env : Env) (rest : List Stmt) (K : Out → Prop) : Out → Prop
  | .next σ => Ex w B k env σ rest K
  | o => K o

section
variable {w : World} {B : Heap} {k : Nat} {env : Env} {σ : Sg} {K : Out → Prop}
theorem Ex.nil (h : K (.next σ)) : Ex w B k env σ [] K := fun A s Hc H Q E hA S hq => wpAny_execs_nil (hq _ _ _ h ⟨rfl, H, S, Mv.rfl', Gr.rfl'⟩)
theorem Ex.cons {st : Stmt} {rest : List Stmt} (h : Es w B k env σ st (Then w B k env rest K)) : Ex w B k env σ (st :: rest) K := fun A s Hc H Q E hA S hq =>
  wpAny_execs_cons (h A s Hc H _ E hA S fun o f s' hK ho => by
    cases o with
    | next σ' =>
      obtain ⟨rfl, H', S', m, g⟩ := ho
      exact hK A s' Hc H' Q E hA S' fun o f s'' hK' ho' => hq o f s'' hK' (ho'.comp m g)
    | brk σ' => obtain ⟨rfl, r⟩ := ho; exact hq (.brk σ') _ _ hK ⟨rfl, r⟩
    | cont σ' => obtain ⟨rfl, r⟩ := ho; exact hq (.cont σ') _ _ hK ⟨rfl, r⟩
    | ret d => obtain ⟨v, as, rfl, r⟩ := ho; exact hq (.ret d) _ _ hK ⟨v, as, rfl, r⟩)
theorem Sr.rep {Hc H : List Addr} {h : Heap} (S : Sr B env Hc H h σ) : Rep env H h σ.ρ := fun x d e => by
  obtain ⟨vs, F, hρ, _⟩ := S.fr
  obtain ⟨hx, v, as, hv, r⟩ := hρ x d e
  exact ⟨v, as, F.var hx hv, r⟩
noncomputable def Sg.rd (σ : Sg) : Vars := match σ.own with
  | some (x, ds) => (x, .list ds) :: σ.ρ
  | none => σ.ρ
theorem Sr.cx {Hc H : List Addr} {h : Heap} (S : Sr B env Hc H h σ) : Cx B env H h σ.ρ := ⟨S.base, S.rep, S.lt⟩
theorem Sr.repO {Hc H : List Addr} {h : Heap} (S : Sr B env Hc H h σ) : ∃ H', Cx B env H' h σ.rd ∧ (∀ b ∈ Hc, b ∈ H') := by
  obtain ⟨vs, F, hρ, ho⟩ := S.fr
  cases e : σ.own with
  | none => exact ⟨H, by unfold Sg.rd; rw [e]; exact S.cx, fun b hb => (S.hc b hb).1⟩
  | some p =>
    obtain ⟨x, ds⟩ := p
    obtain ⟨hx, a, us, as, hv, hl, r, haH, haHc, hafp, haB⟩ := ho x ds e
    refine ⟨H.filter (· ≠ a), ⟨S.base, ?_, fun b hb => S.lt b (List.mem_filter.mp hb).1⟩, fun b hb => List.mem_filter.mpr ⟨(S.hc b hb).1, by simpa using fun (q : b = a) => haHc (q ▸ hb)⟩⟩
    have up : ∀ b o, (hideAll h H).get? b = some o → (hideAll h (H.filter (· ≠ a))).get? b = some o := hide_more fun b hb => (List.mem_filter.mp hb).1
    intro y d ey
    unfold Sg.rd at ey
    rw [e] at ey
    simp only [List.lookup_cons] at ey
    split at ey
    · rename_i q
      cases ey
      have := beq_iff_eq.mp q
      subst this
      obtain ⟨n, hg⟩ := hl
      refine ⟨.ref a, a :: as, F.var hx hv, .list (hideAll_get _ hg ?_) rfl rfl (ReadsAll.keeps up r)⟩
      simp
    · obtain ⟨hy, v, bs, hv', r'⟩ := hρ y d ey
      exact ⟨v, bs, F.var hy hv', Reads.keeps up r'⟩
theorem Sr.keeps {Hc H : List Addr} {s s' : Shared} (S : Sr B env Hc H s.heap σ) (k : Kp s s') : Sr B env Hc H s'.heap σ := by
  obtain ⟨vs, F, hρ, ho⟩ := S.fr
  exact ⟨stays_kp S.base k, ⟨vs, F.keeps fun b o _ e => k.keep b o e, fun x d e => let ⟨hx, v, as, hv, r⟩ := hρ x d e; ⟨hx, v, as, hv, Reads.keeps k.hide r⟩,
    fun x ds e => let ⟨hx, a, us, as, hv, hl, r, q⟩ := ho x ds e; ⟨hx, a, us, as, hv, hl.at fun o e => k.keep _ o e, ReadsAll.keeps k.hide r, q⟩⟩, S.fpH, S.hc, fun b hb => let ⟨o, e⟩ := S.lt b hb; ⟨o, k.keep b o e⟩⟩
end
end Mine
end
section
open PySem PySem.W PySem.Calls PyProof.Rows PySem.Spec
namespace Mine

theorem Mv.view {Hc H H' : List Addr} {s s' : Shared} (m : Mv Hc H s s') (g : Gr s H H') : ∀ b o, (hideAll s.heap H).get? b = some o → (hideAll s'.heap H').get? b = some o := fun b o e => by
  have hb : b ∉ H := fun hb => by rw [hideAll_none H hb] at e; cases e
  have ea := of_hideAll H e
  exact hideAll_get H' (m.sub b o (.inr hb) ea) fun hq => (g.2 b hq).elim hb fun q => by rw [q] at ea; cases ea
theorem not_hid {h : Heap} {H : List Addr} {b : Addr} {o : Obj} (e : (hideAll h H).get? b = some o) : b ∉ H := fun hb => by rw [hideAll_none H hb] at e; cases e

theorem look_filter {ρ : Vars} {x y : Str} {d : PyData} (e : (ρ.filter (fun p => p.1 != x)).lookup y = some d) : y ≠ x ∧ ρ.lookup y = some d := by
  induction ρ with
  | nil => cases e
  | cons p r ih =>
    obtain ⟨z, c⟩ := p
    rw [List.filter_cons] at e
    by_cases hz : z = x
    · subst hz
      rw [if_neg (by simp)] at e
      obtain ⟨h1, h2⟩ := ih e
      refine ⟨h1, ?_⟩
      rw [List.lookup_cons, beq_eq_false_iff_ne.mpr h1]
      exact h2
    · rw [if_pos (by simpa using hz), List.lookup_cons] at e
      split at e
      · rename_i q
        have := beq_iff_eq.mp q
        subst this
        cases e
        exact ⟨hz, by rw [List.lookup_cons, beq_self_eq_true]⟩
      · rename_i q
        obtain ⟨h1, h2⟩ := ih e
        exact ⟨h1, by rw [List.lookup_cons, q]; exact h2⟩
noncomputable def ownOff (σ : Sg) (x : Str) : Prop := match σ.own with
  | none => True
  | some (y, _) => y ≠ x
section
variable {w : World} {B : Heap} {k : Nat} {env : Env} {σ : Sg} {K : Out → Prop}
theorem Sr.store {M : Model} {A : Around} {E : Value → Shared → Prop} {Hc H : List Addr} {s : Shared} {x : Str} {v : Value} {d : PyData} {as : List Addr} {Q : Unit → Shared → Prop} (S : Sr B env Hc H s.heap σ) (hx : isVar env x) (ho : ownOff σ x)
    (r : Reads (hideAll s.heap H) v d as) (h : ∀ s', Sr B env Hc H s'.heap ⟨(x, d) :: σ.ρ, σ.own⟩ → Mv Hc H s s' → (∀ b o, b ∉ fp env → s.heap.get? b = some o → s'.heap.get? b = some o) → Q () s') : wpAny M A (storeName env x v) Q E s := by
  obtain ⟨vs, F, hρ, hown⟩ := S.fr
  refine F.store hx fun h' tk F' hk hz => ?_
  have up : ∀ b o, (hideAll s.heap H).get? b = some o → (hideAll h' H).get? b = some o := hide_sub fun b o hb e => hk b o (fun q => hb (S.fpH b q)) e
  refine h _ ⟨fun b o e => hk b o (fun q => by rw [F.new b q] at e; cases e) (S.base b o e), ⟨_, F', fun y d' e => ?_, fun y ds e => ?_⟩, S.fpH, S.hc, fun b hb => ?_⟩ ⟨⟨h', tk, rfl⟩, fun b o hb e => hk b o (fun q => hb.elim (fun z => (S.hc b z).2 q) fun z => z (S.fpH b q)) e⟩ hk
  · simp only [List.lookup_cons] at e
    split at e
    · rename_i q
      cases e
      have := beq_iff_eq.mp q
      subst this
      exact ⟨hx, v, as, by simp, Reads.keeps up r⟩
    · rename_i q
      obtain ⟨hy, v', bs, hv', r'⟩ := hρ y d' e
      exact ⟨hy, v', bs, by rw [if_neg (fun c => by rw [c, beq_self_eq_true] at q; cases q)]; exact hv', Reads.keeps up r'⟩
  · obtain ⟨hy, a, us, bs, hv', hl, r', haH, haHc, hafp, haB⟩ := hown y ds e
    have hyx : y ≠ x := by unfold ownOff at ho; rw [e] at ho; exact ho
    exact ⟨hy, a, us, bs, by rw [if_neg hyx]; exact hv', hl.at fun o e => hk a o hafp e, ReadsAll.keeps up r', haH, haHc, hafp, haB⟩
  · obtain ⟨o, e⟩ := S.lt b hb
    exact hz b o e

theorem Es.assign {x : Str} {px pos : Pos} {e : Expr} {d : PyData} (he : Ev w B k env σ.ρ e d) (hx : isVar env x) (ho : ownOff σ x) (hK : K (.next ⟨(x, d) :: σ.ρ, σ.own⟩))
    (hs : swapsWith e (some (.Name x px)) pos.line env = pure false := by rfl) : Es w B k env σ (.Assign [.Name x px] e pos) K := fun A s Hc H Q E hA S hq =>
  wpAny_Assign_Name (he A s H _ E hA S.cx fun v as s₁ k₁ r => (S.keeps k₁).store hx ho r fun s₂ S₂ m₂ _ => hq _ _ _ hK ⟨rfl, H, S₂, (Kp.mv k₁).comp Gr.rfl' m₂, Gr.rfl'⟩) hs
noncomputable def flat : PyData → Prop
  | .none | .bool _ | .int _ | .str _ => True
  | _ => False
theorem flat.reads {h h' : Heap} {v : Value} {d : PyData} {as : List Addr} (hf : flat d) (r : Reads h v d as) : Reads h' v d as := by
  cases r with
  | none => exact .none
  | bool b => exact .bool b
  | int i t => exact .int i t
  | str x t => exact .str x t
  | list => exact hf.elim
  | tuple => exact hf.elim
  | dict => exact hf.elim
theorem Es.assignF {x : Str} {px pos : Pos} {e : Expr} {d : PyData} (he : Ev w B k env σ.rd e d) (hf : flat d) (hx : isVar env x) (ho : ownOff σ x) (hK : K (.next ⟨(x, d) :: σ.ρ, σ.own⟩))
    (hs : swapsWith e (some (.Name x px)) pos.line env = pure false := by rfl) : Es w B k env σ (.Assign [.Name x px] e pos) K := fun A s Hc H Q E hA S hq => by
  obtain ⟨H', R, _⟩ := S.repO
  exact wpAny_Assign_Name (he A s H' _ E hA R fun v as s₁ k₁ r => (S.keeps k₁).store hx ho (hf.reads r) fun s₂ S₂ m₂ _ => hq _ _ _ hK ⟨rfl, H, S₂, (Kp.mv k₁).comp Gr.rfl' m₂, Gr.rfl'⟩) hs
theorem Es.ret {e : Expr} {pos : Pos} {d : PyData} (he : Ev w B k env σ.rd e d) (hK : K (.ret d)) : Es w B k env σ (.Return (some e) pos) K := fun A s Hc H Q E hA S hq => by
  obtain ⟨H', R, hc⟩ := S.repO
  exact wpAny_Return_some (he A s H' _ E hA R fun v as s₁ k₁ r => hq (.ret d) _ _ hK ⟨v, as, rfl, Reads.keeps (hide_more hc) r, Kp.mv k₁⟩)
theorem Es.iff {t : Expr} {b₁ b₂ : List Stmt} {pos : Pos} {c : Bool} (ht : Ts w B k env σ.rd t c) (h1 : c = true → Ex w B k env σ b₁ K) (h2 : c = false → Ex w B k env σ b₂ K) : Es w B k env σ (.If t b₁ b₂ pos) K := fun A s Hc H Q E hA S hq => by
  obtain ⟨H', R, hc⟩ := S.repO
  refine wpAny_If (ht A s H' _ E hA R fun s₁ k₁ => ?_)
  cases c with
  | true => exact h1 rfl A s₁ Hc H Q E hA (S.keeps k₁) fun o f s' hK ho => hq o f s' hK (ho.comp (Kp.mv k₁) Gr.rfl')
  | false => exact h2 rfl A s₁ Hc H Q E hA (S.keeps k₁) fun o f s' hK ho => hq o f s' hK (ho.comp (Kp.mv k₁) Gr.rfl')
theorem Es.brk {pos : Pos} (hK : K (.brk σ)) : Es w B k env σ (.Break pos) K := fun A s Hc H Q E hA S hq => wpAny_Break (hq _ _ _ hK ⟨rfl, H, S, Mv.rfl', Gr.rfl'⟩)
theorem Es.cont {pos : Pos} (hK : K (.cont σ)) : Es w B k env σ (.Continue pos) K := fun A s Hc H Q E hA S hq => wpAny_Continue (hq _ _ _ hK ⟨rfl, H, S, Mv.rfl', Gr.rfl'⟩)
theorem Es.own {x : Str} {px lp pos : Pos} (hx : isVar env x) (hK : K (.next ⟨σ.ρ.filter (fun p => p.1 != x), some (x, [])⟩))
    (hs : swapsWith (.List [] lp) (some (.Name x px)) pos.line env = pure false := by rfl) : Es w B k env σ (.Assign [.Name x px] (.List [] lp) pos) K := fun A s Hc H Q E hA S hq => by
  refine wpAny_Assign_Name ?_ hs
  refine List_ (args_nil ?_)
  refine wpAny_newObj_type (data := .seq (#[] : Array Value)) ?_ (by show (#[] : Array Value).size ≤ sizeLine; decide)
  obtain ⟨vs, F, hρ, hown⟩ := S.fr
  have hnew : s.heap.get? s.heap.objs.size = none := by
    cases e : s.heap.get? s.heap.objs.size with
    | none => rfl
    | some o => exact absurd (Heap.lt_size e) (Nat.lt_irrefl _)
  have k₁ : ∀ b o, s.heap.get? b = some o → (s.heap.push ⟨.type "list", none, .seq #[] 0, #[]⟩).get? b = some o := fun b o e => Heap.get?_push_of_some _ e
  have nH : s.heap.objs.size ∉ H := fun q => by obtain ⟨o, e⟩ := S.lt _ q; rw [hnew] at e; cases e
  refine (F.keeps fun b o _ e => k₁ b o e).store hx fun h' tk F' hk hz => ?_
  have nfp : s.heap.objs.size ∉ fp env := fun q => nH (S.fpH _ q)
  have nB : B.get? s.heap.objs.size = none := by
    cases e : B.get? s.heap.objs.size with
    | none => rfl
    | some o => rw [S.base _ _ e] at hnew; cases hnew
  have m : Mv Hc H s { s with heap := h', toks := tk } := ⟨⟨h', tk, rfl⟩, fun b o hb e => hk b o (fun q => hb.elim (fun z => (S.hc b z).2 q) fun z => z (S.fpH b q)) (k₁ b o e)⟩
  have g : Gr s H (s.heap.objs.size :: H) := ⟨fun b h => .tail _ h, fun b h => by
    rcases List.mem_cons.mp h with rfl | h
    · exact .inr hnew
    · exact .inl h⟩
  refine hq _ _ _ hK ⟨rfl, s.heap.objs.size :: H, ⟨fun b o e => hk b o (fun q => by rw [F.new b q] at e; cases e) (k₁ b o (S.base b o e)), ⟨_, F', fun y d e => ?_, fun y ds e => ?_⟩, fun b hb => .tail _ (S.fpH b hb), fun b hb => ⟨.tail _ (S.hc b hb).1, (S.hc b hb).2⟩, fun b hb => ?_⟩, m, g⟩
  · have hyx : y ≠ x ∧ σ.ρ.lookup y = some d := look_filter e
    obtain ⟨hy, v', bs, hv', r'⟩ := hρ y d hyx.2
    exact ⟨hy, v', bs, by rw [if_neg hyx.1]; exact hv', Reads.keeps (m.view g) r'⟩
  · obtain ⟨rfl, rfl⟩ : x = y ∧ [] = ds := by simpa using e
    refine ⟨hx, s.heap.objs.size, #[], [], by simp, ⟨0, hk _ _ nfp (Heap.get?_push_size _ rfl)⟩, .nil, .head _, fun q => nH (S.hc _ q).1, nfp, nB⟩
  · rcases List.mem_cons.mp hb with rfl | hb
    · exact ⟨_, hk _ _ nfp (Heap.get?_push_size _ rfl)⟩
    · obtain ⟨o, e⟩ := S.lt b hb
      exact hz b o (k₁ b o e)
end
end Mine
end
section
open PySem PySem.W PySem.Calls PyProof.Rows PySem.Spec
namespace Mine
theorem readsAll_snoc {h : Heap} {vs : List Value} {ds : List PyData} {as : List Addr} {v : Value} {d : PyData} {bs : List Addr} (r : ReadsAll h vs ds as) (r' : Reads h v d bs) : ∃ cs, ReadsAll h (vs ++ [v]) (ds ++ [d]) cs :=
  readsAll_ind (P := fun vs ds => ∃ cs, ReadsAll h (vs ++ [v]) (ds ++ [d]) cs) ⟨_, .cons r' .nil⟩ (fun _ _ _ _ _ _ r1 _ ih => ih.elim fun _ r => ⟨_, .cons r1 r⟩) r
section
variable {w : World} {B : Heap} {k : Nat} {env : Env} {σ : Sg} {K : Out → Prop}
theorem Es.append {x : Str} {np ap cp pos : Pos} {e : Expr} {d : PyData} {ds : List PyData} (ho : σ.own = some (x, ds)) (he : Ev w B k env σ.ρ e d) (hz : ds.length ≤ 1000000)
    (hK : K (.next ⟨σ.ρ, some (x, ds ++ [d])⟩))
    (hline : (ap.endLine == cp.line) = true := by rfl) (hse : starEach [e] env = [(false, eval e env)] := by rfl) (hdb : (x == ("__debug__" : Str)) = false := by decide)
    (hi : interactive env = false := by rfl) (hs : swapsWith (.Call (.Attribute (.Name x np) "append" ap) [e] [] cp) none pos.line env = pure false := by rfl) (hbase : attributeBase (.Name x np) "append" env (eval (.Name x np) env) = eval (.Name x np) env := by rfl) :
    Es w B k env σ (.Expr (.Call (.Attribute (.Name x np) "append" ap) [e] [] cp) pos) K := fun A s Hc H Q E hA S hq => by
  obtain ⟨vs, F, hρ, hown⟩ := S.fr
  obtain ⟨hx, a, us, as, hv, hl, r, haH, haHc, hafp, haB⟩ := hown x ds ho
  refine wpAny_Expr ?_ hi hs
  refine wpAny_Call_append hbase (by rw [hse]; rfl) hline (by rw [hse]; rfl) ?_
  refine wpAny_Name (F.var hx hv (fun _ _ q => q) ⟨a, us, rfl, ?_, ?_⟩) hdb
  · obtain ⟨n, hg⟩ := hl; exact ⟨_, n, hg, rfl, rfl, rfl⟩
  refine he A s H _ E hA S.cx fun y bs s₁ k₁ ry => ?_
  have hlen := readsAll_length r
  refine wpAny_list_append_plain (hl.at fun o e => k₁.keep a o e) (fun h' hl' hs' => ?_) (by simp only [Array.length_toList] at hlen; rw [sizeLine_eq]; omega)
  have kk : ∀ b o, b ≠ a → s.heap.get? b = some o → h'.get? b = some o := fun b o hb e => (hs'.2 b hb).trans (k₁.keep b o e)
  have m : Mv Hc H s { s₁ with heap := h' } := by
    exact ⟨sm_trans k₁.sm ⟨h', s₁.toks, rfl⟩, fun b o hb e => kk b o (fun q => hb.elim (fun z => haHc (q ▸ z)) fun z => z (q ▸ haH)) e⟩
  have up := m.view (Gr.rfl' (H := H))
  have up₁ : ∀ b o, (hideAll s₁.heap H).get? b = some o → (hideAll h' H).get? b = some o := hide_sub fun b o hb e => (hs'.2 b fun q => hb (q ▸ haH)).trans e
  obtain ⟨cs, rn⟩ := readsAll_snoc (ReadsAll.keeps up r) (Reads.keeps up₁ ry)
  refine hq _ _ _ hK ⟨rfl, H, ⟨fun b o e => kk b o (fun q => by rw [q, haB] at e; cases e) (S.base b o e), ⟨vs, F.keeps fun b o hb e => kk b o (fun q => hafp (q ▸ hb)) e, fun y d e => ?_, fun y ds' e => ?_⟩, S.fpH, S.hc, fun b hb => ?_⟩, m, Gr.rfl'⟩
  · obtain ⟨hy, v, bs', hv', r'⟩ := hρ y d e
    exact ⟨hy, v, bs', hv', Reads.keeps up r'⟩
  · obtain ⟨rfl, rfl⟩ : x = y ∧ ds ++ [d] = ds' := by simpa using e
    exact ⟨hx, a, us.push _, cs, hv, hl', by rw [Array.toList_push]; exact rn, haH, haHc, hafp, haB⟩
  · by_cases q : b = a
    · subst q; obtain ⟨n, hg⟩ := hl'; exact ⟨_, hg⟩
    · obtain ⟨o, e⟩ := S.lt b hb; exact ⟨o, kk b o q e⟩

noncomputable def Wh (w : World) (B : Heap) (k : Nat) (env : Env) (t : Expr) (body : List Stmt) (K : Out → Prop) : Nat → Sg → Prop
  | 0, _ => False
  | n + 1, σ => ∃ c, Ts w B k env σ.rd t c ∧ (c = false → K (.next σ)) ∧ (c = true → Ex w B k env σ body fun o => match o with
    | .next σ' => Wh w B k env t body K n σ'
    | .cont σ' => Wh w B k env t body K n σ'
    | .brk σ' => K (.next σ')
    | .ret d => K (.ret d))
theorem Es.while {t : Expr} {body : List Stmt} {pos : Pos} (n : Nat) (h : Wh w B k env t body K n σ) : Es w B k env σ (.While t body [] pos) K := fun A s Hc H Q E hA S hq => by
  refine wpAny_While (codeAny_whileLoop (fun n s' => ∃ H' σ', Sr B env Hc H' s'.heap σ' ∧ Mv Hc H s s' ∧ Gr s H H' ∧ Wh w B k env t body K n σ') ?_ n ⟨H, σ, S, Mv.rfl', Gr.rfl', h⟩)
  rintro n s' ⟨H', σ', S', m, g, hw⟩
  cases n with
  | zero => exact hw.elim
  | succ n =>
    obtain ⟨c, ht, hf, hb⟩ := hw
    obtain ⟨H₂, R, _⟩ := S'.repO
    refine ht A s' H₂ _ _ hA R fun s₁ k₁ => ?_
    have m₁ : Mv Hc H s s₁ := m.comp g (Kp.mv k₁)
    cases c with
    | false => exact wpAny_execs_nil (hq _ _ _ (hf rfl) ⟨rfl, H', S'.keeps k₁, m₁, g⟩)
    | true =>
      refine hb rfl A s₁ Hc H' _ _ hA (S'.keeps k₁) fun o f s₂ hK ho => ?_
      have g₁ : Gr s H H' := g
      cases o with
      | next σ₂ => obtain ⟨rfl, H₃, S₃, m₃, g₃⟩ := ho; exact ⟨n, Nat.lt_succ_self _, H₃, σ₂, S₃, m₁.comp g m₃, g.comp m₁ g₃, hK⟩
      | cont σ₂ => obtain ⟨rfl, H₃, S₃, m₃, g₃⟩ := ho; exact ⟨n, Nat.lt_succ_self _, H₃, σ₂, S₃, m₁.comp g m₃, g.comp m₁ g₃, hK⟩
      | brk σ₂ => obtain ⟨rfl, H₃, S₃, m₃, g₃⟩ := ho; exact hq _ _ _ hK ⟨rfl, H₃, S₃, m₁.comp g m₃, g.comp m₁ g₃⟩
      | ret d => obtain ⟨v, as, rfl, r, m₃⟩ := ho; exact hq (.ret d) _ _ hK ⟨v, as, rfl, r, m₁.comp g m₃⟩

noncomputable def Fo (w : World) (B : Heap) (k : Nat) (env : Env) (x : Str) (body : List Stmt) (K : Out → Prop) : List PyData → Sg → Prop
  | [], σ => K (.next σ)
  | d :: ds, σ => ownOff σ x ∧ Ex w B k env ⟨(x, d) :: σ.ρ, σ.own⟩ body fun o => match o with
    | .next σ' => Fo w B k env x body K ds σ'
    | .cont σ' => Fo w B k env x body K ds σ'
    | .brk σ' => K (.next σ')
    | .ret d => K (.ret d)

noncomputable def dataC (o : Obj) : Prop := o.cls = .type "list" ∨ o.cls = .type "tuple" ∨ o.cls = .type "dict"
theorem reads_keepsC {h h' : Heap} (hk : ∀ b o, dataC o → h.get? b = some o → h'.get? b = some o) {v : Value} {d : PyData} {as : List Addr} (r : Reads h v d as) : Reads h' v d as :=
  Reads.rec (motive_1 := fun v d as _ => Reads h' v d as) (motive_2 := fun vs ds as _ => ReadsAll h' vs ds as) .none .bool .int .str (fun h1 h2 h3 _ ih => .list (hk _ _ (.inl h2) h1) h2 h3 ih) (fun h1 h2 h3 _ ih => .tuple (hk _ _ (.inr (.inl h2)) h1) h2 h3 ih)
    (fun h1 h2 h3 _ _ ih ih' => .dict (hk _ _ (.inr (.inr h2)) h1) h2 h3 ih ih') .nil (fun _ _ i1 i2 => .cons i1 i2) r
theorem readsAll_keepsC {h h' : Heap} (hk : ∀ b o, dataC o → h.get? b = some o → h'.get? b = some o) {vs : List Value} {ds : List PyData} {as : List Addr} (r : ReadsAll h vs ds as) : ReadsAll h' vs ds as :=
  ReadsAll.rec (motive_1 := fun _ _ _ _ => True) (motive_2 := fun vs ds as _ => ReadsAll h' vs ds as) trivial (fun _ => trivial) (fun _ _ => trivial) (fun _ _ => trivial) (fun _ _ _ _ _ => trivial) (fun _ _ _ _ _ => trivial) (fun _ _ _ _ _ _ _ => trivial) .nil (fun r1 _ _ i2 => .cons (reads_keepsC hk r1) i2) r
theorem Sr.turn {Hc H wr : List Addr} {h h' : Heap} (S : Sr B env Hc H h σ) (hk : ∀ b o, b ∉ wr → h.get? b = some o → h'.get? b = some o) (hw : ∀ b ∈ wr, b ∉ H ∧ B.get? b = none ∧ ∃ o, h.get? b = some o ∧ ¬ dataC o) : Sr B env Hc H h' σ := by
  obtain ⟨vs, F, hρ, hown⟩ := S.fr
  have up : ∀ b o, dataC o → (hideAll h H).get? b = some o → (hideAll h' H).get? b = some o := fun b o hc e => by
    have hb := not_hid e
    have ea := of_hideAll H e
    refine hideAll_get H (hk b o (fun q => ?_) ea) hb
    obtain ⟨_, _, o', e', n⟩ := hw b q
    rw [ea] at e'; cases e'; exact n hc
  have inH : ∀ b ∈ H, b ∉ wr := fun b hb q => (hw b q).1 hb
  exact ⟨fun b o e => hk b o (fun q => by rw [(hw b q).2.1] at e; cases e) (S.base b o e), ⟨vs, F.keeps fun b o hb e => hk b o (inH b (S.fpH b hb)) e, fun x d e => let ⟨hx, v, as, hv, r⟩ := hρ x d e; ⟨hx, v, as, hv, reads_keepsC up r⟩,
    fun x ds e => let ⟨hx, a, us, as, hv, hl, r, q⟩ := hown x ds e; ⟨hx, a, us, as, hv, hl.at fun o e => hk a o (inH a q.1) e, readsAll_keepsC up r, q⟩⟩, S.fpH, S.hc, fun b hb => let ⟨o, e⟩ := S.lt b hb; ⟨o, hk b o (inH b hb) e⟩⟩
theorem Mv.wide {Hc H wr H' : List Addr} {s s' s'' : Shared} (m : Mv Hc (wr ++ H) s s') (g : Gr s H H') (m' : Mv Hc H' s' s'') : Mv Hc (wr ++ H) s s'' := by
  obtain ⟨⟨h', tk, rfl⟩, sb⟩ := m
  obtain ⟨⟨h'', tk', rfl⟩, sb'⟩ := m'
  exact ⟨⟨h'', tk', rfl⟩, fun b o hb e => sb' b o (hb.imp id fun hb hq => (g.2 b hq).elim (fun z => hb (List.mem_append_right _ z)) fun q => by rw [q] at e; cases e) (sb b o hb e)⟩
theorem Gr.wide {Hc H wr H' H'' : List Addr} {s s' : Shared} (m : Mv Hc (wr ++ H) s s') (hw : ∀ b ∈ wr, b ∉ H'') (g : Gr s H H') (g' : Gr s' H' H'') : Gr s H H'' := by
  refine ⟨fun b h => g'.1 b (g.1 b h), fun b h => (g'.2 b h).elim (g.2 b) fun q => ?_⟩
  by_cases hb : b ∈ H
  · exact .inl hb
  · refine .inr ?_
    cases e : s.heap.get? b with
    | none => rfl
    | some o => rw [m.sub b o (.inr fun z => (List.mem_append.mp z).elim (fun z => hw b z h) hb) e] at q; cases q
theorem for_walks {x : Str} {px : Pos} {body : List Stmt} {A : Around} {s₀ s : Shared} {Hc H : List Addr} {R : Result → Shared → Prop} {I : Addr} {fpI wr : List Addr} {n : Nat} {P : Nat → Value → Prop} {St : Nat → Heap → Prop} {xs : List PyData}
    (hA : AOK k A) (W : Walks pg w A I fpI wr n P St) (hst : St 0 s.heap) (k₀ : Kp s₀ s) (hwr : ∀ b ∈ wr, s₀.heap.get? b = none) (hcl : ∀ i h, St i h → ∀ b ∈ wr, ∃ o, h.get? b = some o ∧ ¬ dataC o)
    (hfp : ∀ b ∈ fpI, b ∉ H ∧ ∃ o, s.heap.get? b = some o) (hx : isVar env x) (hn : n = xs.length)
    (hP : ∀ i v, i < n → P i v → ∃ d as, xs[i]? = some d ∧ Reads (hideAll s.heap H) v d as) (S : Sr B env Hc H s₀.heap σ) (h : Fo w B k env x body K xs σ)
    (hR : ∀ o f s', K o → OutOK B env Hc s₀ H o f s' → R (.ok f) s') : codeAny (model pg w) A (.forLoop (.Name x px) (.ref I) body [] env) R s := by
  have hB : ∀ b ∈ wr, B.get? b = none := fun b hb => by
    cases e : B.get? b with
    | none => rfl
    | some o => have := S.base b o e; rw [hwr b hb] at this; cases this
  have back : ∀ s' H', Mv Hc (wr ++ H) s s' → Gr s H H' → Mv Hc H s₀ s' ∧ Gr s₀ H H' := fun s' H' m g => by
    refine ⟨?_, g.1, fun b hb => (g.2 b hb).imp id fun q => ?_⟩
    · exact ⟨sm_trans k₀.sm m.same, fun b o hb e => m.sub b o (hb.imp id fun hb z => (List.mem_append.mp z).elim (fun z => by rw [hwr b z] at e; cases e) hb) (k₀.keep b o e)⟩
    · cases e : s₀.heap.get? b with
      | none => rfl
      | some o => rw [k₀.keep b o e] at q; cases q
  refine codeAny_forLoop (fun m s' => ∃ i H' σ', m = n + 1 - i ∧ i ≤ n ∧ St i s'.heap ∧ Sr B env Hc H' s'.heap σ' ∧ Mv Hc (wr ++ H) s s' ∧ Gr s H H' ∧ (∀ b ∈ fpI, b ∉ H' ∧ ∃ o, s'.heap.get? b = some o) ∧ Fo w B k env x body K (xs.drop i) σ') ?_ (n + 1) ⟨0, H, σ, rfl, Nat.zero_le _, hst, S.keeps k₀, Mv.rfl', Gr.rfl', hfp, h⟩
  rintro m s' ⟨i, H', σ', rfl, hi, hst', S', mv, g, hf, hF⟩
  have hwH : ∀ b ∈ wr, b ∉ H' ∧ B.get? b = none ∧ ∃ o, s'.heap.get? b = some o ∧ ¬ dataC o := fun b hb => ⟨(hf b (W.sub b hb)).1, hB b hb, hcl i _ hst' b hb⟩
  have mv' : ∀ (h₁ : Heap) (tk : Nat), (∀ b o, b ∉ wr → s'.heap.get? b = some o → h₁.get? b = some o) → Mv Hc (wr ++ H) s { s' with heap := h₁, toks := tk } := fun h₁ tk hk => by
    exact ⟨sm_trans mv.same ⟨h₁, tk, rfl⟩, fun b o hb e => hk b o (fun q => hb.elim (fun z => (hf b (W.sub b q)).1 (S'.hc b z).1) fun z => z (List.mem_append_left _ q)) (mv.sub b o hb e)⟩
  by_cases hlt : i < n
  · refine W.item i s' _ _ hlt hst' fun v h₁ tk₁ hPv hst₁ hk₁ => ?_
    obtain ⟨d, as, hd, r⟩ := hP i v hlt hPv
    have hlt' : i < xs.length := hn ▸ hlt
    have hdrop : xs.drop i = d :: xs.drop (i + 1) := by
      rw [List.drop_eq_getElem_cons hlt']
      congr 1
      rw [List.getElem?_eq_getElem hlt'] at hd
      exact Option.some.inj hd
    rw [hdrop] at hF
    obtain ⟨hoff, hbody⟩ := hF
    have S₁ : Sr B env Hc H' h₁ σ' := S'.turn hk₁ hwH
    have m₁ := mv' h₁ tk₁ hk₁
    have r₁ : Reads (hideAll h₁ H') v d as := by
      refine reads_keepsC (fun b o hc e => ?_) r
      have hb := not_hid e
      have ea := of_hideAll H e
      have nw : b ∉ wr := fun q => by obtain ⟨o', e', n'⟩ := hcl 0 _ hst b q; rw [ea] at e'; cases e'; exact n' hc
      exact hideAll_get H' (m₁.sub b o (.inr fun z => (List.mem_append.mp z).elim nw hb) ea) fun z => (g.2 b z).elim hb fun q => by rw [q] at ea; cases ea
    refine wpAny_assign_Name ?_
    refine Sr.store (s := { s' with heap := h₁, toks := tk₁ }) S₁ hx hoff r₁ fun s₂ S₂ m₂ hk₂ => ?_
    have m₂' : Mv Hc (wr ++ H) s s₂ := m₁.wide g m₂
    have hst₂ : St (i + 1) s₂.heap := W.frame _ _ _ hst₁ fun b hb o e => hk₂ b o (fun q => (hf b hb).1 (S'.fpH b q)) e
    have al₂ : ∀ b ∈ fpI, b ∉ H' ∧ ∃ o, s₂.heap.get? b = some o := fun b hb => ⟨(hf b hb).1, by
      by_cases q : b ∈ wr
      · obtain ⟨o, e, _⟩ := hcl _ _ hst₂ b q; exact ⟨o, e⟩
      · obtain ⟨o, e⟩ := (hf b hb).2
        exact ⟨o, hk₂ b o (fun z => (hf b hb).1 (S'.fpH b z)) (hk₁ b o q e)⟩⟩
    refine hbody A s₂ Hc H' _ _ hA S₂ fun o f s₃ hK ho => ?_
    have off : ∀ H₃, Gr s₂ H' H₃ → ∀ b ∈ fpI, b ∉ H₃ := fun H₃ g₃ b hb q => by
      obtain ⟨nb, o, e⟩ := al₂ b hb
      exact (g₃.2 b q).elim nb (fun z => by rw [z] at e; cases e)
    have fin : ∀ σ₃ H₃, Sr B env Hc H₃ s₃.heap σ₃ → Mv Hc H' s₂ s₃ → Gr s₂ H' H₃ → Fo w B k env x body K (xs.drop (i + 1)) σ₃ → ∃ m, m < n + 1 - i ∧ ∃ i' H' σ', m = n + 1 - i' ∧ i' ≤ n ∧ St i' s₃.heap ∧ Sr B env Hc H' s₃.heap σ' ∧ Mv Hc (wr ++ H) s s₃ ∧ Gr s H H' ∧ (∀ b ∈ fpI, b ∉ H' ∧ ∃ o, s₃.heap.get? b = some o) ∧ Fo w B k env x body K (xs.drop i') σ' := fun σ₃ H₃ S₃ m₃ g₃ hF₃ => by
      refine ⟨n + 1 - (i + 1), by omega, i + 1, H₃, σ₃, rfl, hlt, W.frame _ _ _ hst₂ fun b hb o e => m₃.sub b o (.inr (hf b hb).1) e, S₃, m₂'.wide g m₃, Gr.wide m₂' (fun b hb => off H₃ g₃ b (W.sub b hb)) g g₃, fun b hb => ?_, hF₃⟩
      obtain ⟨nb, o, e⟩ := al₂ b hb
      exact ⟨off H₃ g₃ b hb, o, m₃.sub b o (.inr nb) e⟩
    cases o with
    | next σ₃ => obtain ⟨rfl, H₃, S₃, m₃, g₃⟩ := ho; exact fin σ₃ H₃ S₃ m₃ g₃ hK
    | cont σ₃ => obtain ⟨rfl, H₃, S₃, m₃, g₃⟩ := ho; exact fin σ₃ H₃ S₃ m₃ g₃ hK
    | brk σ₃ =>
      obtain ⟨rfl, H₃, S₃, m₃, g₃⟩ := ho
      obtain ⟨a, b⟩ := back s₃ H₃ (m₂'.wide g m₃) (Gr.wide m₂' (fun b hb => off H₃ g₃ b (W.sub b hb)) g g₃)
      exact hR _ _ _ hK ⟨rfl, H₃, S₃, a, b⟩
    | ret d =>
      obtain ⟨v, as, rfl, r, m₃⟩ := ho
      exact hR (.ret d) _ _ hK ⟨v, as, rfl, r, (back s₃ H' (m₂'.wide g m₃) g).1⟩
  · have hin : i = n := by omega
    refine W.done s' _ _ (hin ▸ hst') fun h₁ tk₁ hk₁ => wpAny_execs_nil ?_
    rw [show xs.drop i = [] from List.drop_eq_nil_of_le (by omega)] at hF
    obtain ⟨a, b⟩ := back _ H' (mv' h₁ tk₁ hk₁) g
    exact hR _ _ _ hF ⟨rfl, H', S'.turn hk₁ hwH, a, b⟩

noncomputable def Src (w : World) (B : Heap) (k : Nat) (env : Env) (ρ : Vars) (it : Expr) (xs : List PyData) : Prop :=
  ∀ (A : Around) (s : Shared) (H : List Addr) (Q : Value → Shared → Prop) (E : Value → Shared → Prop), AOK k A → Cx B env H s.heap ρ →
    (∀ I fpI wr P St s', Kp s s' → Walks pg w A I fpI wr xs.length P St → St 0 s'.heap → (∀ b ∈ wr, s.heap.get? b = none) → (∀ i h, St i h → ∀ b ∈ wr, ∃ o, h.get? b = some o ∧ ¬ dataC o) →
      (∀ b ∈ fpI, b ∉ H ∧ ∃ o, s'.heap.get? b = some o) → (∀ i v, i < xs.length → P i v → ∃ d as, xs[i]? = some d ∧ Reads (hideAll s'.heap H) v d as) → Q (.ref I) s') →
    wpAny (model pg w) A (eval it env) (fun x s₁ => wpAny (model pg w) A (pyIter x) Q E s₁) E s
theorem next_new (h : Heap) : h.get? h.objs.size = none := by
  cases e : h.get? h.objs.size with
  | none => rfl
  | some o => exact absurd (Heap.lt_size e) (Nat.lt_irrefl _)
theorem not_data_of {o : Obj} {c : String} (h : o.cls = .type c) (h1 : c ≠ "list") (h2 : c ≠ "tuple") (h3 : c ≠ "dict") : ¬ dataC o := fun q => by
  rcases q with q | q | q <;> (rw [h] at q; injection q with q; first | exact h1 q | exact h2 q | exact h3 q)
theorem readsAll_get {h : Heap} {vs : List Value} {ds : List PyData} {as : List Addr} (r : ReadsAll h vs ds as) : ∀ (i : Nat) (v : Value), vs[i]? = some v → ∃ d bs, ds[i]? = some d ∧ Reads h v d bs :=
  readsAll_ind (P := fun vs ds => ∀ (i : Nat) (v : Value), vs[i]? = some v → ∃ d bs, ds[i]? = some d ∧ Reads h v d bs) (fun i v e => nomatch e) (fun v vs d ds as bs r1 _ ih i u e => by
    cases i with
    | zero => cases e; exact ⟨_, _, rfl, r1⟩
    | succ i => exact ih i u e) r
variable {ρ : Vars}
theorem Src.list {it : Expr} {xs : List PyData} (h : Ev w B k env ρ it (.list xs)) : Src w B k env ρ it xs := fun A s H Q E hA C hq => by
  have hal := C.al
  refine h A s H _ E hA C fun v as s₁ k₁ r => ?_
  cases r with
  | list h1 h2 h3 h4 =>
    rename_i a o vs n as'
    have ha := of_hideAll H h1
    have hl : s₁.heap.IsList a vs := ⟨o, ha, h2, n, h3⟩
    refine wpAny_pyIter_list hl ?_
    have hne : a ≠ s₁.heap.objs.size := Nat.ne_of_lt (Heap.lt_size ha)
    have k₂ : Kp s₁ { s₁ with heap := s₁.heap.push { cls := .type "list_iterator", data := .fields #[.ref a, .int 0 0] } } := Kp.to (t := s₁.toks) fun b o e => Heap.get?_push_of_some _ e
    have W := Walks.list (prog := pg) (w := w) hA.handled s₁.heap.objs.size a hne vs
    have hlen : vs.size = xs.length := by have := readsAll_length h4; simpa using this
    rw [hlen] at W
    have hnone : s.heap.get? s₁.heap.objs.size = none := by
      cases e : s.heap.get? s₁.heap.objs.size with
      | none => rfl
      | some o => have := k₁.keep _ _ e; rw [next_new] at this; cases this
    refine hq _ _ _ _ _ _ (k₁.comp k₂) W ⟨⟨_, Heap.get?_push_size _ rfl, rfl, rfl⟩, hl.push _⟩ (fun b hb => by rw [List.mem_singleton.mp hb]; exact hnone) (fun i h st b hb => ?_) (fun b hb => ?_) fun i v _ hv => ?_
    · rw [List.mem_singleton.mp hb]
      obtain ⟨⟨o, e, c, _⟩, _⟩ := st
      exact ⟨o, e, not_data_of c (by decide) (by decide) (by decide)⟩
    · rcases List.mem_cons.mp hb with rfl | hb
      · exact ⟨(fun q => by obtain ⟨o, e⟩ := hal _ q; rw [hnone] at e; cases e), _, Heap.get?_push_size _ rfl⟩
      · rw [List.mem_singleton.mp hb]
        exact ⟨not_hid h1, o, Heap.get?_push_of_some _ ha⟩
    · obtain ⟨d, bs, e, r⟩ := readsAll_get h4 i v (by simpa using hv)
      exact ⟨d, bs, e, Reads.keeps k₂.hide r⟩
theorem Es.for {x : Str} {px pos : Pos} {it : Expr} {body : List Stmt} {xs : List PyData} (hs : Src w B k env σ.ρ it xs) (hx : isVar env x) (h : Fo w B k env x body K xs σ)
    (hfs : ∀ v, foldedSetIterable it env v = pure v := by intro _; rfl) : Es w B k env σ (.For (.Name x px) it body [] pos) K := fun A s Hc H Q E hA S hq =>
  wpAny_For (hs A s H _ E hA S.cx fun I fpI wr P St s' k' W st h1 h2 h3 h4 => for_walks hA W st k' h1 h2 h3 hx rfl h4 S h fun o f s' hK ho => hq o f s' hK ho) hfs
end
end Mine
end
section
open PySem PySem.W PySem.Calls PyProof.Rows PySem.Spec
namespace Mine
noncomputable def CallOK (w : World) (B : Heap) (k : Nat) (f : Addr) (ds : List PyData) (d : PyData) : Prop :=
  ∀ (A : Around) (s : Shared) (H : List Addr) (vs : List Value) (as : List Addr) (Q : Value → Shared → Prop) (E : Value → Shared → Prop), AOK k A → B.StaysIn s.heap → (∀ b ∈ H, ∃ o, s.heap.get? b = some o) → ReadsAll (hideAll s.heap H) vs ds as →
    (∀ v as s', Kp s s' → Reads (hideAll s'.heap H) v d as → Q v s') → wpAny (model pg w) A (call (.ref f) vs) Q E s
structure EnvOK (env : Env) : Prop where
  kind : env.scope.kind = .function
  globals : env.globals = mainGlobals
  builtins : env.builtins = builtinsNs
noncomputable def EvAll (w : World) (B : Heap) (k : Nat) (env : Env) (ρ : Vars) (es : List Expr) (ds : List PyData) : Prop :=
  ∀ (A : Around) (s : Shared) (H : List Addr) (pos : Pos) (Q : List Value → Shared → Prop) (E : Value → Shared → Prop), AOK k A → Cx B env H s.heap ρ →
    (∀ vs as s', Kp s s' → ReadsAll (hideAll s'.heap H) vs ds as → Q vs s') → wpAny (model pg w) A (spliced (backTo pos (starEach es env))) Q E s
section
variable {w : World} {B : Heap} {k : Nat} {env : Env} {ρ : Vars}
theorem EvAll.nil : EvAll w B k env ρ [] [] := fun A s H pos Q E hA C hq => args_nil (hq _ _ _ Kp.rfl' .nil)
theorem EvAll.cons {e : Expr} {es : List Expr} {d : PyData} {ds : List PyData} (h : Ev w B k env ρ e d) (hs : EvAll w B k env ρ es ds) (he : starEach (e :: es) env = (false, eval e env) :: starEach es env := by rfl) : EvAll w B k env ρ (e :: es) (d :: ds) := fun A s H pos Q E hA C hq =>
  args_cons (h A s H _ E hA C fun v as s₁ k₁ r₁ => hs A s₁ H pos _ E hA (C.keeps k₁) fun vs bs s₂ k₂ r₂ => hq _ _ s₂ (k₁.comp k₂) (.cons (Reads.keeps k₂.hide r₁) r₂)) he
theorem glob {M : Model} {A : Around} {s : Shared} {x : Str} {pos : Pos} {v : Value} {Q : Value → Shared → Prop} {E : Value → Shared → Prop} (HB : Bs w B) (hE : EnvOK env) (hB : B.StaysIn s.heap) (hx : env.kindOf x = some .globalImplicit)
    (e : nsIn (KP w.params) mainGlobals x = some (some v)) (h : Q v s) (hd : (x == ("__debug__" : Str)) = false := by decide) : wpAny M A (eval (.Name x pos) env) Q E s := by
  obtain ⟨mg, hg⟩ := HB.g
  exact Name_function_global hE.kind hx (loadGlobal_global (by rw [hE.globals]; exact hg.keeps hB) (mg_of HB.K hg e) h) hd
theorem blt {M : Model} {A : Around} {s : Shared} {x : Str} {pos : Pos} {v : Value} {Q : Value → Shared → Prop} {E : Value → Shared → Prop} (HB : Bs w B) (hE : EnvOK env) (hB : B.StaysIn s.heap) (hx : env.kindOf x = some .globalImplicit)
    (e : nsIn (KP w.params) mainGlobals x = some none) (hv : bootBuiltins x = some v) (hn : x ≠ "__name__") (h : Q v s) (hd : (x == ("__debug__" : Str)) = false := by decide) : wpAny M A (eval (.Name x pos) env) Q E s := by
  obtain ⟨mg, hg⟩ := HB.g
  obtain ⟨mb, hb, hbb⟩ := HB.b
  exact Name_function_global hE.kind hx (loadGlobal_builtin (by rw [hE.globals]; exact hg.keeps hB) (mg_none_of HB.K hg e) (by rw [hE.builtins]; exact hb.keeps hB) ((hbb x hn).trans hv) h) hd
theorem Ev.glob {x : Str} {pos : Pos} {c : Str} {t : Tok} (HB : Bs w B) (hE : EnvOK env) (hx : env.kindOf x = some .globalImplicit) (e : nsIn (KP w.params) mainGlobals x = some (some (.str c t))) (hd : (x == ("__debug__" : Str)) = false := by decide) : Ev w B k env ρ (.Name x pos) (.str c) := fun A s H Q E hA C hq =>
  Mine.glob HB hE C.base hx e (hq _ _ _ Kp.rfl' (.str _ _)) hd
theorem Ev.callD {x : Str} {np pos : Pos} {e : Expr} {rest : List Expr} {f : Addr} {o : Obj} {fd : FuncData} {ds : List PyData} {d : PyData} (HB : Bs w B) (hE : EnvOK env) (hx : env.kindOf x = some .globalImplicit) (hg : nsIn (KP w.params) mainGlobals x = some (some (.ref f)))
    (ho : List.lookup f (KP w.params) = some o) (hd : o.data = .func fd) (ha : EvAll w B k env ρ (e :: rest) ds) (hc : CallOK w B k f ds d)
    (he : starEach (e :: rest) env = (false, eval e env) :: starEach rest env := by rfl) (hdb : (x == ("__debug__" : Str)) = false := by decide) : Ev w B k env ρ (.Call (.Name x np) (e :: rest) [] pos) d := fun A s H Q E hA C hq => by
  refine wpAny_Call_NameR (Mine.glob HB hE C.base hx hg ?_ hdb)
  refine callWith_def (o := o) (fd := fd) hd ?_ he
  refine ha A s H pos _ E hA C fun vs as s₁ k₁ r => ⟨(C.keeps k₁).base _ _ (HB.K f o ho), ?_⟩
  exact hc A s₁ H vs as Q E hA (C.keeps k₁).base (C.keeps k₁).al r fun v bs s₂ k₂ r₂ => hq v bs s₂ (k₁.comp k₂) r₂
theorem Ev.blt1 {x : Str} {np pos : Pos} {e : Expr} {id : String} {a d : PyData} (HB : Bs w B) (hE : EnvOK env) (hx : env.kindOf x = some .globalImplicit) (hg : nsIn (KP w.params) mainGlobals x = some Option.none) (hv : bootBuiltins x = some (.builtin id)) (hn : x ≠ "__name__")
    (ha : Ev w B k env ρ e a) (hc : ∀ (A : Around) (s : Shared) (H : List Addr) (v : Value) (as : List Addr) (Q : Value → Shared → Prop) (E : Value → Shared → Prop), AOK k A → Reads (hideAll s.heap H) v a as → (∀ v as s', Kp s s' → Reads (hideAll s'.heap H) v d as → Q v s') → wpAny (model pg w) A (PySem.call (.builtin id) [v]) Q E s)
    (he : starEach [e] env = [(false, eval e env)] := by rfl) (hdb : (x == ("__debug__" : Str)) = false := by decide) : Ev w B k env ρ (.Call (.Name x np) [e] [] pos) d := fun A s H Q E hA C hq => by
  refine wpAny_Call_NameR (Mine.blt HB hE C.base hx hg hv hn ?_ hdb)
  refine callWith_builtin1 ?_ he rfl
  refine args_cons (ha A s H _ E hA C fun v as s₁ k₁ r => args_nil ?_) he
  exact hc A s₁ H v as Q E hA r fun v' bs s₂ k₂ r₂ => hq v' bs s₂ (k₁.comp k₂) r₂
theorem len_data {A : Around} {s : Shared} {H : List Addr} {v : Value} {d : PyData} {as : List Addr} {n : Nat} {Q : Value → Shared → Prop} {E : Value → Shared → Prop} (r : Reads (hideAll s.heap H) v d as)
    (hn : (∃ x : Str, d = .str x ∧ x.length = n) ∨ ∃ xs, d = .list xs ∧ xs.length = n) (hz : n ≤ 1000000) (hq : ∀ v as s', Kp s s' → Reads (hideAll s'.heap H) v (.int n) as → Q v s') : wpAny (model pg w) A (call (.builtin "len") [v]) Q E s := by
  rcases hn with ⟨x, rfl, rfl⟩ | ⟨xs, rfl, rfl⟩
  · cases r
    exact P.len_str (by omega) (hq _ _ _ (Kp.tok _) (.int _ _))
  · cases r with
    | list h1 h2 h3 h4 =>
      have hl := readsAll_length h4
      simp only [Array.length_toList] at hl
      refine len_list ⟨_, of_hideAll H h1, h2, _, h3⟩ (by omega) ?_
      rw [hl]
      exact hq _ _ _ (Kp.tok _) (.int _ _)
theorem Ev.lenS {x : Str} {np pos : Pos} {e : Expr} {c : Str} (HB : Bs w B) (hE : EnvOK env) (hx : env.kindOf "len" = some .globalImplicit) (ha : Ev w B k env ρ e (.str c)) (hz : c.length ≤ 1000000) (he : starEach [e] env = [(false, eval e env)] := by rfl) : Ev w B k env ρ (.Call (.Name "len" np) [e] [] pos) (.int c.length) :=
  Ev.blt1 (id := "len") HB hE hx (by kernel_rfl) rfl (by decide) ha (fun A s H v as Q E hA r hq => len_data r (.inl ⟨_, rfl, rfl⟩) hz hq) he
theorem Ev.lenL {x : Str} {np pos : Pos} {e : Expr} {xs : List PyData} (HB : Bs w B) (hE : EnvOK env) (hx : env.kindOf "len" = some .globalImplicit) (ha : Ev w B k env ρ e (.list xs)) (hz : xs.length ≤ 1000000) (he : starEach [e] env = [(false, eval e env)] := by rfl) : Ev w B k env ρ (.Call (.Name "len" np) [e] [] pos) (.int xs.length) :=
  Ev.blt1 (id := "len") HB hE hx (by kernel_rfl) rfl (by decide) ha (fun A s H v as Q E hA r hq => len_data r (.inr ⟨_, rfl, rfl⟩) hz hq) he

/-! texts -/
theorem Ev.meth1 {o e : Expr} {name : Str} {ap pos : Pos} {a b d : PyData} (ho : Ev w B k env ρ o a) (he : Ev w B k env ρ e b)
    (h : ∀ (A : Around) (s : Shared) (H : List Addr) (v : Value) (as : List Addr) (t : Sem Value) (Q : Value → Shared → Prop) (E : Value → Shared → Prop), AOK k A → Reads (hideAll s.heap H) v a as →
      wpAny (model pg w) A t (fun u s₁ => Kp s s₁ ∧ ∃ bs, Reads (hideAll s₁.heap H) u b bs ∧ ∀ v' cs s₂, Kp s₁ s₂ → Reads (hideAll s₂.heap H) v' d cs → Q v' s₂) E s → MethodOnS pg w A E name v pos [(false, t)] Q s)
    (hline : (ap.endLine == pos.line) = true := by rfl) (hse : starEach [e] env = [(false, eval e env)] := by rfl) (hbase : attributeBase o name env (eval o env) = eval o env := by rfl) : Ev w B k env ρ (.Call (.Attribute o name ap) [e] [] pos) d := fun A s H Q E hA C hq =>
  Call_method1 hbase hse hline (ho A s H _ E hA C fun v as s₁ k₁ r₁ => h A s₁ H v as _ Q E hA r₁ (he A s₁ H _ E hA (C.keeps k₁) fun u bs s₂ k₂ r₂ => ⟨k₂, bs, r₂, fun v' cs s₃ k₃ r₃ => hq v' cs s₃ ((k₁.comp k₂).comp k₃) r₃⟩))
theorem Ev.rfind {o e : Expr} {ap pos : Pos} {a b : Str} (ho : Ev w B k env ρ o (.str a)) (he : Ev w B k env ρ e (.str b)) (hline : (ap.endLine == pos.line) = true := by rfl) (hse : starEach [e] env = [(false, eval e env)] := by rfl) (hbase : attributeBase o "rfind" env (eval o env) = eval o env := by rfl) :
    Ev w B k env ρ (.Call (.Attribute o "rfind" ap) [e] [] pos) (.int (Txt.rfind a b)) := Ev.meth1 ho he (fun A s H v as t Q E hA r h => by
  cases r
  exact SB.rfind (wpAny_mono h (fun u s₁ ⟨k₁, bs, r, hq⟩ => by cases r; exact ⟨_, _, rfl, hq _ _ _ (Kp.tok _) (.int _ _)⟩) fun _ _ x => x)) hline hse hbase
theorem Ev.startswith {o e : Expr} {ap pos : Pos} {a b : Str} (ho : Ev w B k env ρ o (.str a)) (he : Ev w B k env ρ e (.str b)) (hline : (ap.endLine == pos.line) = true := by rfl) (hse : starEach [e] env = [(false, eval e env)] := by rfl) (hbase : attributeBase o "startswith" env (eval o env) = eval o env := by rfl) :
    Ev w B k env ρ (.Call (.Attribute o "startswith" ap) [e] [] pos) (.bool (Txt.startswith a b)) := Ev.meth1 ho he (fun A s H v as t Q E hA r h => by
  cases r
  exact SB.startswith (wpAny_mono h (fun u s₁ ⟨k₁, bs, r, hq⟩ => by cases r; exact ⟨_, _, rfl, hq _ _ _ Kp.rfl' (.bool _)⟩) fun _ _ x => x)) hline hse hbase
theorem Ev.rstrip {o e : Expr} {ap pos : Pos} {a b : Str} (ho : Ev w B k env ρ o (.str a)) (he : Ev w B k env ρ e (.str b)) (hz : a.length ≤ sizeLine) (hline : (ap.endLine == pos.line) = true := by rfl) (hse : starEach [e] env = [(false, eval e env)] := by rfl) (hbase : attributeBase o "rstrip" env (eval o env) = eval o env := by rfl) :
    Ev w B k env ρ (.Call (.Attribute o "rstrip" ap) [e] [] pos) (.str (Txt.rstripChars a b)) := Ev.meth1 ho he (fun A s H v as t Q E hA r h => by
  cases r
  exact SB.rstripChars (wpAny_mono h (fun u s₁ ⟨k₁, bs, r, hq⟩ => by cases r; exact ⟨_, _, rfl, fun t' k' => hq _ _ _ (Kp.tok _) (.str _ _)⟩) fun _ _ x => x) hz) hline hse hbase
end
end Mine
end
section
open PySem PySem.W PySem.Calls PyProof.Rows PySem.Spec
namespace Mine
theorem look_mem {α : Type} {l : List (Str × α)} {x : Str} {v : α} (h : l.lookup x = some v) : (x, v) ∈ l := by
  induction l with
  | nil => cases h
  | cons p r ih =>
    obtain ⟨y, c⟩ := p
    rw [List.lookup_cons] at h
    split at h
    · rename_i e; cases h; rw [beq_iff_eq.mp e]; exact .head _
    · exact .tail _ (ih h)
theorem zip_look {g : Heap} {names : List Str} {vs : List Value} {ds : List PyData} {as : List Addr} (hn : names.Nodup) (r : ReadsAll g vs ds as) : ∀ x d, (names.zip ds).lookup x = some d → x ∈ names ∧ ∃ v bs, (names.zip vs).reverse.lookup x = some v ∧ Reads g v d bs := by
  revert names
  refine readsAll_ind (P := fun vs ds => ∀ {names : List Str}, names.Nodup → ∀ x d, (names.zip ds).lookup x = some d → x ∈ names ∧ ∃ v bs, (names.zip vs).reverse.lookup x = some v ∧ Reads g v d bs) (fun {names} _ x d e => ?_) (fun v vs d' ds as bs r1 r2 ih {names} hn x d e => ?_) r
  · rw [List.zip_nil_right] at e; cases e
  · cases names with
    | nil => cases e
    | cons n ns =>
      obtain ⟨hn1, hn2⟩ := List.nodup_cons.mp hn
      simp only [List.zip_cons_cons, List.lookup_cons] at e
      simp only [List.zip_cons_cons, List.reverse_cons]
      split at e
      · rename_i q
        cases e
        have := beq_iff_eq.mp q
        subst this
        refine ⟨.head _, v, _, ?_, r1⟩
        have : (ns.zip vs).reverse.lookup x = none := by
          rw [List.lookup_eq_none_iff]
          intro p hp
          have hp' := List.mem_reverse.mp hp
          have := (List.of_mem_zip hp').1
          exact bne_iff_ne.mpr fun (q : x = p.1) => hn1 (q ▸ this)
        rw [List.lookup_append, this]
        simp
      · rename_i q
        obtain ⟨hx, v', bs, hv, r⟩ := ih hn2 x d e
        refine ⟨.tail _ hx, v', bs, ?_, r⟩
        rw [List.lookup_append, hv]; rfl
section
variable {w : World} {B : Heap} {k : Nat}
theorem envOK_call {fd : FuncData} {L a : Addr} (hk : fd.scope.kind = .function) (hg : fd.globals = mainGlobals) (hb : fd.builtins = builtinsNs) : EnvOK (callEnv fd L a) := ⟨hk, hg, hb⟩
theorem callOK_def {f : Addr} {o : Obj} {fd : FuncData} {names : List Str} {body : List Stmt} {ds : List PyData} {d : PyData} (HB : Bs w B) (ho : List.lookup f (KP w.params) = some o) (hd : o.data = .func fd) (hcd : codeIn (KP w.params) fd.code fd.qualname = true)
    (hbody : fd.body = .stmts body) (hbind : ∀ vs : List Value, vs.length = ds.length → bindArgs fd ⟨vs, []⟩ = pure (names.zip vs)) (hloc : ∀ x ∈ names, fd.scope.names.lookup x = some .local) (hcell : ∀ x ∈ fd.scope.names, x.2 ≠ .cell) (hnd : names.Nodup) (hcl : fd.closure = [])
    (hk : fd.scope.kind = .function) (hco : fd.scope.isCoroutine = false) (hgen : fd.scope.isGenerator = false)
    (h : ∀ L, Ex w B k (callEnv fd L f) ⟨names.zip ds, none⟩ body (fun o => o = .ret d)) : CallOK w B (k + 1) f ds d := fun A s H vs as Q E hA hB hal r hq => by
  have hlen := readsAll_length r
  refine wpAny_call (codeAny_call_def (fd := fd) (body := body) (binds := names.zip vs) hA.room (hB _ _ (HB.K f o ho)) hd (HB.nolimit.keeps hB) (codeRec_of (K := KP w.params) (fun a o e => hB _ _ (HB.K a o e)) hcd) hbody (BindsTo.of_eq (hbind vs hlen)) hcell (fun x hx => hloc x.1 (List.of_mem_zip hx).1) (fun h₀ hns hk₀ => ?_) hco hgen hk)
  have nL : s.heap.objs.size ∉ H := fun q => by obtain ⟨o, e⟩ := hal _ q; rw [next_new] at e; cases e
  have k₁ : Kp s { s with heap := h₀, toks := s.toks + (names.zip vs).length } := Kp.to hk₀
  have up : ∀ b o, (hideAll s.heap H).get? b = some o → (hideAll h₀ (s.heap.objs.size :: H)).get? b = some o := fun b o e => by
    have hb := not_hid e
    have ea := of_hideAll H e
    refine hideAll_get _ (hk₀ b o ea) fun q => ?_
    rcases List.mem_cons.mp q with rfl | q
    · rw [next_new] at ea; cases ea
    · exact hb q
  have efp : fp (callEnv fd s.heap.objs.size f) = [s.heap.objs.size] := by show s.heap.objs.size :: (fd.closure.map (·.2)) = _; rw [hcl]; rfl
  have S : Sr B (callEnv fd s.heap.objs.size f) H (s.heap.objs.size :: H) h₀ ⟨names.zip ds, none⟩ := by
    refine ⟨fun b o e => hk₀ b o (hB b o e), ⟨fun x => (names.zip vs).reverse.lookup x, ⟨hk, ⟨_, hns, fun x _ => rfl⟩, fun x hx => ?_, fun x y c e => ?_, fun x c e => ?_, fun b hb => ?_⟩, fun x d e => ?_, fun x ds e => by cases e⟩, fun b hb => ?_, fun b hb => ⟨.tail _ hb, fun q => ?_⟩, fun b hb => ?_⟩
    · have := look_mem hx
      exact absurd rfl (hcell _ this)
    · have : fd.closure.lookup x = some c := e
      rw [hcl] at this; cases this
    · have : fd.closure.lookup x = some c := e
      rw [hcl] at this; cases this
    · rw [efp] at hb
      rw [List.mem_singleton.mp hb]
      cases e : B.get? s.heap.objs.size with
      | none => rfl
      | some o => have := hB _ _ e; rw [next_new] at this; cases this
    · obtain ⟨hx, v, bs, hv, r'⟩ := zip_look hnd r x d e
      exact ⟨.inl (hloc x hx), v, bs, hv, Reads.keeps up r'⟩
    · rw [efp] at hb; rw [List.mem_singleton.mp hb]; exact .head _
    · rw [efp] at q; rw [List.mem_singleton.mp q] at hb; exact nL hb
    · rcases List.mem_cons.mp hb with rfl | hb
      · obtain ⟨o, _, _, e, _⟩ := hns; exact ⟨o, e⟩
      · obtain ⟨o, e⟩ := hal b hb; exact ⟨o, hk₀ b o e⟩
  refine h s.heap.objs.size _ { s with heap := h₀, toks := s.toks + (names.zip vs).length } H (s.heap.objs.size :: H) _ _ hA.deeper S fun out fl s' hK ho' => ?_
  subst hK
  obtain ⟨v, bs, rfl, r', m⟩ := ho'
  refine hq v bs s' ?_ r'
  obtain ⟨⟨h', tk, rfl⟩, sb⟩ := m
  refine Kp.to (s := s) fun b o e => sb b o ?_ (hk₀ b o e)
  by_cases q : b ∈ H
  · exact .inl q
  · refine .inr fun z => ?_
    rcases List.mem_cons.mp z with rfl | z
    · rw [next_new] at e; cases e
    · exact q z
end
end Mine
end
section
open PySem PySem.W PySem.Calls PyProof.Rows PySem.Spec
namespace Mine
theorem readsAll_take {h : Heap} {vs : List Value} {ds : List PyData} {as : List Addr} (r : ReadsAll h vs ds as) : ∀ n, ∃ bs, ReadsAll h (vs.take n) (ds.take n) bs :=
  readsAll_ind (P := fun vs ds => ∀ n, ∃ bs, ReadsAll h (vs.take n) (ds.take n) bs) (fun n => by rw [List.take_nil, List.take_nil]; exact ⟨_, .nil⟩) (fun v vs d ds as bs r1 _ ih n => by
    cases n with
    | zero => exact ⟨_, .nil⟩
    | succ n => obtain ⟨_, r⟩ := ih n; exact ⟨_, .cons r1 r⟩) r
theorem readsAll_append {h : Heap} {vs us : List Value} {ds es : List PyData} {as bs : List Addr} (r : ReadsAll h vs ds as) (r' : ReadsAll h us es bs) : ∃ cs, ReadsAll h (vs ++ us) (ds ++ es) cs :=
  readsAll_ind (P := fun vs ds => ∃ cs, ReadsAll h (vs ++ us) (ds ++ es) cs) ⟨_, r'⟩ (fun _ _ _ _ _ _ r1 _ ih => ih.elim fun _ r => ⟨_, .cons r1 r⟩) r
section
variable {w : World} {B : Heap} {k : Nat} {env : Env} {ρ : Vars}
theorem push_kp {s : Shared} {o : Obj} {t : Nat} : Kp s { s with heap := s.heap.push o, toks := t } := Kp.to fun b o e => Heap.get?_push_of_some _ e
theorem slice_post {s : Shared} {x : Str} {t : Tok} {l u : Option (Int × Tok)} {Q : Value → Shared → Prop} (hz : x.length ≤ sizeLine) (h : ∀ t' k, Q (.str (Txt.slice x (l.map (·.1)) (u.map (·.1))) t') { s with toks := k }) : (sliceMade x t l u none).post Q s := by
  unfold sliceMade
  refine post_val_or_made (fun _ => ?_) fun t' k => ?_
  · show (Array.size _) ≤ _
    rw [List.size_toArray]
    refine Nat.le_trans (List.length_filterMap_le _ _) (Nat.le_trans ?_ hz)
    exact sliceIndices_le _ _ _
  · have := h t' k
    unfold Txt.slice at this
    exact this
noncomputable def PartEv (w : World) (B : Heap) (k : Nat) (env : Env) (ρ : Vars) : Option Expr → Option Int → Prop
  | .none, .none => True
  | .some e, .some i => Ev w B k env ρ e (.int i)
  | _, _ => False
theorem part_ev {lo : Option Expr} {i : Option Int} {A : Around} {s : Shared} {H : List Addr} {Q : Value → Shared → Prop} {E : Value → Shared → Prop} (h : PartEv w B k env ρ lo i) (hA : AOK k A) (C : Cx B env H s.heap ρ)
    (hq : ∀ (p : Option (Int × Tok)) s', Kp s s' → p.map (·.1) = i → Q (partValue p) s') : wpAny (model pg w) A (evalPart lo env) Q E s := by
  cases lo with
  | none => cases i with
    | none => exact wpAny_evalPart_none (hq none s Kp.rfl' rfl)
    | some i => exact h.elim
  | some e => cases i with
    | none => exact h.elim
    | some i => exact wpAny_evalPart_some (h A s H _ E hA C fun v as s' k' r => by cases r; exact hq (some (i, _)) s' k' rfl)
theorem Ev.sliceS {v : Expr} {lo hi : Option Expr} {p pos : Pos} {x : Str} {l u : Option Int} (hv : Ev w B k env ρ v (.str x)) (hl : PartEv w B k env ρ lo l) (hu : PartEv w B k env ρ hi u) (hz : x.length ≤ sizeLine)
    (ht : ∀ o r, letTemporaryGo v o r = pure () := by intro _ _; rfl) : Ev w B k env ρ (.Subscript v (.Slice lo hi .none p) pos) (.str (Txt.slice x l u)) := fun A s H Q E hA C hq =>
  wpAny_Subscript_str_slice (hv A s H _ E hA C fun a as s₁ k₁ r₁ => by
    cases r₁
    exact part_ev hl hA (C.keeps k₁) fun pl s₂ k₂ el => part_ev hu hA ((C.keeps k₁).keeps k₂) fun pu s₃ k₃ eu => ⟨x, _, pl, pu, rfl, rfl, rfl, slice_post hz fun t' kk => by
      rw [el, eu]
      exact hq _ [] _ (((k₁.comp k₂).comp k₃).comp push_kp) (.str _ _)⟩) ht
theorem Ev.sliceL {v e : Expr} {p pos : Pos} {xs : List PyData} {n : Nat} (hv : Ev w B k env ρ v (.list xs)) (he : Ev w B k env ρ e (.int n)) (hz : xs.length ≤ 1000000)
    (ht : ∀ o r, letTemporaryGo v o r = pure () := by intro _ _; rfl) : Ev w B k env ρ (.Subscript v (.Slice .none (.some e) .none p) pos) (.list (xs.take n)) := fun A s H Q E hA C hq =>
  wpAny_Subscript_list_slice (hv A s H _ E hA C fun a as s₁ k₁ r₁ => by
    cases r₁ with
    | list h1 h2 h3 h4 =>
      rename_i l o vs m as'
      refine wpAny_evalPart_none (wpAny_evalPart_some (he A s₁ H _ E hA (C.keeps k₁) fun u bs s₂ k₂ r₂ => ?_))
      cases r₂
      rename_i tk
      have hlen := readsAll_length h4
      simp only [Array.length_toList] at hlen
      refine ⟨l, vs, none, some (n : Int), rfl, ⟨o, k₂.keep _ _ (of_hideAll H h1), h2, m, h3⟩, by rw [sizeLine_eq]; omega, .none, .int _ _, ?_⟩
      rw [slicePick_upto']
      have k₃ : Kp s₂ { s₂ with heap := (s₂.heap.push { cls := .type "slice", data := .fields #[.none, .int (n : Int) tk, .none] }).push { cls := .type "list", data := .seq (vs.toList.take n).toArray } } := Kp.to (t := s₂.toks) fun b o e => Heap.get?_push_of_some _ (Heap.get?_push_of_some _ e)
      refine hq _ _ _ ((k₁.comp k₂).comp k₃) (.list (hideAll_get _ (o := { cls := .type "list", data := .seq (vs.toList.take n).toArray }) ?_ fun q => ?_) rfl rfl (ReadsAll.keeps (k₂.comp k₃).hide (readsAll_take h4 n).choose_spec))
      · have := Heap.get?_push_size (s₂.heap.push { cls := .type "slice", data := .fields #[.none, .int (n : Int) tk, .none] }) (o := { cls := .type "list", data := .seq (vs.toList.take n).toArray }) rfl
        rw [Heap.size_push] at this
        exact this
      · obtain ⟨o', e'⟩ := ((C.keeps k₁).keeps k₂).al _ q
        exact absurd (Heap.lt_size e') (Nat.not_lt.mpr (Nat.le_succ _))) ht
theorem Ev.item {v e : Expr} {pos : Pos} {xs : List PyData} {n : Nat} {d : PyData} (hv : Ev w B k env ρ v (.list xs)) (he : Ev w B k env ρ e (.int n)) (hz : xs.length ≤ 1000000) (hd : xs[n]? = some d)
    (hs : ∀ a i, subscripted e false (.ref a) (.int i a) = operate [.ref a, .int i a] (getItem (.ref a) (.int i a)) := by intro _ _; with_unfolding_all rfl) (hs' : ∀ a i t, subscripted e false (.ref a) (.int i t) = operate [.ref a, .int i t] (getItem (.ref a) (.int i t)) := by intro _ _ _; with_unfolding_all rfl)
    (hg : ∀ a r, letTemporaryGo v (.ref a) r = pure () := by intro _ _; with_unfolding_all rfl) : Ev w B k env ρ (.Subscript v e pos) d := fun A s H Q E hA C hq =>
  Subscript_ (hv A s H _ E hA C fun a as s₁ k₁ r₁ => he A s₁ H _ E hA (C.keeps k₁) fun u bs s₂ k₂ r₂ => by
    cases r₂
    have r₁' := Reads.keeps k₂.hide r₁
    cases r₁' with
    | list h1 h2 h3 h4 =>
      rename_i tk l o vs m as'
      have hn : n < xs.length := (List.getElem?_eq_some_iff.mp hd).1
      have hlen := readsAll_length h4
      have hv' : vs.toList[n]? = some (vs.toList[n]'(by rw [hlen]; exact hn)) := List.getElem?_eq_getElem _
      obtain ⟨d', cs, e', r⟩ := readsAll_get h4 n _ hv'
      rw [hd] at e'
      cases e'
      exact item_list ⟨_, of_hideAll H h1, h2, _, h3⟩ (by omega) (by omega) (by simpa using hv') (hq _ _ _ (k₁.comp k₂) r) (hs' _ _ _) (hg _))
theorem Ev.addL {l r : Expr} {pos : Pos} {xs ys : List PyData} (hl : Ev w B k env ρ l (.list xs)) (hr : Ev w B k env ρ r (.list ys)) (hx : xs.length ≤ 1000000) (hy : ys.length ≤ 1000000) : Ev w B k env ρ (.BinOp l .Add r pos) (.list (xs ++ ys)) := fun A s H Q E hA C hq =>
  wpAny_BinOp (hl A s H _ E hA C fun x as s₁ k₁ r₁ => hr A s₁ H _ E hA (C.keeps k₁) fun y bs s₂ k₂ r₂ => by
    have r₁' := Reads.keeps k₂.hide r₁
    cases r₁' with
    | list h1 h2 h3 h4 =>
    cases r₂ with
    | list g1 g2 g3 g4 =>
      rename_i l o vs n as' l' o' us n' bs'
      obtain ⟨c1, d1, dt1, sl1⟩ := o
      obtain ⟨c2, d2, dt2, sl2⟩ := o'
      simp only at h2 h3 g2 g3
      subst h2 h3 g2 g3
      have e1 := readsAll_length h4
      have e2 := readsAll_length g4
      simp only [Array.length_toList] at e1 e2
      have ho := of_hideAll H h1
      have ho2 := of_hideAll H g1
      refine concat_meets ⟨_, ho, rfl⟩ ⟨_, ho2, rfl⟩ noFill_list_add seq_list_add PySem.F.slot_list_add PySem.F.entry_list_add (PySem.F.args_list_add_2 _ _) (list_addW l l' vs us n n' d1 d2 sl1 sl2 (by rw [sizeLine_eq]; omega)) ⟨ho, ho2, ?_⟩
      obtain ⟨cs, rr⟩ := readsAll_append h4 g4
      have k₃ : Kp s₂ { s₂ with heap := s₂.heap.push { cls := .type "list", data := .seq (vs ++ us) } } := push_kp (t := s₂.toks)
      refine hq _ _ _ ((k₁.comp k₂).comp k₃) (.list (hideAll_get _ (o := { cls := .type "list", data := .seq (vs ++ us) }) (Heap.get?_push_size _ rfl) fun q => ?_) rfl rfl (by rw [Array.toList_append]; exact ReadsAll.keeps k₃.hide rr))
      obtain ⟨o', e'⟩ := ((C.keeps k₁).keeps k₂).al _ q
      rw [next_new] at e'; cases e')
theorem Ev.disp {es : List Expr} {pos : Pos} {ds : List PyData} (h : EvAll w B k env ρ es ds) (hz : ds.length ≤ 1000000) : Ev w B k env ρ (.List es pos) (.list ds) := fun A s H Q E hA C hq => by
  refine List_ (h A s H pos _ E hA C fun vs as s₁ k₁ r => ?_)
  have hlen := readsAll_length r
  refine wpAny_newObj_type (data := .seq vs.toArray) ?_ (by show vs.toArray.size ≤ sizeLine; rw [List.size_toArray, sizeLine_eq]; omega)
  have k₂ : Kp s₁ { s₁ with heap := s₁.heap.push { cls := .type "list", data := .seq vs.toArray } } := push_kp (t := s₁.toks)
  refine hq _ _ _ (k₁.comp k₂) (.list (hideAll_get _ (o := { cls := .type "list", data := .seq vs.toArray }) (Heap.get?_push_size _ rfl) fun q => ?_) rfl rfl (ReadsAll.keeps k₂.hide r))
  obtain ⟨o', e'⟩ := (C.keeps k₁).al _ q
  rw [next_new] at e'; cases e'
theorem Ev.dispT {es : List Expr} {n : Nat} {pos : Pos} {ds : List PyData} (h : EvAll w B k env ρ es ds) (hz : ds.length ≤ 1000000) : Ev w B k env ρ (.Tuple es n pos) (.tuple ds) := fun A s H Q E hA C hq => by
  refine Tuple_ (h A s H pos _ E hA C fun vs as s₁ k₁ r => ?_)
  have hlen := readsAll_length r
  refine wpAny_newObj_type (data := .seq vs.toArray) ?_ (by show vs.toArray.size ≤ sizeLine; rw [List.size_toArray, sizeLine_eq]; omega)
  have k₂ : Kp s₁ { s₁ with heap := s₁.heap.push { cls := .type "tuple", data := .seq vs.toArray } } := push_kp (t := s₁.toks)
  refine hq _ _ _ (k₁.comp k₂) (.tuple (hideAll_get _ (o := { cls := .type "tuple", data := .seq vs.toArray }) (Heap.get?_push_size _ rfl) fun q => ?_) rfl rfl (ReadsAll.keeps k₂.hide r))
  obtain ⟨o', e'⟩ := (C.keeps k₁).al _ q
  rw [next_new] at e'; cases e'
end
end Mine
end
section
open PySem PySem.W PySem.Calls PyProof.Rows PySem.Spec
namespace Mine
section
variable {prog : Program} {w : World} {A : Around} {E : Value → Shared → Prop} {s : Shared}
theorem sub_str_self : isSubtype (.type "str") (.type "str") = pure true := by rw [isSubtype_type]; kernel_rfl
theorem type_of_str : typeOf (.type "str") = pure (.type "type") := by first | rfl | kernel_rfl
theorem kind_issub_nested : builtinKind "issubclass.nested" = none := by decide +kernel
theorem plain_issub_nested : plainId "issubclass.nested" = true := by decide +kernel
theorem args_issub_nested (a b c : Value) : argsOk "issubclass.nested" ⟨[a, b, c], []⟩ := by unfold argsOk; kernel_rfl
theorem issub_self {dep : Int} {tk : Tok} : Meets (Builtin.«issubclass.nested» ⟨[.type "str", .type "str", .int dep tk], []⟩) (fun _ R s => R (.ok (.ret (.bool true))) s) := fun prog w A R s hs => by
  have hself := sub_str_self
  have ht := type_of_str
  repeat (any_goals (first | assumption | (rw [hself]) | (rw [ht]) | wp_step))
theorem issub_nested {tp : Addr} {cs : List Value} {tk : Tok} {Q : Fin → Shared → Prop} (hcs : cs.head? = some (.type "str")) (htp : s.heap.get? tp = some { cls := .type "tuple", data := .seq cs.toArray })
    (hq : Q (.done (.ret (.bool true))) s) : wpAny (model prog w) A (Builtin.«issubclass.nested» ⟨[.type "str", .ref tp, .int 0 tk], []⟩) Q E s := by
  obtain ⟨h, g, d, t, os⟩ := s
  have hT2 : (⟨h, g, d, t, os⟩ : Shared).TypeIs (.ref tp) "tuple" := ⟨_, htp, rfl⟩
  have f1 := F.isi_sub_tuple
  repeat (any_goals (first | assumption | wp_step))
  refine wpAny_arrayLoop ?_
  simp only [Option.getD_some, List.toList_toArray]
  cases cs with
  | nil => cases hcs
  | cons c cs =>
    cases hcs
    rw [List.forIn_cons]
    refine wpAny_bind (wpAny_bind (call_function_meets kind_issub_nested plain_issub_nested F.entry_issubclass_nested (args_issub_nested _ _ _) issub_self ?_))
    repeat (any_goals (first | assumption | wp_step))
theorem call_issub {tp : Addr} {cs : List Value} {Q : Value → Shared → Prop} (hcs : cs.head? = some (.type "str")) (htp : s.heap.get? tp = some { cls := .type "tuple", data := .seq cs.toArray })
    (hq : Q (.bool true) s) : wpAny (model prog w) A (call (.builtin "issubclass") [.type "str", .ref tp]) Q E s :=
  call_issubclass (S := fun _ R s => s.heap.get? tp = some { cls := .type "tuple", data := .seq cs.toArray } ∧ R (.ok (.ret (.bool true))) s) (fun _ _ _ _ _ hs => issubclass_outer (issub_nested hcs hs.1 hs.2)) ⟨htp, hq⟩
end
end Mine
end
section
open PySem PySem.W PySem.Calls PyProof.Rows PySem.Spec
namespace Mine
noncomputable def fnOk (fd : FuncData) (names : List Str) : Bool :=
  (names.all fun x => fd.scope.names.lookup x == some .local) && (fd.scope.names.all fun x => x.2 != .cell) && decide names.Nodup && fd.closure.isEmpty && (fd.scope.kind == .function) && !fd.scope.isCoroutine && !fd.scope.isGenerator
section
variable {w : World} {B : Heap} {k : Nat}
theorem callOK_fn {f : Addr} {fd : FuncData} {body : List Stmt} (names : List Str) {ds : List PyData} {d : PyData} (HB : Bs w B)
    (ho : List.lookup f (KP w.params) = some ⟨.type "function", none, .func fd, #[]⟩) (hcd : codeIn (KP w.params) fd.code fd.qualname = true) (hok : fnOk fd names = true) (hbody : fd.body = .stmts body)
    (hbind : ∀ vs : List Value, vs.length = ds.length → bindArgs fd ⟨vs, []⟩ = pure (names.zip vs))
    (h : ∀ L, Ex w B k (callEnv fd L f) ⟨names.zip ds, none⟩ body (fun o => o = .ret d)) : CallOK w B (k + 1) f ds d := by
  simp only [fnOk, Bool.and_eq_true, List.all_eq_true, beq_iff_eq, bne_iff_ne, decide_eq_true_eq, Bool.not_eq_true', List.isEmpty_iff] at hok
  obtain ⟨⟨⟨⟨⟨⟨h1, h2⟩, h3⟩, h4⟩, h5⟩, h6⟩, h7⟩ := hok
  exact callOK_def HB ho rfl hcd hbody hbind h1 h2 h3 h4 h5 h6 h7 h
theorem len1 {vs : List Value} (h : vs.length = 1) : ∃ a, vs = [a] := List.length_eq_one_iff.mp h
theorem len2 {vs : List Value} (h : vs.length = 2) : ∃ a b, vs = [a, b] := by
  obtain ⟨a, l, rfl⟩ := List.exists_cons_of_length_eq_add_one h
  obtain ⟨b, rfl⟩ := len1 (Nat.succ.inj h)
  exact ⟨a, b, rfl⟩

theorem typeIs_reads {s : Shared} {H : List Addr} {v : Value} {x : Str} {as : List Addr} (r : Reads (hideAll s.heap H) v (.str x) as) : s.TypeIs v "str" := by
  cases r; exact typeIs_str s x _
theorem Ex.kind {env : Env} {σ : Sg} {K : Out → Prop} {x t : Str} {a c : Str} {n : Nat} {p1 p2 p3 p4 p5 p6 p7 p8 p9 p10 p11 : Pos} {orelse rest : List Stmt} (HB : Bs w B) (hE : EnvOK env) (hx : σ.ρ.lookup x = some (.str a)) (ht : isVar env t)
    (g1 : env.kindOf "type" = some .globalImplicit) (g2 : env.kindOf "str" = some .globalImplicit) (hK : K (.ret (.str c)))
    (hs : swapsWith (.Call (.Name "type" p2) [.Name x p3] [] p4) (some (.Name t p1)) p5.line env = pure false := by rfl) (hdx : (x == ("__debug__" : Str)) = false := by decide) (hdt : (t == ("__debug__" : Str)) = false := by decide) :
    Ex w B k env σ (.Assign [.Name t p1] (.Call (.Name "type" p2) [.Name x p3] [] p4) p5 :: .If (.Compare (.Name t p6) [.Is] [.Name "str" p7] p8) [.Return (some (.Constant (.str c) n p9)) p10] orelse p11 :: rest) K := fun A s Hc H Q E hA S hq => by
  obtain ⟨vs, F, hρ, hown⟩ := S.fr
  obtain ⟨hxv, v, as, hv, r⟩ := hρ x _ hx
  refine wpAny_execs_cons (wpAny_Assign_Name ?_ hs)
  refine wpAny_Call_NameR (blt (w := w) HB hE S.base g1 (by kernel_rfl) rfl (by decide) ?_)
  refine callWith_type1 (args_cons (wpAny_Name (F.var hxv hv (fun _ _ e => e) (args_nil ?_)) hdx))
  refine call_type_of (typeIs_reads r) (by decide) ?_
  refine F.store ht fun h' tk F' hk hz => ?_
  have hB' : B.StaysIn h' := fun b o e => hk b o (fun q => by rw [F.new b q] at e; cases e) (S.base b o e)
  refine wpAny_execs_cons (wpAny_If (wpAny_isTrue_Compare1 ?_))
  refine wpAny_Name (F'.var (v := .type "str") ht (if_pos rfl) (fun _ _ e => e) ?_) hdt
  refine blt (w := w) HB hE hB' g2 (by kernel_rfl) rfl (by decide) ?_
  refine wpAny_is_plain rfl ?_
  refine wpAny_truthy_bool ?_
  rw [if_pos (by decide)]
  refine wpAny_execs_cons (wpAny_Return_some (Constant_str ?_))
  exact hq (.ret (.str c)) _ _ hK ⟨_, [], rfl, .str _ _, ⟨⟨h', _, rfl⟩, fun b o hb e => hk b o (fun q => hb.elim (fun z => (S.hc b z).2 q) fun z => z (S.fpH b q)) e⟩⟩
theorem kind_ok (HB : Bs w B) (a x : Str) : CallOK w B (k + 1) 124 [.str a, .str x] (.str "") := by
  refine callOK_fn (fd := fd124) (body := bdS (stm 14)) ["name", "x"] HB (by kernel_rfl) (by kernel_rfl) (by decide +kernel) rfl (fun vs h => ?_) fun L => ?_
  · obtain ⟨a, b, rfl⟩ := len2 h; kernel_rfl
  · exact Ex.kind (x := "x") HB ⟨by kernel_rfl, rfl, rfl⟩ rfl (.inl (by kernel_rfl)) (by kernel_rfl) (by kernel_rfl) rfl
end
end Mine
end
section
open PySem PySem.W PySem.Calls PyProof.Rows PySem.Spec
namespace Mine
section
variable {w : World} {B : Heap} {k : Nat} {env : Env} {ρ : Vars}
theorem Ev.fn {x : Str} {np pos : Pos} {e : Expr} {rest : List Expr} (f : Addr) (fd : FuncData) {ds : List PyData} {d : PyData} (HB : Bs w B) (hE : EnvOK env)
    (hg : (env.kindOf x, nsIn (KP w.params) mainGlobals x, List.lookup f (KP w.params)) = (some .globalImplicit, some (some (.ref f)), some ⟨.type "function", none, .func fd, #[]⟩)) (ha : EvAll w B k env ρ (e :: rest) ds) (hc : CallOK w B k f ds d)
    (he : starEach (e :: rest) env = (false, eval e env) :: starEach rest env := by rfl) (hdb : (x == ("__debug__" : Str)) = false := by decide) : Ev w B k env ρ (.Call (.Name x np) (e :: rest) [] pos) d := by
  simp only [Prod.mk.injEq] at hg
  exact Ev.callD HB hE hg.1 hg.2.1 hg.2.2 rfl ha hc he hdb
theorem envOK (fd : FuncData) {L a : Addr} (h : (fd.scope.kind, fd.globals, fd.builtins) = (.function, mainGlobals, builtinsNs)) : EnvOK (callEnv fd L a) := by
  simp only [Prod.mk.injEq] at h
  exact ⟨h.1, h.2.1, h.2.2⟩
theorem CallOK.less {j : Nat} {f : Addr} {ds : List PyData} {d : PyData} (h : CallOK w B k f ds d) (hj : k ≤ j) : CallOK w B j f ds d := fun A s H vs as Q E hA hB hal r hq => h A s H vs as Q E (hA.less hj) hB hal r hq
theorem small_str {x : Str} (h : x.length ≤ 1000000) : small (.str x) := h
theorem fspathU_ok (HB : Bs w B) (a x : Str) : CallOK w B (k + 2) 131 [.str a, .str x] (.str x) := by
  refine callOK_fn (fd := fd131) (body := bdS (stm 15)) ["name", "x"] HB (by kernel_rfl) (by kernel_rfl) (by decide +kernel) rfl (fun vs h => ?_) fun L => ?_
  · obtain ⟨a, b, rfl⟩ := len2 h; kernel_rfl
  have hE : EnvOK (callEnv fd131 L 131) := envOK fd131 (by kernel_rfl)
  refine Ex.cons (Es.assign (Ev.fn 124 fd124 HB hE (by kernel_rfl) (EvAll.cons Ev.name (EvAll.cons Ev.name EvAll.nil)) (kind_ok HB a x)) (.inl (by kernel_rfl)) trivial ?_)
  refine Ex.cons (Es.iff (Ts.plain Ev.name (small_str (by decide))) (fun h => absurd h (by decide)) fun _ => Ex.nil ?_)
  exact Ex.cons (Es.ret Ev.name rfl)
noncomputable def slash : Str := "/"
noncomputable def baseS (p : Str) : Str := Txt.slice p (some (Txt.rfind p "/" + 1)) none
theorem basename_ok (HB : Bs w B) (p : Str) (hp : p.length ≤ 1000) : CallOK w B (k + 3) 180 [.str p] (.str (baseS p)) := by
  refine callOK_fn (fd := fd180) (body := bdS (stm 23)) ["p"] HB (by kernel_rfl) (by kernel_rfl) (by decide +kernel) rfl (fun vs h => ?_) fun L => ?_
  · obtain ⟨a, rfl⟩ := len1 h; kernel_rfl
  have hE : EnvOK (callEnv fd180 L 180) := envOK fd180 (by kernel_rfl)
  refine Ex.cons (Es.assign (Ev.fn 131 fd131 HB hE (by kernel_rfl) (EvAll.cons Ev.cStr (EvAll.cons Ev.name EvAll.nil)) (fspathU_ok HB _ p)) (.inl (by kernel_rfl)) trivial ?_)
  refine Ex.cons (Es.assign (Ev.addI (Ev.rfind Ev.name Ev.cStr) Ev.cInt) (.inl (by kernel_rfl)) trivial ?_)
  exact Ex.cons (Es.ret (Ev.sliceS Ev.name (l := some _) (u := none) Ev.name trivial (by rw [sizeLine_eq]; omega)) rfl)
end
end Mine
end
section
open PySem PySem.W PySem.Calls PyProof.Rows PySem.Spec
namespace Mine
section
variable {w : World} {B : Heap} {k : Nat} {env : Env} {ρ : Vars} {σ : Sg} {K : Out → Prop}
theorem Ev.mulS {l r : Expr} {pos : Pos} {x : Str} {n : Int} (hl : Ev w B k env ρ l (.str x)) (hr : Ev w B k env ρ r (.int n)) (hok : MulOk x n) : Ev w B k env ρ (.BinOp l .Mult r pos) (.str (Txt.mul x n)) :=
  Ev.bin hl hr fun A s H x y as bs Q E _ _ r₁ r₂ hq => by cases r₁; cases r₂; exact SB.mul hok fun t' k => hq _ _ _ (Kp.tok _) (.str _ _)
theorem Ev.powI {l r : Expr} {pos : Pos} {a n : Int} (hl : Ev w B k env ρ l (.int a)) (hr : Ev w B k env ρ r (.int n)) (hn : 0 ≤ n) (hn2 : n ≤ 1000000) (ha : a.natAbs < 2 ^ 64) : Ev w B k env ρ (.BinOp l .Pow r pos) (.int (a ^ n.toNat)) :=
  Ev.bin hl hr fun A s H x y as bs Q E _ _ r₁ r₂ hq => by cases r₁; cases r₂; exact pow_int_small hn hn2 ha (hq _ _ _ (Kp.tok _) (.int _ _))
theorem ext_kp {s : Shared} {h' : Heap} (e : Heap.ExtBut s.heap.objs.size s.heap h') : Kp s { s with heap := h' } := Kp.to (t := s.toks) fun b o q => e b o (fun z => by rw [z, next_new] at q; cases q) q
theorem Es.unpack2 {x y : Str} {px py tp pos : Pos} {n : Nat} {e : Expr} {a b : PyData} (he : Ev w B k env σ.ρ e (.tuple [a, b])) (hx : isVar env x) (hy : isVar env y) (ho : ownOff σ x) (ho' : ownOff σ y) (hK : K (.next ⟨(y, b) :: (x, a) :: σ.ρ, σ.own⟩))
    (hs : swapsWithSole [.Tuple [.Name x px, .Name y py] n tp] e pos.line env = pure false := by rfl) (hw : swappedStores [.Tuple [.Name x px, .Name y py] n tp] e env = pure Option.none := by rfl) :
    Es w B k env σ (.Assign [.Tuple [.Name x px, .Name y py] n tp] e pos) K := fun A s Hc H Q E hA S hq => by
  refine Assign_Tuple (he A s H _ E hA S.cx fun v as s₁ k₁ r => ?_) hs hw
  cases r with
  | tuple h1 h2 h3 h4 =>
    rename_i l o vs m
    obtain ⟨u₁, u₂, ev⟩ := len2 (readsAll_length h4)
    have hvs : vs.size = 2 := by have := readsAll_length h4; simpa using this
    refine assign_Tuple_tuple hA.handled ⟨o, of_hideAll H h1, h2, m, h3⟩ (by rw [hvs]; rfl) rfl fun h' he' => ?_
    rw [ev] at h4 ⊢
    cases h4 with
    | cons ra h5 =>
    cases h5 with
    | cons rb h6 =>
    have k₂ : Kp s₁ { s₁ with heap := h' } := ext_kp he'
    have S₂ := (S.keeps k₁).keeps k₂
    refine wpAny_bind (wpAny_holding (wpAny_assign_Name ?_))
    refine Sr.store (s := { s₁ with heap := h' }) S₂ hx ho (Reads.keeps k₂.hide ra) fun s₃ S₃ m₃ kk₃ => ?_
    refine wpAny_bind (wpAny_holding (wpAny_assign_Name ?_))
    have ub : Reads (hideAll s₃.heap H) u₂ b _ := Reads.keeps (m₃.view Gr.rfl') (Reads.keeps k₂.hide rb)
    refine Sr.store (s := s₃) S₃ hy ho' ub fun s₄ S₄ m₄ kk₄ => ?_
    refine wpAny_pure ?_
    exact hq _ _ _ hK ⟨rfl, H, S₄, (((Kp.mv k₁).comp Gr.rfl' (Kp.mv k₂)).comp Gr.rfl' m₃).comp Gr.rfl' m₄, Gr.rfl'⟩
theorem len3 {vs : List Value} (h : vs.length = 3) : ∃ a b c, vs = [a, b, c] := by
  obtain ⟨a, l, rfl⟩ := List.exists_cons_of_length_eq_add_one h
  obtain ⟨b, c, rfl⟩ := len2 (Nat.succ.inj h)
  exact ⟨a, b, c, rfl⟩
theorem Es.unpack3 {x y z : Str} {px py pz tp pos : Pos} {n : Nat} {e : Expr} {a b c : PyData} (he : Ev w B k env σ.ρ e (.tuple [a, b, c])) (hx : isVar env x) (hy : isVar env y) (hz : isVar env z) (ho : ownOff σ x) (ho' : ownOff σ y) (ho'' : ownOff σ z) (hK : K (.next ⟨(z, c) :: (y, b) :: (x, a) :: σ.ρ, σ.own⟩))
    (hs : swapsWithSole [.Tuple [.Name x px, .Name y py, .Name z pz] n tp] e pos.line env = pure false := by rfl) (hw : swappedStores [.Tuple [.Name x px, .Name y py, .Name z pz] n tp] e env = pure Option.none := by rfl) :
    Es w B k env σ (.Assign [.Tuple [.Name x px, .Name y py, .Name z pz] n tp] e pos) K := fun A s Hc H Q E hA S hq => by
  refine Assign_Tuple (he A s H _ E hA S.cx fun v as s₁ k₁ r => ?_) hs hw
  cases r with
  | tuple h1 h2 h3 h4 =>
    rename_i l o vs m
    obtain ⟨u₁, u₂, u₃, ev⟩ := len3 (readsAll_length h4)
    have hvs : vs.size = 3 := by have := readsAll_length h4; simpa using this
    refine assign_Tuple_tuple hA.handled ⟨o, of_hideAll H h1, h2, m, h3⟩ (by rw [hvs]; rfl) rfl fun h' he' => ?_
    rw [ev] at h4 ⊢
    cases h4 with
    | cons ra h5 =>
    cases h5 with
    | cons rb h6 =>
    cases h6 with
    | cons rc h7 =>
    have k₂ : Kp s₁ { s₁ with heap := h' } := ext_kp he'
    have S₂ := (S.keeps k₁).keeps k₂
    refine wpAny_bind (wpAny_holding (wpAny_assign_Name ?_))
    refine Sr.store (s := { s₁ with heap := h' }) S₂ hx ho (Reads.keeps k₂.hide ra) fun s₃ S₃ m₃ kk₃ => ?_
    refine wpAny_bind (wpAny_holding (wpAny_assign_Name ?_))
    have ub : Reads (hideAll s₃.heap H) u₂ b _ := Reads.keeps (m₃.view Gr.rfl') (Reads.keeps k₂.hide rb)
    refine Sr.store (s := s₃) S₃ hy ho' ub fun s₄ S₄ m₄ kk₄ => ?_
    refine wpAny_bind (wpAny_holding (wpAny_assign_Name ?_))
    have uc : Reads (hideAll s₄.heap H) u₃ c _ := Reads.keeps (m₄.view Gr.rfl') (Reads.keeps (m₃.view Gr.rfl') (Reads.keeps k₂.hide rc))
    refine Sr.store (s := s₄) S₄ hz ho'' uc fun s₅ S₅ m₅ kk₅ => ?_
    refine wpAny_pure ?_
    exact hq _ _ _ hK ⟨rfl, H, S₅, ((((Kp.mv k₁).comp Gr.rfl' (Kp.mv k₂)).comp Gr.rfl' m₃).comp Gr.rfl' m₄).comp Gr.rfl' m₅, Gr.rfl'⟩

theorem reads_strs {h : Heap} : ∀ {texts : List Str} {vs : List Value} {as : List Addr}, ReadsAll h vs (texts.map .str) as → ∃ l, vs = strValues l ∧ l.map (·.1) = texts
  | [], _, _, .nil => ⟨[], rfl, rfl⟩
  | x :: xs, _, _, .cons r1 r2 => by
    cases r1
    obtain ⟨l, rfl, rfl⟩ := reads_strs r2
    exact ⟨(x, _) :: l, rfl, rfl⟩
theorem strs_read {h : Heap} : ∀ l : List (Str × Tok), ReadsAll h (strValues l) ((l.map (·.1)).map .str) []
  | [] => .nil
  | (x, t) :: l => .cons (as := []) (.str x t) (strs_read l)
theorem split_new {A : Around} {E : Value → Shared → Prop} {s : Shared} {x y : Str} {t : Tok} {pos : Pos} {Q : Value → Shared → Prop} {a : Sem Value} (hy : (y.length == 0) = false) (hx : x.length ≤ sizeLine) (hn : (Builtin.Str.partsBetween x (Builtin.Str.occurrences x y 0 x.length (x.length + 1)) y.length).length ≤ sizeLine)
    (h : wpAny (model pg w) A a (fun v s₁ => ∃ u, v = .str y u ∧ ∀ l tk, l.map (·.1) = Txt.split x y → Q (.ref s₁.heap.objs.size) { s₁ with heap := s₁.heap.push { cls := .type "list", data := .seq (strValues l).toArray }, toks := tk }) E s) : MethodOnS pg w A E "split" (.str x t) pos [(false, a)] Q s := by
  refine ⟨"str", _, F.plainAttrs_str, F.slot_str_split, F.type_str_split, typeIs_str _ _ _, (fun _ e => nomatch e), method1_meets F.slot_str_split F.entry_str_split (wpAny_mono h (fun v s₁ h₁ => ?_) fun _ _ e => e)⟩
  obtain ⟨u, rfl, hq⟩ := h₁
  refine ⟨typeIs_str _ _ _, F.args_str_split_2 _ _, ?_⟩
  unfold Txt.split at hq
  by_cases h1 : (decide (x.length < y.length) || decide (Builtin.Str.strKind x < Builtin.Str.strKind y)) = true
  · rw [if_pos h1] at hq
    exact ⟨_, meets_str_split_cannot_occur x y t u h1, hq [(x, t)] s₁.toks rfl⟩
  · rw [if_neg h1] at hq
    by_cases hf : (Builtin.Str.occurrences x y 0 x.length (x.length + 1)).isEmpty = true
    · rw [if_pos hf] at hq
      exact ⟨_, meets_str_split_not_found x y t u (by simpa using h1) hy hf, hq [(x, t)] s₁.toks rfl⟩
    · rw [if_neg hf] at hq
      refine ⟨_, meets_str_split_sep x y t u (by simpa using h1) hy (by simpa using hf) hx hn, ?_⟩
      have := hq (numbered s₁.toks _) (s₁.toks + (Builtin.Str.partsBetween x (Builtin.Str.occurrences x y 0 x.length (x.length + 1)) y.length).length) (numbered_texts _ _)
      rw [← strsFrom_eq] at this
      exact this
theorem Ev.split {o e : Expr} {ap pos : Pos} {a b : Str} (ho : Ev w B k env ρ o (.str a)) (he : Ev w B k env ρ e (.str b)) (hb : (b.length == 0) = false) (hz : a.length ≤ sizeLine) (hn : (Builtin.Str.partsBetween a (Builtin.Str.occurrences a b 0 a.length (a.length + 1)) b.length).length ≤ sizeLine)
    (hline : (ap.endLine == pos.line) = true := by rfl) (hse : starEach [e] env = [(false, eval e env)] := by rfl) (hbase : attributeBase o "split" env (eval o env) = eval o env := by rfl) :
    Ev w B k env ρ (.Call (.Attribute o "split" ap) [e] [] pos) (.list ((Txt.split a b).map .str)) := fun A s H Q E hA C hq =>
  Call_method1 hbase hse hline (ho A s H _ E hA C fun v as s₁ k₁ r₁ => by
    cases r₁
    refine split_new hb hz hn (he A s₁ H _ E hA (C.keeps k₁) fun u bs s₂ k₂ r₂ => ?_)
    cases r₂
    refine ⟨_, rfl, fun l tk hl => ?_⟩
    rw [← hl] at hq
    have k₃ : Kp s₂ { s₂ with heap := s₂.heap.push { cls := .type "list", data := .seq (strValues l).toArray }, toks := tk } := push_kp
    refine hq _ _ _ ((k₁.comp k₂).comp k₃) (.list (hideAll_get _ (o := { cls := .type "list", data := .seq (strValues l).toArray }) (Heap.get?_push_size _ rfl) fun q => ?_) rfl rfl (strs_read l))
    obtain ⟨o', e'⟩ := ((C.keeps k₁).keeps k₂).al _ q
    rw [next_new] at e'; cases e')
theorem Ev.join {o e : Expr} {ap pos : Pos} {a : Str} {texts : List Str} (ho : Ev w B k env ρ o (.str a)) (he : Ev w B k env ρ e (.list (texts.map .str))) (hz : JoinOk a texts = true)
    (hline : (ap.endLine == pos.line) = true := by rfl) (hse : starEach [e] env = [(false, eval e env)] := by rfl) (hbase : attributeBase o "join" env (eval o env) = eval o env := by rfl) :
    Ev w B k env ρ (.Call (.Attribute o "join" ap) [e] [] pos) (.str (Txt.join a texts)) := Ev.meth1 ho he (fun A s H v as t Q E hA r h => by
  cases r
  refine SB.join (wpAny_mono h (fun u s₁ ⟨k₁, bs, r, hq⟩ => ?_) fun _ _ x => x)
  cases r with
  | list h1 h2 h3 h4 =>
    obtain ⟨l, e1, e2⟩ := reads_strs h4
    refine ⟨_, l, rfl, ⟨_, of_hideAll H h1, h2, _, by rw [h3, ← e1]⟩, texts, e2, hz, fun t' k' => hq _ _ _ (Kp.tok _) (.str _ _)⟩) hline hse hbase
noncomputable def rng (a c : Int) (n : Nat) : List PyData := (List.range n).map fun i : Nat => .int (a + (i : Int) * c)
theorem range_src {A : Around} {s : Shared} {H : List Addr} {r : Addr} {a b c : Int} {t u v : Tok} {Q : Value → Shared → Prop} {E : Value → Shared → Prop} (hA : AOK k A) (hr : IsRange s.heap r a b c t u v) (hsm : Builtin.Range.small a b c = true) (hal : ∀ b ∈ H, ∃ o, s.heap.get? b = some o)
    {s₀ : Shared} (k₀ : Kp s₀ s) {n : Nat} (hn : Builtin.Range.rangeSize a b c = n)
    (hq : ∀ I fpI wr P St s', Kp s₀ s' → Walks pg w A I fpI wr (rng a c n).length P St → St 0 s'.heap → (∀ b ∈ wr, s₀.heap.get? b = none) → (∀ i h, St i h → ∀ b ∈ wr, ∃ o, h.get? b = some o ∧ ¬ dataC o) →
      (∀ b ∈ fpI, b ∉ H ∧ ∃ o, s'.heap.get? b = some o) → (∀ i v, i < (rng a c n).length → P i v → ∃ d as, (rng a c n)[i]? = some d ∧ Reads (hideAll s'.heap H) v d as) → Q (.ref I) s') : wpAny (model pg w) A (pyIter (.ref r)) Q E s := by
  refine wpAny_pyIter_range hr hsm ?_
  have W := Walks.range (prog := pg) (w := w) hA.handled s.heap.objs.size a c n
  have hl : (rng a c n).length = n := by simp [rng]
  rw [← hl] at W
  have hnone : s₀.heap.get? s.heap.objs.size = none := by
    cases e : s₀.heap.get? s.heap.objs.size with
    | none => rfl
    | some o => have := k₀.keep _ _ e; rw [next_new] at this; cases this
  refine hq _ _ _ _ _ _ (k₀.comp (push_kp (t := s.toks))) W ?_ (fun b hb => by rw [List.mem_singleton.mp hb]; exact hnone) (fun i h st b hb => ?_) (fun b hb => ?_) fun i v hi hv => ?_
  · rw [hl, hn]
    have : a + ((0 : Nat) : Int) * c = a := by simp
    rw [this]
    have e0 : (n : Int) - ((0 : Nat) : Int) = n := by simp
    rw [e0]
    exact Heap.get?_push_size _ rfl
  · rw [List.mem_singleton.mp hb]
    exact ⟨_, st, not_data_of rfl (by decide) (by decide) (by decide)⟩
  · rw [List.mem_singleton.mp hb]
    exact ⟨(fun q => by obtain ⟨o, e⟩ := hal _ q; rw [next_new] at e; cases e), _, Heap.get?_push_size _ rfl⟩
  · obtain ⟨t, rfl⟩ := hv
    rw [hl] at hi
    exact ⟨.int (a + i * c), [], by simp [rng, hi], .int _ _⟩
theorem Src.range1 {np pos : Pos} {e : Expr} {n : Nat} (HB : Bs w B) (hE : EnvOK env) (hx : env.kindOf "range" = some .globalImplicit) (he : Ev w B k env ρ e (.int n)) (hz : n ≤ 1000000) (hse : starEach [e] env = [(false, eval e env)] := by rfl) :
    Src w B k env ρ (.Call (.Name "range" np) [e] [] pos) (rng 0 1 n) := fun A s H Q E hA C hq => by
  refine wpAny_Call_NameR (blt HB hE C.base hx (by kernel_rfl) rfl (by decide) ?_)
  refine PyProof.Rows.callWith_type1 ?_ hse rfl
  refine args_cons (he A s H _ E hA C fun v as s₁ k₁ r => args_nil ?_) hse
  cases r
  refine call_range_1 ?_
  refine range_src hA (IsRange.new _ _ _ _ _ _ _) (small_one (by omega) (by omega) (by omega) (by omega)) (fun b hb => let ⟨o, e⟩ := (C.keeps k₁).al b hb; ⟨o, Heap.get?_push_of_some _ e⟩) (k₁.comp push_kp) ?_ hq
  rw [rangeSize_one]
  split <;> omega
theorem down_size (n : Nat) : Builtin.Range.rangeSize (n : Int) 0 (-1) = n := by
  unfold Builtin.Range.rangeSize
  rw [if_neg (by decide), show (- -1 : Int) = 1 from rfl, Int.ediv_one]
  split <;> omega
theorem Src.down {np pos : Pos} {e e' e'' : Expr} {n : Nat} (HB : Bs w B) (hE : EnvOK env) (hx : env.kindOf "range" = some .globalImplicit) (he : Ev w B k env ρ e (.int n)) (he' : Ev w B k env ρ e' (.int 0)) (he'' : Ev w B k env ρ e'' (.int (-1))) (hz : n ≤ 1000000)
    (hs1 : starEach (e :: [e', e'']) env = (false, eval e env) :: starEach [e', e''] env := by rfl) (hs2 : starEach (e' :: [e'']) env = (false, eval e' env) :: starEach [e''] env := by rfl) (hs3 : starEach (e'' :: []) env = (false, eval e'' env) :: starEach [] env := by rfl) (hpl : (backTo pos (starEach [e', e''] env)).any (·.1) = false := by rfl) :
    Src w B k env ρ (.Call (.Name "range" np) [e, e', e''] [] pos) (rng n (-1) n) := fun A s H Q E hA C hq => by
  refine wpAny_Call_NameR (blt HB hE C.base hx (by kernel_rfl) rfl (by decide) ?_)
  refine PyProof.Rows.callWith_type1 ?_ hs1 hpl
  refine EvAll.cons he (EvAll.cons he' (EvAll.cons he'' EvAll.nil hs3) hs2) hs1 A s H pos _ E hA C fun vs as s₁ k₁ r => ?_
  obtain ⟨a, b, c, rfl⟩ := len3 (readsAll_length r)
  cases r with
  | cons r1 r =>
  cases r with
  | cons r2 r =>
  cases r with
  | cons r3 r =>
  cases r1; cases r2; cases r3
  refine call_range_3 (by decide) ?_ (Or.inl (PyProof.noPylong_small (by decide)))
  refine range_src hA (IsRange.new _ _ _ _ _ _ _) ?_ (fun b hb => let ⟨o, e⟩ := (C.keeps k₁).al b hb; ⟨o, Heap.get?_push_of_some _ e⟩) (k₁.comp push_kp) ?_ hq
  · unfold Builtin.Range.small
    rw [down_size]
    simp only [Builtin.Range.rangeFitsLong, Bool.and_eq_true, Bool.or_eq_true, decide_eq_true_eq, beq_iff_eq]
    rw [if_neg (by decide)]
    refine ⟨⟨⟨⟨?_, ?_⟩, ?_⟩, ?_⟩, ?_⟩
    all_goals first | (constructor <;> omega) | (right; constructor <;> decide)
  · exact down_size n
end
end Mine
end
section
open PySem PySem.W PySem.Calls PyProof.Rows PySem.Spec
namespace Mine
section
variable {w : World} {B : Heap} {k : Nat} {env : Env} {ρ : Vars}
theorem Ex.fspath {σ : Sg} {K : Out → Prop} {x t : Str} {a : Str} {n : Nat} {p1 p2 p3 p4 p5 p6 p7 p8 p9 p10 p11 p12 p13 p14 : Pos} {orelse rest : List Stmt} (HB : Bs w B) (hE : EnvOK env) (hx : σ.ρ.lookup x = some (.str a)) (ht : isVar env t) (htx : x ≠ t)
    (g1 : env.kindOf "type" = some .globalImplicit) (g2 : env.kindOf "str" = some .globalImplicit) (g3 : env.kindOf "bytes" = some .globalImplicit) (g4 : env.kindOf "issubclass" = some .globalImplicit) (hK : K (.ret (.str a)))
    (hs : swapsWith (.Call (.Name "type" p2) [.Name x p3] [] p4) (some (.Name t p1)) p5.line env = pure false := by rfl) (hdx : (x == ("__debug__" : Str)) = false := by decide) (hdt : (t == ("__debug__" : Str)) = false := by decide) :
    Ex w B k env σ (.Assign [.Name t p1] (.Call (.Name "type" p2) [.Name x p3] [] p4) p5 :: .If (.Call (.Name "issubclass" p6) [.Name t p7, .Tuple [.Name "str" p8, .Name "bytes" p9] n p10] [] p11) [.Return (some (.Name x p12)) p13] orelse p14 :: rest) K := fun A s Hc H Q E hA S hq => by
  obtain ⟨vs, F, hρ, hown⟩ := S.fr
  obtain ⟨hxv, v, as, hv, r⟩ := hρ x _ hx
  refine wpAny_execs_cons (wpAny_Assign_Name ?_ hs)
  refine wpAny_Call_NameR (blt (w := w) HB hE S.base g1 (by kernel_rfl) rfl (by decide) ?_)
  refine callWith_type1 (args_cons (wpAny_Name (F.var hxv hv (fun _ _ e => e) (args_nil ?_)) hdx))
  refine call_type_of (typeIs_reads r) (by decide) ?_
  refine F.store ht fun h' tk F' hk hz => ?_
  have hB' : B.StaysIn h' := fun b o e => hk b o (fun q => by rw [F.new b q] at e; cases e) (S.base b o e)
  refine wpAny_execs_cons (wpAny_If (isTrue_plain ?_))
  refine wpAny_Call_NameR (blt (w := w) HB hE hB' g4 (by kernel_rfl) rfl (by decide) ?_)
  refine PyProof.Rows.callWith_builtin1 ?_
  refine args_cons (wpAny_Name (F'.var (v := .type "str") ht (if_pos rfl) (fun _ _ e => e) ?_) hdt)
  refine args_cons (Tuple_ (args_cons (blt (w := w) HB hE hB' g2 (by kernel_rfl) rfl (by decide) (args_cons (blt (w := w) HB hE hB' g3 (by kernel_rfl) rfl (by decide) (args_nil ?_))))))
  refine wpAny_newObj_type (data := .seq #[.type "str", .type "bytes"]) ?_ (by show 2 ≤ sizeLine; decide)
  refine args_nil ?_
  refine call_issub (cs := [.type "str", .type "bytes"]) rfl (Heap.get?_push_size _ rfl) ?_
  refine wpAny_truthy_bool ?_
  rw [if_pos rfl]
  have k₁ : ∀ b o, h'.get? b = some o → (h'.push { cls := .type "tuple", data := .seq #[.type "str", .type "bytes"] }).get? b = some o := fun b o e => Heap.get?_push_of_some _ e
  refine wpAny_execs_cons (wpAny_Return_some (wpAny_Name (F'.var hxv (v := v) (by rw [if_neg htx]; exact hv) k₁ ?_) hdx))
  refine hq (.ret (.str a)) _ _ hK ⟨_, [], rfl, ?_, ⟨⟨_, _, rfl⟩, fun b o hb e => k₁ b o (hk b o (fun q => hb.elim (fun z => (S.hc b z).2 q) fun z => z (S.fpH b q)) e)⟩⟩
  cases r
  exact .str _ _
theorem fspath_ok (HB : Bs w B) (x : Str) : CallOK w B (k + 1) 117 [.str x] (.str x) := by
  refine callOK_fn (fd := fd117) (body := bdS (stm 12)) ["path"] HB (by kernel_rfl) (by kernel_rfl) (by decide +kernel) rfl (fun vs h => ?_) fun L => ?_
  · obtain ⟨a, rfl⟩ := len1 h; kernel_rfl
  · exact Ex.fspath (x := "path") (t := "kind") HB ⟨by kernel_rfl, rfl, rfl⟩ rfl (.inl (by kernel_rfl)) (by decide) (by kernel_rfl) (by kernel_rfl) (by kernel_rfl) (by kernel_rfl) rfl
theorem sub_str_bytes : isSubtype (.type "str") (.type "bytes") = pure false := by rw [isSubtype_type]; kernel_rfl
theorem type_of_bytes : typeOf (.type "bytes") = pure (.type "type") := by first | rfl | kernel_rfl
theorem Ts.isBytes {e : Expr} {p1 p2 p3 : Pos} {a : Str} (HB : Bs w B) (hE : EnvOK env) (he : Ev w B k env ρ e (.str a)) (g1 : env.kindOf "isinstance" = some .globalImplicit) (g2 : env.kindOf "bytes" = some .globalImplicit)
    (hse : starEach (e :: [.Name "bytes" p2]) env = (false, eval e env) :: starEach [.Name "bytes" p2] env := by rfl) : Ts w B k env ρ (.Call (.Name "isinstance" p1) [e, .Name "bytes" p2] [] p3) false := fun A s H Q E hA C hq => by
  refine isTrue_plain ?_
  refine wpAny_Call_NameR (blt (w := w) HB hE C.base g1 (by kernel_rfl) rfl (by decide) ?_)
  refine PyProof.Rows.callWith_builtin1 ?_ hse
  refine args_cons (he A s H _ E hA C fun v as s₁ k₁ r => args_cons (blt (w := w) HB hE (C.keeps k₁).base g2 (by kernel_rfl) rfl (by decide) (args_nil ?_))) hse
  cases r
  refine call_isinstance (isinstance_false_str (by decide) type_of_bytes sub_str_bytes) ?_
  exact wpAny_truthy_bool (hq _ (k₁.comp (Kp.tok _)))
theorem getsep_ok (HB : Bs w B) (x : Str) : CallOK w B (k + 1) 242 [.str x] (.str "/") := by
  refine callOK_fn (fd := fd242) (body := bdS (stm 32)) ["path"] HB (by kernel_rfl) (by kernel_rfl) (by decide +kernel) rfl (fun vs h => ?_) fun L => ?_
  · obtain ⟨a, rfl⟩ := len1 h; kernel_rfl
  have hE : EnvOK (callEnv fd242 L 242) := envOK fd242 (by kernel_rfl)
  exact Ex.cons (Es.iff (Ts.isBytes HB hE Ev.name (by kernel_rfl) (by kernel_rfl)) (fun h => absurd h (by decide)) fun _ => Ex.cons (Es.ret Ev.cStr rfl))
end
end Mine
end
section
open PySem PySem.W PySem.Calls PyProof.Rows PySem.Spec
namespace Mine
section
variable {w : World} {B : Heap} {k : Nat} {env : Env} {ρ : Vars}
theorem slice_le' (x : Str) (l u : Option Int) : (Txt.slice x l u).length ≤ x.length := Txt.slice_le x l u
noncomputable def dirH (p : Str) : Str := Txt.slice p none (some (Txt.rfind p "/" + 1))
noncomputable def dirB (p : Str) : Bool := (dirH p).length != 0 && dirH p != Txt.mul "/" (dirH p).length
noncomputable def dirS (p : Str) : Str := if dirB p = true then Txt.rstripChars (dirH p) "/" else dirH p
theorem mulOk_slash {n : Nat} (h : n ≤ 1000) : MulOk "/" n := by
  refine ⟨?_, fun h1 h2 => ?_, fun h1 h2 => ?_⟩
  · simp; omega
  · have e : ("/" : Str).length = 1 := by decide +kernel
    rw [e]
    have : (1 : Int) ≤ (2 ^ 63 - 1) / (n : Int) := by
      rw [Int.le_ediv_iff_mul_le (by omega)]
      omega
    omega
  · have e : ("/" : Str).length = 1 := by decide +kernel
    rw [e]
    show decide (_ > sizeLine) = false
    simp only [sizeLine_eq, decide_eq_false_iff_not]
    omega
theorem dirname_ok (HB : Bs w B) (p : Str) (hp : p.length ≤ 1000) : CallOK w B (k + 2) 249 [.str p] (.str (dirS p)) := by
  refine callOK_fn (fd := fd249) (body := bdS (stm 33)) ["p"] HB (by kernel_rfl) (by kernel_rfl) (by decide +kernel) rfl (fun vs h => ?_) fun L => ?_
  · obtain ⟨a, rfl⟩ := len1 h; kernel_rfl
  have hE : EnvOK (callEnv fd249 L 249) := envOK fd249 (by kernel_rfl)
  have hl : (dirH p).length ≤ 1000 := Nat.le_trans (slice_le' _ _ _) hp
  refine Ex.cons (Es.assign (Ev.fn 117 fd117 HB hE (by kernel_rfl) (EvAll.cons Ev.name EvAll.nil) (fspath_ok HB p)) (.inl (by kernel_rfl)) trivial ?_)
  refine Ex.cons (Es.assign (Ev.fn 242 fd242 HB hE (by kernel_rfl) (EvAll.cons Ev.name EvAll.nil) (getsep_ok HB p)) (.inl (by kernel_rfl)) trivial ?_)
  refine Ex.cons (Es.assign (Ev.addI (Ev.rfind Ev.name Ev.name) Ev.cInt) (.inl (by kernel_rfl)) trivial ?_)
  refine Ex.cons (Es.assign (Ev.sliceS Ev.name (l := none) (u := some _) trivial Ev.name (by rw [sizeLine_eq]; omega)) (.inl (by kernel_rfl)) trivial ?_)
  refine Ex.cons (Es.iff (c := dirB p) ?_ (fun h => ?_) fun h => ?_)
  · refine Ts.eq (Ts.and (Ts.plain Ev.name (small_str (x := dirH p) (by omega))) fun _ => Ts.and (Ts.cmp Ev.name (Ev.mulS Ev.name (Ev.lenS (x := "len") HB hE (by kernel_rfl) Ev.name (by show (dirH p).length ≤ _; omega)) (mulOk_slash hl)) Cmp.neS) fun _ => Ts.and0) ?_
    show (_ && (_ && true)) = _
    rw [Bool.and_true]; rfl
  · refine Ex.cons (Es.assign (Ev.rstrip (a := dirH p) Ev.name Ev.name (by rw [sizeLine_eq]; omega)) (.inl (by kernel_rfl)) trivial ?_)
    refine Ex.nil (Ex.cons (Es.ret Ev.name ?_))
    show _ = _
    unfold dirS; rw [if_pos h]
  · refine Ex.nil (Ex.cons (Es.ret Ev.name ?_))
    unfold dirS; rw [if_neg (by rw [h]; decide)]; rfl
theorem splitext_ok (HB : Bs w B) (p : Str) (hp : p.length ≤ 1000) (h1 : Txt.rfind p "/" = -1) (h2 : Txt.rfind p "." = 1) (h3 : (Txt.slice p (some 0) (some 1) != ".") = true) : CallOK w B (k + 3) 159 [.str p] (.tuple [.str (Txt.slice p none (some 1)), .str (Txt.slice p (some 1) none)]) := by
  refine callOK_fn (fd := fd159) (body := bdS (stm 20)) ["p"] HB (by kernel_rfl) (by kernel_rfl) (by decide +kernel) rfl (fun vs h => ?_) fun L => ?_
  · obtain ⟨a, rfl⟩ := len1 h; kernel_rfl
  have hE : EnvOK (callEnv fd159 L 159) := envOK fd159 (by kernel_rfl)
  have hz : p.length ≤ sizeLine := by rw [sizeLine_eq]; omega
  refine Ex.cons (Es.assign (Ev.fn 131 fd131 HB hE (by kernel_rfl) (EvAll.cons Ev.cStr (EvAll.cons Ev.name EvAll.nil)) (fspathU_ok HB _ p)) (.inl (by kernel_rfl)) trivial ?_)
  refine Ex.cons (Es.assign Ev.cStr (.inl (by kernel_rfl)) trivial ?_)
  refine Ex.cons (Es.assign Ev.cStr (.inl (by kernel_rfl)) trivial ?_)
  refine Ex.cons (Es.assign ((Ev.rfind Ev.name Ev.name).eq (congrArg PyData.int h1)) (.inl (by kernel_rfl)) trivial ?_)
  refine Ex.cons (Es.assign ((Ev.rfind Ev.name Ev.name).eq (congrArg PyData.int h2)) (.inl (by kernel_rfl)) trivial ?_)
  refine Ex.cons (Es.iff (Ts.cmp Ev.name Ev.name Cmp.gtI) (fun _ => ?_) fun h => absurd h (by decide))
  refine Ex.cons (Es.assign ((Ev.addI (a := -1) (b := 1) Ev.name Ev.cInt).eq (d' := .int 0) rfl) (.inl (by kernel_rfl)) trivial ?_)
  refine Ex.cons (Es.while 1 ⟨true, Ts.cmp Ev.name Ev.name Cmp.ltI, fun h => absurd h (by decide), fun _ => ?_⟩)
  refine Ex.cons (Es.iff (c := true) (Ts.eq (Ts.cmp (Ev.sliceS (l := some 0) (u := some 1) Ev.name Ev.name ((Ev.addI (a := 0) (b := 1) Ev.name Ev.cInt).eq (d' := .int 1) rfl) hz) Ev.name Cmp.neS) h3) (fun _ => ?_) fun h => absurd h (by decide))
  exact Ex.cons (Es.ret (Ev.dispT (EvAll.cons (Ev.sliceS (l := none) (u := some _) Ev.name trivial Ev.name hz) (EvAll.cons (Ev.sliceS (l := some _) (u := none) Ev.name Ev.name trivial hz) EvAll.nil)) (by show 2 ≤ 1000000; decide)) rfl)
theorem modname_ok (HB : Bs w B) (p : Str) (hp : p.length ≤ 1000) (h1 : Txt.rfind (baseS p) "/" = -1) (h2 : Txt.rfind (baseS p) "." = 1) (h3 : (Txt.slice (baseS p) (some 0) (some 1) != ".") = true) : CallOK w B (k + 4) 235 [.str p] (.str (Txt.slice (baseS p) none (some 1))) := by
  refine callOK_fn (fd := fd235) (body := bdS (stm 30)) ["path"] HB (by kernel_rfl) (by kernel_rfl) (by decide +kernel) rfl (fun vs h => ?_) fun L => ?_
  · obtain ⟨a, rfl⟩ := len1 h; kernel_rfl
  have hE : EnvOK (callEnv fd235 L 235) := envOK fd235 (by kernel_rfl)
  refine Ex.cons (Es.assign (Ev.fn 180 fd180 HB hE (by kernel_rfl) (EvAll.cons Ev.name EvAll.nil) (basename_ok HB p hp)) (.inl (by kernel_rfl)) trivial ?_)
  refine Ex.cons (Es.unpack2 (Ev.fn 159 fd159 HB hE (by kernel_rfl) (EvAll.cons Ev.name EvAll.nil) (splitext_ok HB (baseS p) (Nat.le_trans (slice_le' _ _ _) hp) h1 h2 h3)) (.inl (by kernel_rfl)) (.inl (by kernel_rfl)) trivial trivial ?_)
  exact Ex.cons (Es.ret Ev.name rfl)
end
end Mine
end
section
open PySem PySem.W PySem.Calls PyProof.Rows PySem.Spec
namespace Mine
theorem lookup_snoc {α : Type} (l : List (Str × α)) (n : Str) (v : α) (x : Str) : (l ++ [(n, v)]).lookup x = (l.lookup x).or (if x = n then some v else none) := by
  rw [List.lookup_append]
  congr 1
  simp only [List.lookup_cons, List.lookup_nil]
  by_cases h : x = n
  · subst h; simp
  · simp [h, beq_eq_false_iff_ne.mpr h]
theorem bindL_eq {kd : Str → Option NameKind} {x : Str} (hx : kd x = some .local) : ∀ (binds : List (Str × Value)) (m : Str → Option Value), bindL kd binds m x = (binds.reverse.lookup x).or (m x)
  | [], m => rfl
  | (n, v) :: r, m => by
    unfold bindL
    rw [bindL_eq hx r, List.reverse_cons, lookup_snoc]
    by_cases h : x = n
    · subst h; rw [if_pos hx]; simp
    · by_cases hn : kd n = some .local
      · rw [if_pos hn]; simp [h]
      · rw [if_neg hn]; simp [h]
theorem bindC_eq {kd : Str → Option NameKind} {x : Str} (hx : kd x ≠ some .local) : ∀ (binds : List (Str × Value)) (m : Str → Option Value), bindC kd binds m x = (binds.reverse.lookup x).or (m x)
  | [], m => rfl
  | (n, v) :: r, m => by
    unfold bindC
    rw [bindC_eq hx r, List.reverse_cons, lookup_snoc]
    by_cases h : x = n
    · subst h; rw [if_neg hx]; simp
    · by_cases hn : kd n = some .local
      · rw [if_pos hn]; simp [h]
      · rw [if_neg hn]; simp [h]
theorem cells_have : ∀ (names : List (Str × NameKind)) (n : Nat) (acc : List (Str × Addr)) (x : Str), ((x, NameKind.cell) ∈ names ∨ (acc.lookup x).isSome = true) → ((cellsFrom n names acc).lookup x).isSome = true
  | [], n, acc, x, h => by
    rcases h with h | h
    · cases h
    · exact h
  | (y, kd) :: r, n, acc, x, h => by
    unfold cellsFrom
    split
    · rename_i hc
      refine cells_have r (n + 1) _ x ?_
      rcases h with h | h
      · rcases List.mem_cons.mp h with e | h
        · cases e; right; simp
        · exact .inl h
      · right
        rw [List.lookup_cons]
        split
        · rfl
        · exact h
    · rename_i hc
      refine cells_have r n acc x ?_
      rcases h with h | h
      · rcases List.mem_cons.mp h with e | h
        · cases e; simp at hc
        · exact .inl h
      · exact .inr h
theorem cells_nodup : ∀ (names : List (Str × NameKind)) (n : Nat) (acc : List (Str × Addr)), (names.map (·.1) ++ acc.map (·.1)).Nodup → ((cellsFrom n names acc).map (·.1)).Nodup
  | [], n, acc, h => by unfold cellsFrom; simpa using h
  | (y, kd) :: r, n, acc, h => by
    unfold cellsFrom
    have h' : (y :: (r.map (·.1) ++ acc.map (·.1))).Nodup := h
    split
    · refine cells_nodup r (n + 1) ((y, n) :: acc) ?_
      have : (r.map (·.1) ++ ((y, n) :: acc).map (·.1)) = r.map (·.1) ++ y :: acc.map (·.1) := rfl
      rw [this]
      exact (List.perm_middle.nodup_iff).mpr h'
    · exact cells_nodup r n acc (List.nodup_cons.mp h').2
theorem look_of_mem {α : Type} : ∀ {l : List (Str × α)}, (l.map (·.1)).Nodup → ∀ {x : Str} {c : α}, (x, c) ∈ l → l.lookup x = some c
  | [], _, x, c, h => by cases h
  | (y, d) :: r, hn, x, c, h => by
    obtain ⟨h1, h2⟩ := List.nodup_cons.mp hn
    rw [List.lookup_cons]
    rcases List.mem_cons.mp h with e | h
    · cases e; simp
    · have : x ≠ y := fun e => h1 (e ▸ List.mem_map.mpr ⟨(x, c), h, rfl⟩)
      rw [beq_eq_false_iff_ne.mpr this]
      exact look_of_mem h2 h
noncomputable def fnOkC (fd : FuncData) (names : List Str) : Bool :=
  (names.all fun x => fd.scope.names.lookup x == some .local || fd.scope.names.lookup x == some .cell) && decide names.Nodup && decide (fd.scope.names.map (·.1)).Nodup && fd.closure.isEmpty && (fd.scope.kind == .function) && !fd.scope.isCoroutine && !fd.scope.isGenerator
section
variable {w : World} {B : Heap} {k : Nat}
theorem enter0 {f : Addr} {fd : FuncData} {body : List Stmt} {names : List Str} {ρ : Vars} {G : List (Str × Value) → Shared → Prop} (HB : Bs w B)
    (ho : List.lookup f (KP w.params) = some ⟨.type "function", none, .func fd, #[]⟩) (hcd : codeIn (KP w.params) fd.code fd.qualname = true) (hok : fnOkC fd names = true) (hbody : fd.body = .stmts body)
    {A : Around} {s : Shared} {args : Args} {R : Result → Shared → Prop} {H : List Addr} (hA : AOK (k + 1) A) (hB : B.StaysIn s.heap) (hal : ∀ b ∈ H, ∃ o, s.heap.get? b = some o)
    (hbind : ∀ (Q : List (Str × Value) → Shared → Prop) (E : Value → Shared → Prop), (∀ binds s', Kp s s' → G binds s' → Q binds s') → wpAny (model pg w) A.in1 (bindArgs fd args) Q E s)
    (hG : ∀ binds s', Kp s s' → G binds s' → (∀ x ∈ binds, x.1 ∈ names) ∧ ∀ x d, ρ.lookup x = some d → x ∈ names ∧ ∃ v bs, binds.reverse.lookup x = some v ∧ Reads (hideAll s'.heap H) v d bs)
    (h : ∀ L binds s₁ s₂, Kp s s₁ → G binds s₁ → Kp s₁ s₂ → Fm B (callEnvC fd L f) s₂.heap (fun x => binds.reverse.lookup x) → Sr B (callEnvC fd L f) H (fp (callEnvC fd L f) ++ H) s₂.heap ⟨ρ, none⟩ → (∀ b ∈ fp (callEnvC fd L f), s₁.heap.get? b = none) →
      wpAny (model pg w) (A.deeper (callEnvC fd L f)) (execs body (callEnvC fd L f)) (fun f s' => R (.ok (.ret (match f with | .ret v => v | _ => .none))) s')
        (fun e s' => wpAny (model pg w) (A.deeper (callEnvC fd L f)) (leaving (callEnvC fd L f) e) (fun _ s'' => R (.error e) s'') (fun e' s'' => R (.error e') s'') s') s₂) :
    codeAny (model pg w) A (.call (.ref f) args) R s := by
  simp only [fnOkC, Bool.and_eq_true, List.all_eq_true, Bool.or_eq_true, beq_iff_eq, decide_eq_true_eq, Bool.not_eq_true', List.isEmpty_iff] at hok
  obtain ⟨⟨⟨⟨⟨⟨hnk, hnd⟩, hns⟩, hcl⟩, hk⟩, hco⟩, hgen⟩ := hok
  refine codeAny_call_function hA.room (hB _ _ (HB.K f _ ho)) rfl hco hgen hbody (codeRec_of (K := KP w.params) (fun a o e => hB _ _ (HB.K a o e)) hcd) ?_
  refine hbind _ _ fun binds s₁ k₁ hg => ?_
  obtain ⟨hg1, hg2⟩ := hG binds s₁ k₁ hg
  rw [hcl]
  have celln : ∀ x, fd.scope.names.lookup x = some .cell → ((cellsFrom (s₁.heap.objs.size + 1) fd.scope.names []).lookup x).isSome = true := fun x hx => cells_have _ _ _ x (.inl (look_mem hx))
  refine wpAny_newFunctionEnv_cells hk (fun x hx => ?_) fun env he s₂ IC => ?_
  · rcases hnk x.1 (hg1 x hx) with q | q
    · exact .inl q
    · exact .inr ⟨q, celln _ q⟩
  subst he
  obtain ⟨h₂, tk, rfl⟩ := IC.toInCall.same
  have k₂ : Kp s₁ { s₁ with heap := h₂, toks := tk } := Kp.to IC.toInCall.keep
  have kk := k₁.comp k₂
  refine ⟨(HB.nolimit.keeps hB).keeps fun b o e => kk.keep b o e, codeAny_func ?_⟩
  have hlt : ∀ b ∈ fp (callEnvC fd s₁.heap.objs.size f), s₁.heap.objs.size ≤ b := fun b hb => by
    rcases List.mem_cons.mp hb with rfl | hb
    · exact Nat.le_refl _
    · obtain ⟨p, hp, rfl⟩ := List.mem_map.mp hb
      exact Nat.le_of_lt (IC.above p.1 p.2 hp)
  have nw₁ : ∀ b ∈ fp (callEnvC fd s₁.heap.objs.size f), s₁.heap.get? b = none := fun b hb => by
    cases e : s₁.heap.get? b with
    | none => rfl
    | some o => exact absurd (Heap.lt_size e) (Nat.not_lt.mpr (hlt b hb))
  have nw : ∀ b ∈ fp (callEnvC fd s₁.heap.objs.size f), s.heap.get? b = none := fun b hb => by
    cases e : s.heap.get? b with
    | none => rfl
    | some o => have := k₁.keep b o e; rw [nw₁ b hb] at this; cases this
  have nH : ∀ b ∈ fp (callEnvC fd s₁.heap.objs.size f), b ∉ H := fun b hb q => by obtain ⟨o, e⟩ := hal b q; rw [nw b hb] at e; cases e
  have up : ∀ b o, (hideAll s₁.heap H).get? b = some o → (hideAll h₂ (fp (callEnvC fd s₁.heap.objs.size f) ++ H)).get? b = some o := fun b o e => by
    have hb := not_hid e
    have ea := of_hideAll H e
    refine hideAll_get _ (k₂.keep b o ea) fun q => ?_
    rcases List.mem_append.mp q with q | q
    · rw [nw₁ b q] at ea; cases ea
    · exact hb q
  have F : Fm B (callEnvC fd s₁.heap.objs.size f) h₂ (fun x => binds.reverse.lookup x) := by
    refine ⟨hk, ⟨_, IC.toInCall.ns, fun x hx => ?_⟩, fun x hx => ?_, fun x y c e e' => ?_, fun x c e => ?_, fun b hb => ?_⟩
    · refine (bindL_eq (show (newEnv fd.scope s₁.heap.objs.size fd.globals (cellsFrom (s₁.heap.objs.size + 1) fd.scope.names []) (fd.qualname ++ ".<locals>.") (some f) fd.code none fd.builtins).kindOf x = some .local from hx) _ _).trans ?_
      cases List.lookup x binds.reverse <;> rfl
    · obtain ⟨c, hc⟩ := Option.isSome_iff_exists.mp (celln x hx)
      refine ⟨c, hc, ?_⟩
      have := IC.cell x c hc
      rw [bindC_eq (by rw [show (newEnv fd.scope s₁.heap.objs.size fd.globals (cellsFrom (s₁.heap.objs.size + 1) fd.scope.names []) (fd.qualname ++ ".<locals>.") (some f) fd.code none fd.builtins).kindOf x = some .cell from hx]; decide)] at this
      cases q : List.lookup x binds.reverse with
      | none => rw [q] at this; exact this
      | some v => rw [q] at this; exact this
    · exact name_of_addr IC.apart (mem_of_lookup e) (mem_of_lookup e')
    · exact Nat.ne_of_gt (IC.above x c (mem_of_lookup e))
    · cases e : B.get? b with
      | none => rfl
      | some o => have := hB b o e; rw [nw b hb] at this; cases this
  refine h s₁.heap.objs.size binds s₁ _ k₁ hg k₂ F ?_ nw₁
  refine ⟨stays_kp hB kk, ⟨fun x => binds.reverse.lookup x, F, fun x d e => ?_, fun x ds e => by cases e⟩, fun b hb => List.mem_append_left _ hb, fun b hb => ⟨List.mem_append_right _ hb, fun q => nH b q hb⟩, fun b hb => ?_⟩
  · obtain ⟨hx, v, bs, hv, r'⟩ := hg2 x d e
    exact ⟨hnk x hx, v, bs, hv, Reads.keeps up r'⟩
  · rcases List.mem_append.mp hb with hb | hb
    · rcases List.mem_cons.mp hb with rfl | hb
      · obtain ⟨o, _, _, e, _⟩ := IC.toInCall.ns; exact ⟨o, e⟩
      · obtain ⟨p, hp, rfl⟩ := List.mem_map.mp hb
        have hlk := look_of_mem (cells_nodup fd.scope.names (s₁.heap.objs.size + 1) [] (by simpa using hns)) hp
        obtain ⟨o, e, _⟩ := IC.cell p.1 p.2 hlk
        exact ⟨o, e⟩
    · obtain ⟨o, e⟩ := hal b hb; exact ⟨o, kk.keep b o e⟩
theorem enter {f : Addr} {fd : FuncData} {body : List Stmt} {names : List Str} {es : List PyData} (HB : Bs w B)
    (ho : List.lookup f (KP w.params) = some ⟨.type "function", none, .func fd, #[]⟩) (hcd : codeIn (KP w.params) fd.code fd.qualname = true) (hok : fnOkC fd names = true) (hbody : fd.body = .stmts body)
    {A : Around} {s : Shared} {args : Args} {R : Result → Shared → Prop} {H : List Addr} (hA : AOK (k + 1) A) (hB : B.StaysIn s.heap) (hal : ∀ b ∈ H, ∃ o, s.heap.get? b = some o)
    (hbind : ∀ (Q : List (Str × Value) → Shared → Prop) (E : Value → Shared → Prop), (∀ vs' as' s', Kp s s' → ReadsAll (hideAll s'.heap H) vs' es as' → Q (names.zip vs') s') → wpAny (model pg w) A.in1 (bindArgs fd args) Q E s)
    (h : ∀ L s₂, Kp s s₂ → Sr B (callEnvC fd L f) H (fp (callEnvC fd L f) ++ H) s₂.heap ⟨names.zip es, none⟩ → (∀ b ∈ fp (callEnvC fd L f), s.heap.get? b = none) →
      wpAny (model pg w) (A.deeper (callEnvC fd L f)) (execs body (callEnvC fd L f)) (fun f s' => R (.ok (.ret (match f with | .ret v => v | _ => .none))) s')
        (fun e s' => wpAny (model pg w) (A.deeper (callEnvC fd L f)) (leaving (callEnvC fd L f) e) (fun _ s'' => R (.error e) s'') (fun e' s'' => R (.error e') s'') s') s₂) :
    codeAny (model pg w) A (.call (.ref f) args) R s := by
  have hnd : names.Nodup := by
    simp only [fnOkC, Bool.and_eq_true, decide_eq_true_eq] at hok
    exact hok.1.1.1.1.1.2
  refine enter0 (names := names) (ρ := names.zip es) (G := fun binds s' => ∃ vs as, binds = names.zip vs ∧ ReadsAll (hideAll s'.heap H) vs es as) HB ho hcd hok hbody hA hB hal (fun Q E hQ => hbind Q E fun vs as s' k' r => hQ _ s' k' ⟨vs, as, rfl, r⟩) ?_ ?_
  · rintro binds s' k' ⟨vs, as, rfl, r⟩
    exact ⟨fun x hx => (List.of_mem_zip hx).1, fun x d e => zip_look hnd r x d e⟩
  · intro L binds s₁ s₂ k₁ _ k₂ _ S nw₁
    refine h L s₂ (k₁.comp k₂) S fun b hb => ?_
    cases e : s.heap.get? b with
    | none => rfl
    | some o => have := k₁.keep b o e; rw [nw₁ b hb] at this; cases this
theorem callOK_gen {f : Addr} {fd : FuncData} {body : List Stmt} (names : List Str) {ds es : List PyData} {d : PyData} (HB : Bs w B)
    (ho : List.lookup f (KP w.params) = some ⟨.type "function", none, .func fd, #[]⟩) (hcd : codeIn (KP w.params) fd.code fd.qualname = true) (hok : fnOkC fd names = true) (hbody : fd.body = .stmts body)
    (hbind : ∀ (A : Around) (s : Shared) (H : List Addr) (vs : List Value) (as : List Addr) (Q : List (Str × Value) → Shared → Prop) (E : Value → Shared → Prop), B.StaysIn s.heap → (∀ b ∈ H, ∃ o, s.heap.get? b = some o) → ReadsAll (hideAll s.heap H) vs ds as →
      (∀ vs' as' s', Kp s s' → ReadsAll (hideAll s'.heap H) vs' es as' → Q (names.zip vs') s') → wpAny (model pg w) A (bindArgs fd ⟨vs, []⟩) Q E s)
    (h : ∀ L, Ex w B k (callEnvC fd L f) ⟨names.zip es, none⟩ body (fun o => o = .ret d)) : CallOK w B (k + 1) f ds d := fun A s H vs as Q E hA hB hal r hq => by
  refine wpAny_call (enter (H := H) HB ho hcd hok hbody hA hB hal (fun Q E hQ => hbind _ s H vs as Q E hB hal r hQ) fun L s₂ k₂ S nfp => ?_)
  refine h L _ s₂ H (fp (callEnvC fd L f) ++ H) _ _ hA.deeper S fun out fl s' hK ho' => ?_
  subst hK
  obtain ⟨v, bs, rfl, r', m⟩ := ho'
  refine hq v bs s' ?_ r'
  refine Kp.of (sm_trans k₂.sm m.same) fun b o e => m.sub b o ?_ (k₂.keep b o e)
  by_cases q : b ∈ H
  · exact .inl q
  · refine .inr fun z => ?_
    rcases List.mem_append.mp z with z | z
    · rw [nfp b z] at e; cases e
    · exact q z
theorem callOK_c {f : Addr} {fd : FuncData} {body : List Stmt} (names : List Str) {ds : List PyData} {d : PyData} (HB : Bs w B)
    (ho : List.lookup f (KP w.params) = some ⟨.type "function", none, .func fd, #[]⟩) (hcd : codeIn (KP w.params) fd.code fd.qualname = true) (hok : fnOkC fd names = true) (hbody : fd.body = .stmts body)
    (hbind : ∀ vs : List Value, vs.length = ds.length → bindArgs fd ⟨vs, []⟩ = pure (names.zip vs))
    (h : ∀ L, Ex w B k (callEnvC fd L f) ⟨names.zip ds, none⟩ body (fun o => o = .ret d)) : CallOK w B (k + 1) f ds d :=
  callOK_gen names HB ho hcd hok hbody (fun A s H vs as Q E hB hal r hq => by rw [hbind vs (readsAll_length r)]; exact wpAny_pure (hq vs as s Kp.rfl' r)) h
theorem envOKC (fd : FuncData) {L a : Addr} (h : (fd.scope.kind, fd.globals, fd.builtins) = (.function, mainGlobals, builtinsNs)) : EnvOK (callEnvC fd L a) := by
  simp only [Prod.mk.injEq] at h
  exact ⟨h.1, h.2.1, h.2.2⟩
end
end Mine
end
section
open PySem PySem.W PySem.Calls PyProof.Rows PySem.Spec
namespace Mine
section
variable {w : World} {B : Heap} {k : Nat} {env : Env} {ρ : Vars} {σ : Sg} {K : Out → Prop}
theorem Ev.orL {e e' : Expr} {pos : Pos} {d : PyData} (h : Ev w B k env ρ e d) (hs : small d) (ht : tru d = true) : Ev w B k env ρ (.BoolOp .Or [e, e'] pos) d := fun A s H Q E hA C hq =>
  BoolOp_or (h A s H _ E hA C fun v as s₁ k₁ r => truthy_data (reads_of_hide r) hs fun s₂ k₂ => by
    rw [ht, if_pos rfl]
    exact hq v as s₂ (k₁.comp k₂) (Reads.keeps k₂.hide r))
theorem Es.move {x y : Str} {px py pos : Pos} {ds : List PyData} (ho : σ.own = some (x, ds)) (hy : isVar env y) (hK : K (.next ⟨σ.ρ.filter (fun p => p.1 != y), some (y, ds)⟩))
    (hs : swapsWith (.Name x px) (some (.Name y py)) pos.line env = pure false := by rfl) (hdb : (x == ("__debug__" : Str)) = false := by decide) : Es w B k env σ (.Assign [.Name y py] (.Name x px) pos) K := fun A s Hc H Q E hA S hq => by
  obtain ⟨vs, F, hρ, hown⟩ := S.fr
  obtain ⟨hx, a, us, as, hv, hl, r, haH, haHc, hafp, haB⟩ := hown x ds ho
  refine wpAny_Assign_Name (wpAny_Name (F.var hx hv (fun _ _ q => q) ?_) hdb) hs
  refine F.store hy fun h' tk F' hk hz => ?_
  have m : Mv Hc H s { s with heap := h', toks := tk } := ⟨⟨h', tk, rfl⟩, fun b o hb e => hk b o (fun q => hb.elim (fun z => (S.hc b z).2 q) fun z => z (S.fpH b q)) e⟩
  have up := m.view (Gr.rfl' (H := H))
  refine hq _ _ _ hK ⟨rfl, H, ⟨fun b o e => hk b o (fun q => by rw [F.new b q] at e; cases e) (S.base b o e), ⟨_, F', fun z d e => ?_, fun z ds' e => ?_⟩, S.fpH, S.hc, fun b hb => ?_⟩, m, Gr.rfl'⟩
  · obtain ⟨hzy, e⟩ := look_filter e
    obtain ⟨hz', v', bs, hv', r'⟩ := hρ z d e
    exact ⟨hz', v', bs, by rw [if_neg hzy]; exact hv', Reads.keeps up r'⟩
  · obtain ⟨rfl, rfl⟩ : y = z ∧ ds = ds' := by simpa using e
    exact ⟨hy, a, us, as, by simp, hl.at fun o e => hk a o hafp e, ReadsAll.keeps up r, haH, haHc, hafp, haB⟩
  · obtain ⟨o, e⟩ := S.lt b hb
    exact hz b o e
theorem splitroot_ok (HB : Bs w B) (p : Str) (hp : p.length ≤ 1000) (h1 : (Txt.slice p none (some 1) != "/") = true) : CallOK w B (k + 1) 173 [.str p] (.tuple [.str "", .str "", .str p]) := by
  refine callOK_c (fd := fd173) (body := bdS (stm 22)) ["p"] HB (by kernel_rfl) (by kernel_rfl) (by decide +kernel) rfl (fun vs h => ?_) fun L => ?_
  · obtain ⟨a, rfl⟩ := len1 h; kernel_rfl
  have hE : EnvOK (callEnvC fd173 L 173) := envOKC fd173 (by kernel_rfl)
  have hz : p.length ≤ sizeLine := by rw [sizeLine_eq]; omega
  refine Ex.cons (Es.assign Ev.cStr (.inl (by kernel_rfl)) trivial ?_)
  refine Ex.cons (Es.assign Ev.cStr (.inl (by kernel_rfl)) trivial ?_)
  refine Ex.cons (Es.iff (c := true) (Ts.eq (Ts.cmp (Ev.sliceS (l := none) (u := some 1) Ev.name trivial Ev.cInt hz) Ev.name Cmp.neS) h1) (fun _ => ?_) fun h => absurd h (by decide))
  exact Ex.cons (Es.ret (Ev.dispT (EvAll.cons Ev.name (EvAll.cons Ev.name (EvAll.cons Ev.name EvAll.nil))) (by show 3 ≤ 1000000; decide)) rfl)
noncomputable def plainPart (x : Str) : Bool := decide (x.length ≤ 1000) && x.length != 0 && x != "." && x != ".."
theorem filter_look {ρ : Vars} {x y : Str} (h : y ≠ x) : (ρ.filter (fun p => p.1 != x)).lookup y = ρ.lookup y := by
  induction ρ with
  | nil => rfl
  | cons p r ih =>
    obtain ⟨z, d⟩ := p
    rw [List.filter_cons]
    by_cases hz : z = x
    · subst hz
      rw [if_neg (by simp), List.lookup_cons, beq_eq_false_iff_ne.mpr h]
      exact ih
    · rw [if_pos (by simpa using hz), List.lookup_cons, List.lookup_cons, ih]
noncomputable abbrev Sg.at (σ : Sg) (x : Str) (d : PyData) : Prop := σ.ρ.lookup x = some d
noncomputable abbrev Sg.ow (σ : Sg) (x : Str) (ds : List PyData) : Prop := σ.own = some (x, ds)
theorem Fo.inv {x : Str} {body : List Stmt} (I : List PyData → Sg → Prop) (step : ∀ d ds ρ own, I (d :: ds) ⟨ρ, own⟩ → ownOff ⟨ρ, own⟩ x ∧ Ex w B k env ⟨(x, d) :: ρ, own⟩ body fun o => match o with
      | .next σ' => I ds σ'
      | .cont σ' => I ds σ'
      | .brk σ' => K (.next σ')
      | .ret d => K (.ret d)) (fin : ∀ ρ own, I [] ⟨ρ, own⟩ → K (.next ⟨ρ, own⟩)) : ∀ (xs : List PyData) (σ : Sg), I xs σ → Fo w B k env x body K xs σ
  | [], σ, h => fin σ.ρ σ.own h
  | d :: ds, σ, h => by
    obtain ⟨h1, h2⟩ := step d ds σ.ρ σ.own h
    refine ⟨h1, fun A s Hc H Q E hA S hq => h2 A s Hc H Q E hA S fun o f s' hK ho => hq o f s' ?_ ho⟩
    cases o with
    | next σ' => exact Fo.inv I step fin ds σ' hK
    | cont σ' => exact Fo.inv I step fin ds σ' hK
    | brk σ' => exact hK
    | ret d => exact hK
theorem map_str_cons {xs : List Str} {d : PyData} {ds : List PyData} (h : xs.map PyData.str = d :: ds) : ∃ x ys, xs = x :: ys ∧ d = .str x ∧ ds = ys.map .str := by
  cases xs with
  | nil => cases h
  | cons x ys => cases h; exact ⟨x, ys, rfl, rfl, rfl⟩
theorem normpathU_ok (HB : Bs w B) (p : Str) (hp : p.length ≤ 1000) (h0 : (p.length != 0) = true) (h1 : (Txt.slice p none (some 1) != "/") = true) (hc : (Txt.split p "/").all plainPart = true) (hl : (Txt.split p "/").length ≤ 1000)
    (hn : (Builtin.Str.partsBetween p (Builtin.Str.occurrences p "/" 0 p.length (p.length + 1)) ("/" : Str).length).length ≤ 1000) (hj : Txt.join "/" (Txt.split p "/") = p) (hk : JoinOk "/" (Txt.split p "/") = true) (he : ("" : Str) ++ p = p) : CallOK w B (k + 2) 194 [.str p] (.str p) := by
  refine callOK_c (fd := fd194) (body := bdS (stm 26)) ["path"] HB (by kernel_rfl) (by kernel_rfl) (by decide +kernel) rfl (fun vs h => ?_) fun L => ?_
  · obtain ⟨a, rfl⟩ := len1 h; kernel_rfl
  have hE : EnvOK (callEnvC fd194 L 194) := envOKC fd194 (by kernel_rfl)
  have hz : p.length ≤ sizeLine := by rw [sizeLine_eq]; omega
  have ht : tru (.str p) = true := h0
  have hsm : small (.str p) := small_str (by omega)
  refine Ex.cons (Es.assign Ev.cStr (.inl (by kernel_rfl)) trivial ?_)
  refine Ex.cons (Es.assign Ev.cStr (.inl (by kernel_rfl)) trivial ?_)
  refine Ex.cons (Es.assign Ev.cStr (.inl (by kernel_rfl)) trivial ?_)
  refine Ex.cons (Es.iff (c := false) (Ts.eq (Ts.not (Ts.plain Ev.name hsm)) (by rw [ht]; rfl)) (fun h => absurd h (by decide)) fun _ => Ex.nil ?_)
  refine Ex.cons (Es.unpack3 (Ev.fn 173 fd173 HB hE (by kernel_rfl) (EvAll.cons Ev.name EvAll.nil) (splitroot_ok HB p hp h1)) (.inl (by kernel_rfl)) (.inl (by kernel_rfl)) (.inl (by kernel_rfl)) trivial trivial trivial ?_)
  refine Ex.cons (Es.assign (Ev.split (a := p) (b := "/") Ev.name Ev.name (by decide +kernel) hz (by rw [sizeLine_eq]; omega)) (.inl (by kernel_rfl)) trivial ?_)
  refine Ex.cons (Es.own (.inl (by kernel_rfl)) ?_)
  refine Ex.cons (Es.for (xs := (Txt.split p "/").map .str) (Src.list Ev.name) (.inl (by kernel_rfl)) ?_)
  refine Fo.inv (fun (ds : List PyData) (σ : Sg) => ∃ xs acc : List Str, ds = xs.map .str ∧ Txt.split p "/" = acc ++ xs ∧ σ.ow "new_comps" (acc.map .str) ∧ σ.at "dot" (.str ".") ∧ σ.at "dotdot" (.str "..") ∧ σ.at "sep" (.str "/") ∧ σ.at "initial_slashes" (.str "")) ?_ ?_ _ _ ⟨Txt.split p "/", [], rfl, rfl, rfl, rfl, rfl, rfl, rfl⟩
  · rintro d ds ρ own ⟨xs, acc, e1, e2, e3, d1, d2, d3, d4⟩
    obtain ⟨x, ys, rfl, rfl, rfl⟩ := map_str_cons e1.symm
    simp only [Sg.at, Sg.ow] at e3 d1 d2 d3 d4
    subst e3
    have hx : plainPart x = true := by
      have := List.all_eq_true.mp hc x (by rw [e2]; simp)
      exact this
    simp only [plainPart, Bool.and_eq_true] at hx
    obtain ⟨⟨⟨x0, x1⟩, x2⟩, x3⟩ := hx
    have x0 := of_decide_eq_true x0
    have hxs : small (.str x) := small_str (by omega)
    refine ⟨by show ("new_comps" : Str) ≠ "comp"; decide, ?_⟩
    refine Ex.cons (Es.iff (c := false) (Ts.eq (Ts.or (Ts.not (Ts.plain (d := .str x) Ev.name hxs)) fun _ => Ts.or (Ts.cmp (a := .str x) Ev.name (Ev.name d1) Cmp.eqS) fun _ => Ts.or0) ?_) (fun h => absurd h (by decide)) fun _ => Ex.nil ?_)
    · have e5 : tru (.str x) = true := x1
      have e6 : (x == ".") = false := by
        cases q : (x == ".") with
        | false => rfl
        | true => rw [bne, q] at x2; cases x2
      rw [e5]
      show (_ || (x == "." || false)) = false
      rw [e6]; rfl
    refine Ex.cons (Es.iff (c := true) (Ts.eq (Ts.or (d := false) (Ts.cmp (a := .str x) Ev.name (Ev.name d2) Cmp.neS) fun h => by rw [x3] at h; cases h) (by rw [x3]; rfl)) (fun _ => ?_) fun h => absurd h (by decide))
    refine Ex.cons (Es.append (d := .str x) rfl Ev.name ?_ ?_)
    · have := congrArg List.length e2
      simp at this
      rw [List.length_map]; omega
    refine Ex.nil (Ex.nil ⟨ys, acc ++ [x], rfl, by rw [e2]; simp, by simp, d1, d2, d3, d4⟩)
  · rintro ρ own ⟨xs, acc, e1, e2, e3, d1, d2, d3, d4⟩
    have : xs = [] := by cases xs with
      | nil => rfl
      | cons => cases e1
    subst this
    rw [List.append_nil] at e2
    simp only [Sg.at, Sg.ow] at e3 d1 d2 d3 d4
    subst e3
    rw [e2] at hj hk
    refine Ex.cons (Es.move rfl (.inl (by kernel_rfl)) ?_)
    refine Ex.cons (Es.assignF (d := .str p) ?_ trivial (.inl (by kernel_rfl)) (by show ("comps" : Str) ≠ "path"; decide) ?_)
    · refine Ev.eq (Ev.addS (a := "") (b := Txt.join "/" acc) (Ev.name ?_) (Ev.join (a := "/") (texts := acc) (Ev.name ?_) Ev.name hk) ?_) (by rw [hj, he])
      · exact (filter_look (x := "comps") (by decide)).trans d4
      · exact (filter_look (x := "comps") (by decide)).trans d3
      · rw [hj, sizeLine_eq]; have : ("" : Str).length = 0 := by decide +kernel
        omega
    · refine Ex.cons (Es.ret (Ev.orL (d := .str p) Ev.name hsm ht) rfl)
end
end Mine
end
section
open PySem PySem.W PySem.Calls PyProof.Rows PySem.Spec
namespace Mine
section
variable {w : World} {B : Heap} {k : Nat}
theorem Ex.run {env : Env} {σ : Sg} {ss : List Stmt} {K : Out → Prop} {A : Around} {s : Shared} {Hc H : List Addr} {Q : Flow → Shared → Prop} {E : Value → Shared → Prop} (h : Ex w B k env σ ss K) (hA : AOK k A) (S : Sr B env Hc H s.heap σ) (hq : ∀ o f s', K o → OutOK B env Hc s H o f s' → Q f s') : wpAny (model pg w) A (execs ss env) Q E s := h A s Hc H Q E hA S hq
noncomputable def cpB (a b c : Str) (t2 t3 t4 : Tok) (t dk : Addr) : List (Str × Value) := [("name", .str a t2), ("cname", .str b t3), ("argname", .str c t4), ("args", .ref t), ("kwargs", .ref dk)]
theorem cpath_raw (HB : Bs w B) {A : Around} {s : Shared} {t dk : Addr} {x a b c : Str} {t1 t2 t3 t4 : Tok} {Q : Value → Shared → Prop} {E : Value → Shared → Prop} (hA : AOK (k + 2) A) (hB : B.StaysIn s.heap)
    (ht : s.heap.get? t = some { cls := .type "tuple", data := .seq #[.str x t1] }) (hd : s.heap.get? dk = some { cls := .type "dict", data := .dict #[] }) (hne : (dk == sysModules) = false)
    (hq : ∀ t' s', Kp s s' → Q (.str x t') s') : wpAny (model pg w) A (call (.ref 166) [.str a t2, .str b t3, .str c t4, .ref t, .ref dk]) Q E s := by
  refine wpAny_call (enter0 (fd := fd166) (body := bdS (stm 21)) (names := ["name", "cname", "argname", "args", "kwargs"]) (ρ := [("name", .str a)]) (H := [])
    (G := fun binds s' => s' = s ∧ binds = cpB a b c t2 t3 t4 t dk) HB (by kernel_rfl) (by kernel_rfl) (by decide +kernel) rfl hA hB (fun b hb => nomatch hb) (fun Q E hQ => ?_) ?_ ?_)
  · have e : bindArgs fd166 ⟨[.str a t2, .str b t3, .str c t4, .ref t, .ref dk], []⟩ = pure (cpB a b c t2 t3 t4 t dk) := by kernel_rfl
    rw [e]
    exact wpAny_pure (hQ _ _ Kp.rfl' ⟨rfl, rfl⟩)
  · rintro binds s' k' ⟨rfl, rfl⟩
    refine ⟨fun x hx => ?_, fun x d e => ?_⟩
    · simp only [cpB, List.mem_cons, List.not_mem_nil, or_false] at hx ⊢
      rcases hx with rfl | rfl | rfl | rfl | rfl <;> simp
    · simp only [List.lookup_cons, List.lookup_nil] at e
      split at e
      · rename_i q
        cases e
        have := beq_iff_eq.mp q
        subst this
        exact ⟨.head _, .str a t2, [], by kernel_rfl, .str _ _⟩
      · cases e
  · rintro L binds s₁ s₂ _ ⟨rfl, rfl⟩ k₂ F S nfp
    have hE : EnvOK (callEnvC fd166 L 166) := envOKC fd166 (by kernel_rfl)
    have hA1 : AOK (k + 1) (A.deeper (callEnvC fd166 L 166)) := hA.deeper
    have vargs : isVar (callEnvC fd166 L 166) "args" := .inl (by kernel_rfl)
    have vkw : isVar (callEnvC fd166 L 166) "kwargs" := .inl (by kernel_rfl)
    have bargs : (cpB a b c t2 t3 t4 t dk).reverse.lookup ("args" : Str) = some (.ref t) := by kernel_rfl
    have bkw : (cpB a b c t2 t3 t4 t dk).reverse.lookup ("kwargs" : Str) = some (.ref dk) := by kernel_rfl
    have ht2 := k₂.keep _ _ ht
    have hd2 := k₂.keep _ _ hd
    refine wpAny_execs_cons (wpAny_If ?_)
    refine isTrue_and (wpAny_isTrue_Compare1 ?_)
    refine wpAny_Call_NameR (blt (w := w) HB hE S.base (x := "len") (by kernel_rfl) (by kernel_rfl) rfl (by decide) ?_)
    refine PyProof.Rows.callWith_builtin1 (args_cons (wpAny_Name (F.var vargs bargs (fun _ _ e => e) (args_nil ?_)) (by decide)))
    refine PyProof.Rows.len_tuple ⟨_, ht2, rfl, _, rfl⟩ (by show ((1 : Nat) : Int) < 2 ^ 63; decide) ?_
    refine wpAny_Constant_int ?_
    refine eq_int (wpAny_truthy_bool ?_)
    show wpAny _ _ _ _ _ _
    refine isTrue_and (isTrue_not (isTrue_plain ?_))
    refine wpAny_Name (F.var vkw bkw (fun _ _ e => e) ?_) (by decide)
    refine wpAny_truthy_dict (knd := PySem.strKind pg w) (kvs := []) hne ⟨_, _, _, hd2, ⟨rfl, rfl, rfl⟩, rfl, ?_, .nil, by decide⟩ (by decide) ?_
    · intro j e; simp at e
    refine isTrue_and_nil ?_
    refine wpAny_execs_cons (wpAny_Assign_Name (Subscript_ (wpAny_Name (F.var vargs bargs (fun _ _ e => e) ?_) (by decide))))
    refine wpAny_Constant_int ?_
    refine item_tuple ⟨_, ht2, rfl, _, rfl⟩ (by decide) (by decide) (j := 0) rfl rfl ?_
    refine Sr.store (x := "x") S (.inl (by kernel_rfl)) trivial (.str x t1) fun s₃ S₃ m₃ _ => ?_
    refine wpAny_execs_nil ?_
    refine Ex.run (K := fun o => o = .ret (.str x)) ?_ hA1 S₃ fun o f s' hK ho => ?_
    · refine Ex.cons (Es.assign (Ev.fn 124 fd124 HB hE (by kernel_rfl) (EvAll.cons Ev.name (EvAll.cons Ev.name EvAll.nil)) (kind_ok HB a x)) (.inl (by kernel_rfl)) trivial ?_)
      refine Ex.cons (Es.iff (Ts.plain Ev.name (small_str (by decide))) (fun h => absurd h (by decide)) fun _ => Ex.nil ?_)
      exact Ex.cons (Es.ret Ev.name rfl)
    · subst hK
      obtain ⟨v, bs, rfl, r', m⟩ := ho
      cases r'
      refine hq _ s' ?_
      have m := m₃.comp Gr.rfl' m
      exact Kp.of (sm_trans k₂.sm m.same) fun b o e => m.sub b o (.inr fun z => by rw [List.append_nil] at z; rw [nfp b z] at e; cases e) (k₂.keep b o e)
noncomputable def npB (t dk : Addr) : List (Str × Value) := [("args", .ref t), ("kwargs", .ref dk)]
theorem normpath_ok (HB : Bs w B) (p : Str) (hp : p.length ≤ 1000) (h0 : (p.length != 0) = true) (h1 : (Txt.slice p none (some 1) != "/") = true) (hc : (Txt.split p "/").all plainPart = true) (hl : (Txt.split p "/").length ≤ 1000)
    (hn : (Builtin.Str.partsBetween p (Builtin.Str.occurrences p "/" 0 p.length (p.length + 1)) ("/" : Str).length).length ≤ 1000) (hj : Txt.join "/" (Txt.split p "/") = p) (hk : JoinOk "/" (Txt.split p "/") = true) (he : ("" : Str) ++ p = p) : CallOK w B (k + 3) 201 [.str p] (.str p) := fun A s H vs as Q E hA hB hal r hq => by
  obtain ⟨v, rfl⟩ := len1 (readsAll_length r)
  cases r with
  | cons r1 r2 =>
  cases r1
  rename_i tk0
  refine wpAny_call (enter0 (fd := fd201) (body := bdS (stm 27)) (names := ["args", "kwargs"]) (ρ := []) (H := H)
    (G := fun binds s' => ∃ t dk, binds = npB t dk ∧ s'.heap.get? t = some { cls := .type "tuple", data := .seq #[.str p tk0] } ∧ s'.heap.get? dk = some { cls := .type "dict", data := .dict #[] } ∧ (dk == sysModules) = false) HB (by kernel_rfl) (by kernel_rfl) (by decide +kernel) rfl hA hB hal (fun Q E hQ => ?_) ?_ ?_)
  · have e : bindArgs fd201 ⟨[.str p tk0], []⟩ = (do let t ← newTuple [.str p tk0]; let d ← alloc { cls := .type "dict", data := .dict #[] }; pure [("args", t), ("kwargs", .ref d)]) := by kernel_rfl
    rw [e]
    refine wpAny_bind (wpAny_newTuple ?_ (by show 1 ≤ sizeLine; decide))
    refine wpAny_bind (wpAny_alloc (wpAny_pure ?_))
    have hlt := Heap.lt_size (hB _ _ (HB.K 963 ⟨.type "function", none, .func fd963, #[]⟩ (by kernel_rfl)))
    refine hQ _ _ ((push_kp (t := s.toks)).comp (push_kp (t := s.toks))) ⟨s.heap.objs.size, _, rfl, Heap.get?_push_of_some _ (Heap.get?_push_size _ rfl), Heap.get?_push_size _ rfl, ?_⟩
    rw [Heap.size_push]
    rw [beq_eq_false_iff_ne]
    have hlt : (963 : Nat) < s.heap.objs.size := hlt
    show (s.heap.objs.size + 1 : Nat) ≠ (1 : Nat)
    omega
  · rintro binds s' k' ⟨t, dk, rfl, _⟩
    refine ⟨fun x hx => ?_, fun x d e => by cases e⟩
    simp only [npB, List.mem_cons, List.not_mem_nil, or_false] at hx ⊢
    rcases hx with rfl | rfl <;> simp
  · rintro L binds s₁ s₂ k₁ ⟨t, dk, rfl, ht, hd, hne⟩ k₂ F S nfp
    have hE : EnvOK (callEnvC fd201 L 201) := envOKC fd201 (by kernel_rfl)
    have hA1 : AOK (k + 2) (A.deeper (callEnvC fd201 L 201)) := hA.deeper
    have vargs : isVar (callEnvC fd201 L 201) "args" := .inl (by kernel_rfl)
    have vkw : isVar (callEnvC fd201 L 201) "kwargs" := .inl (by kernel_rfl)
    have bargs : (npB t dk).reverse.lookup ("args" : Str) = some (.ref t) := by kernel_rfl
    have bkw : (npB t dk).reverse.lookup ("kwargs" : Str) = some (.ref dk) := by kernel_rfl
    refine wpAny_execs_cons (wpAny_Return_some ?_)
    refine wpAny_Call_NameR (glob (w := w) HB hE S.base (x := "_normpath") (v := .ref 194) (by kernel_rfl) (by kernel_rfl) ?_ (by decide))
    refine callWith_def (o := ⟨.type "function", none, .func fd194, #[]⟩) (fd := fd194) rfl ?_
    refine args_cons ?_
    refine wpAny_Call_NameR (glob (w := w) HB hE S.base (x := "_c_path") (v := .ref 166) (by kernel_rfl) (by kernel_rfl) ?_ (by decide))
    refine callWith_def (o := ⟨.type "function", none, .func fd166, #[]⟩) (fd := fd166) rfl ?_
    refine args_cons (Constant_str (args_cons (Constant_str (args_cons (Constant_str (args_cons (wpAny_Name (F.var vargs bargs (fun _ _ e => e) (args_cons (wpAny_Name (F.var vkw bkw (fun _ _ e => e) (args_nil ?_)) (by decide)))) (by decide))))))))
    refine ⟨S.base _ _ (HB.K 166 _ (by kernel_rfl)), ?_⟩
    refine cpath_raw HB hA1 S.base (k₂.keep _ _ ht) (k₂.keep _ _ hd) hne fun t' s₃ k₃ => ?_
    have S₃ := S.keeps (s := { s₂ with toks := _ }) k₃
    refine args_nil ⟨S₃.base _ _ (HB.K 194 _ (by kernel_rfl)), ?_⟩
    refine normpathU_ok (k := k) HB p hp h0 h1 hc hl hn hj hk he _ s₃ (fp (callEnvC fd201 L 201) ++ H) [.str p t'] [] _ _ hA1 S₃.base S₃.lt (.cons (as := []) (.str _ _) .nil) fun v as s₄ k₄ r₄ => ?_
    refine hq v as s₄ (((k₁.comp k₂).comp ((Kp.tok _).comp k₃)).comp k₄) (flat.reads trivial r₄)
end
end Mine
end
section
open PySem PySem.W PySem.Calls PyProof.Rows PySem.Spec
namespace Mine
noncomputable def gd (x : Str) : Bool := PyData.canLay0 (.str x) && decide (x.length ≤ 1000)
theorem gd_lay {x : Str} (h : gd x = true) : PyData.canLay0 (.str x) = true := (Bool.and_eq_true_iff.mp h).1
theorem gd_le {x : Str} (h : gd x = true) : x.length ≤ 1000 := of_decide_eq_true (Bool.and_eq_true_iff.mp h).2
theorem lay_strs : ∀ {xs : List Str}, (∀ x ∈ xs, gd x = true) → PyData.canLayAll0 (xs.map .str) = true
  | [], _ => rfl
  | x :: xs, h => by
    show (PyData.canLay0 (.str x) && PyData.canLayAll0 (xs.map .str)) = true
    rw [gd_lay (h x (.head _)), lay_strs fun y hy => h y (.tail _ hy)]; rfl
theorem any_strs (a : Str) : ∀ xs : List Str, ((xs.map PyData.str).any fun y => PyData.eqv y (.str a)) = xs.contains a
  | [] => rfl
  | x :: xs => by
    show (PyData.eqv (.str x) (.str a) || _) = _
    rw [any_strs a xs, List.contains_cons]
    show ((x == a) || _) = _
    congr 1
    exact Bool.beq_comm ..
noncomputable def addNew {α : Type} [BEq α] (acc : List α) (a : α) : List α := if acc.contains a then acc else acc ++ [a]
theorem addNew_mem {α : Type} [BEq α] {acc : List α} {a x : α} (h : x ∈ addNew acc a) : x ∈ acc ∨ x = a := by
  unfold addNew at h
  split at h
  · exact .inl h
  · rcases List.mem_append.mp h with h | h
    · exact .inl h
    · exact .inr (List.mem_singleton.mp h)
theorem addNew_len {α : Type} [BEq α] (acc : List α) (a : α) : (addNew acc a).length ≤ acc.length + 1 := by
  unfold addNew; split <;> simp
inductive Chain : Str → List Str → Prop
  | nil : Chain "" []
  | cons {a : Str} {cs : List Str} : (a != "") = true → gd a = true → Chain (dirS a) cs → Chain a (a :: cs)
section
variable {w : World} {B : Heap} {k : Nat} {env : Env}
theorem climb_wh (HB : Bs w B) (hE : EnvOK env) {p1 p2 p3 p4 p5 p6 p7 p8 p9 p10 p11 p12 p13 p14 p15 p16 p17 : Pos} {n1 : Nat} {K : Out → Prop} (hv : env.kindOf "above" = some .local) (hf : env.kindOf "dirname_posixpath" = some .globalImplicit)
    (hs : swapsWith (.Call (.Name "dirname_posixpath" p14) [.Name "above" p15] [] p16) (some (.Name "above" p13)) p17.line env = pure false) (hi : interactive env = false) (hs2 : swapsWith (.Call (.Attribute (.Name "folders" p8) "append" p9) [.Name "above" p10] [] p11) none p12.line env = pure false) (hl : (p9.endLine == p11.line) = true) {a : Str} {cs : List Str} (hc : Chain a cs) : ∀ (ρ : Vars) (acc : List Str), ρ.lookup ("above" : Str) = some (.str a) → (∀ x ∈ acc, gd x = true) → acc.length + cs.length ≤ 1000 →
    (∀ ρ', K (.next ⟨ρ', some ("folders", (cs.foldl addNew acc).map .str)⟩)) →
    Wh w B (k + 2) env (.Compare (.Name "above" p1) [.NotEq] [.Constant (.str "") n1 p2] p3) [.If (.Compare (.Name "above" p4) [.NotIn] [.Name "folders" p5] p6) [.Expr (.Call (.Attribute (.Name "folders" p8) "append" p9) [.Name "above" p10] [] p11) p12] [] p7, .Assign [.Name "above" p13] (.Call (.Name "dirname_posixpath" p14) [.Name "above" p15] [] p16) p17] K (cs.length + 1) ⟨ρ, some ("folders", acc.map .str)⟩ := by
  induction hc with
  | nil =>
    intro ρ acc h1 h2 h3 hK
    exact ⟨false, Ts.eq (Ts.cmp (Ev.name (d := .str "") h1) Ev.cStr Cmp.neS) (by decide +kernel), fun _ => hK ρ, fun h => absurd h (by decide)⟩
  | cons hn hg hc ih =>
    rename_i a cs
    intro ρ acc h1 h2 h3 hK
    have h1' : (⟨ρ, some ("folders", acc.map .str)⟩ : Sg).rd.lookup ("above" : Str) = some (.str a) := h1
    refine ⟨true, Ts.eq (Ts.cmp (Ev.name (d := .str a) h1') Ev.cStr Cmp.neS) hn, (fun h => absurd h (by decide)), fun _ => ?_⟩
    have go : ∀ acc', acc' = addNew acc a → Ex w B (k + 2) env ⟨ρ, some ("folders", acc'.map .str)⟩ [.Assign [.Name "above" p13] (.Call (.Name "dirname_posixpath" p14) [.Name "above" p15] [] p16) p17] fun o => match o with
        | .next σ' => Wh w B (k + 2) env (.Compare (.Name "above" p1) [.NotEq] [.Constant (.str "") n1 p2] p3) [.If (.Compare (.Name "above" p4) [.NotIn] [.Name "folders" p5] p6) [.Expr (.Call (.Attribute (.Name "folders" p8) "append" p9) [.Name "above" p10] [] p11) p12] [] p7, .Assign [.Name "above" p13] (.Call (.Name "dirname_posixpath" p14) [.Name "above" p15] [] p16) p17] K (cs.length + 1) σ'
        | .cont σ' => Wh w B (k + 2) env (.Compare (.Name "above" p1) [.NotEq] [.Constant (.str "") n1 p2] p3) [.If (.Compare (.Name "above" p4) [.NotIn] [.Name "folders" p5] p6) [.Expr (.Call (.Attribute (.Name "folders" p8) "append" p9) [.Name "above" p10] [] p11) p12] [] p7, .Assign [.Name "above" p13] (.Call (.Name "dirname_posixpath" p14) [.Name "above" p15] [] p16) p17] K (cs.length + 1) σ'
        | .brk σ' => K (.next σ')
        | .ret d => K (.ret d) := by
      rintro acc' rfl
      refine Ex.cons (Es.assign (Ev.fn 249 fd249 HB hE (by rw [hf]; kernel_rfl) (EvAll.cons (Ev.name (d := .str a) h1) EvAll.nil) (dirname_ok HB a (gd_le hg))) (.inl hv) (by show ("folders" : Str) ≠ "above"; decide) ?_ hs)
      refine Ex.nil ?_
      refine ih _ _ rfl (fun x hx => ?_) ?_ fun ρ' => hK ρ'
      · rcases addNew_mem hx with h | rfl
        · exact h2 x h
        · exact hg
      · have := addNew_len acc a
        simp only [List.length_cons] at h3
        omega
    refine Ex.cons (Es.iff (c := !acc.contains a) ?_ (fun h => ?_) fun h => ?_)
    · refine Ts.eq (Ts.cmp (Ev.name (d := .str a) h1') Ev.name (Cmp.ninL (lay_strs h2) (gd_lay hg) ?_)) (by rw [any_strs])
      show min _ 0 ≤ 60
      omega
    · refine Ex.cons (Es.append (d := .str a) rfl (Ev.name h1) ?_ ?_ hl rfl (by decide) hi hs2 rfl)
      · rw [List.length_map]; omega
      · refine Ex.nil ?_
        have e : acc ++ [a] = addNew acc a := by unfold addNew; rw [if_neg (by simpa using h)]
        have := go _ e
        rw [List.map_append] at this
        exact this
    · exact Ex.nil (go _ (by unfold addNew; rw [if_pos (by simpa using h)]))
theorem map_cons_inv {α β : Type} {g : α → β} {xs : List α} {d : β} {ds : List β} (h : d :: ds = xs.map g) : ∃ x ys, xs = x :: ys ∧ d = g x ∧ ds = ys.map g := by
  cases xs with
  | nil => cases h
  | cons x ys => cases h; exact ⟨x, ys, rfl, rfl, rfl⟩
theorem map_nil_inv {α β : Type} {g : α → β} {xs : List α} (h : [] = xs.map g) : xs = [] := by
  cases xs with
  | nil => rfl
  | cons => cases h
theorem foldl_len {α : Type} [BEq α] : ∀ (cs acc : List α), (cs.foldl addNew acc).length ≤ acc.length + cs.length
  | [], acc => Nat.le_refl _
  | c :: cs, acc => by
    have := foldl_len cs (addNew acc c)
    have := addNew_len acc c
    simp only [List.foldl_cons, List.length_cons]
    omega
theorem foldl_mem {α : Type} [BEq α] {P : α → Prop} : ∀ (cs acc : List α), (∀ x ∈ acc, P x) → (∀ x ∈ cs, P x) → ∀ x ∈ cs.foldl addNew acc, P x
  | [], acc, h, _ => h
  | c :: cs, acc, h, h' => foldl_mem cs (addNew acc c) (fun x hx => (addNew_mem hx).elim (h x) fun e => e ▸ h' c (.head _)) fun x hx => h' x (.tail _ hx)
theorem Chain.gds {a : Str} {cs : List Str} (h : Chain a cs) : ∀ x ∈ cs, gd x = true := by
  induction h with
  | nil => intro x hx; cases hx
  | cons _ hg _ ih => intro x hx; rcases List.mem_cons.mp hx with rfl | hx; exact hg; exact ih x hx
theorem climbed_ok (HB : Bs w B) (ps : List (Str × List Str)) (hp : ∀ p ∈ ps, gd p.1 = true ∧ Chain (dirS p.1) p.2) (hz : (ps.flatMap (·.2)).length ≤ 1000) :
    CallOK w B (k + 3) 929 [.list (ps.map fun p => .str p.1)] (.list ((((ps.flatMap (·.2)).foldl addNew []).take 5).map .str)) := by
  refine callOK_c (fd := fd929) (body := bdS (stm 53)) ["words"] HB (by kernel_rfl) (by kernel_rfl) (by decide +kernel) rfl (fun vs h => ?_) fun L => ?_
  · obtain ⟨a, rfl⟩ := len1 h; kernel_rfl
  have hE : EnvOK (callEnvC fd929 L 929) := envOKC fd929 (by kernel_rfl)
  refine Ex.cons (Es.own (.inl (by kernel_rfl)) ?_)
  refine Ex.cons (Es.for (xs := ps.map fun p => .str p.1) (Src.list Ev.name) (.inl (by kernel_rfl)) ?_)
  refine Fo.inv (fun (ds : List PyData) (σ : Sg) => ∃ (qs : List (Str × List Str)) (acc : List Str), ds = qs.map (fun p => .str p.1) ∧ (∀ p ∈ qs, gd p.1 = true ∧ Chain (dirS p.1) p.2) ∧ (∀ x ∈ acc, gd x = true) ∧ acc.length + (qs.flatMap (·.2)).length ≤ 1000 ∧ σ.ow "folders" (acc.map .str) ∧ (qs.flatMap (·.2)).foldl addNew acc = (ps.flatMap (·.2)).foldl addNew []) ?_ ?_ _ _ ⟨ps, [], rfl, hp, (fun x hx => nomatch hx), by simpa using hz, rfl, rfl⟩
  · rintro d ds ρ own ⟨qs, acc, e1, h1, h2, h3, e3, e4⟩
    obtain ⟨q, ys, rfl, rfl, rfl⟩ := map_cons_inv e1
    simp only [Sg.ow] at e3
    subst e3
    obtain ⟨hg, hc⟩ := h1 q (.head _)
    simp only [List.flatMap_cons, List.length_append, List.foldl_append] at h3 e4
    refine ⟨by show ("folders" : Str) ≠ "word"; decide, ?_⟩
    refine Ex.cons (Es.assign (Ev.fn 249 fd249 HB hE (by kernel_rfl) (EvAll.cons (Ev.name (d := .str q.1)) EvAll.nil) (dirname_ok HB q.1 (gd_le hg))) (.inl (by kernel_rfl)) (by show ("folders" : Str) ≠ "above"; decide) ?_)
    refine Ex.cons (Es.while _ (climb_wh HB hE (by kernel_rfl) (by kernel_rfl) rfl rfl rfl rfl hc _ acc rfl h2 (by omega) fun ρ' => ?_))
    refine Ex.nil ⟨ys, q.2.foldl addNew acc, rfl, fun p hp => h1 p (.tail _ hp), foldl_mem _ _ h2 hc.gds, ?_, rfl, e4⟩
    have := foldl_len q.2 acc
    omega
  · rintro ρ own ⟨qs, acc, e1, h1, h2, h3, e3, e4⟩
    have := map_nil_inv e1
    subst this
    simp only [Sg.ow] at e3
    subst e3
    simp only [List.flatMap_nil, List.foldl_nil] at e4
    refine Ex.cons (Es.ret (d := .list ((acc.take 5).map .str)) ?_ (by show _ = _; rw [e4]))
    rw [List.map_take]
    exact Ev.sliceL (n := 5) Ev.name Ev.cInt (by rw [List.length_map]; omega)
end
end Mine
end
section
open PySem PySem.W PySem.Calls PyProof.Rows PySem.Spec
namespace Mine
noncomputable def way (x : List Str) : PyData := .list (x.map .str)
noncomputable def gdW (x : List Str) : Bool := x.all gd && decide (x.length ≤ 1000)
theorem gdW_lay {x : List Str} (h : gdW x = true) : (way x).canLay0 = true := lay_strs (List.all_eq_true.mp (Bool.and_eq_true_iff.mp h).1)
theorem gdW_le {x : List Str} (h : gdW x = true) : x.length ≤ 1000 := of_decide_eq_true (Bool.and_eq_true_iff.mp h).2
theorem gdW_take {x : List Str} (h : gdW x = true) (n : Nat) : gdW (x.take n) = true := by
  refine Bool.and_eq_true_iff.mpr ⟨List.all_eq_true.mpr fun y hy => List.all_eq_true.mp (Bool.and_eq_true_iff.mp h).1 y (List.mem_of_mem_take hy), decide_eq_true ?_⟩
  have := gdW_le h
  rw [List.length_take]; omega
theorem lay_ways : ∀ {xs : List (List Str)}, (∀ x ∈ xs, gdW x = true) → PyData.canLayAll0 (xs.map way) = true
  | [], _ => rfl
  | x :: xs, h => by
    show (PyData.canLay0 (way x) && PyData.canLayAll0 (xs.map way)) = true
    rw [gdW_lay (h x (.head _)), lay_ways fun y hy => h y (.tail _ hy)]; rfl
theorem depth_strs : ∀ xs : List Str, PyData.depthAll (xs.map .str) = 0
  | [] => rfl
  | x :: xs => by show max 0 (PyData.depthAll (xs.map .str)) = 0; rw [depth_strs xs]; rfl
theorem depth_way (x : List Str) : (way x).depth = 1 := by show PyData.depthAll (x.map .str) + 1 = 1; rw [depth_strs]
theorem depth_ways : ∀ xs : List (List Str), PyData.depthAll (xs.map way) ≤ 1
  | [] => by decide
  | x :: xs => by
    show max (way x).depth (PyData.depthAll (xs.map way)) ≤ 1
    have := depth_ways xs
    rw [depth_way]; omega
theorem eqv_strs : ∀ xs ys : List Str, PyData.eqvAll (xs.map .str) (ys.map .str) = (xs == ys)
  | [], [] => rfl
  | x :: xs, [] => rfl
  | [], y :: ys => rfl
  | x :: xs, y :: ys => by
    show (PyData.eqv (.str x) (.str y) && PyData.eqvAll (xs.map .str) (ys.map .str)) = _
    rw [eqv_strs xs ys]
    rfl
theorem eqv_way (x y : List Str) : PyData.eqv (way x) (way y) = (x == y) := eqv_strs x y
theorem any_ways (a : List Str) : ∀ xs : List (List Str), ((xs.map way).any fun y => PyData.eqv y (way a)) = xs.contains a
  | [] => rfl
  | x :: xs => by
    show (PyData.eqv (way x) (way a) || _) = _
    rw [any_ways a xs, List.contains_cons, eqv_way]
    congr 1
    exact Bool.beq_comm ..
noncomputable def frontsOf (x : List Str) : List (List Str) := (List.range (x.length - 1)).map fun i => x.take (x.length - 1 - i)
section
variable {w : World} {B : Heap} {k : Nat} {env : Env}
theorem Ev.neg {ρ : Vars} {e : Expr} {pos : Pos} {a : Int} (h : Ev w B k env ρ e (.int a)) : Ev w B k env ρ (.UnaryOp .USub e pos) (.int (-a)) := fun A s H Q E hA C hq =>
  wpAny_UnaryOp (h A s H _ E hA C fun v as s₁ k₁ r => by cases r; exact P.neg_int (hq _ _ _ (k₁.comp (Kp.tok _)) (.int _ _)))
theorem rng_down (n : Nat) : rng n (-1) n = (List.range n).map fun i => .int ((n - i : Nat) : Int) := by
  unfold rng
  refine List.map_congr_left fun i hi => ?_
  have := List.mem_range.mp hi
  congr 1
  omega
theorem fronts_ok (HB : Bs w B) (ws : List (List Str)) (hw : ∀ x ∈ ws, gdW x = true ∧ x ≠ []) (hz : (ws.flatMap frontsOf).length ≤ 1000) :
    CallOK w B (k + 1) 936 [.list (ws.map way)] (.list ((((ws.flatMap frontsOf).foldl addNew []).take 5).map way)) := by
  refine callOK_c (fd := fd936) (body := bdS (stm 54)) ["ways"] HB (by kernel_rfl) (by kernel_rfl) (by decide +kernel) rfl (fun vs h => ?_) fun L => ?_
  · obtain ⟨a, rfl⟩ := len1 h; kernel_rfl
  have hE : EnvOK (callEnvC fd936 L 936) := envOKC fd936 (by kernel_rfl)
  refine Ex.cons (Es.own (.inl (by kernel_rfl)) ?_)
  refine Ex.cons (Es.for (xs := ws.map way) (Src.list Ev.name) (.inl (by kernel_rfl)) ?_)
  refine Fo.inv (fun (ds : List PyData) (σ : Sg) => ∃ (qs : List (List Str)) (acc : List (List Str)), ds = qs.map way ∧ (∀ p ∈ qs, gdW p = true ∧ p ≠ []) ∧ (∀ x ∈ acc, gdW x = true) ∧ acc.length + (qs.flatMap frontsOf).length ≤ 1000 ∧ σ.ow "fronts" (acc.map way) ∧ (qs.flatMap frontsOf).foldl addNew acc = (ws.flatMap frontsOf).foldl addNew []) ?_ ?_ _ _ ⟨ws, [], rfl, hw, (fun x hx => nomatch hx), by simpa using hz, rfl, rfl⟩
  · rintro d ds ρ own ⟨qs, acc, e1, h1, h2, h3, e3, e4⟩
    obtain ⟨q, ys, rfl, rfl, rfl⟩ := map_cons_inv e1
    simp only [Sg.ow] at e3
    subst e3
    obtain ⟨hg, hne⟩ := h1 q (.head _)
    simp only [List.flatMap_cons, List.length_append, List.foldl_append] at h3 e4
    refine ⟨by show ("fronts" : Str) ≠ "way"; decide, ?_⟩
    have hlen := gdW_le hg
    have hpos : 0 < q.length := by cases q with
      | nil => exact absurd rfl hne
      | cons => simp
    refine Ex.cons (Es.for (Src.down (n := q.length - 1) HB hE (by kernel_rfl) (Ev.eq (Ev.subI (Ev.lenL (x := "len") (xs := q.map .str) HB hE (by kernel_rfl) Ev.name (by rw [List.length_map]; omega)) Ev.cInt) (by rw [List.length_map]; congr 1; omega)) Ev.cInt ?_ (by omega)) (.inl (by kernel_rfl)) ?_)
    · exact Ev.neg Ev.cInt
    rw [rng_down]
    refine Fo.inv (fun (ds : List PyData) (σ : Sg) => ∃ (is : List Nat) (acc' : List (List Str)), ds = is.map (fun i => .int ((q.length - 1 - i : Nat) : Int)) ∧ σ.at "way" (way q) ∧ (∀ x ∈ acc', gdW x = true) ∧ acc'.length + is.length + (ys.flatMap frontsOf).length ≤ 1000 ∧ σ.ow "fronts" (acc'.map way) ∧ (is.map fun i => q.take (q.length - 1 - i)).foldl addNew acc' = (frontsOf q).foldl addNew acc) ?_ ?_ _ _ ⟨List.range (q.length - 1), acc, rfl, rfl, h2, ?_, rfl, rfl⟩
    · rintro d ds ρ own ⟨is, acc', e1, d1, g2, g3, e3, e5⟩
      obtain ⟨i, is, rfl, rfl, rfl⟩ := map_cons_inv e1
      simp only [Sg.ow, Sg.at] at e3 d1
      subst e3
      simp only [List.map_cons, List.foldl_cons, List.length_cons] at e5 g3
      refine ⟨by show ("fronts" : Str) ≠ "size"; decide, ?_⟩
      have hq : gdW (q.take (q.length - 1 - i)) = true := gdW_take hg _
      refine Ex.cons (Es.iff (c := !acc'.contains (q.take (q.length - 1 - i))) ?_ (fun h => ?_) fun h => ?_)
      · refine Ts.eq (Ts.cmp (a := way (q.take (q.length - 1 - i))) ?_ Ev.name (Cmp.ninL (lay_ways g2) (gdW_lay hq) ?_)) (by rw [any_ways])
        · unfold way
          rw [List.map_take]
          exact Ev.sliceL (Ev.name (d := .list (q.map .str)) d1) Ev.name (by rw [List.length_map]; omega)
        · rw [depth_way]; omega
      · refine Ex.cons (Es.append (d := way (q.take (q.length - 1 - i))) rfl ?_ ?_ ?_)
        · unfold way
          rw [List.map_take]
          exact Ev.sliceL (Ev.name (d := .list (q.map .str)) d1) Ev.name (by rw [List.length_map]; omega)
        · rw [List.length_map]; omega
        · refine Ex.nil (Ex.nil ⟨is, acc' ++ [q.take (q.length - 1 - i)], rfl, d1, fun x hx => ?_, by simp only [List.length_append, List.length_singleton]; omega, by simp [Sg.ow], ?_⟩)
          · rcases List.mem_append.mp hx with h | h
            · exact g2 x h
            · rw [List.mem_singleton.mp h]; exact hq
          · rw [← e5]; unfold addNew; rw [if_neg (by simpa using h)]
      · refine Ex.nil (Ex.nil ⟨is, acc', rfl, d1, g2, by omega, rfl, ?_⟩)
        rw [← e5]
        congr 1
        unfold addNew; rw [if_pos (by simpa using h)]
    · rintro ρ own ⟨is, acc', e1, d1, g2, g3, e3, e5⟩
      have := map_nil_inv e1
      subst this
      simp only [Sg.ow, Sg.at] at e3 d1
      subst e3
      refine Ex.nil ⟨ys, acc', rfl, fun p hp => h1 p (.tail _ hp), g2, by simpa using g3, rfl, ?_⟩
      simp only [List.map_nil, List.foldl_nil] at e5
      rw [e5]; exact e4
    · simp only [List.length_range]
      have : (frontsOf q).length = q.length - 1 := by simp [frontsOf]
      omega
  · rintro ρ own ⟨qs, acc, e1, h1, h2, h3, e3, e4⟩
    have := map_nil_inv e1
    subst this
    simp only [Sg.ow] at e3
    subst e3
    simp only [List.flatMap_nil, List.foldl_nil] at e4
    refine Ex.cons (Es.ret (d := .list ((acc.take 5).map way)) ?_ (by show _ = _; rw [e4]))
    rw [List.map_take]
    exact Ev.sliceL (n := 5) Ev.name Ev.cInt (by rw [List.length_map]; omega)
end
end Mine
end
section
open PySem PySem.W PySem.Calls PyProof.Rows PySem.Spec
namespace Mine
noncomputable def compOk (scope : Scope) (x : Str) : Bool :=
  (scope.names.all fun y => y.2 != .cell) && (scope.kind == .function) && (scope.names.all fun y => y.2 != .local || scope.names.lookup y.1 == some .local) && (scope.names.lookup x == some .local)
noncomputable def FVok (env : Env) (scope : Scope) (cl : List (Str × Addr)) (ρ : Vars) : Vars → Prop
  | [] => True
  | (y, d) :: r => ρ.lookup y = some d ∧ (∀ C, loadName (compEnvC scope cl C env) y = loadName env y) ∧ FVok env scope cl ρ r
theorem FVok.get {env : Env} {scope : Scope} {cl : List (Str × Addr)} {ρ : Vars} : ∀ {ρf : Vars}, FVok env scope cl ρ ρf → ∀ y d, ρf.lookup y = some d → ρ.lookup y = some d ∧ ∀ C, loadName (compEnvC scope cl C env) y = loadName env y
  | [], _, y, d, e => by cases e
  | (z, c) :: r, ⟨h1, h2, h3⟩, y, d, e => by
    rw [List.lookup_cons] at e
    split at e
    · rename_i q; cases e; rw [beq_iff_eq.mp q]; exact ⟨h1, h2⟩
    · exact h3.get y d e
noncomputable def TsL (w : World) (B : Heap) (k : Nat) (env : Env) (ρ : Vars) (ifs : List Expr) (b : Bool) : Prop :=
  ∀ (A : Around) (s : Shared) (H : List Addr) (Q : Bool → Shared → Prop) (E : Value → Shared → Prop), AOK k A → Cx B env H s.heap ρ →
    (∀ s', Kp s s' → Q b s') → wpAny (model pg w) A (forIn ifs true fun c r => if r = true then do let ok ← isTrue c env (eval c env); pure (ForInStep.yield ok) else pure (ForInStep.yield r)) Q E s
section
variable {w : World} {B : Heap} {k : Nat} {env : Env} {ρ ρf : Vars}
theorem TsL.nil : TsL w B k env ρ [] true := fun A s H Q E hA C hq => by rw [List.forIn_nil]; exact wpAny_pure (hq s Kp.rfl')
theorem TsL.one {t : Expr} {b : Bool} (h : Ts w B k env ρ t b) : TsL w B k env ρ [t] b := fun A s H Q E hA C hq => by
  rw [List.forIn_cons, if_pos rfl]
  refine wpAny_bind (wpAny_bind (h A s H _ E hA C fun s' k' => wpAny_pure ?_))
  dsimp only
  rw [List.forIn_nil]
  exact wpAny_pure (hq s' k')
inductive LC (w : World) (B : Heap) (k : Nat) (E : Addr → Env) (ρf : Vars) (x : Str) (ifs : List Expr) (elt : Expr) : List PyData → List PyData → Prop
  | nil : LC w B k E ρf x ifs elt [] []
  | skip {d : PyData} {xs ys : List PyData} : (∀ C, TsL w B k (E C) ((x, d) :: ρf) ifs false) → LC w B k E ρf x ifs elt xs ys → LC w B k E ρf x ifs elt (d :: xs) ys
  | keep {d r : PyData} {xs ys : List PyData} : (∀ C, TsL w B k (E C) ((x, d) :: ρf) ifs true) → (∀ C, Ev w B k (E C) ((x, d) :: ρf) elt r) → LC w B k E ρf x ifs elt xs ys → LC w B k E ρf x ifs elt (d :: xs) (r :: ys)
theorem LC.le {E : Addr → Env} {x : Str} {ifs : List Expr} {elt : Expr} {xs ys : List PyData} (h : LC w B k E ρf x ifs elt xs ys) : ys.length ≤ xs.length := by
  induction h with
  | nil => exact Nat.le_refl _
  | skip _ _ ih => exact Nat.le_succ_of_le ih
  | keep _ _ _ ih => exact Nat.succ_le_succ ih
theorem comp_core {A : Around} {s s₂ : Shared} {H : List Addr} {x : Str} {px pos : Pos} {elt iter : Expr} {ifs : List Expr} {scope : Scope} {cl : List (Str × Addr)} {I : Addr} {fpI wr : List Addr} {P : Nat → Value → Prop} {St : Nat → Heap → Prop} {xs ys : List PyData}
    {RR : Value → Addr → Result → Shared → Prop} {E : Value → Shared → Prop} (hA : AOK k A) (C₀ : Cx B env H s.heap ρ) (hok : compOk scope x = true) (hfv : FVok env scope cl ρ ρf) (k₂ : Kp s s₂) (W : Walks pg w A I fpI wr xs.length P St) (hst : St 0 s₂.heap)
    (hwr : ∀ b ∈ wr, s.heap.get? b = none) (hcl : ∀ i h, St i h → ∀ b ∈ wr, ∃ o, h.get? b = some o ∧ ¬ dataC o) (hfp : ∀ b ∈ fpI, b ∉ H ∧ ∃ o, s₂.heap.get? b = some o)
    (hP : ∀ i v, i < xs.length → P i v → ∃ d as, xs[i]? = some d ∧ Reads (hideAll s₂.heap H) v d as) (hl : LC w B k (fun C => compEnvC scope cl C env) ρf x ifs elt xs ys) (hz : xs.length ≤ 1000000)
    (hRR : ∀ D C h' tk m' vs as, s₂.heap.get? D = none → s₂.heap.get? C = none → D ≠ C → h'.Ns C m' → h'.PlainList D vs → ReadsAll (hideAll h' (C :: D :: H)) vs.toList ys as → (∀ b o, b ∉ wr → s₂.heap.get? b = some o → h'.get? b = some o) →
      RR (.ref D) C (.ok .next) { s₂ with heap := h', toks := tk }) :
    wpAny (model pg w) A (newList []) (fun acc s₃ => wpAny (model pg w) A (newFunctionEnv scope env.globals cl [] env.qual none .none (some env)) (fun cenv s₄ =>
      codeAny (model pg w) A (.compStart (.ListComp elt [⟨.Name x px, iter, ifs, 0⟩] scope pos) 0 (.ref I) acc { cenv with scope := relabel scope env }) (RR acc cenv.locals) s₄) E s₃) E s₂ := by
  simp only [compOk, Bool.and_eq_true, List.all_eq_true, bne_iff_ne, beq_iff_eq, Bool.or_eq_true] at hok
  obtain ⟨⟨⟨hcell, hkind⟩, hnames⟩, hx⟩ := hok
  refine wpAny_newObj_type (wpAny_newFunctionEnv hcell (by intro y hy; simp at hy) (fun h₁ hns₁ hsb₁ => ?_) hkind) (by show 0 ≤ sizeLine; exact Nat.zero_le _)
  dsimp only at hns₁ hsb₁ ⊢
  generalize hH2 : s₂.heap.push { cls := .type "list", dict := none, data := .seq ([] : List Value).toArray } = H2 at hns₁ hsb₁ ⊢
  have hC : H2.objs.size = s₂.heap.objs.size + 1 := by rw [← hH2, Heap.size_push]
  have hDC : s₂.heap.objs.size ≠ H2.objs.size := by rw [hC]; exact Nat.ne_of_lt (Nat.lt_succ_self _)
  have below : ∀ b, b < s₂.heap.objs.size → b ≠ H2.objs.size ∧ b ≠ s₂.heap.objs.size := fun b hb => ⟨by rw [hC]; exact Nat.ne_of_lt (Nat.lt_succ_of_lt hb), Nat.ne_of_lt hb⟩
  have old : ∀ b o, s₂.heap.get? b = some o → h₁.get? b = some o := fun b o e => hsb₁.extBut b o (below b (Heap.lt_size e)).1 (Heap.get?_push_of_some _ (hH2 ▸ Heap.get?_push_of_some _ e))
  have fresh : ∀ a, s₂.heap.objs.size ≤ a → s₂.heap.get? a = none := fun a ha => by
    cases e : s₂.heap.get? a with
    | none => rfl
    | some o' => exact absurd (Heap.lt_size e) (Nat.not_lt.mpr ha)
  have hacc : h₁.PlainList s₂.heap.objs.size #[] := ⟨_, hsb₁.extBut _ _ hDC (Heap.get?_push_of_some _ (hH2 ▸ Heap.get?_push_size _ rfl))⟩
  have hst₁ : St 0 h₁ := W.frame _ _ _ hst fun b _ o e => old b o e
  have fD := fresh s₂.heap.objs.size (Nat.le_refl _)
  have fC := fresh H2.objs.size (by rw [hC]; exact Nat.le_succ _)
  generalize hD : s₂.heap.objs.size = D at *
  generalize hCe : H2.objs.size = C at *
  have hDf : D ∉ fpI := fun hm => by obtain ⟨_, o, e⟩ := hfp _ hm; rw [fD] at e; cases e
  have hCf : C ∉ fpI := fun hm => by obtain ⟨_, o, e⟩ := hfp _ hm; rw [fC] at e; cases e
  have hCw : C ∉ wr := fun h => hCf (W.sub _ h)
  have hDw : D ∉ wr := fun h => hDf (W.sub _ h)
  have nCD : ∀ b o, s₂.heap.get? b = some o → b ≠ C ∧ b ≠ D := fun b o e => ⟨(fun q => by rw [q, fC] at e; cases e), fun q => by rw [q, fD] at e; cases e⟩
  have nwr : ∀ b o, s.heap.get? b = some o → b ∉ wr := fun b o e q => by rw [hwr b q] at e; cases e
  have loop : ∀ s₃ : Shared, s₃ = { s₂ with heap := h₁, toks := s₂.toks + ([] : List (Str × Value)).length } →
      codeAny (model pg w) A (.compLoop (.ListComp elt [⟨.Name x px, iter, ifs, 0⟩] scope pos) 0 (.ref I) (.ref D) (compEnvC scope cl C env)) (RR (.ref D) C) s₃ := by
    rintro s₃ rfl
    refine codeAny_compLoop_tests (fun n s' => ∃ h' tk m' us as i done, s' = { s₂ with heap := h', toks := tk } ∧ n = xs.length + 1 - i ∧ i ≤ xs.length ∧ St i h' ∧ h'.PlainList D us ∧ h'.Ns C m' ∧ (∀ b o, b ∉ wr → s₂.heap.get? b = some o → h'.get? b = some o) ∧
      ReadsAll (hideAll h' (C :: D :: H)) us.toList done as ∧ done.length ≤ i ∧ ∃ rest, LC w B k (fun C => compEnvC scope cl C env) ρf x ifs elt (xs.drop i) rest ∧ done ++ rest = ys) ?_ (xs.length + 1)
      ⟨h₁, _, _, #[], [], 0, [], rfl, rfl, Nat.zero_le _, hst₁, hacc, hns₁, fun b o _ e => old b o e, .nil, Nat.le_refl _, ys, hl, rfl⟩
    rintro n s' ⟨h', tk, m', us, as, i, done, rfl, rfl, hi, hst', hacc', hn', hk', hr', hdl, rest, hl', heq⟩
    by_cases hlt : i < xs.length
    · refine W.item i _ _ _ hlt hst' fun v h₂ tk₂ hPv hst₂ hk₂ => ?_
      obtain ⟨d, bs, hd, r⟩ := hP i v hlt hPv
      refine wpAny_assign_Name (wpAny_storeName_local (lookup_relabel_local hx) (hn'.at' fun o e => hk₂ _ o hCw e) (fun h₃ hn₃ hs₃ => ?_) (by simp [compEnvC, relabel, hkind]))
      have up₃ : ∀ b o, b ≠ C → b ∉ wr → h'.get? b = some o → h₃.get? b = some o := fun b o hbC hbf e => hs₃.extBut b o hbC (hk₂ b o hbf e)
      have hst₃ : St (i + 1) h₃ := W.frame _ _ _ hst₂ fun b hb o e => hs₃.extBut b o (fun h => hCf ((show b = C from h) ▸ hb)) e
      have up₂₃ : ∀ b o, b ∉ wr → s₂.heap.get? b = some o → h₃.get? b = some o := fun b o hb e => up₃ b o (nCD b o e).1 hb (hk' b o hb e)
      have up₀₃ : ∀ b o, s.heap.get? b = some o → h₃.get? b = some o := fun b o e => up₂₃ b o (nwr b o e) (k₂.keep b o e)
      have r₃ : Reads (hideAll h₃ (C :: D :: H)) v d bs := by
        refine reads_keepsC (fun b o hc e => ?_) r
        have hb := not_hid e
        have ea := of_hideAll H e
        have nw : b ∉ wr := fun q => by obtain ⟨o', e', n'⟩ := hcl 0 _ hst b q; rw [ea] at e'; cases e'; exact n' hc
        refine hideAll_get _ (up₂₃ b o nw ea) fun q => ?_
        rcases List.mem_cons.mp q with q | q
        · exact (nCD b o ea).1 q
        rcases List.mem_cons.mp q with q | q
        · exact (nCD b o ea).2 q
        · exact hb q
      have hacc₃ : h₃.PlainList D us := hacc'.at fun o e => up₃ D o hDC hDw e
      have hr₃ : ReadsAll (hideAll h₃ (C :: D :: H)) us.toList done as := by
        refine readsAll_keepsC (fun b o hc e => ?_) hr'
        have hb := not_hid e
        have ea := of_hideAll _ e
        have nw : b ∉ wr := fun q => by obtain ⟨o', e', n'⟩ := hcl i _ hst' b q; rw [ea] at e'; cases e'; exact n' hc
        exact hideAll_get _ (up₃ b o (fun q => hb (q ▸ .head _)) nw ea) hb
      have C₃ : Cx B (compEnvC scope cl C env) (C :: D :: H) h₃ ((x, d) :: ρf) := by
        refine ⟨fun b o e => up₀₃ b o (C₀.base b o e), fun y dy ey => ?_, fun b hb => ?_⟩
        · rw [List.lookup_cons] at ey
          split at ey
          · rename_i q
            cases ey
            have := beq_iff_eq.mp q
            subst this
            exact ⟨v, bs, Var.local (env := compEnvC scope cl C env) (x := y) (by simp [compEnvC, relabel, hkind]) (lookup_relabel_local (env := env) hx) hn₃ (by simp), r₃⟩
          · obtain ⟨e1, e2⟩ := hfv.get y dy ey
            obtain ⟨u, cs, V, ru⟩ := C₀.rep y dy e1
            refine ⟨u, cs, fun hs hq => ?_, ?_⟩
            · rw [e2 C]
              exact V (fun b o e => hs b o (up₀₃ b o e)) hq
            · refine Reads.keeps (fun b o e => ?_) ru
              have hb := not_hid e
              have ea := of_hideAll H e
              refine hideAll_get _ (up₀₃ b o ea) fun q => ?_
              rcases List.mem_cons.mp q with q | q
              · exact (nCD b o (k₂.keep b o ea)).1 q
              rcases List.mem_cons.mp q with q | q
              · exact (nCD b o (k₂.keep b o ea)).2 q
              · exact hb q
        · rcases List.mem_cons.mp hb with rfl | hb
          · obtain ⟨o, _, _, e, _⟩ := hn₃; exact ⟨o, e⟩
          rcases List.mem_cons.mp hb with rfl | hb
          · obtain ⟨o, e⟩ := hacc₃; exact ⟨_, e⟩
          · obtain ⟨o, e⟩ := C₀.al b hb; exact ⟨o, up₀₃ b o e⟩
      have hdrop : xs.drop i = d :: xs.drop (i + 1) := by
        rw [List.drop_eq_getElem_cons hlt]
        congr 1
        rw [List.getElem?_eq_getElem hlt] at hd
        exact Option.some.inj hd
      rw [hdrop] at hl'
      cases hl' with
      | skip ht hl'' =>
        refine ht C A _ (C :: D :: H) _ _ hA C₃ fun s₄ k₄ => ?_
        obtain ⟨h₄, tk₄, rfl, hk₄⟩ := k₄
        refine ⟨xs.length + 1 - (i + 1), by omega, h₄, tk₄, _, us, as, i + 1, done, rfl, rfl, hlt, W.frame _ _ _ hst₃ fun b _ o e => hk₄ b o e, hacc₃.at fun o e => hk₄ _ o e, hn₃.keeps hk₄, fun b o hb e => hk₄ b o (up₂₃ b o hb e), ReadsAll.keeps (hide_sub fun b o _ e => hk₄ b o e) hr₃, by omega, rest, hl'', heq⟩
      | keep ht he hl'' =>
        rename_i r' rest'
        refine ht C A _ (C :: D :: H) _ _ hA C₃ fun s₄ k₄ => ?_
        rw [if_pos rfl]
        refine he C A s₄ (C :: D :: H) _ _ hA (C₃.keeps (s := { s₂ with heap := h₃, toks := _ }) k₄) fun y cs s₅ k₅ r₅ => ?_
        have k₄₅ := k₄.comp k₅
        obtain ⟨h₅, tk₅, rfl, hk₅⟩ := k₄₅
        have hlen : us.size ≤ sizeLine := by
          have e1 := readsAll_length hr₃
          have e4 : us.toList.length = us.size := by simp
          rw [sizeLine_eq]; omega
        refine wpAny_list_append_plain (hsz := hlen) (hacc₃.at fun o e => hk₅ _ o e) fun h₆ hl₆ hs₆ => ?_
        have up₆ : ∀ b o, (hideAll h₅ (C :: D :: H)).get? b = some o → (hideAll h₆ (C :: D :: H)).get? b = some o := hide_sub fun b o hb e => hs₆.extBut b o (fun q => hb (q ▸ .tail _ (.head _))) e
        obtain ⟨ds, rn⟩ := readsAll_snoc (ReadsAll.keeps up₆ (ReadsAll.keeps (hide_sub fun b o _ e => hk₅ b o e) hr₃)) (Reads.keeps up₆ r₅)
        refine ⟨xs.length + 1 - (i + 1), by omega, h₆, tk₅, _, us.push y, ds, i + 1, done ++ [r'], rfl, rfl, hlt, W.frame _ _ _ hst₃ fun b hb o e => hs₆.extBut b o (fun q => hDf (q ▸ hb)) (hk₅ b o e), hl₆, (hn₃.keeps hk₅).sameBut hs₆ (Ne.symm hDC),
          fun b o hb e => hs₆.extBut b o (nCD b o e).2 (hk₅ b o (up₂₃ b o hb e)), by rw [Array.toList_push]; exact rn, by simp; omega, rest', hl'', by rw [← heq]; simp⟩
    · have hin : i = xs.length := by omega
      refine W.done _ _ _ (hin ▸ hst') fun h₂ tk₂ hk₂ => ?_
      rw [show xs.drop i = [] from List.drop_eq_nil_of_le (by omega)] at hl'
      cases hl'
      rw [List.append_nil] at heq
      subst heq
      refine hRR D C h₂ tk₂ m' us as fD fC hDC (hn'.at' fun o e => hk₂ _ o hCw e) (hacc'.at fun o e => hk₂ _ o hDw e) ?_ fun b o hb e => hk₂ b o hb (hk' b o hb e)
      refine readsAll_keepsC (fun b o hc e => ?_) hr'
      have hb := not_hid e
      have ea := of_hideAll _ e
      have nw : b ∉ wr := fun q => by obtain ⟨o', e', n'⟩ := hcl i _ hst' b q; rw [ea] at e'; cases e'; exact n' hc
      exact hideAll_get _ (hk₂ b o nw ea) hb
  exact codeAny_compStart_list (loop _ rfl) (W.self 0 _ _ _ hst₁ (loop _ rfl))
end
end Mine
end
section
open PySem PySem.W PySem.Calls PyProof.Rows PySem.Spec
namespace Mine
section
variable {w : World} {B : Heap} {k : Nat} {env : Env} {ρ ρf : Vars} {σ : Sg} {K : Out → Prop}
theorem Sr.more {Hc H N : List Addr} {s s' : Shared} (S : Sr B env Hc H s.heap σ) (k' : Kp s s') (hn : ∀ b ∈ N, s.heap.get? b = none) (ha : ∀ b ∈ N, ∃ o, s'.heap.get? b = some o) : Sr B env Hc (N ++ H) s'.heap σ := by
  obtain ⟨vs, F, hρ, ho⟩ := S.fr
  have up : ∀ b o, (hideAll s.heap H).get? b = some o → (hideAll s'.heap (N ++ H)).get? b = some o := fun b o e => by
    have hb := not_hid e
    have ea := of_hideAll H e
    refine hideAll_get _ (k'.keep b o ea) fun q => ?_
    rcases List.mem_append.mp q with q | q
    · rw [hn b q] at ea; cases ea
    · exact hb q
  exact ⟨stays_kp S.base k', ⟨vs, F.keeps fun b o _ e => k'.keep b o e, fun x d e => let ⟨hx, v, as, hv, r⟩ := hρ x d e; ⟨hx, v, as, hv, Reads.keeps up r⟩,
    fun x ds e => let ⟨hx, a, us, as, hv, hl, r, q1, q2⟩ := ho x ds e; ⟨hx, a, us, as, hv, hl.at fun o e => k'.keep _ o e, ReadsAll.keeps up r, List.mem_append_right _ q1, q2⟩⟩, fun b hb => List.mem_append_right _ (S.fpH b hb), fun b hb => ⟨List.mem_append_right _ (S.hc b hb).1, (S.hc b hb).2⟩, fun b hb => by
    rcases List.mem_append.mp hb with hb | hb
    · exact ha b hb
    · obtain ⟨o, e⟩ := S.lt b hb; exact ⟨o, k'.keep b o e⟩⟩
theorem Sr.drop {Hc H : List Addr} {h h' : Heap} {C : Addr} {m : Str → Option Value} (S : Sr B env Hc (C :: H) h σ) (hk : ∀ b o, b ≠ C → h.get? b = some o → h'.get? b = some o) (hC : C ∉ H) (hf : C ∉ fp env) (hB : B.get? C = none) (hn : h.Ns C m) (hHc : C ∉ Hc) : Sr B env Hc H h' σ := by
  obtain ⟨vs, F, hρ, ho⟩ := S.fr
  have up : ∀ b o, (hideAll h (C :: H)).get? b = some o → (hideAll h' H).get? b = some o := fun b o e => by
    have hb := not_hid e
    exact hideAll_get _ (hk b o (fun q => hb (q ▸ .head _)) (of_hideAll _ e)) fun q => hb (.tail _ q)
  have inH : ∀ b, b ∈ C :: H → b ≠ C → b ∈ H := fun b hb q => (List.mem_cons.mp hb).resolve_left q
  refine ⟨fun b o e => hk b o (fun q => by rw [q, hB] at e; cases e) (S.base b o e), ⟨vs, F.keeps fun b o hb e => hk b o (fun q => hf (q ▸ hb)) e, fun x d e => let ⟨hx, v, as, hv, r⟩ := hρ x d e; ⟨hx, v, as, hv, Reads.keeps up r⟩,
    fun x ds e => ?_⟩, fun b hb => inH b (S.fpH b hb) fun q => hf (q ▸ hb), fun b hb => ⟨inH b (S.hc b hb).1 fun q => hHc (q ▸ hb), (S.hc b hb).2⟩, fun b hb => ?_⟩
  · obtain ⟨hx, a, us, as, hv, hl, r, q1, q2⟩ := ho x ds e
    have hne : a ≠ C := fun q => by
      subst q
      obtain ⟨n, hg⟩ := hl
      obtain ⟨o, es, ep, e1, e2, _⟩ := hn
      rw [hg] at e1; cases e1; cases e2
    exact ⟨hx, a, us, as, hv, hl.at fun o e => hk a o hne e, ReadsAll.keeps up r, inH a q1 hne, q2⟩
  · obtain ⟨o, e⟩ := S.lt b (.tail _ hb); exact ⟨o, hk b o (fun q => hC (q ▸ hb)) e⟩
theorem lc_done {s s₂ : Shared} {H wr : List Addr} {D C : Addr} {h' : Heap} {tk : Nat} {vs : Array Value} {as : List Addr} {ys : List PyData} (k₂ : Kp s s₂) (hwr : ∀ b ∈ wr, s.heap.get? b = none) (hal : ∀ b ∈ H, ∃ o, s.heap.get? b = some o) (fD : s₂.heap.get? D = none)
    (hpl : h'.PlainList D vs) (hr : ReadsAll (hideAll h' (C :: D :: H)) vs.toList ys as) (hk : ∀ b o, b ∉ wr → s₂.heap.get? b = some o → h'.get? b = some o) (hDC : D ≠ C) : Kp s { s₂ with heap := h', toks := tk } ∧ ∃ as, Reads (hideAll h' (C :: H)) (.ref D) (.list ys) as := by
  refine ⟨?_, ?_⟩
  · exact Kp.of (sm_trans k₂.sm ⟨h', tk, rfl⟩) fun b o e => hk b o (fun q => by rw [hwr b q] at e; cases e) (k₂.keep b o e)
  · obtain ⟨n, hg⟩ := hpl
    refine ⟨_, .list (hideAll_get _ hg fun q => ?_) rfl rfl (ReadsAll.keeps (hide_more fun b hb => ?_) hr)⟩
    · rcases List.mem_cons.mp q with q | q
      · exact hDC q
      · obtain ⟨o, e⟩ := hal _ q
        rw [k₂.keep _ _ e] at fD; cases fD
    · rcases List.mem_cons.mp hb with rfl | hb
      · exact .head _
      · exact .tail _ (.tail _ hb)
theorem Ev.lc {x : Str} {px pos : Pos} {elt iter : Expr} {ifs : List Expr} {scope : Scope} {xs ys : List PyData} (cl : List (Str × Addr)) (ρf : Vars) (hsrc : Src w B k env ρ iter xs) (hclos : closureFor scope env = pure cl) (hok : compOk scope x = true) (hfv : FVok env scope cl ρ ρf)
    (hl : LC w B k (fun C => compEnvC scope cl C env) ρf x ifs elt xs ys) (hz : xs.length ≤ 1000000) (hs : ∀ v, foldedSetIterable iter env v = pure v := by intro _; rfl) : Ev w B k env ρ (.ListComp elt [⟨.Name x px, iter, ifs, 0⟩] scope pos) (.list ys) := fun A s H Q E hA C₀ hq => by
  have hok' := hok
  simp only [compOk, Bool.and_eq_true, List.all_eq_true, bne_iff_ne, beq_iff_eq, Bool.or_eq_true] at hok'
  rw [eval_ListComp]
  refine wpAny_comprehension_free (use := none) rfl hs hclos hok'.1.1.2 (fun y hy e => (hok'.1.2 y hy).resolve_left fun q => q e) (hsrc A s H _ E hA C₀ fun I fpI wr P St s₂ k₂ W st h1 h2 h3 h4 => ?_)
  refine comp_core (RR := fun acc C => compPost (model pg w) A E none Q acc C) hA C₀ hok hfv k₂ W st h1 h2 h3 h4 hl hz ?_
  intro D C h' tk m' vs as fD fC hDC hn hpl hr hk
  refine ⟨m', hn, fun h'' hs'' => ?_⟩
  have hpl' : h''.PlainList D vs := hpl.extBut hs''.extBut hDC
  have hr' : ReadsAll (hideAll h'' (C :: D :: H)) vs.toList ys as := ReadsAll.keeps (hide_sub fun b o hb e => hs''.extBut b o (fun q => hb (q ▸ .head _)) e) hr
  have hk' : ∀ b o, b ∉ wr → s₂.heap.get? b = some o → h''.get? b = some o := fun b o hb e => hs''.extBut b o (fun q => by rw [q, fC] at e; cases e) (hk b o hb e)
  obtain ⟨kk, bs, r⟩ := lc_done (tk := tk) k₂ h1 C₀.al fD hpl' hr' hk' hDC
  exact hq _ bs _ kk (Reads.keeps (hide_more fun b hb => .tail _ hb) r)
theorem Es.assignLC {x y : Str} {px py pos spos : Pos} {elt iter : Expr} {ifs : List Expr} {scope : Scope} {xs ys : List PyData} (cl : List (Str × Addr)) (ρf : Vars) (hsrc : Src w B k env σ.ρ iter xs) (hclos : closureFor scope env = pure cl) (hok : compOk scope x = true) (hfv : FVok env scope cl σ.ρ ρf)
    (hl : LC w B k (fun C => compEnvC scope cl C env) ρf x ifs elt xs ys) (hz : xs.length ≤ 1000000) (hy : isVar env y) (ho : ownOff σ y) (hK : K (.next ⟨(y, .list ys) :: σ.ρ, σ.own⟩)) (hsw : swapsWith (.ListComp elt [⟨.Name x px, iter, ifs, 0⟩] scope pos) (some (.Name y py)) spos.line env = pure true := by rfl)
    (hs : ∀ v, foldedSetIterable iter env v = pure v := by intro _; rfl) : Es w B k env σ (.Assign [.Name y py] (.ListComp elt [⟨.Name x px, iter, ifs, 0⟩] scope pos) spos) K := fun A s Hc H Q E hA S hq => by
  have hok' := hok
  simp only [compOk, Bool.and_eq_true, List.all_eq_true, bne_iff_ne, beq_iff_eq, Bool.or_eq_true] at hok'
  rw [exec_Assign_Name_used _ _ _ _ hsw]
  refine wpAny_bind (wpAny_standAt (wpAny_bind ?_))
  show wpAny _ A (do let _ ← comprehension (.ListComp elt [⟨.Name x px, iter, ifs, 0⟩] scope pos) scope env _ (newList []) false (eval iter env) (some (PySem.assign (.Name y py) env))) _ _ s
  refine wpAny_bind (wpAny_mono (wpAny_comprehension_free (use := some (PySem.assign (.Name y py) env)) (Q := fun _ s' => Q .next s') rfl hs hclos hok'.1.1.2 (fun y hy e => (hok'.1.2 y hy).resolve_left fun q => q e)
    (hsrc A s H _ E hA S.cx fun I fpI wr P St s₂ k₂ W st h1 h2 h3 h4 => ?_)) (fun _ s' hq => wpAny_pure (wpAny_pure hq)) fun _ _ e => e)
  refine comp_core (RR := fun acc C => compPost (model pg w) A E (some (PySem.assign (.Name y py) env)) (fun _ s' => Q .next s') acc C) hA S.cx hok hfv k₂ W st h1 h2 h3 h4 hl hz ?_
  intro D C h' tk m' vs as fD fC hDC hn hpl hr hk
  obtain ⟨kk, bs, r⟩ := lc_done (tk := tk) k₂ h1 S.lt fD hpl hr hk hDC
  have fC₀ : s.heap.get? C = none := by
    cases e : s.heap.get? C with
    | none => rfl
    | some o => rw [k₂.keep _ _ e] at fC; cases fC
  have S₁ : Sr B env Hc (C :: H) h' σ := S.more (N := [C]) kk (fun b hb => by rw [List.mem_singleton.mp hb]; exact fC₀) (fun b hb => by rw [List.mem_singleton.mp hb]; obtain ⟨o, _, _, e, _⟩ := hn; exact ⟨o, e⟩)
  have nf : C ∉ fp env := fun q => by obtain ⟨o, e⟩ := S.lt _ (S.fpH _ q); rw [fC₀] at e; cases e
  have nB : B.get? C = none := by
    cases e : B.get? C with
    | none => rfl
    | some o => have := S.base _ _ e; rw [fC₀] at this; cases this
  have g : Gr s H (C :: H) := ⟨fun b h => .tail _ h, fun b h => by
    rcases List.mem_cons.mp h with rfl | h
    · exact .inr fC₀
    · exact .inl h⟩
  show wpAny _ A (PySem.assign (.Name y py) env (.ref D)) _ _ _
  refine wpAny_assign_Name (Sr.store (s := { s₂ with heap := h', toks := tk }) S₁ hy ho r fun s₃ S₃ m₃ hk₃ => ?_)
  have hn₃ : s₃.heap.Ns C m' := hn.at' fun o e => hk₃ _ o nf e
  refine ⟨m', hn₃, fun h'' hs'' => ?_⟩
  have nH : C ∉ H := fun q => by obtain ⟨o, e⟩ := S.lt _ q; rw [fC₀] at e; cases e
  have S₄ := S₃.drop (h' := h'') (fun b o hb e => hs''.extBut b o hb e) nH nf nB hn₃ fun q => nH (S.hc _ q).1
  refine hq _ _ _ hK ⟨rfl, H, S₄, ?_, Gr.rfl'⟩
  have m : Mv Hc H s s₃ := (Kp.mv kk).comp g m₃
  exact ⟨sm_trans m.same ⟨h'', s₃.toks, rfl⟩, fun b o hb e => hs''.extBut b o (fun q => by rw [q, fC₀] at e; cases e) (m.sub b o hb e)⟩
end
end Mine
end
section
open PySem PySem.W PySem.Calls PyProof.Rows PySem.Spec
namespace Mine
noncomputable def pick {α : Type} (fs : List α) (c : Nat) : List α := (List.range fs.length).filterMap fun k => if c / 2 ^ k % 2 == 1 then fs[k]? else none
theorem bit_int : ∀ c < 32, ∀ k < 5, ((((c : Nat) : Int).fdiv (2 ^ ((k : Nat) : Int).toNat)).fmod 2 == 1) = (c / 2 ^ k % 2 == 1) := by decide +kernel
theorem pow_small : ∀ k < 5, (2 ^ ((k : Nat) : Int).toNat : Int) ≠ 0 ∧ (2 ^ ((k : Nat) : Int).toNat : Int).natAbs < 1073741824 := by decide +kernel
section
variable {w : World} {B : Heap} {k : Nat} {env : Env} {ρ ρf : Vars}
theorem LC.turn {E : Addr → Env} {x : Str} {ifs : List Expr} {elt : Expr} {d r : PyData} {xs ys : List PyData} {b : Bool} (ht : ∀ C, TsL w B k (E C) ((x, d) :: ρf) ifs b) (he : b = true → ∀ C, Ev w B k (E C) ((x, d) :: ρf) elt r) (h : LC w B k E ρf x ifs elt xs ys) : LC w B k E ρf x ifs elt (d :: xs) (if b = true then r :: ys else ys) := by
  cases b with
  | true => exact LC.keep ht (he rfl) h
  | false => exact LC.skip ht h
theorem rng_up (n : Nat) : rng 0 1 n = (List.range n).map fun i => .int ((i : Nat) : Int) := by
  unfold rng
  refine List.map_congr_left fun i _ => ?_
  congr 1
  omega
theorem chosen_ok (HB : Bs w B) (fs : List PyData) (c : Nat) (hf : fs.length ≤ 5) (hc : c < 32) : CallOK w B (k + 1) 941 [.list fs, .int c] (.list (pick fs c)) := by
  refine callOK_c (fd := fd941) (body := bdS (stm 55)) ["folders", "c"] HB (by kernel_rfl) (by kernel_rfl) (by decide +kernel) rfl (fun vs h => ?_) fun L => ?_
  · obtain ⟨a, b, rfl⟩ := len2 h; kernel_rfl
  have hE : EnvOK (callEnvC fd941 L 941) := envOKC fd941 (by kernel_rfl)
  refine Ex.cons (Es.ret (Ev.lc (xs := (List.range fs.length).map fun i => .int ((i : Nat) : Int)) _ [("folders", .list fs), ("c", .int c)] ?_ rfl (by decide +kernel) ⟨rfl, fun _ => rfl, rfl, fun _ => rfl, trivial⟩ ?_ (by simp; omega)) rfl)
  · rw [← rng_up]
    exact Src.range1 HB hE (by kernel_rfl) (Ev.lenL (x := "len") (xs := fs) HB hE (by kernel_rfl) Ev.name (by omega)) (by omega)
  · unfold pick
    have hr : ∀ i ∈ List.range fs.length, i < fs.length := fun i hi => List.mem_range.mp hi
    generalize List.range fs.length = is at hr ⊢
    induction is with
    | nil => exact LC.nil
    | cons i is ih =>
      have hi := hr i (.head _)
      have ih := ih fun j hj => hr j (.tail _ hj)
      obtain ⟨h1, h2⟩ := pow_small i (by omega)
      have e : (i :: is).filterMap (fun k => if c / 2 ^ k % 2 == 1 then fs[k]? else none) = if (c / 2 ^ i % 2 == 1) = true then fs[i] :: is.filterMap (fun k => if c / 2 ^ k % 2 == 1 then fs[k]? else none) else is.filterMap (fun k => if c / 2 ^ k % 2 == 1 then fs[k]? else none) := by
        rw [List.filterMap_cons, List.getElem?_eq_getElem hi]
        split <;> rename_i q <;> split at q <;> simp_all
      rw [e]
      exact LC.turn (fun C => TsL.one (Ts.eq (Ts.cmp (Ev.modI (Ev.divI (a := c) Ev.name (Ev.powI (n := i) Ev.cInt Ev.name (by omega) (by omega) (by decide)) h1 (PyProof.noPylong_small h2)) Ev.cInt (by decide)) Ev.cInt Cmp.eqI) (bit_int c hc i (by omega)))) (fun _ C => Ev.item (n := i) Ev.name Ev.name (by omega) (List.getElem?_eq_getElem hi)) ih
noncomputable def heldB (fr : List (List Str)) (x : List Str) : Bool := fr.any fun f => x.take f.length == f
theorem shaped_way {x : List Str} (h : gdW x = true) : SeqAt.shaped (way x) = true := by
  unfold SeqAt.shaped
  rw [gdW_lay h, depth_way]; rfl
theorem shaped_ways {xs : List (List Str)} (h : ∀ x ∈ xs, gdW x = true) : SeqAt.shaped (.list (xs.map way)) = true := by
  unfold SeqAt.shaped
  have e1 : PyData.canLay0 (.list (xs.map way)) = true := lay_ways h
  have e2 : PyData.depth (.list (xs.map way)) ≤ 64 := by
    show PyData.depthAll (xs.map way) + 1 ≤ 64
    have := depth_ways xs
    omega
  rw [e1, decide_eq_true e2]; rfl
theorem eqvAll_nil (xs : List PyData) : PyData.eqvAll xs [] = xs.isEmpty := by cases xs <;> rfl
theorem filter_any {α : Type} (p : α → Bool) : ∀ xs : List α, (!(xs.filter p).isEmpty) = xs.any p
  | [] => rfl
  | x :: xs => by
    rw [List.filter_cons, List.any_cons]
    cases h : p x with
    | true => simp
    | false => simp only [Bool.false_eq_true, if_false, Bool.false_or]; exact filter_any p xs
theorem held_ok (HB : Bs w B) (fr : List (List Str)) (x : List Str) (hf : ∀ f ∈ fr, gdW f = true) (hl : fr.length ≤ 1000) (hx : gdW x = true) : CallOK w B (k + 1) 953 [.list (fr.map way), way x] (.bool (heldB fr x)) := by
  refine callOK_c (fd := fd953) (body := bdS (stm 57)) ["fronts", "way"] HB (by kernel_rfl) (by kernel_rfl) (by decide +kernel) rfl (fun vs h => ?_) fun L => ?_
  · obtain ⟨a, b, rfl⟩ := len2 h; kernel_rfl
  have hE : EnvOK (callEnvC fd953 L 953) := envOKC fd953 (by kernel_rfl)
  refine Ex.cons (Es.ret (Ev.cmp (a := .list ((fr.filter fun f => x.take f.length == f).map way)) (Ev.lc _ [("way", way x)] (Src.list Ev.name) rfl (by decide +kernel) ⟨rfl, fun _ => rfl, trivial⟩ ?_ (by rw [List.length_map]; omega)) (Ev.disp (ds := []) EvAll.nil (by decide)) (Cmp.eqv (Cmp.ne (shaped_ways fun f hf' => hf f (List.mem_filter.mp hf').1) (by decide +kernel)) (c' := heldB fr x) ?_)) rfl)
  · clear hl
    induction fr with
    | nil => exact LC.nil
    | cons f fr ih =>
      have hg := hf f (.head _)
      have ih := ih fun g hg => hf g (.tail _ hg)
      have e : ((f :: fr).filter fun f => x.take f.length == f).map way = if (x.take f.length == f) = true then way f :: (fr.filter fun f => x.take f.length == f).map way else (fr.filter fun f => x.take f.length == f).map way := by
        rw [List.filter_cons]; split <;> rfl
      rw [e]
      refine LC.turn (fun C => TsL.one (Ts.eq (Ts.cmp (a := way (x.take f.length)) (b := way f) ?_ Ev.name (Cmp.eq (shaped_way (gdW_take hx _)) (shaped_way hg))) (eqv_way _ _))) (fun _ C => Ev.name) ih
      unfold way
      rw [List.map_take]
      have := gdW_le hx
      have := gdW_le hg
      exact Ev.sliceL (Ev.name (d := .list (x.map .str))) (Ev.eq (Ev.lenL (x := "len") (xs := f.map .str) HB ⟨hE.kind, hE.globals, hE.builtins⟩ (by kernel_rfl) Ev.name (by rw [List.length_map]; omega)) (by rw [List.length_map])) (by rw [List.length_map]; omega)
  · show (!PyData.eqvAll _ []) = _
    rw [eqvAll_nil]
    unfold heldB
    rw [← filter_any]
    simp
noncomputable def fitsB (fr gone kept : List (List Str)) : Bool := gone.all (heldB fr) && !kept.any (heldB fr)
theorem fits_ok (HB : Bs w B) (fr gone kept : List (List Str)) (hf : ∀ f ∈ fr, gdW f = true) (hl : fr.length ≤ 1000) (hg : ∀ f ∈ gone, gdW f = true) (hk : ∀ f ∈ kept, gdW f = true) (hl' : kept.length ≤ 1000) :
    CallOK w B (k + 2) 958 [.list (fr.map way), .list (gone.map way), .list (kept.map way)] (.bool (fitsB fr gone kept)) := by
  refine callOK_c (fd := fd958) (body := bdS (stm 58)) ["fronts", "gone", "kept"] HB (by kernel_rfl) (by kernel_rfl) (by decide +kernel) rfl (fun vs h => ?_) fun L => ?_
  · obtain ⟨a, b, c, rfl⟩ := len3 h; kernel_rfl
  have hE : EnvOK (callEnvC fd958 L 958) := envOKC fd958 (by kernel_rfl)
  refine Ex.cons (Es.for (xs := gone.map way) (Src.list Ev.name) (.inl (by kernel_rfl)) ?_)
  refine Fo.inv (fun (ds : List PyData) (σ : Sg) => ∃ (qs : List (List Str)), ds = qs.map way ∧ (∀ p ∈ qs, gdW p = true) ∧ σ.own = none ∧ σ.at "fronts" (.list (fr.map way)) ∧ σ.at "kept" (.list (kept.map way)) ∧ gone.all (heldB fr) = qs.all (heldB fr)) ?_ ?_ _ _ ⟨gone, rfl, hg, rfl, rfl, rfl, rfl⟩
  · rintro d ds ρ own ⟨qs, e1, h1, e3, d1, d2, e4⟩
    obtain ⟨q, ys, rfl, rfl, rfl⟩ := map_cons_inv e1
    simp only [Sg.at] at e3 d1 d2
    subst e3
    have hq := h1 q (.head _)
    rw [List.all_cons] at e4
    refine ⟨trivial, ?_⟩
    refine Ex.cons (Es.iff (c := !heldB fr q) (Ts.not (Ts.plain (d := .bool (heldB fr q)) (Ev.fn 953 fd953 HB hE (by kernel_rfl) (EvAll.cons (Ev.name (d := .list (fr.map way)) d1) (EvAll.cons (Ev.name (d := way q)) EvAll.nil)) (held_ok HB fr q hf hl hq)) trivial)) (fun h => ?_) fun h => ?_)
    · refine Ex.cons (Es.ret (d := .bool false) Ev.cBool ?_)
      show _ = _
      unfold fitsB
      rw [e4]
      simp at h
      rw [h]; rfl
    · refine Ex.nil (Ex.nil ⟨ys, rfl, fun p hp => h1 p (.tail _ hp), rfl, d1, d2, ?_⟩)
      simp at h
      rw [e4, h]; rfl
  · rintro ρ own ⟨qs, e1, h1, e3, d1, d2, e4⟩
    have := map_nil_inv e1
    subst this
    simp only [Sg.at] at e3 d1 d2
    subst e3
    refine Ex.cons (Es.ret (Ev.cmp (a := .list ((kept.filter (heldB fr)).map way)) (Ev.lc _ [("fronts", .list (fr.map way))] (Src.list (Ev.name (d := .list (kept.map way)) d2)) rfl (by decide +kernel) ⟨d1, fun _ => rfl, trivial⟩ ?_ (by rw [List.length_map]; omega)) (Ev.disp (ds := []) EvAll.nil (by decide)) (Cmp.eq (shaped_ways fun f hf' => hk f (List.mem_filter.mp hf').1) (by decide +kernel))) ?_)
    · clear d2 e4 hl'
      induction kept with
      | nil => exact LC.nil
      | cons f kept ih =>
        have hgf := hk f (.head _)
        have ih := ih fun g hg => hk g (.tail _ hg)
        have e : ((f :: kept).filter (heldB fr)).map way = if (heldB fr f) = true then way f :: (kept.filter (heldB fr)).map way else (kept.filter (heldB fr)).map way := by
          rw [List.filter_cons]; split <;> rfl
        rw [e]
        exact LC.turn (fun C => TsL.one (Ts.plain (d := .bool (heldB fr f)) (Ev.fn 953 fd953 HB ⟨hE.kind, hE.globals, hE.builtins⟩ (by kernel_rfl) (EvAll.cons Ev.name (EvAll.cons (Ev.name (d := way f)) EvAll.nil)) (held_ok HB fr f hf hl hgf)) trivial)) (fun _ C => Ev.name) ih
    · show _ = _
      unfold fitsB
      rw [e4]
      show Out.ret (.bool (PyData.eqvAll _ [])) = _
      rw [eqvAll_nil, ← filter_any]
      simp
end
end Mine
end
section
open PySem PySem.W PySem.Calls PyProof.Rows PySem.Spec
namespace Mine
open PySem.Builtin PySem.Builtin.Re
noncomputable def drive : Nat → Sre.M → Option Sre.M
  | 0, _ => none
  | n + 1, m => if (m.runFor reTurnSteps).outcome.isSome then some (m.runFor reTurnSteps) else drive n (m.runFor reTurnSteps)
noncomputable def codeS : Array Nat := #[14, 17, 4, 1, 1, 21, 9, 0, 604043296, 1, 0, 0, 0, 0, 0, 8, 4, 0, 13, 14, 21, 9, 0, 604043296, 1, 0, 0, 0, 0, 0, 8, 4, 0, 1]
noncomputable def srch (x : Str) : Option Bool := (drive 1000 (Sre.forSearch codeS x.cps 0 0 x.cps.size false)).bind fun m => match m.outcome with
  | some .matched => some true
  | some .failed => some false
  | _ => none
section
variable {w : World} {B : Heap} {k : Nat} {prog : Program} {A : Around} {E : Value → Shared → Prop} {s : Shared}
theorem wp_drive {Q : Sre.M → Shared → Prop} : ∀ (n j : Nat) (m m' : Sre.M), drive n m = some m' → Q m' s → wpAny (model prog w) A (reDrive (j + n) m) Q E s
  | 0, j, m, m', h, _ => by cases h
  | n + 1, j, m, m', h, hq => by
    rw [← Nat.add_assoc]
    unfold reDrive
    unfold drive at h
    by_cases hs : (m.runFor reTurnSteps).outcome.isSome = true
    · rw [if_pos hs] at h ⊢
      cases h
      exact wpAny_pure hq
    · rw [if_neg hs] at h ⊢
      exact wpAny_bind (wpAny_rule (wp_drive n j _ m' h hq))
theorem wp_tags {Q : PUnit → Shared → Prop} {f : Nat → PUnit → Sem (ForInStep PUnit)} (hf : ∀ i u, (∃ t, f i u = (do rule t; pure (.yield ⟨⟩))) ∨ f i u = pure (.yield ⟨⟩)) (hq : Q ⟨⟩ s) : ∀ l : List Nat, wpAny (model prog w) A (forIn l ⟨⟩ f) Q E s
  | [] => by rw [List.forIn_nil]; exact wpAny_pure hq
  | i :: l => by
    rw [List.forIn_cons]
    refine wpAny_bind ?_
    rcases hf i ⟨⟩ with ⟨t, e⟩ | e
    · rw [e]
      exact wpAny_bind (wpAny_rule (wpAny_pure (wp_tags hf hq l)))
    · rw [e]
      exact wpAny_pure (wp_tags hf hq l)
theorem wp_run {Q : Option Sre.M → Shared → Prop} {m m' : Sre.M} (h : drive 1000 m = some m') (h1 : m'.outcome = some .matched → Q (some m') s) (h2 : m'.outcome = some .failed → Q none s) (h3 : m'.outcome = some .matched ∨ m'.outcome = some .failed) : wpAny (model prog w) A (reRunToEnd m) Q E s := by
  unfold reRunToEnd
  refine wpAny_bind ?_
  have e : (2 ^ 64 : Nat) = (2 ^ 64 - 1000) + 1000 := by decide
  rw [e]
  refine wp_drive 1000 _ m m' h ?_
  refine wpAny_bind (wp_tags (fun i u => ?_) ?_ _)
  · by_cases hc : m'.seen.has i = true
    · exact .inl ⟨_, by rw [if_pos hc]⟩
    · exact .inr (by rw [if_neg hc])
  · rcases h3 with h3 | h3
    · rw [h3]; exact wpAny_pure (h1 h3)
    · rw [h3]; exact wpAny_pure (h2 h3)
theorem entry_search : entryFor table "re.Pattern.search" = some Builtin.«re.Pattern.search» := entryFor_of_tree (by kernel_rfl)
end
end Mine
end
section
open PySem PySem.W PySem.Calls PyProof.Rows PySem.Spec
namespace Mine
open PySem.Builtin PySem.Builtin.Re
section
variable {w : World} {B : Heap} {k : Nat} {A : Around} {E : Value → Shared → Prop} {s : Shared}
theorem wp_neg {α : Type} {M : Model} {c : Prop} [Decidable c] {t e : Sem α} {Q : α → Shared → Prop} (h : ¬ c) (hq : wpAny M A e Q E s) : wpAny M A (if c then t else e) Q E s := by rw [if_neg h]; exact hq
theorem wp_pos {α : Type} {M : Model} {c : Prop} [Decidable c] {t e : Sem α} {Q : α → Shared → Prop} (h : c) (hq : wpAny M A t Q E s) : wpAny M A (if c then t else e) Q E s := by rw [if_pos h]; exact hq
theorem named_search (v : Value) : reNamed "re.Pattern.search" "search" ["string", "pos", "endpos"] 1 [v] [] = pure [some v, none, none] := by kernel_rfl
theorem sub_pat_mod : isSubtype (.type "re.Pattern") (.type "module") = pure false := by rw [isSubtype_type]; kernel_rfl
theorem sig_some : (Manifest.signature? "re.Pattern.search").isSome = true := by decide +kernel
theorem kind_search : builtinKind "re.Pattern.search" = some .method := by decide +kernel
theorem args_search (v : Value) (a : Addr) : Bind.checkArgs "re.Pattern.search" { ((Manifest.signature? "re.Pattern.search").get sig_some) with full := s!"{Bind.lastOf "re.Pattern"}.{Bind.lastOf "re.Pattern.search"}" } ⟨[.ref a, v], []⟩ = pure () := by kernel_rfl
theorem wp_bound {Q : Unit → Shared → Prop} {v : Value} {a : Addr} {vs : Array Value} (ho : s.heap.get? a = some ⟨.type "re.Pattern", none, .fields vs, #[]⟩) (hq : Q () s) : wpAny (model pg w) A (checkBoundCall "re.Pattern.search" ⟨[.ref a, v], []⟩) Q E s := by
  have hT : s.TypeIs (.ref a) "re.Pattern" := ⟨_, ho, rfl⟩
  have hs : Manifest.signature? "re.Pattern.search" = some ((Manifest.signature? "re.Pattern.search").get sig_some) := (Option.some_get _).symm
  unfold checkBoundCall
  rw [hs]
  dsimp only
  rw [kind_search]
  dsimp only
  rw [if_neg (by decide)]
  refine wpAny_bind (wpAny_isInstance hT sub_pat_mod ?_)
  rw [if_neg (by decide +kernel)]
  refine wpAny_bind (wpAny_bind (wpAny_load ho (wpAny_pure ?_)))
  rw [if_neg (show ¬ (false = true) from Bool.false_ne_true)]
  refine wpAny_bind (wpAny_typeOf hT ?_)
  dsimp only
  rw [args_search]
  exact wpAny_pure hq
noncomputable def items253 : Array Value := #[(.int (14) 0), (.int (17) 0), (.int (4) 0), (.int (1) 0), (.int (1) 0), (.int (21) 0), (.int (9) 0), (.int (0) 0), (.int (604043296) 0), (.int (1) 0), (.int (0) 0), (.int (0) 0), (.int (0) 0), (.int (0) 0), (.int (0) 0), (.int (8) 0), (.int (4) 0), (.int (0) 0), (.int (13) 0), (.int (14) 0), (.int (21) 0), (.int (9) 0), (.int (0) 0), (.int (604043296) 0), (.int (1) 0), (.int (0) 0), (.int (0) 0), (.int (0) 0), (.int (0) 0), (.int (0) 0), (.int (8) 0), (.int (4) 0), (.int (0) 0), (.int (1) 0)]
theorem hcode : Array.map (fun x => x.toNat) (Array.map reRawOf ((some items253).getD #[])) = codeS := by decide +kernel
theorem search_raw (HB : Bs w B) (hB : B.StaysIn s.heap) {x : Str} {t : Tok} {b : Bool} {Q : Value → Shared → Prop} (hx : srch x = some b) (hz : x.length ≤ 1000000) (h0 : b = false → Q .none s) (h1 : b = true → ∀ a s', Kp s s' → Q (.ref a) s') : wpAny (model pg w) A (call (.ref 915) [.str x t]) Q E s := by
  have h915 := hB _ _ (HB.K 915 ⟨.type "builtin_function_or_method", none, .fields #[(.builtin "re.Pattern.search"), (.ref 254)], #[]⟩ (by kernel_rfl))
  have h254 := hB _ _ (HB.K 254 ⟨(.type "re.Pattern"), none, .fields #[(.str "[^\\w@%+=:,./-]" 630), (.int (256) 667), (.int (0) 0), .none, .none, (.ref 253), (.int (0) 0)], #[]⟩ (by kernel_rfl))
  refine wpAny_call (codeAny_of_tree ?_)
  show wpAny _ _ (callAny (.ref 915) ⟨[.str x t], []⟩) _ _ s
  unfold callAny
  dsimp only
  refine wpAny_bind (wpAny_load h915 ?_)
  dsimp only
  rw [if_pos (by decide)]
  show wpAny _ _ (do checkBoundCall "re.Pattern.search" ⟨[.ref 254, .str x t], []⟩; again (.builtin "re.Pattern.search" ⟨[.ref 254, .str x t], []⟩)) _ _ s
  refine wpAny_bind (wp_bound h254 ?_)
  refine wpAny_pure ⟨plainId_quiet (by decide +kernel) _, codeAny_builtin entry_search ?_⟩
  rw [Around.under_plainId (by decide +kernel) _]
  unfold Builtin.«re.Pattern.search»
  refine wpAny_bind ?_
  unfold reTarget
  dsimp only
  rw [named_search]
  refine wpAny_bind (wpAny_pure ?_)
  refine wpAny_bind (wpAny_pure ?_)
  refine wpAny_bind (wpAny_pure ?_)
  refine wpAny_bind (wpAny_fieldsOf h254 rfl ?_)
  refine wpAny_bind (wpAny_bind (wpAny_pure ?_))
  refine wpAny_pure ?_
  refine wp_neg (fun h => Bool.false_ne_true h) ?_
  refine wp_neg (fun h => Bool.false_ne_true h) ?_
  refine wpAny_bind ?_
  unfold reNoCollectionInside
  refine wp_neg (fun h => Bool.false_ne_true h) ?_
  refine wpAny_pure (wpAny_bind (wpAny_bind ?_))
  have h253 := hB _ _ (HB.K 253 ⟨.type "tuple", none, .seq items253 0, #[]⟩ (by kernel_rfl))
  refine wpAny_seqItems h253 rfl (wpAny_pure (wpAny_pure ?_))
  have hm1 : min (Int.toNat 0) x.cps.size = 0 := Nat.zero_min _
  have hm2 : min (Int.toNat (2 ^ 63 - 1)) x.cps.size = x.cps.size := by
    have : x.cps.size ≤ 1000000 := hz
    omega
  unfold reAnswer
  refine wpAny_bind ?_
  dsimp only
  rw [hm1, hm2]
  rw [hcode]
  unfold srch at hx
  obtain ⟨m, hm, hb⟩ := Option.bind_eq_some_iff.mp hx
  refine wp_run hm (fun e => ?_) (fun e => ?_) ?_
  · rw [e] at hb; cases hb
    dsimp only
    refine wpAny_bind ?_
    have hg : reRawNat (#[Value.str (Str.ofString "[^\\w@%+=:,./-]") 630, Value.int 256 667, Value.int 0 0, Value.none, Value.none, Value.ref 253, Value.int 0 0].getD 2 Value.none) = 0 := by decide +kernel
    rw [hg]
    unfold reNewMatch
    dsimp only
    refine wp_neg (fun h => Bool.false_ne_true h) ?_
    refine wpAny_bind (wpAny_newTuple ?_ (by show 2 ≤ sizeLine; decide))
    unfold newFields
    refine wpAny_newObj_type ?_
    exact wpAny_pure (h1 rfl _ _ ((push_kp (t := s.toks)).comp (push_kp (t := s.toks))))
  · rw [e] at hb; cases hb
    exact wpAny_pure (h0 rfl)
  · split at hb
    · exact .inl (by assumption)
    · exact .inr (by assumption)
    · cases hb
end
end Mine
end
section
open PySem PySem.W PySem.Calls PyProof.Rows PySem.Spec
namespace Mine
section
variable {w : World} {B : Heap} {k : Nat} {env : Env} {ρ : Vars} {A : Around} {E : Value → Shared → Prop} {s : Shared}
theorem method2_gives' {T : String} {name : Str} {id : String} {Bl : Builtin} {self : Value} {pos : Pos} {x y : Sem Value} {Q : Value → Shared → Prop} (slot : Slot T name id) (entry : entryFor table id = some Bl)
    (h : wpAny (model pg w) A x (fun v s₁ => wpAny (model pg w) A y (fun u s₂ => s₂.TypeIs self T ∧ argsOk id ⟨[self, v, u], []⟩ ∧ ∃ m, Gives (Bl ⟨[self, v, u], []⟩) m ∧ m.post Q s₂) E s₁) E s) :
    wpAny (model pg w) A (callWith pos (.builtin id) [self] [(false, x), (false, y)] []) Q E s :=
  method_gives slot entry rfl (Calls.evalArgs_plain (Calls.spliced_cons (wpAny_mono h (fun _ _ h₁ => Calls.spliced_cons (wpAny_mono h₁ (fun _ _ h₂ => Calls.spliced_nil ⟨rfl, h₂⟩) fun _ _ e => e)) fun _ _ e => e)))
theorem Ev.replace0 {o e₁ e₂ : Expr} {ap pos : Pos} {x y z : Str} (ho : Ev w B k env ρ o (.str x)) (h1 : Ev w B k env ρ e₁ (.str y)) (h2 : Ev w B k env ρ e₂ (.str z)) (hx : (Builtin.Str.occurrences x y 0 x.length (x.length + 1)).isEmpty = true)
    (hline : (ap.endLine == pos.line) = true := by rfl) (hse : starEach [e₁, e₂] env = [(false, eval e₁ env), (false, eval e₂ env)] := by rfl) (hbase : attributeBase o "replace" env (eval o env) = eval o env := by rfl) :
    Ev w B k env ρ (.Call (.Attribute o "replace" ap) [e₁, e₂] [] pos) (.str x) := fun A s H Q E hA C hq =>
  Call_method2 hbase hse hline (ho A s H _ E hA C fun v as s₁ k₁ r₁ => by
    cases r₁
    rename_i t
    refine ⟨"str", _, F.plainAttrs_str, F.slot_str_replace, F.type_str_replace, typeIs_str _ _ _, (fun _ e => nomatch e), method2_gives' F.slot_str_replace F.entry_str_replace (h1 A s₁ H _ E hA (C.keeps k₁) fun v as s₂ k₂ r₂ => h2 A s₂ H _ E hA ((C.keeps k₁).keeps k₂) fun u bs s₃ k₃ r₃ => ?_)⟩
    cases r₂; cases r₃
    rename_i t2 t3
    refine ⟨typeIs_str _ _ _, F.args_str_replace_3 _ _ _, _, gives_str_replace x y z t t2 t3 (fun h => by rw [hx] at h; cases h), ?_⟩
    rw [hx]
    exact hq _ _ _ ((k₁.comp k₂).comp k₃) (.str _ _))
noncomputable def quoteS (x : Str) : Str := if x.length = 0 then "''" else match srch x with
  | some false => x
  | _ => "'" ++ x ++ "'"
theorem callWith_any {M : Model} {P : Heap → Prop} {f : Value} {first : List Value} {pos : Pos} {e : Expr} {rest : List Expr} {Q : Value → Shared → Prop} (hk : ∀ h, P h → ∃ k, (k = Keeper.frame ∨ k = Keeper.machine ∨ k = Keeper.boundFrame) ∧ Looks M h (keeperOf f) k)
    (h : wpAny M A (spliced (backTo pos (starEach (e :: rest) env))) (fun vs s₁ => P s₁.heap ∧ wpAny M A (call f (first ++ vs)) Q E s₁) E s) (he : starEach (e :: rest) env = (false, eval e env) :: starEach rest env := by rfl) (hpl : (backTo pos (starEach rest env)).any (·.1) = false := by rfl) :
    wpAny M A (callWith pos f first (backTo pos (starEach (e :: rest) env)) []) Q E s := by
  rw [he] at h ⊢
  exact callWith_of (by show ((false || (backTo pos (starEach rest env)).any (·.1)) || false) = false; rw [hpl]; rfl) hk (evalArgs_plain h)
theorem keep915 (HB : Bs w B) : ∀ h, B.StaysIn h → ∃ k, (k = Keeper.frame ∨ k = Keeper.machine ∨ k = Keeper.boundFrame) ∧ Looks (model pg w) h (keeperOf (.ref 915)) k := fun h hB =>
  ⟨.machine, .inr (.inl rfl), (Looks.ld (part := none) (hB _ _ (HB.K 915 ⟨.type "builtin_function_or_method", none, .fields #[(.builtin "re.Pattern.search"), (.ref 254)], #[]⟩ (by kernel_rfl)))).andThen .now⟩
theorem Ts.find {np pos cp : Pos} {e : Expr} {p2 : Pos} {n : Nat} {x : Str} {b : Bool} (HB : Bs w B) (hE : EnvOK env) (hg : env.kindOf "_find_unsafe" = some .globalImplicit) (he : Ev w B k env ρ e (.str x)) (hx : srch x = some b) (hz : x.length ≤ 1000000)
    (hse : starEach (e :: []) env = (false, eval e env) :: starEach [] env := by rfl) : Ts w B k env ρ (.Compare (.Call (.Name "_find_unsafe" np) [e] [] cp) [.Is] [.Constant .none n p2] pos) (!b) := fun A s H Q E hA C hq => by
  refine wpAny_isTrue_Compare1 ?_
  refine wpAny_Call_NameR (glob HB hE C.base (v := .ref 915) hg (by kernel_rfl) ?_)
  refine callWith_any (P := fun h => B.StaysIn h) (keep915 HB) ?_ hse rfl
  refine args_cons (he A s H _ E hA C fun v as s₁ k₁ r => args_nil ⟨(C.keeps k₁).base, ?_⟩) hse
  cases r
  refine search_raw HB (C.keeps k₁).base hx hz (fun hb => ?_) fun hb a s₂ k₂ => ?_
  · subst hb
    refine wpAny_Constant_none ?_
    refine wpAny_is_plain rfl ?_
    exact wpAny_truthy_bool (hq _ k₁)
  · subst hb
    refine wpAny_Constant_none ?_
    refine wpAny_is_other (by rfl) (by intro e; cases e) ?_
    exact wpAny_truthy_bool (hq _ (k₁.comp k₂))
theorem quote_ok (HB : Bs w B) (x : Str) (b : Bool) (hz : x.length ≤ 1000) (h0 : (x.length != 0) = true) (hx : srch x = some b) (hy : (Builtin.Str.occurrences x "'" 0 x.length (x.length + 1)).isEmpty = true) : CallOK w B (k + 1) 922 [.str x] (.str (if b = true then "'" ++ x ++ "'" else x)) := by
  refine callOK_c (fd := fd922) (body := bdS (stm 51)) ["s"] HB (by kernel_rfl) (by kernel_rfl) (by decide +kernel) rfl (fun vs h => ?_) fun L => ?_
  · obtain ⟨a, rfl⟩ := len1 h; kernel_rfl
  have hE : EnvOK (callEnvC fd922 L 922) := envOKC fd922 (by kernel_rfl)
  have ht : tru (.str x) = true := h0
  refine Ex.cons (Es.iff (c := false) (Ts.eq (Ts.not (Ts.plain (d := .str x) Ev.name (small_str (by omega)))) (by rw [ht]; rfl)) (fun h => absurd h (by decide)) fun _ => Ex.nil ?_)
  refine Ex.cons (Es.iff (c := !b) (Ts.find HB hE (by kernel_rfl) Ev.name hx (by omega)) (fun h => ?_) fun h => Ex.nil ?_)
  · have : b = false := by simpa using h
    subst this
    exact Ex.cons (Es.ret Ev.name rfl)
  · have : b = true := by simpa using h
    subst this
    refine Ex.cons (Es.ret (Ev.addS (Ev.addS Ev.cStr (Ev.replace0 Ev.name Ev.cStr Ev.cStr hy) ?_) Ev.cStr ?_) rfl)
    · have : ("'" : Str).length = 1 := by decide +kernel
      rw [this, sizeLine_eq]; omega
    · have e : ("'" : Str).length = 1 := by decide +kernel
      have : ("'" ++ x : Str).length = 1 + x.length := by rw [← e]; exact Str.length_append _ _
      rw [e, this, sizeLine_eq]; omega
end
end Mine
end
section
open PySem PySem.W PySem.Calls PyProof.Rows PySem.Spec
namespace Mine
noncomputable def genPos : Pos := match bdS (stm 48) with
  | [.Return (some (.Call _ [.GeneratorExp _ _ _ pos] _ _)) _] => pos
  | _ => ⟨0, 0, 0, 0⟩
noncomputable def Tb (h : Heap) : Prop := ∃ ps, h.get? 909 = some { cls := .none, data := .fields ps } ∧ (ps = #[] ∨ ∃ c : Addr, ps = #[rawInt genPos.line, rawInt genPos.col, .ref c])
structure Kj (s s' : Shared) : Prop where
  keep : ∀ b o, b ≠ 909 → s.heap.get? b = some o → s'.heap.get? b = some o
  bare : AllBare s'.gens
  os : s'.os = s.os
  tb : Tb s'.heap
section
variable {w : World} {B : Heap} {k : Nat} {env : Env} {ρ : Vars} {A : Around} {E : Value → Shared → Prop} {s : Shared}
noncomputable def code913 : Obj := ⟨(.type "code"), none, .fields #[(.str "join" 1477), (.str "join" 1478), (.str "/claim/cut.py" 1479), (.int (886) 0), (.int (1) 0), (.int (0) 0), (.int (0) 0), (.int (3) 0), (.ref 908), (.bool true), (.int (318) 0), (.ref 909), .none, (.ref 910), (.ref 911), (.ref 912), (.int (1481) 0), (.int (886) 0), (.str "/claim/cut.py" 1482)], #[]⟩
theorem tb_code (HB : Bs w B) {h : Heap} (hB : B.StaysIn h) {ps : Array Value} (hp : h.get? 909 = some { cls := .none, data := .fields ps }) (ht : TriplesOk ps.toList) : h.IsCode 913 909 ps ∧ h.TableAt 913 909 ps := by
  have h913 := hB _ _ (HB.K 913 code913 (by kernel_rfl))
  exact ⟨⟨code913, _, "/claim/cut.py", 1482, 3, 0, true, 318, 0, _, h913, rfl, rfl, rfl, rfl, rfl, rfl, hp, rfl, ht, by decide⟩, ⟨code913, _, h913, rfl, rfl, rfl⟩, hp⟩
theorem wp_genCode {sc : Scope} {qn : Str} {Q : Value → Shared → Prop} (HB : Bs w B) (hB : B.StaysIn s.heap) (hcode : env.code = .ref 913) (ht : Tb s.heap) (hq : ∀ c h' tk, (∀ b o, b ≠ 909 → s.heap.get? b = some o → h'.get? b = some o) → s.heap.objs.size ≤ h'.objs.size → Tb h' → Q c { s with heap := h', toks := tk }) :
    wpAny (model pg w) A (genexprCode env genPos qn sc) Q E s := by
  obtain ⟨ps, hp, rfl | ⟨c, rfl⟩⟩ := ht
  · obtain ⟨h1, h2⟩ := tb_code HB hB hp trivial
    refine wpAny_genexprCodeX hcode h1 h2 rfl fun c' h' tk hx hge hlt _ _ htab _ => hq _ h' tk (fun b o hb e => hx b o hb e) (Nat.le_trans hge (Nat.le_of_lt hlt)) ⟨_, htab.2, .inr ⟨c', rfl⟩⟩
  · obtain ⟨h1, h2⟩ := tb_code HB hB hp (by trivial)
    refine wpAny_genexprCode_hit hcode h1 (c' := .ref c) (by kernel_rfl) ?_
    exact hq _ s.heap s.toks (fun b o _ e => e) (Nat.le_refl _) ⟨_, hp, .inr ⟨c, rfl⟩⟩
theorem Ev.run {e : Expr} {d : PyData} {H : List Addr} {Q : Value → Shared → Prop} (h : Ev w B k env ρ e d) (hA : AOK k A) (C : Cx B env H s.heap ρ) (hq : ∀ v as s', Kp s s' → Reads (hideAll s'.heap H) v d as → Q v s') : wpAny (model pg w) A (eval e env) Q E s := h A s H Q E hA C hq
noncomputable def scB (v : Value) : List (Str × Value) := [("split_command", v)]
noncomputable def qd (p : Str × Bool) : Str := if p.2 = true then "'" ++ p.1 ++ "'" else p.1
structure QOK (p : Str × Bool) : Prop where
  le : p.1.length ≤ 1000
  ne : (p.1.length != 0) = true
  sr : srch p.1 = some p.2
  oc : (Builtin.Str.occurrences p.1 "'" 0 p.1.length (p.1.length + 1)).isEmpty = true
theorem join_raw (HB : Bs w B) (h9 : B.get? 909 = none) {H : List Addr} {v : Value} {as : List Addr} {ws : List (Str × Bool)} {Q : Value → Shared → Prop} (hA : AOK (k + 3) A) (hB : B.StaysIn s.heap) (hal : ∀ b ∈ H, ∃ o, s.heap.get? b = some o) (ht : Tb s.heap) (hg : AllBare s.gens)
    (r : Reads (hideAll s.heap H) v (.list (ws.map fun p => .str p.1)) as) (hw : ∀ p ∈ ws, QOK p) (hok : JoinOk " " (ws.map qd) = true) (hz : ws.length ≤ 1000) (hq : ∀ t s', Kj s s' → Q (.str (Txt.join " " (ws.map qd)) t) s') :
    wpAny (model pg w) A (call (.ref 914) [v]) Q E s := by
  refine wpAny_call (enter0 (k := k + 2) (fd := fd914) (body := bdS (stm 48)) (names := ["split_command"]) (ρ := [("split_command", .list (ws.map fun p => .str p.1))]) (H := H)
    (G := fun binds s' => s' = s ∧ binds = scB v) HB (by kernel_rfl) (by kernel_rfl) (by decide +kernel) rfl hA hB hal (fun Q E hQ => ?_) ?_ ?_)
  · have e : bindArgs fd914 ⟨[v], []⟩ = pure (scB v) := by kernel_rfl
    rw [e]
    exact wpAny_pure (hQ _ _ Kp.rfl' ⟨rfl, rfl⟩)
  · rintro binds s' k' ⟨rfl, rfl⟩
    refine ⟨fun x hx => ?_, fun x d e => ?_⟩
    · simp only [scB, List.mem_cons, List.not_mem_nil, or_false] at hx ⊢
      rw [hx]
    · simp only [List.lookup_cons, List.lookup_nil] at e
      split at e
      · rename_i q
        cases e
        have := beq_iff_eq.mp q
        subst this
        exact ⟨.head _, v, as, by kernel_rfl, r⟩
      · cases e
  · rintro L binds s₁ s₂ _ ⟨rfl, rfl⟩ k₂ Ff S nfp
    have hE : EnvOK (callEnvC fd914 L 914) := envOKC fd914 (by kernel_rfl)
    have hA1 : AOK (k + 2) (A.deeper (callEnvC fd914 L 914)) := hA.deeper
    obtain ⟨ps, hp9, hps⟩ := ht
    have ht₂ : Tb s₂.heap := ⟨ps, k₂.keep _ _ hp9, hps⟩
    have hg₂ : AllBare s₂.gens := by obtain ⟨_, _, rfl, _⟩ := k₂; exact hg
    have hos₂ : s₂.os = s₁.os := by obtain ⟨_, _, rfl, _⟩ := k₂; rfl
    refine wpAny_execs_cons (wpAny_Return_some ?_)
    refine Call_method1 rfl rfl rfl (Constant_str ?_)
    refine ⟨"str", _, F.plainAttrs_str, F.slot_str_join, F.type_str_join, typeIs_str _ _ _, (fun _ e => nomatch e), ?_⟩
    refine callWith_builtin rfl (evalArgs_plain (spliced_cons ?_))
    have hroom : (A.deeper (callEnvC fd914 L 914)).depth < recursionLimit := hA1.room
    refine wpAny_GeneratorExp_walksQD hA1.handled rfl (cl := []) rfl (by decide +kernel) rfl rfl rfl hroom ?_ (fun _ => rfl)
    obtain ⟨u, bs, V, ru⟩ := S.cx.rep "split_command" (.list (ws.map fun p => .str p.1)) rfl
    refine wpAny_Name (V (fun _ _ e => e) ?_) (by decide)
    cases ru with
    | list g1 g2 g3 g4 =>
    rename_i l o vs n as'
    have hl : s₂.heap.IsList l vs := ⟨o, of_hideAll _ g1, g2, n, g3⟩
    have e4 : (ws.map fun p => PyData.str p.1) = (ws.map (·.1)).map .str := by rw [List.map_map]; rfl
    rw [e4] at g4
    obtain ⟨lt, hvs, hlt⟩ := reads_strs g4
    have hlen : vs.size = ws.length := by
      have := congrArg List.length hlt
      have h2 := congrArg List.length hvs
      simp [strValues] at this h2
      omega
    refine wpAny_pyIter_list (s := { s₂ with toks := s₂.toks + 1 }) hl ?_
    have hB3 : B.StaysIn (s₂.heap.push { cls := .type "list_iterator", data := .fields #[.ref l, .int 0 0] }) := fun b o e => Heap.get?_push_of_some _ (S.base b o e)
    refine ⟨HB.nolimit.keeps hB3, wp_genCode HB hB3 rfl ?_ fun c h₃ tk₃ hk₃ hsz₃ ht₃ => ?_⟩
    · obtain ⟨ps, a, b⟩ := ht₂; exact ⟨ps, Heap.get?_push_of_some _ a, b⟩
    have hB₃ : B.StaysIn h₃ := fun b o e => hk₃ b o (fun q => by rw [q, h9] at e; cases e) (hB3 b o e)
    obtain ⟨mg, bm, ob, M⟩ := HB.m
    refine wpAny_builtinsFor (M.ns.keeps hB₃) M.name M.ne (hB₃ _ _ M.obj) M.cls M.dict M.data ?_
    have hI : s₂.heap.objs.size < h₃.objs.size := by rw [Heap.size_push] at hsz₃; exact hsz₃
    have hll : l < s₂.heap.objs.size := Heap.lt_size (of_hideAll _ g1)
    refine ⟨s₂.heap.objs.size, [s₂.heap.objs.size, l], [s₂.heap.objs.size], vs.size, _, _, (fun _ => true), (fun i y => ∃ t, y = .str (((ws.map qd)[i]?).getD "") t), rfl, (fun A' hA' => Walks.list hA' _ _ (Nat.ne_of_lt hll) vs), ?_, ?_, HB.nolimit.keeps hB₃, ?_, ?_, ?_⟩
    · refine ⟨⟨_, hk₃ _ _ (fun q => ?_) (Heap.get?_push_size _ rfl), rfl, rfl⟩, o, hk₃ _ _ (fun q => ?_) (Heap.get?_push_of_some _ (of_hideAll _ g1)), g2, n, g3⟩
      · have q : s₂.heap.objs.size = 909 := q
        have := Heap.lt_size (S.base _ _ (HB.K 963 ⟨.type "function", none, .func fd963, #[]⟩ (by kernel_rfl)))
        rw [q] at this
        exact absurd this (by decide)
      · obtain ⟨ps', a, _⟩ := ht₂
        rw [q] at g1
        rw [of_hideAll _ g1] at a
        cases a
        cases g2
    · intro b hb
      rcases List.mem_cons.mp hb with rfl | hb
      · exact hI
      · rw [List.mem_singleton.mp hb]; exact Nat.lt_trans hll hI
    · intro hm
      have q := List.mem_singleton.mp hm
      obtain ⟨_, hn, _⟩ := HB.nolimit.keeps S.base
      have := hn.lt
      rw [q] at this
      exact absurd this (Nat.lt_irrefl _)
    · intro href hhref
      refine ⟨fun A' E' i v t m₂ hA hD hU hP hn hm hkp => ?_, fun A' E' i v t m₂ hA hD hU hP hp hn hm hkp => ?_⟩
      · rw [List.forIn_nil]
        exact wpAny_pure ⟨rfl, Kp.rfl'⟩
      · have hv' : vs.toList[i]? = some v := by simpa using hP
        have hi : i < ws.length := by
          have := (List.getElem?_eq_some_iff.mp hv').1
          rw [Array.length_toList] at this; omega
        obtain ⟨d, cs, hd, rv⟩ := readsAll_get g4 i v hv'
        rw [List.map_map, List.getElem?_map, List.getElem?_eq_getElem hi] at hd
        cases hd
        have hp := hw _ (List.getElem_mem hi)
        have hA' : AOK (k + 1) A' := ⟨hA, by have := hA1.depth; omega, by have := hA1.units; omega⟩
        refine Ev.run (k := k + 1) (H := []) (ρ := [("arg", .str ws[i].1)]) (Ev.fn 922 fd922 HB ⟨rfl, hE.globals, rfl⟩ (by kernel_rfl) (EvAll.cons Ev.name EvAll.nil) (quote_ok (k := k) HB ws[i].1 ws[i].2 hp.le hp.ne hp.sr hp.oc)) hA' ?_ fun y ds s₃ k₃ r₃ => ?_
        · refine ⟨fun b o e => hkp b (List.mem_range.mpr (Heap.lt_size (hB₃ b o e))) (fun q => ?_) o (hhref b o (hB₃ b o e)), fun y d e => ?_, fun b hb => nomatch hb⟩
          · have := Heap.lt_size (S.base b o e)
            rw [List.mem_singleton.mp q] at this
            exact absurd this (Nat.lt_irrefl _)
          · rw [List.lookup_cons] at e
            split at e
            · rename_i q
              cases e
              have := beq_iff_eq.mp q
              subst this
              exact ⟨v, cs, Var.local rfl rfl hn hm, flat.reads trivial rv⟩
            · cases e
        · cases r₃
          rename_i tkx
          refine ⟨⟨tkx, ?_⟩, k₃⟩
          rw [List.getElem?_map, List.getElem?_eq_getElem hi]
          rfl
    · intro a h₅ tk gs hgb hag hsz₅ hk₅ W hat
      refine spliced_nil ?_
      have hpass : passing (fun _ => true) vs.size 0 = List.range vs.size := by simp [passing]
      have hpos : (0 : Nat) < s₂.heap.objs.size := Nat.lt_of_le_of_lt (Nat.zero_le _) hll
      have hKlt : s₂.heap.objs.size - 1 < s₂.heap.objs.size := Nat.sub_lt hpos (by decide)
      have kp₅ : ∀ b o, b ≠ 909 → s₂.heap.get? b = some o → h₅.get? b = some o := fun b o hb e => hk₅ b o (hk₃ b o hb (Heap.get?_push_of_some _ e))
      have nL : L ≠ 909 := fun q => by
        obtain ⟨ps', a, _⟩ := ht₂
        obtain ⟨m, hn, _⟩ := Ff.loc
        obtain ⟨o', es, ep, e1, e2, _⟩ := hn
        have e1 : s₂.heap.get? L = some o' := e1
        rw [q, a] at e1
        cases e1
        cases e2
      obtain ⟨m, hns⟩ : ∃ m, h₅.Ns L m := by
        obtain ⟨m, hn, _⟩ := Ff.loc
        exact ⟨m, Heap.Ns.at' (a := L) hn fun o e => kp₅ L o nL e⟩
      have hLlt : L < s₂.heap.objs.size := by
        obtain ⟨m, hn, _⟩ := Ff.loc
        exact hn.lt
      have etx : (List.range (passing (fun _ => true) vs.size 0).length).map (fun j => ((ws.map qd)[j]?).getD ("" : Str)) = ws.map qd := by
        rw [hpass, List.length_range, hlen]
        refine List.ext_getElem (by simp) fun j h1 h2 => ?_
        simp only [List.length_map] at h2
        simp [h2]
      refine join_rowsK (h₀ := (default : Heap)) (L := L) (m := m) (K := s₂.heap.objs.size - 1) (n := (passing (fun _ => true) vs.size 0).length) ⟨hns, fun b o e => ?_, Nat.zero_le _⟩ ?_ ⟨_, _, _, _, W, hat, (fun i s' st => st.1.typeIs), List.mem_cons_self, ?_, ?_⟩ ?_ (fun j => ((ws.map qd)[j]?).getD "") (fun j v hv => ?_) ?_ (fun s' t' _ hb' hos' hkeep => ?_) ?_
      · cases e
      · exact hg₂.push hgb
      · intro b hb
        show b < h₅.objs.size
        rw [hsz₅]
        rcases List.mem_cons.mp hb with rfl | hb
        · exact Nat.lt_succ_self _
        · rcases List.mem_cons.mp hb with rfl | hb
          · exact Nat.lt_succ_of_lt hag
          · exact Nat.lt_succ_of_lt (Nat.lt_trans (List.mem_range.mp hb) hag)
      · intro b hb
        rcases List.mem_cons.mp hb with rfl | hb
        · exact Nat.lt_trans hKlt hI
        · rw [List.mem_singleton.mp hb]; exact hKlt
      · exact Nat.le_sub_one_of_lt hLlt
      · obtain ⟨i, hi, t, rfl⟩ := hv
        rw [hpass] at hi
        have := List.getElem?_eq_some_iff.mp hi
        obtain ⟨h1, h2⟩ := this
        rw [List.getElem_range] at h2
        subst h2
        exact ⟨t, rfl⟩
      · rw [etx]; exact hok
      · rw [etx]
        refine hq t' s' ⟨fun b o hb e => ?_, hb', hos'.trans hos₂, ?_⟩
        · have e2 := k₂.keep b o e
          exact hkeep b o (Nat.le_sub_one_of_lt (Heap.lt_size e2)) (kp₅ b o hb e2)
        · obtain ⟨ps', a, b⟩ := ht₃
          refine ⟨ps', hkeep 909 _ ?_ (hk₅ _ _ a), b⟩
          obtain ⟨ps₂, a₂, _⟩ := ht₂
          exact Nat.le_sub_one_of_lt (Heap.lt_size a₂)
      · rw [hpass, List.length_range, hlen, sizeLine_eq]; omega
end
end Mine
end
section
open PySem PySem.W PySem.Calls PyProof.Rows PySem.Spec
namespace Mine
noncomputable abbrev At := List (Str × Tok × Value)
noncomputable def ents (P : Params) (l : At) : List DictEntry := l.map fun a => kv P a.1 a.2.1 a.2.2
noncomputable def Fs := List (Str × Value)
noncomputable def setF (name : Str) (v : Value) : List (Str × Value) → List (Str × Value)
  | [] => [(name, v)]
  | (x, u) :: r => if x = name then (x, v) :: r else (x, u) :: setF name v r
noncomputable def setA (name : Str) (t : Tok) (v : Value) : At → At
  | [] => [(name, t, v)]
  | (x, t', u) :: r => if x = name then (x, t', v) :: r else (x, t', u) :: setA name t v r
theorem setA_map (name : Str) (t : Tok) (v : Value) : ∀ l : At, (setA name t v l).map (fun a => (a.1, a.2.2)) = setF name v (l.map fun a => (a.1, a.2.2))
  | [] => rfl
  | (x, t', u) :: r => by
    unfold setA
    simp only [List.map_cons, setF]
    split
    · rfl
    · simp only [List.map_cons, setA_map name t v r]
theorem setA_len (name : Str) (t : Tok) (v : Value) : ∀ l : At, (setA name t v l).length ≤ l.length + 1
  | [] => Nat.le_refl _
  | (x, t', u) :: r => by
    unfold setA
    have := setA_len name t v r
    split <;> simp only [List.length_cons] <;> omega
theorem isStr_eq (x name : Str) (t : Tok) : (Value.str x t).isStr name = decide (x = name) := by
  show (x == name) = _
  by_cases h : x = name
  · simp [h]
  · simp [h]
theorem putL_ents (P : Params) (name : Str) (t : Tok) (v : Value) : ∀ l : At, putL name (PyData.keyHash P name) (.str name t) v (ents P l) = ents P (setA name t v l)
  | [] => rfl
  | (x, t', u) :: r => by
    show putL name _ _ v (kv P x t' u :: ents P r) = _
    unfold putL setA
    show (if (Value.str x t').isStr name = true then _ else _) = _
    rw [isStr_eq]
    by_cases h : x = name
    · simp [h]; rfl
    · simp only [h, decide_false, Bool.false_eq_true, if_false]
      rw [putL_ents P name t v r]
      rfl
theorem getL_ents (P : Params) (name : Str) : ∀ l : At, getL name (ents P l) = some ((l.map fun a => (a.1, a.2.2)).lookup name)
  | [] => rfl
  | (x, t', u) :: r => by
    have ih := getL_ents P name r
    unfold getL at ih ⊢
    show (match (kv P x t' u :: ents P r).find? (·.key.isStr name) with | some e => some (some e.val) | none => if (kv P x t' u :: ents P r).any (·.refKey) then none else some none) = _
    rw [List.find?_cons]
    have e : (kv P x t' u).key.isStr name = decide (x = name) := isStr_eq x name t'
    rw [e]
    by_cases h : x = name
    · subst h; simp; rfl
    · simp only [h, decide_false, List.map_cons, List.lookup_cons, beq_eq_false_iff_ne.mpr (Ne.symm h)]
      rw [← ih]
      rfl
noncomputable def Ob (w : World) (h : Heap) (x dx C : Addr) (fs : List (Str × Value)) : Prop :=
  ∃ (l : At) (n : Nat) (sl : Array (Option Value)), l.map (fun a => (a.1, a.2.2)) = fs ∧ h.get? x = some ⟨.ref C, some dx, .plain, sl⟩ ∧ h.get? dx = some (dictOf (ents w.params l) n)
structure Cls (w : World) (C : Addr) : Prop where
  get : plainGet (KP w.params) C "" = true
  dict : hasDictIn (KP w.params) C = true
  set : findIn (KP w.params) (.ref C) "__setattr__" = some (some (.builtin "object.__setattr__"))
  over : plainOver (KP w.params) C = true
section
variable {w : World} {B : Heap} {A : Around} {E : Value → Shared → Prop} {s : Shared} {x dx C : Addr} {fs : List (Str × Value)}
theorem Ob.keeps {h h' : Heap} (O : Ob w h x dx C fs) (h1 : ∀ o, h.get? x = some o → h'.get? x = some o) (h2 : ∀ o, h.get? dx = some o → h'.get? dx = some o) : Ob w h' x dx C fs :=
  let ⟨l, n, sl, a, b, c⟩ := O; ⟨l, n, sl, a, h1 _ b, h2 _ c⟩
theorem K_in (HB : Bs w B) {h : Heap} (hB : B.StaysIn h) : Frag.In (KP w.params) h := fun a o e => hB a o (HB.K a o e)
theorem Ob.get {name : Str} {v : Value} {attr : Option Value} {expr : Bool} {Q : Value → Shared → Prop} (HB : Bs w B) (hB : B.StaysIn s.heap) (c : Cls w C) (O : Ob w s.heap x dx C fs) (ha : findIn (KP w.params) (.ref C) name = some attr) (hn : noGet (KP w.params) attr = true)
    (hl : fs.lookup name = some v) (hv : handedIn v = true) (h : Q v { s with toks := s.toks + 1 }) : wpAny (model pg w) A (getAttr (.ref x) name expr) Q E s := by
  obtain ⟨l, n, sl, rfl, h1, h2⟩ := O
  refine get_value (K_in HB hB) (od := some (dictOf (ents w.params l) n)) ⟨h1, rfl, rfl, h2⟩ (plainGet_of c.get).1 (findObj_own c.dict ha hn ?_) hv h
  rw [lookIn_dict, getL_ents, hl]
theorem Ob.set {name : Str} {v : Value} {Q : Unit → Shared → Prop} (HB : Bs w B) (hB : B.StaysIn s.heap) (c : Cls w C) (O : Ob w s.heap x dx C fs) (hne : x ≠ dx) (ht : takerIn (KP w.params) C name = some none) (hz : fs.length ≤ 900)
    (h : ∀ h', Ob w h' x dx C (setF name v fs) → Heap.SameBut dx s.heap h' → Q () { s with heap := h', toks := s.toks + 2 }) : wpAny (model pg w) A (setAttr (.ref x) name v) Q E s := by
  obtain ⟨l, n, sl, rfl, hx, hd⟩ := O
  have X := K_in HB hB
  have I : InstAt s.heap x ⟨.ref C, some dx, .plain, sl⟩ C (some (dictOf (ents w.params l) n)) := ⟨hx, rfl, rfl, hd⟩
  refine set_plain X I c.set (osa_open (s := { s with toks := s.toks + 1 }) X I c.over ht fun b => ?_)
  obtain ⟨cd, hc, hd'⟩ := any_some c.dict
  refine wpAny_bind (wpAny_pure (wpAny_bind (wpAny_bind (wpAny_loadPart (s := { s with toks := s.toks + 1 }) hx (wpAny_bind (Looks.here (looks_clsIn X hc) ?_))))))
  rw [hd']
  refine wpAny_pure (a := some dx) (wpAny_bind (wpAny_pure (wpAny_bind ?_)))
  unfold nsSet
  refine wpAny_bind (wpAny_bind (wpAny_askSetting (wpAny_pure (wpAny_bind (wpAny_mkText (wpAny_bind (wpAny_loadPart (s := { s with toks := s.toks + 1 + 1 }) hd ?_)))))))
  have hr : (ents w.params l).toArray.any (·.refKey) = false := by
    rw [← Array.any_toList, List.any_eq_false]
    intro e he
    obtain ⟨a, _, rfl⟩ := List.mem_map.mp he
    simp [DictEntry.refKey, kv]
  have hcond : (!(ents w.params l).toArray.any (·.key.isStr name) && (ents w.params l).toArray.any (·.refKey)) = false := by rw [hr, Bool.and_false]
  dsimp only [dictOf]
  rw [aRefKeyMayBeTheName_at, hcond]
  refine wpAny_updatePart (s := { s with toks := s.toks + 1 + 1 }) hd ?_
  have hup : (s.heap.update dx (Obj.putName name (PyData.keyHash w.params name) (.str name (s.toks + 1)) v)).get? dx = some (dictOf (ents w.params (setA name (s.toks + 1) v l)) (putN name (ents w.params l) n)) := by
    rw [Heap.get?_update_self _ hd (by rw [putName_dict]; rfl), putName_dict, putL_ents]
  have hlen : (setA name (s.toks + 1) v l).length ≤ 1000 := by
    have := setA_len name (s.toks + 1) v l
    rw [List.length_map] at hz
    omega
  refine wpAny_bind (wpAny_lookBehind (s := { s with heap := s.heap.update dx (Obj.putName name (PyData.keyHash w.params name) (.str name (s.toks + 1)) v), toks := s.toks + 1 + 1 }) hup (by exact pastItsLine_dict (by rw [List.size_toArray, sizeLine_eq]; simp only [ents, List.length_map]; omega)) ?_)
  refine wpAny_pure (h _ ⟨setA name (s.toks + 1) v l, _, sl, setA_map _ _ _ _, ?_, hup⟩ (Heap.SameBut.update ..))
  exact (Heap.SameBut.update ..).extBut _ _ hne hx
theorem Ob.meth {name : Str} {f : Addr} {pl : Sem Bool} {Q : Value × List Value → Shared → Prop} (HB : Bs w B) (hB : B.StaysIn s.heap) (c : Cls w C) (O : Ob w s.heap x dx C fs) (hf : findIn (KP w.params) (.ref C) name = some (some (.ref f))) (ht : isFn (KP w.params) (.ref f) = true)
    (hl : fs.lookup name = none) (h : Q (.ref f, [.ref x]) s) : wpAny (model pg w) A (getMethod (.ref x) name pl) Q E s := by
  obtain ⟨l, n, sl, rfl, h1, h2⟩ := O
  refine method_fn (K_in HB hB) (od := some (dictOf (ents w.params l) n)) ⟨h1, rfl, rfl, h2⟩ (plainGet_of c.get).1 (plainGet_of c.get).2 hf (beq_iff_eq.mp ht) ?_ h
  show (lookIn name (dictOf (ents w.params l) n)).map (·.isSome) = some false
  rw [lookIn_dict, getL_ents, hl]; rfl
theorem cls802 : Cls w 802 := ⟨by kernel_rfl, by kernel_rfl, by kernel_rfl, by kernel_rfl⟩
theorem cls895 : Cls w 895 := ⟨by kernel_rfl, by kernel_rfl, by kernel_rfl, by kernel_rfl⟩
theorem cls224 : Cls w 224 := ⟨by kernel_rfl, by kernel_rfl, by kernel_rfl, by kernel_rfl⟩
end
end Mine
end
section
open PySem PySem.W PySem.Calls PyProof.Rows PySem.Spec
namespace Mine
inductive AV where
  | dat (d : PyData)
  | raw (v : Value)
noncomputable def AV.fit : AV → Value → Prop
  | .dat d, v => ∀ h, Reads h v d []
  | .raw v', v => v' = v
noncomputable def Fit : List (Str × AV) → List (Str × Value) → Prop
  | [], [] => True
  | (x, a) :: r, (y, v) :: r' => x = y ∧ a.fit v ∧ Fit r r'
  | _, _ => False
noncomputable def setV (name : Str) (a : AV) : List (Str × AV) → List (Str × AV)
  | [] => [(name, a)]
  | (x, u) :: r => if x = name then (x, a) :: r else (x, u) :: setV name a r
theorem Fit.look : ∀ {fs : List (Str × AV)} {vs : List (Str × Value)}, Fit fs vs → ∀ {n : Str} {a : AV}, fs.lookup n = some a → ∃ v, vs.lookup n = some v ∧ a.fit v
  | [], _, _, n, a, e => by cases e
  | (x, b) :: r, [], h, n, a, e => h.elim
  | (x, b) :: r, (y, v) :: r', ⟨e0, h1, h2⟩, n, a, e => by
    subst e0
    rw [List.lookup_cons] at e ⊢
    split at e
    · rename_i q; cases e; exact ⟨v, rfl, h1⟩
    · exact h2.look e
theorem Fit.none : ∀ {fs : List (Str × AV)} {vs : List (Str × Value)}, Fit fs vs → ∀ {n : Str}, fs.lookup n = none → vs.lookup n = none
  | [], [], _, n, e => rfl
  | [], _ :: _, h, n, e => h.elim
  | (x, b) :: r, [], h, n, e => h.elim
  | (x, b) :: r, (y, v) :: r', ⟨e0, h1, h2⟩, n, e => by
    subst e0
    rw [List.lookup_cons] at e ⊢
    split at e
    · cases e
    · exact h2.none e
theorem Fit.set {n : Str} {a : AV} {v : Value} (hv : a.fit v) : ∀ {fs : List (Str × AV)} {vs : List (Str × Value)}, Fit fs vs → Fit (setV n a fs) (setF n v vs)
  | [], [], _ => ⟨rfl, hv, trivial⟩
  | [], _ :: _, h => h.elim
  | (x, b) :: r, [], h => h.elim
  | (x, b) :: r, (y, u) :: r', ⟨e0, h1, h2⟩ => by
    subst e0
    unfold setV setF
    split
    · exact ⟨rfl, hv, h2⟩
    · exact ⟨rfl, h1, Fit.set hv h2⟩
theorem Fit.len : ∀ {fs : List (Str × AV)} {vs : List (Str × Value)}, Fit fs vs → vs.length = fs.length
  | [], [], _ => rfl
  | [], _ :: _, h => h.elim
  | (x, b) :: r, [], h => h.elim
  | (x, b) :: r, (y, u) :: r', ⟨_, _, h2⟩ => by simp [h2.len]
structure OS where
  x : Addr
  dx : Addr
  C : Addr
  fs : List (Str × AV)
structure So where
  ρ : Vars
  rv : List (Str × Value)
  T : List OS
inductive OutO where
  | next (σ : So)
  | brk (σ : So)
  | cont (σ : So)
  | ret (d : PyData) (σ : So)
structure ObS (w : World) (B : Heap) (env : Env) (Hc H : List Addr) (h : Heap) (o : OS) : Prop where
  ob : ∃ vs, Ob w h o.x o.dx o.C vs ∧ Fit o.fs vs
  inH : o.dx ∈ H
  nHc : o.dx ∉ Hc
  nfp : o.dx ∉ fp env
  nB : B.get? o.dx = none
  xH : o.x ∉ H
structure SrO (w : World) (B : Heap) (env : Env) (Hc H : List Addr) (h : Heap) (σ : So) : Prop where
  base : B.StaysIn h
  fr : ∃ vs, Fm B env h vs ∧ (∀ x d, σ.ρ.lookup x = some d → isVar env x ∧ ∃ v as, vs x = some v ∧ Reads (hideAll h H) v d as) ∧ ∀ x v, σ.rv.lookup x = some v → isVar env x ∧ vs x = some v
  fpH : ∀ b ∈ fp env, b ∈ H
  hc : ∀ b ∈ Hc, b ∈ H ∧ b ∉ fp env
  lt : ∀ b ∈ H, ∃ o, h.get? b = some o
  obs : ∀ o ∈ σ.T, ObS w B env Hc H h o
  apart : σ.T.Pairwise fun o o' => o.dx ≠ o'.dx
theorem pair_eq : ∀ {T : List OS}, (T.Pairwise fun o o' => o.dx ≠ o'.dx) → ∀ {p q : OS}, p ∈ T → q ∈ T → p.dx = q.dx → p = q
  | [], _, p, q, h, _, _ => by cases h
  | o :: T, hp, p, q, h1, h2, e => by
    obtain ⟨a, b⟩ := List.pairwise_cons.mp hp
    rcases List.mem_cons.mp h1 with e1 | h1 <;> rcases List.mem_cons.mp h2 with e2 | h2
    · rw [e1, e2]
    · exact absurd (e1 ▸ e) (a _ h2)
    · exact absurd (e2 ▸ e).symm (a _ h1)
    · exact pair_eq b h1 h2 e
theorem Bs.up {w : World} {B h : Heap} (HB : Bs w B) (hB : B.StaysIn h) : Bs w h :=
  ⟨K_in HB hB, let ⟨mg, a⟩ := HB.g; ⟨mg, a.keeps hB⟩, let ⟨mg, bm, ob, M⟩ := HB.m; ⟨mg, bm, ob, M.keeps hB⟩, let ⟨mb, a, b⟩ := HB.b; ⟨mb, a.keeps hB, b⟩, HB.nolimit.keeps hB, let ⟨mc, a, b⟩ := HB.nodigits; ⟨mc, a.keeps hB, b⟩, hB _ _ HB.c2, hB _ _ HB.c5⟩
noncomputable def OutOKO (w : World) (B : Heap) (env : Env) (Hc H : List Addr) (s : Shared) : OutO → Flow → Shared → Prop
  | .next σ, f, s' => f = .next ∧ SrO w B env Hc H s'.heap σ ∧ Mv Hc H s s'
  | .brk σ, f, s' => f = .brk ∧ SrO w B env Hc H s'.heap σ ∧ Mv Hc H s s'
  | .cont σ, f, s' => f = .cont ∧ SrO w B env Hc H s'.heap σ ∧ Mv Hc H s s'
  | .ret d σ, f, s' => ∃ v as, f = .ret v ∧ Reads (hideAll s'.heap Hc) v d as ∧ SrO w B env Hc H s'.heap σ ∧ Mv Hc H s s'
theorem OutOKO.comp {w : World} {B : Heap} {env : Env} {Hc H : List Addr} {s s₁ s' : Shared} {o : OutO} {f : Flow} (m : Mv Hc H s s₁) (h : OutOKO w B env Hc H s₁ o f s') : OutOKO w B env Hc H s o f s' := by
  cases o with
  | next σ => obtain ⟨e, a, b⟩ := h; exact ⟨e, a, m.comp Gr.rfl' b⟩
  | brk σ => obtain ⟨e, a, b⟩ := h; exact ⟨e, a, m.comp Gr.rfl' b⟩
  | cont σ => obtain ⟨e, a, b⟩ := h; exact ⟨e, a, m.comp Gr.rfl' b⟩
  | ret d σ => obtain ⟨v, as, e, r, a, b⟩ := h; exact ⟨v, as, e, r, a, m.comp Gr.rfl' b⟩
noncomputable def ExO (w : World) (B : Heap) (k : Nat) (env : Env) (σ : So) (ss : List Stmt) (K : OutO → Prop) : Prop :=
  ∀ (A : Around) (s : Shared) (Hc H : List Addr) (Q : Flow → Shared → Prop) (E : Value → Shared → Prop), AOK k A → SrO w B env Hc H s.heap σ → (∀ o f s', K o → OutOKO w B env Hc H s o f s' → Q f s') → wpAny (model pg w) A (execs ss env) Q E s
noncomputable def EsO (w : World) (B : Heap) (k : Nat) (env : Env) (σ : So) (st : Stmt) (K : OutO → Prop) : Prop :=
  ∀ (A : Around) (s : Shared) (Hc H : List Addr) (Q : Flow → Shared → Prop) (E : Value → Shared → Prop), AOK k A → SrO w B env Hc H s.heap σ → (∀ o f s', K o → OutOKO w B env Hc H s o f s' → Q f s') → wpAny (model pg w) A (exec st env) Q E s
noncomputable def ThenO (w : World) (B : Heap) (k : Nat) (env : Env) (rest : List Stmt) (K : OutO → Prop) : OutO → Prop
  | .next σ => ExO w B k env σ rest K
  | o => K o
noncomputable def EvO (w : World) (B : Heap) (k : Nat) (env : Env) (σ : So) (e : Expr) (d : PyData) : Prop := ∀ Hc H h, SrO w B env Hc H h σ → Ev w h k env σ.ρ e d
noncomputable def TsO (w : World) (B : Heap) (k : Nat) (env : Env) (σ : So) (e : Expr) (b : Bool) : Prop := ∀ Hc H h, SrO w B env Hc H h σ → Ts w h k env σ.ρ e b
section
variable {w : World} {B : Heap} {k : Nat} {env : Env} {σ : So} {K : OutO → Prop}
theorem SrO.keeps {Hc H : List Addr} {s s' : Shared} (S : SrO w B env Hc H s.heap σ) (k : Kp s s') : SrO w B env Hc H s'.heap σ := by
  obtain ⟨vs, F, hρ, hr⟩ := S.fr
  exact ⟨stays_kp S.base k, ⟨vs, F.keeps fun b o _ e => k.keep b o e, fun x d e => let ⟨hx, v, as, hv, r⟩ := hρ x d e; ⟨hx, v, as, hv, Reads.keeps k.hide r⟩, hr⟩, S.fpH, S.hc, fun b hb => let ⟨o, e⟩ := S.lt b hb; ⟨o, k.keep b o e⟩,
    fun o ho => let ⟨⟨us, a, a'⟩, b, c, d, e, f⟩ := S.obs o ho; ⟨⟨us, a.keeps (fun _ q => k.keep _ _ q) (fun _ q => k.keep _ _ q), a'⟩, b, c, d, e, f⟩, S.apart⟩
theorem SrO.cx {Hc H : List Addr} {h : Heap} (S : SrO w B env Hc H h σ) : Cx h env H h σ.ρ := ⟨fun _ _ e => e, fun x d e => by
  obtain ⟨vs, F, hρ, _⟩ := S.fr
  obtain ⟨hx, v, as, hv, r⟩ := hρ x d e
  exact ⟨v, as, F.var hx hv, r⟩, S.lt⟩
theorem ExO.nil (h : K (.next σ)) : ExO w B k env σ [] K := fun A s Hc H Q E hA S hq => wpAny_execs_nil (hq _ _ _ h ⟨rfl, S, Mv.rfl'⟩)
theorem ExO.cons {st : Stmt} {rest : List Stmt} (h : EsO w B k env σ st (ThenO w B k env rest K)) : ExO w B k env σ (st :: rest) K := fun A s Hc H Q E hA S hq =>
  wpAny_execs_cons (h A s Hc H _ E hA S fun o f s' hK ho => by
    cases o with
    | next σ' =>
      obtain ⟨rfl, S', m⟩ := ho
      exact hK A s' Hc H Q E hA S' fun o f s'' hK' ho' => hq o f s'' hK' (ho'.comp m)
    | brk σ' => obtain ⟨rfl, r⟩ := ho; exact hq (.brk σ') _ _ hK ⟨rfl, r⟩
    | cont σ' => obtain ⟨rfl, r⟩ := ho; exact hq (.cont σ') _ _ hK ⟨rfl, r⟩
    | ret d σ' => obtain ⟨v, as, rfl, r⟩ := ho; exact hq (.ret d σ') _ _ hK ⟨v, as, rfl, r⟩)
theorem SrO.store {M : Model} {A : Around} {E : Value → Shared → Prop} {Hc H : List Addr} {s : Shared} {x : Str} {v : Value} {d : PyData} {as : List Addr} {Q : Unit → Shared → Prop} (S : SrO w B env Hc H s.heap σ) (hx : isVar env x) (ho : σ.rv.lookup x = none)
    (r : Reads (hideAll s.heap H) v d as) (h : ∀ s', SrO w B env Hc H s'.heap ⟨(x, d) :: σ.ρ, σ.rv, σ.T⟩ → Mv Hc H s s' → Q () s') : wpAny M A (storeName env x v) Q E s := by
  obtain ⟨vs, F, hρ, hr⟩ := S.fr
  refine F.store hx fun h' tk F' hk hz => ?_
  have up : ∀ b o, (hideAll s.heap H).get? b = some o → (hideAll h' H).get? b = some o := hide_sub fun b o hb e => hk b o (fun q => hb (S.fpH b q)) e
  refine h _ ⟨fun b o e => hk b o (fun q => by rw [F.new b q] at e; cases e) (S.base b o e), ⟨_, F', fun y d' e => ?_, fun y v' e => ?_⟩, S.fpH, S.hc, fun b hb => ?_, fun o ho => ?_, S.apart⟩ ⟨⟨h', tk, rfl⟩, fun b o hb e => hk b o (fun q => hb.elim (fun z => (S.hc b z).2 q) fun z => z (S.fpH b q)) e⟩
  · simp only [List.lookup_cons] at e
    split at e
    · rename_i q
      cases e
      have := beq_iff_eq.mp q
      subst this
      exact ⟨hx, v, as, by simp, Reads.keeps up r⟩
    · rename_i q
      obtain ⟨hy, v', bs, hv', r'⟩ := hρ y d' e
      exact ⟨hy, v', bs, by rw [if_neg (fun c => by rw [c, beq_self_eq_true] at q; cases q)]; exact hv', Reads.keeps up r'⟩
  · obtain ⟨hy, hv⟩ := hr y v' e
    exact ⟨hy, by rw [if_neg (fun c => by rw [c] at e; have := ho.symm.trans e; cases this)]; exact hv⟩
  · obtain ⟨o, e⟩ := S.lt b hb
    exact hz b o e
  · obtain ⟨⟨us, a, a'⟩, b, c, d, e, f⟩ := S.obs o ho
    exact ⟨⟨us, a.keeps (fun _ q => hk _ _ (fun z => f (S.fpH _ z)) q) (fun _ q => hk _ _ d q), a'⟩, b, c, d, e, f⟩
theorem EsO.assign {x : Str} {px pos : Pos} {e : Expr} {d : PyData} (he : EvO w B k env σ e d) (hx : isVar env x) (ho : σ.rv.lookup x = none := by rfl) (hK : K (.next ⟨(x, d) :: σ.ρ, σ.rv, σ.T⟩))
    (hs : swapsWith e (some (.Name x px)) pos.line env = pure false := by rfl) : EsO w B k env σ (.Assign [.Name x px] e pos) K := fun A s Hc H Q E hA S hq =>
  wpAny_Assign_Name (he Hc H s.heap S A s H _ E hA S.cx fun v as s₁ k₁ r => (S.keeps k₁).store hx ho r fun s₂ S₂ m₂ => hq _ _ _ hK ⟨rfl, S₂, (Kp.mv k₁).comp Gr.rfl' m₂⟩) hs
theorem EsO.ret {e : Expr} {pos : Pos} {d : PyData} (he : EvO w B k env σ e d) (hK : K (.ret d σ)) : EsO w B k env σ (.Return (some e) pos) K := fun A s Hc H Q E hA S hq =>
  wpAny_Return_some (he Hc H s.heap S A s H _ E hA S.cx fun v as s₁ k₁ r => hq (.ret d σ) _ _ hK ⟨v, as, rfl, Reads.keeps (hide_more fun b hb => (S.hc b hb).1) r, S.keeps k₁, Kp.mv k₁⟩)
theorem EsO.iff {t : Expr} {b₁ b₂ : List Stmt} {pos : Pos} {c : Bool} (ht : TsO w B k env σ t c) (h1 : c = true → ExO w B k env σ b₁ K) (h2 : c = false → ExO w B k env σ b₂ K) : EsO w B k env σ (.If t b₁ b₂ pos) K := fun A s Hc H Q E hA S hq => by
  refine wpAny_If (ht Hc H s.heap S A s H _ E hA S.cx fun s₁ k₁ => ?_)
  cases c with
  | true => exact h1 rfl A s₁ Hc H Q E hA (S.keeps k₁) fun o f s' hK ho => hq o f s' hK (ho.comp (Kp.mv k₁))
  | false => exact h2 rfl A s₁ Hc H Q E hA (S.keeps k₁) fun o f s' hK ho => hq o f s' hK (ho.comp (Kp.mv k₁))
theorem EsO.brk {pos : Pos} (hK : K (.brk σ)) : EsO w B k env σ (.Break pos) K := fun A s Hc H Q E hA S hq => wpAny_Break (hq _ _ _ hK ⟨rfl, S, Mv.rfl'⟩)
theorem EsO.cont {pos : Pos} (hK : K (.cont σ)) : EsO w B k env σ (.Continue pos) K := fun A s Hc H Q E hA S hq => wpAny_Continue (hq _ _ _ hK ⟨rfl, S, Mv.rfl'⟩)
theorem EvO.attr {x a : Str} {p pos : Pos} {d : PyData} (HB : Bs w B) (o : OS) (c : Cls w o.C) (ho : o ∈ σ.T) (hr : σ.rv.lookup x = some (.ref o.x)) (hl : o.fs.lookup a = some (.dat d)) (ha : (findIn (KP w.params) (.ref o.C) a).any (noGet (KP w.params)) = true) (hh : ∀ v, (∀ h, Reads h v d []) → handedIn v = true := by intro v hv; cases hv default <;> rfl)
    (hdb : (x == ("__debug__" : Str)) = false := by decide) : EvO w B k env σ (.Attribute (.Name x p) a pos) d := fun Hc H h S A s H' Q E hA C hq => by
  obtain ⟨vs, F, _, hrv⟩ := S.fr
  obtain ⟨hx, hv⟩ := hrv x _ hr
  obtain ⟨⟨us, O, hf⟩, _⟩ := S.obs o ho
  obtain ⟨v, hlv, hfit⟩ := hf.look hl
  obtain ⟨attr, ha1, ha2⟩ := any_some ha
  refine Attribute_Name_ (wpAny_Name (F.var hx hv (fun b o e => C.base b o e) ?_) hdb)
  exact Ob.get (HB.up S.base) C.base c (O.keeps (fun _ e => C.base _ _ e) (fun _ e => C.base _ _ e)) ha1 ha2 hlv (hh v hfit) (hq v [] _ (Kp.tok _) (hfit _))
noncomputable def upd (dx : Addr) (n : Str) (a : AV) (T : List OS) : List OS := T.map fun o => if o.dx = dx then { o with fs := setV n a o.fs } else o
theorem SrO.set {M : Model} {A : Around} {E : Value → Shared → Prop} {Hc H : List Addr} {s : Shared} {name : Str} {v : Value} {a : AV} {Q : Unit → Shared → Prop} (HB : Bs w B) (S : SrO w B env Hc H s.heap σ) (o : OS) (c : Cls w o.C) (ho : o ∈ σ.T) (ht : takerIn (KP w.params) o.C name = some none) (hz : o.fs.length ≤ 900) (hv : a.fit v)
    (h : ∀ s', SrO w B env Hc H s'.heap ⟨σ.ρ, σ.rv, upd o.dx name a σ.T⟩ → Mv Hc H s s' → Q () s') : wpAny (model pg w) A (setAttr (.ref o.x) name v) Q E s := by
  obtain ⟨vs, F, hρ, hrv⟩ := S.fr
  obtain ⟨⟨us, O, hf⟩, inH, nHc, nfp, nB, xH⟩ := S.obs o ho
  have hne : o.x ≠ o.dx := fun e => xH (e ▸ inH)
  refine O.set HB S.base c hne ht (by rw [hf.len]; exact hz) fun h' O' hs => ?_
  have hk : ∀ b q, b ≠ o.dx → s.heap.get? b = some q → h'.get? b = some q := fun b q hb e => hs.extBut b q hb e
  have up : ∀ b q, (hideAll s.heap H).get? b = some q → (hideAll h' H).get? b = some q := hide_sub fun b q hb e => hk b q (fun z => hb (z ▸ inH)) e
  refine h _ ⟨fun b q e => hk b q (fun z => by rw [z, nB] at e; cases e) (S.base b q e), ⟨vs, F.keeps fun b q hb e => hk b q (fun z => nfp (z ▸ hb)) e, fun x d e => let ⟨hx, v, as, hv, r⟩ := hρ x d e; ⟨hx, v, as, hv, Reads.keeps up r⟩, hrv⟩, S.fpH, S.hc, fun b hb => ?_, fun p hp => ?_, ?_⟩
    ⟨⟨h', _, rfl⟩, fun b q hb e => hk b q (fun z => hb.elim (fun y => nHc (z ▸ y)) fun y => y (z ▸ inH)) e⟩
  · by_cases z : b = o.dx
    · obtain ⟨_, _, _, _, _, e⟩ := O'; exact ⟨_, z ▸ e⟩
    · obtain ⟨q, e⟩ := S.lt b hb; exact ⟨q, hk b q z e⟩
  · obtain ⟨p', hp', rfl⟩ := List.mem_map.mp hp
    obtain ⟨⟨us', O₂, hf₂⟩, q1, q2, q3, q4, q5⟩ := S.obs p' hp'
    by_cases z : p'.dx = o.dx
    · have := pair_eq S.apart hp' ho z
      subst this
      rw [if_pos rfl]
      exact ⟨⟨_, O', hf.set hv⟩, q1, q2, q3, q4, q5⟩
    · rw [if_neg z]
      exact ⟨⟨us', O₂.keeps (fun q e => hk _ q (fun y => q5 (y ▸ inH)) e) (fun q e => hk _ q z e), hf₂⟩, q1, q2, q3, q4, q5⟩
  · refine List.pairwise_map.mpr (S.apart.imp fun {p q} hpq => ?_)
    have e1 : ∀ p : OS, (if p.dx = o.dx then { p with fs := setV name a p.fs } else p).dx = p.dx := fun p => by split <;> rfl
    rw [e1, e1]; exact hpq
theorem EsO.setD {x a : Str} {xp tp pos : Pos} {e : Expr} {d : PyData} (HB : Bs w B) (o : OS) (c : Cls w o.C) (ho : o ∈ σ.T) (hr : σ.rv.lookup x = some (.ref o.x)) (ht : takerIn (KP w.params) o.C a = some none) (hz : o.fs.length ≤ 900) (he : EvO w B k env σ e d) (hf : flat d)
    (hK : K (.next ⟨σ.ρ, σ.rv, upd o.dx a (.dat d) σ.T⟩)) (hs : swapsWith e (some (.Attribute (.Name x xp) a tp)) pos.line env = pure false := by rfl) (hdb : (x == ("__debug__" : Str)) = false := by decide) : EsO w B k env σ (.Assign [.Attribute (.Name x xp) a tp] e pos) K := fun A s Hc H Q E hA S hq =>
  plainObj_wpAny_Assign_Attribute (he Hc H s.heap S A s H _ E hA S.cx fun v as s₁ k₁ r => by
    have S₁ := S.keeps k₁
    obtain ⟨vs, F, _, hrv⟩ := S₁.fr
    obtain ⟨hx, hv⟩ := hrv x _ hr
    refine wpAny_Name (F.var hx hv (fun _ _ e => e) ?_) hdb
    have hfit : ∀ h, Reads h v d [] := fun h => by
      cases r with
      | none => exact .none
      | bool b => exact .bool b
      | int i t => exact .int i t
      | str x t => exact .str x t
      | list => exact hf.elim
      | tuple => exact hf.elim
      | dict => exact hf.elim
    exact SrO.set (M := model pg w) (a := .dat d) HB S₁ o c ho ht hz hfit fun s₂ S₂ m₂ => hq _ _ _ hK ⟨rfl, S₂, (Kp.mv k₁).comp Gr.rfl' m₂⟩) hs
noncomputable def WhO (w : World) (B : Heap) (k : Nat) (env : Env) (t : Expr) (body : List Stmt) (K : OutO → Prop) : Nat → So → Prop
  | 0, _ => False
  | n + 1, σ => ∃ c, TsO w B k env σ t c ∧ (c = false → K (.next σ)) ∧ (c = true → ExO w B k env σ body fun o => match o with
    | .next σ' => WhO w B k env t body K n σ'
    | .cont σ' => WhO w B k env t body K n σ'
    | .brk σ' => K (.next σ')
    | .ret d σ' => K (.ret d σ'))
theorem EsO.while {t : Expr} {body : List Stmt} {pos : Pos} (n : Nat) (h : WhO w B k env t body K n σ) : EsO w B k env σ (.While t body [] pos) K := fun A s Hc H Q E hA S hq => by
  refine wpAny_While (codeAny_whileLoop (fun n s' => ∃ σ', SrO w B env Hc H s'.heap σ' ∧ Mv Hc H s s' ∧ WhO w B k env t body K n σ') ?_ n ⟨σ, S, Mv.rfl', h⟩)
  rintro n s' ⟨σ', S', m, hw⟩
  cases n with
  | zero => exact hw.elim
  | succ n =>
    obtain ⟨c, ht, hf, hb⟩ := hw
    refine ht Hc H s'.heap S' A s' H _ _ hA S'.cx fun s₁ k₁ => ?_
    have m₁ : Mv Hc H s s₁ := m.comp Gr.rfl' (Kp.mv k₁)
    cases c with
    | false => exact wpAny_execs_nil (hq _ _ _ (hf rfl) ⟨rfl, S'.keeps k₁, m₁⟩)
    | true =>
      refine hb rfl A s₁ Hc H _ _ hA (S'.keeps k₁) fun o f s₂ hK ho => ?_
      cases o with
      | next σ₂ => obtain ⟨rfl, S₃, m₃⟩ := ho; exact ⟨n, Nat.lt_succ_self _, σ₂, S₃, m₁.comp Gr.rfl' m₃, hK⟩
      | cont σ₂ => obtain ⟨rfl, S₃, m₃⟩ := ho; exact ⟨n, Nat.lt_succ_self _, σ₂, S₃, m₁.comp Gr.rfl' m₃, hK⟩
      | brk σ₂ => obtain ⟨rfl, S₃, m₃⟩ := ho; exact hq _ _ _ hK ⟨rfl, S₃, m₁.comp Gr.rfl' m₃⟩
      | ret d σ₂ => obtain ⟨v, as, rfl, r, S₃, m₃⟩ := ho; exact hq (.ret d σ₂) _ _ hK ⟨v, as, rfl, r, S₃, m₁.comp Gr.rfl' m₃⟩
end
end Mine
end
section
open PySem PySem.W PySem.Calls PyProof.Rows PySem.Spec
namespace Mine
structure TIn (w : World) (B h : Heap) (H : List Addr) (T : List OS) : Prop where
  obs : ∀ o ∈ T, (∃ vs, Ob w h o.x o.dx o.C vs ∧ Fit o.fs vs) ∧ o.dx ∈ H ∧ B.get? o.dx = none ∧ o.x ∉ H
  apart : T.Pairwise fun o o' => o.dx ≠ o'.dx
structure MvT (T : List OS) (s s' : Shared) : Prop where
  same : ∃ h' tk, s' = { s with heap := h', toks := tk }
  keep : ∀ b o, b ∉ T.map (·.dx) → s.heap.get? b = some o → s'.heap.get? b = some o
noncomputable def hcO (H : List Addr) (T : List OS) : List Addr := H.filter fun b => !(T.map (·.dx)).contains b
theorem mem_hcO {H : List Addr} {T : List OS} {b : Addr} : b ∈ hcO H T ↔ b ∈ H ∧ b ∉ T.map (·.dx) := by
  unfold hcO; rw [List.mem_filter]; simp
noncomputable def retV : Flow → Value
  | .ret v => v
  | _ => .none
noncomputable def MOK (w : World) (B : Heap) (k : Nat) (f x : Addr) (ds : List PyData) (T : List OS) (d : PyData) (T' : List OS) : Prop :=
  ∀ (A : Around) (s : Shared) (H : List Addr) (vs : List Value) (as : List Addr) (Q : Value → Shared → Prop) (E : Value → Shared → Prop), AOK k A → B.StaysIn s.heap → (∀ b ∈ H, ∃ o, s.heap.get? b = some o) → TIn w B s.heap H T → ReadsAll (hideAll s.heap H) vs ds as →
    (∀ v as' s', MvT T s s' → TIn w B s'.heap H T' → Reads (hideAll s'.heap H) v d as' → (∀ b ∈ H, ∃ o, s'.heap.get? b = some o) → Q v s') → wpAny (model pg w) A (call (.ref f) (.ref x :: vs)) Q E s
section
variable {w : World} {B : Heap} {k : Nat}
theorem mok_def {f x : Addr} {fd : FuncData} {body : List Stmt} (names : List Str) {ds : List PyData} {d : PyData} {T T' : List OS} (HB : Bs w B)
    (ho : List.lookup f (KP w.params) = some ⟨.type "function", none, .func fd, #[]⟩) (hcd : codeIn (KP w.params) fd.code fd.qualname = true) (hok : fnOkC fd ("self" :: names) = true) (hbody : fd.body = .stmts body)
    (hbind : ∀ (s : Shared) (v : Value) (vs : List Value), B.StaysIn s.heap → vs.length = ds.length → BindsTo s fd ⟨v :: vs, []⟩ ((("self" : Str), v) :: names.zip vs)) (hdx : T.map (·.dx) = T'.map (·.dx)) (hfl : flat d)
    (h : ∀ L, ExO w B k (callEnvC fd L f) ⟨names.zip ds, [("self", .ref x)], T⟩ body (fun o => ∃ ρ' rv', o = .ret d ⟨ρ', rv', T'⟩ ∨ (d = .none ∧ o = .next ⟨ρ', rv', T'⟩))) : MOK w B (k + 1) f x ds T d T' := fun A s H vs as Q E hA hB hal hT r hq => by
  have hnd : (("self" : Str) :: names).Nodup := by
    simp only [fnOkC, Bool.and_eq_true, decide_eq_true_eq] at hok
    exact hok.1.1.1.1.1.2
  have hlen := readsAll_length r
  refine wpAny_call (enter0 (names := "self" :: names) (ρ := names.zip ds) (H := H) (G := fun binds s' => s' = s ∧ binds = (("self" : Str), .ref x) :: names.zip vs) HB ho hcd hok hbody hA hB hal (fun Q E hQ => ?_) ?_ ?_)
  · exact hbind s _ _ hB hlen _ _ _ _ (hQ _ _ Kp.rfl' ⟨rfl, rfl⟩)
  · rintro binds s' k' ⟨rfl, rfl⟩
    refine ⟨fun y hy => ?_, fun y d e => ?_⟩
    · rcases List.mem_cons.mp hy with rfl | hy
      · exact .head _
      · exact .tail _ (List.of_mem_zip hy).1
    · obtain ⟨hy, v, bs, hv, r'⟩ := zip_look (List.nodup_cons.mp hnd).2 r y d e
      exact ⟨.tail _ hy, v, bs, by rw [List.reverse_cons, List.lookup_append, hv]; rfl, r'⟩
  · rintro L binds s₁ s₂ _ ⟨rfl, rfl⟩ k₂ F S nfp
    have hself : ((("self" : Str), Value.ref x) :: names.zip vs).reverse.lookup ("self" : Str) = some (.ref x) := by
      rw [List.reverse_cons, List.lookup_append]
      have : (names.zip vs).reverse.lookup ("self" : Str) = none := by
        rw [List.lookup_eq_none_iff]
        intro p hp
        have := (List.of_mem_zip (List.mem_reverse.mp hp)).1
        exact bne_iff_ne.mpr fun q => (List.nodup_cons.mp hnd).1 (q ▸ this)
      rw [this]; simp
    have nH : ∀ b ∈ fp (callEnvC fd L f), b ∉ H := fun b hb q => by obtain ⟨o, e⟩ := hal b q; rw [nfp b hb] at e; cases e
    have vself : isVar (callEnvC fd L f) "self" := by
      simp only [fnOkC, Bool.and_eq_true, List.all_eq_true, Bool.or_eq_true, beq_iff_eq] at hok
      exact hok.1.1.1.1.1.1 "self" (.head _)
    have kinds : ∀ y ∈ names, isVar (callEnvC fd L f) y := fun y hy => by
      simp only [fnOkC, Bool.and_eq_true, List.all_eq_true, Bool.or_eq_true, beq_iff_eq] at hok
      exact hok.1.1.1.1.1.1 y (.tail _ hy)
    have up : ∀ b o, (hideAll s₁.heap H).get? b = some o → (hideAll s₂.heap (fp (callEnvC fd L f) ++ H)).get? b = some o := fun b o e => by
      have hb := not_hid e
      have ea := of_hideAll H e
      refine hideAll_get _ (k₂.keep b o ea) fun q => ?_
      rcases List.mem_append.mp q with q | q
      · rw [nfp b q] at ea; cases ea
      · exact hb q
    have S' : SrO w B (callEnvC fd L f) (hcO H T) (fp (callEnvC fd L f) ++ H) s₂.heap ⟨names.zip ds, [("self", .ref x)], T⟩ := by
      refine ⟨S.base, ⟨_, F, fun y d e => ?_, fun y v e => ?_⟩, fun b hb => List.mem_append_left _ hb, fun b hb => ?_, S.lt, fun o ho => ?_, hT.apart⟩
      · obtain ⟨hy, v, bs, hv, r'⟩ := zip_look (List.nodup_cons.mp hnd).2 r y d e
        exact ⟨kinds y hy, v, bs, by rw [List.reverse_cons, List.lookup_append, hv]; rfl, Reads.keeps up r'⟩
      · simp only [List.lookup_cons, List.lookup_nil] at e
        split at e
        · rename_i q
          cases e
          have := beq_iff_eq.mp q
          subst this
          exact ⟨vself, hself⟩
        · cases e
      · obtain ⟨h1, _⟩ := mem_hcO.mp hb
        exact ⟨List.mem_append_right _ h1, fun q => nH b q h1⟩
      · obtain ⟨⟨us, O, hf⟩, h1, h2, h3⟩ := hT.obs o ho
        have ox : ∃ q, s₁.heap.get? o.x = some q := by obtain ⟨_, _, _, _, e, _⟩ := O; exact ⟨_, e⟩
        refine ⟨⟨us, O.keeps (fun _ e => k₂.keep _ _ e) (fun _ e => k₂.keep _ _ e), hf⟩, List.mem_append_right _ h1, fun q => (mem_hcO.mp q).2 (List.mem_map.mpr ⟨o, ho, rfl⟩), fun q => nH _ q h1, h2, fun q => ?_⟩
        rcases List.mem_append.mp q with q | q
        · obtain ⟨q', e⟩ := ox; rw [nfp _ q] at e; cases e
        · exact h3 q
    refine h L _ s₂ (hcO H T) (fp (callEnvC fd L f) ++ H) _ _ hA.deeper S' fun out fl s' hK ho' => ?_
    obtain ⟨ρ', rv', hK⟩ := hK
    obtain ⟨v, bs, hfl', r', S₃, m⟩ : ∃ v bs, retV fl = v ∧ Reads (hideAll s'.heap (hcO H T)) v d bs ∧ SrO w B (callEnvC fd L f) (hcO H T) (fp (callEnvC fd L f) ++ H) s'.heap ⟨ρ', rv', T'⟩ ∧ Mv (hcO H T) (fp (callEnvC fd L f) ++ H) s₂ s' := by
      rcases hK with rfl | ⟨rfl, rfl⟩
      · obtain ⟨v, bs, rfl, r', S₃, m⟩ := ho'; exact ⟨v, bs, rfl, r', S₃, m⟩
      · obtain ⟨rfl, S₃, m⟩ := ho'; exact ⟨.none, [], rfl, .none, S₃, m⟩
    show Q (retV fl) s'
    rw [hfl']
    have inT : ∀ b, b ∉ T.map (·.dx) → ∀ o, s₁.heap.get? b = some o → s'.heap.get? b = some o := fun b hb o e => by
      refine m.sub b o ?_ (k₂.keep b o e)
      by_cases q : b ∈ H
      · exact .inl (mem_hcO.mpr ⟨q, hb⟩)
      · refine .inr fun z => ?_
        rcases List.mem_append.mp z with z | z
        · rw [nfp b z] at e; cases e
        · exact q z
    refine hq v bs s' ⟨?_, fun b o hb e => inT b hb o e⟩ ⟨fun o ho => ?_, S₃.apart⟩ (flat.reads hfl r') fun b hb => S₃.lt b (List.mem_append_right _ hb)
    · exact sm_trans (Kp.sm k₂) m.same
    · obtain ⟨q1, q2, q3, q4, q5, q6⟩ := S₃.obs o ho
      refine ⟨q1, ?_, q5, fun z => q6 (List.mem_append_right _ z)⟩
      rcases List.mem_append.mp q2 with z | z
      · exact absurd z q4
      · exact z
end
end Mine
end
section
open PySem PySem.W PySem.Calls PyProof.Rows PySem.Spec
namespace Mine
noncomputable def RvO (w : World) (B : Heap) (env : Env) (σ : So) (e : Expr) (v : Value) : Prop :=
  ∀ Hc H h, SrO w B env Hc H h σ → ∀ (A : Around) (s : Shared) (Q : Value → Shared → Prop) (E : Value → Shared → Prop), h.StaysIn s.heap → (∀ s', Kp s s' → Q v s') → wpAny (model pg w) A (eval e env) Q E s
section
variable {w : World} {B : Heap} {k : Nat} {env : Env} {σ : So} {K : OutO → Prop}
theorem RvO.name {x : Str} {p : Pos} {v : Value} (hr : σ.rv.lookup x = some v := by rfl) (hdb : (x == ("__debug__" : Str)) = false := by decide) : RvO w B env σ (.Name x p) v := fun Hc H h S A s Q E hB hq => by
  obtain ⟨vs, F, _, hrv⟩ := S.fr
  obtain ⟨hx, hv⟩ := hrv x _ hr
  exact wpAny_Name (F.var hx hv (fun b o e => hB b o e) (hq _ Kp.rfl')) hdb
theorem RvO.attr {x a : Str} {p pos : Pos} {v : Value} (HB : Bs w B) (o : OS) (c : Cls w o.C) (ho : o ∈ σ.T) (hr : σ.rv.lookup x = some (.ref o.x)) (hl : o.fs.lookup a = some (.raw v)) (ha : (findIn (KP w.params) (.ref o.C) a).any (noGet (KP w.params)) = true) (hh : handedIn v = true)
    (hdb : (x == ("__debug__" : Str)) = false := by decide) : RvO w B env σ (.Attribute (.Name x p) a pos) v := fun Hc H h S A s Q E hB hq => by
  obtain ⟨vs, F, _, hrv⟩ := S.fr
  obtain ⟨hx, hv⟩ := hrv x _ hr
  obtain ⟨⟨us, O, hf⟩, _⟩ := S.obs o ho
  obtain ⟨v', hlv, hfit⟩ := hf.look hl
  have : v = v' := hfit
  subst this
  obtain ⟨attr, ha1, ha2⟩ := any_some ha
  refine Attribute_Name_ (wpAny_Name (F.var hx hv (fun b o e => hB b o e) ?_) hdb)
  exact Ob.get (HB.up S.base) hB c (O.keeps (fun _ e => hB _ _ e) (fun _ e => hB _ _ e)) ha1 ha2 hlv hh (hq _ (Kp.tok _))
theorem SrO.tin {Hc H : List Addr} {h : Heap} (S : SrO w B env Hc H h σ) : TIn w B h H σ.T := ⟨fun o ho => let ⟨a, b, _, _, e, f⟩ := S.obs o ho; ⟨a, b, e, f⟩, S.apart⟩
theorem SrO.after {Hc H : List Addr} {s s' : Shared} {T' : List OS} (S : SrO w B env Hc H s.heap σ) (m : MvT σ.T s s') (hdx : σ.T.map (·.dx) = T'.map (·.dx)) (hT : TIn w B s'.heap H T') (hal : ∀ b ∈ H, ∃ o, s'.heap.get? b = some o) : SrO w B env Hc H s'.heap ⟨σ.ρ, σ.rv, T'⟩ ∧ Mv Hc H s s' := by
  have inT : ∀ b ∈ σ.T.map (·.dx), b ∈ H ∧ b ∉ Hc ∧ b ∉ fp env ∧ B.get? b = none := fun b hb => by
    obtain ⟨o, ho, rfl⟩ := List.mem_map.mp hb
    obtain ⟨a, b, c, d, e, f⟩ := S.obs o ho
    exact ⟨b, c, d, e⟩
  obtain ⟨vs, F, hρ, hr⟩ := S.fr
  have up : ∀ b q, (hideAll s.heap H).get? b = some q → (hideAll s'.heap H).get? b = some q := hide_sub fun b q hb e => m.keep b q (fun z => hb (inT b z).1) e
  refine ⟨⟨fun b q e => m.keep b q (fun z => by rw [(inT b z).2.2.2] at e; cases e) (S.base b q e), ⟨vs, F.keeps fun b q hb e => m.keep b q (fun z => (inT b z).2.2.1 hb) e, fun x d e => let ⟨hx, v, as, hv, r⟩ := hρ x d e; ⟨hx, v, as, hv, Reads.keeps up r⟩, hr⟩, S.fpH, S.hc, hal, fun o ho => ?_, hT.apart⟩, m.same, fun b q hb e => m.keep b q (fun z => hb.elim (inT b z).2.1 fun y => y (inT b z).1) e⟩
  have hm : o.dx ∈ σ.T.map (·.dx) := by rw [hdx]; exact List.mem_map.mpr ⟨o, ho, rfl⟩
  obtain ⟨a, b, c, d⟩ := hT.obs o ho
  obtain ⟨i1, i2, i3, i4⟩ := inT _ hm
  exact ⟨a, b, i2, i3, c, d⟩
theorem callM {ob : Expr} {name : Str} {ap pos : Pos} {args : List Expr} {A : Around} {s : Shared} {Hc H : List Addr} {Q : Value → Shared → Prop} {E : Value → Shared → Prop} {ds : List PyData} {d : PyData} {T' : List OS} (HB : Bs w B) (hA : AOK k A) (S : SrO w B env Hc H s.heap σ) (o : OS) (f : Addr) (c : Cls w o.C) (ho : o ∈ σ.T)
    (hob : RvO w B env σ ob (.ref o.x)) (hf : (findIn (KP w.params) (.ref o.C) name, isFn (KP w.params) (.ref f), keepIn (KP w.params) (.ref f)) = (some (some (.ref f)), true, true)) (hl : o.fs.lookup name = none) (ha : ∀ h, SrO w B env Hc H h σ → EvAll w h k env σ.ρ args ds)
    (hm : MOK w B k f o.x ds σ.T d T') (hdx : σ.T.map (·.dx) = T'.map (·.dx)) (hq : ∀ v as s', SrO w B env Hc H s'.heap ⟨σ.ρ, σ.rv, T'⟩ → Mv Hc H s s' → Reads (hideAll s'.heap H) v d as → Q v s')
    (hse : ∀ e es, args = e :: es → starEach (e :: es) env = (false, eval e env) :: starEach es env) (hpl : ∀ e es, args = e :: es → (backTo pos (starEach es env)).any (·.1) = false) (hnil : args = [] → ds = [])
    (he : ∀ M A Q E s, wpAny M A (do let ov ← eval ob env; standAt ap.atName; let (f, first) ← holding [ov] (getMethod ov name (do return (← importBound ob env).getD true)); callWith pos f first (backTo pos (starEach args env)) []) Q E s → wpAny M A (eval (.Call (.Attribute ob name ap) args [] pos) env) Q E s) :
    wpAny (model pg w) A (eval (.Call (.Attribute ob name ap) args [] pos) env) Q E s := by
  simp only [Prod.mk.injEq] at hf
  refine he _ _ _ _ _ ?_
  refine wpAny_bind (hob Hc H s.heap S A s _ E (fun _ _ e => e) fun s₁ k₁ => wpAny_bind (wpAny_standAt (wpAny_bind (wpAny_holding ?_))))
  have S₁ := S.keeps k₁
  obtain ⟨⟨us, O, hfit⟩, _⟩ := S₁.obs o ho
  refine O.meth HB S₁.base c hf.1 hf.2.1 (hfit.none hl) ?_
  have X : Frag.In (KP w.params) s₁.heap := K_in HB S₁.base
  have fin : ∀ vs as s₂, Kp s₁ s₂ → ReadsAll (hideAll s₂.heap H) vs ds as → Frag.In (KP w.params) s₂.heap ∧ wpAny (model pg w) A (call (.ref f) ([.ref o.x] ++ vs)) Q E s₂ := fun vs as s₂ k₂ r => by
    have S₂ := S₁.keeps k₂
    refine ⟨K_in HB S₂.base, hm A s₂ H vs as Q E hA S₂.base S₂.lt S₂.tin r fun v as' s' m hT' r' hal => ?_⟩
    obtain ⟨S₃, m₃⟩ := S₂.after m hdx hT' hal
    exact hq v as' s' S₃ (((Kp.mv k₁).comp Gr.rfl' (Kp.mv k₂)).comp Gr.rfl' m₃) r'
  cases args with
  | nil =>
    refine callWith_K0 X hf.2.2 ?_
    have := hnil rfl
    subst this
    exact (fin [] [] s₁ Kp.rfl' .nil).2
  | cons e es =>
    refine callWith_K X hf.2.2 (ha s₁.heap S₁ A s₁ H pos _ E hA S₁.cx fin) (hse e es rfl) (hpl e es rfl)
theorem EsO.call0 {y name : Str} {py ap cp pos : Pos} {ob : Expr} {d : PyData} {T' : List OS} (HB : Bs w B) (o : OS) (f : Addr) (c : Cls w o.C) (ho : o ∈ σ.T) (hob : RvO w B env σ ob (.ref o.x)) (hf : (findIn (KP w.params) (.ref o.C) name, isFn (KP w.params) (.ref f), keepIn (KP w.params) (.ref f)) = (some (some (.ref f)), true, true)) (hl : o.fs.lookup name = none)
    (hm : MOK w B k f o.x [] σ.T d T') (hdx : σ.T.map (·.dx) = T'.map (·.dx)) (hy : isVar env y) (hyr : σ.rv.lookup y = none) (hK : K (.next ⟨(y, d) :: σ.ρ, σ.rv, T'⟩))
    (hs : swapsWith (.Call (.Attribute ob name ap) [] [] cp) (some (.Name y py)) pos.line env = pure false := by rfl)
    (he : eval (.Call (.Attribute ob name ap) [] [] cp) env = (do let ov ← eval ob env; standAt ap.atName; let (f, first) ← holding [ov] (getMethod ov name (do return (← importBound ob env).getD true)); callWith cp f first (backTo cp (starEach [] env)) []) := by rfl) :
    EsO w B k env σ (.Assign [.Name y py] (.Call (.Attribute ob name ap) [] [] cp) pos) K := fun A s Hc H Q E hA S hq =>
  wpAny_Assign_Name (callM HB hA S o f c ho hob hf hl (fun h S => EvAll.nil) hm hdx (fun v as s' S' m r => S'.store hy hyr r fun s₂ S₂ m₂ => hq _ _ _ hK ⟨rfl, S₂, m.comp Gr.rfl' m₂⟩) (fun _ _ e => nomatch e) (fun _ _ e => nomatch e) (fun _ => rfl) fun M A Q E s h => by rw [he]; exact h) hs
theorem EsO.call1 {y name : Str} {py ap cp pos : Pos} {ob e : Expr} {a d : PyData} {T' : List OS} (HB : Bs w B) (o : OS) (f : Addr) (c : Cls w o.C) (ho : o ∈ σ.T) (hob : RvO w B env σ ob (.ref o.x)) (hf : (findIn (KP w.params) (.ref o.C) name, isFn (KP w.params) (.ref f), keepIn (KP w.params) (.ref f)) = (some (some (.ref f)), true, true)) (hl : o.fs.lookup name = none)
    (hev : EvO w B k env σ e a) (hm : MOK w B k f o.x [a] σ.T d T') (hdx : σ.T.map (·.dx) = T'.map (·.dx)) (hy : isVar env y) (hyr : σ.rv.lookup y = none) (hK : K (.next ⟨(y, d) :: σ.ρ, σ.rv, T'⟩))
    (hs : swapsWith (.Call (.Attribute ob name ap) [e] [] cp) (some (.Name y py)) pos.line env = pure false := by rfl) (hse : starEach (e :: []) env = (false, eval e env) :: starEach [] env := by rfl)
    (he : eval (.Call (.Attribute ob name ap) [e] [] cp) env = (do let ov ← eval ob env; standAt ap.atName; let (f, first) ← holding [ov] (getMethod ov name (do return (← importBound ob env).getD true)); callWith cp f first (backTo cp (starEach [e] env)) []) := by rfl) :
    EsO w B k env σ (.Assign [.Name y py] (.Call (.Attribute ob name ap) [e] [] cp) pos) K := fun A s Hc H Q E hA S hq =>
  wpAny_Assign_Name (callM HB hA S o f c ho hob hf hl (fun h S => EvAll.cons (hev _ _ h S) EvAll.nil hse) hm hdx (fun v as s' S' m r => S'.store hy hyr r fun s₂ S₂ m₂ => hq _ _ _ hK ⟨rfl, S₂, m.comp Gr.rfl' m₂⟩) (fun _ _ q => by cases q; exact hse) (fun _ _ q => by cases q; rfl) (fun q => nomatch q) fun M A Q E s h => by rw [he]; exact h) hs
theorem EsO.expr0 {name : Str} {ap cp pos : Pos} {ob : Expr} {d : PyData} {T' : List OS} (HB : Bs w B) (o : OS) (f : Addr) (c : Cls w o.C) (ho : o ∈ σ.T) (hob : RvO w B env σ ob (.ref o.x)) (hf : (findIn (KP w.params) (.ref o.C) name, isFn (KP w.params) (.ref f), keepIn (KP w.params) (.ref f)) = (some (some (.ref f)), true, true)) (hl : o.fs.lookup name = none)
    (hm : MOK w B k f o.x [] σ.T d T') (hdx : σ.T.map (·.dx) = T'.map (·.dx)) (hfl : flat d) (hK : K (.next ⟨σ.ρ, σ.rv, T'⟩)) (hi : interactive env = false := by rfl)
    (hs : swapsWith (.Call (.Attribute ob name ap) [] [] cp) none pos.line env = pure false := by rfl)
    (he : eval (.Call (.Attribute ob name ap) [] [] cp) env = (do let ov ← eval ob env; standAt ap.atName; let (f, first) ← holding [ov] (getMethod ov name (do return (← importBound ob env).getD true)); callWith cp f first (backTo cp (starEach [] env)) []) := by rfl) :
    EsO w B k env σ (.Expr (.Call (.Attribute ob name ap) [] [] cp) pos) K := fun A s Hc H Q E hA S hq =>
  wpAny_Expr (callM HB hA S o f c ho hob hf hl (fun h S => EvAll.nil) hm hdx (fun v as s' S' m r => by cases r <;> first | exact hq _ _ _ hK ⟨rfl, S', m⟩ | exact hfl.elim) (fun _ _ e => nomatch e) (fun _ _ e => nomatch e) (fun _ => rfl) fun M A Q E s h => by rw [he]; exact h) hi hs
end
end Mine
end
section
open PySem PySem.W PySem.Calls PyProof.Rows PySem.Spec
namespace Mine
noncomputable def tyOf : PyData → Option String
  | .int _ => some "int"
  | .str _ => some "str"
  | _ => none
section
variable {w : World} {B : Heap} {k : Nat} {env : Env} {ρ : Vars}
theorem tyOf_is {s : Shared} {h : Heap} {v : Value} {d : PyData} {as : List Addr} {t : String} (r : Reads h v d as) (ht : tyOf d = some t) : s.TypeIs v t := by
  cases r <;> first | cases ht | skip
  · exact typeIs_int s _ _
  · exact typeIs_str s _ _
theorem Ts.typeNot {e : Expr} {n : Str} {T t : String} {p1 p2 p3 p4 : Pos} {d : PyData} (HB : Bs w B) (hE : EnvOK env) (he : Ev w B k env ρ e d) (ht : tyOf d = some t) (g1 : env.kindOf "type" = some .globalImplicit) (g2 : env.kindOf n = some .globalImplicit) (hn : nsIn (KP w.params) mainGlobals n = some none) (hb : bootBuiltins n = some (.type T)) (hnn : n ≠ "__name__")
    (hse : starEach (e :: []) env = (false, eval e env) :: starEach [] env := by rfl) (hd : (n == ("__debug__" : Str)) = false := by decide) (hbf : (Value.type t == Value.type "builtin_function_or_method") = false := by decide) :
    Ts w B k env ρ (.Compare (.Call (.Name "type" p1) [e] [] p2) [.IsNot] [.Name n p3] p4) (!(Value.type t == Value.type T)) := fun A s H Q E hA C hq => by
  refine wpAny_isTrue_Compare1 ?_
  refine wpAny_Call_NameR (blt (w := w) HB hE C.base g1 (by kernel_rfl) rfl (by decide) ?_)
  refine PyProof.Rows.callWith_type1 ?_ hse rfl
  refine args_cons (he A s H _ E hA C fun v as s₁ k₁ r => args_nil ?_) hse
  refine call_type_of (tyOf_is r ht) hbf ?_
  refine blt (w := w) HB hE (C.keeps k₁).base g2 hn hb hnn ?_ hd
  refine wpAny_isNot_plain rfl ?_
  exact wpAny_truthy_bool (hq _ k₁)
theorem Ev.int {e : Expr} {p1 p2 : Pos} {i : Int} (HB : Bs w B) (hE : EnvOK env) (he : Ev w B k env ρ e (.int i)) (g1 : env.kindOf "int" = some .globalImplicit) (hse : starEach (e :: []) env = (false, eval e env) :: starEach [] env := by rfl) :
    Ev w B k env ρ (.Call (.Name "int" p1) [e] [] p2) (.int i) := fun A s H Q E hA C hq => by
  refine wpAny_Call_NameR (Mine.blt (w := w) HB hE C.base g1 (by kernel_rfl) rfl (by decide) ?_)
  refine PyProof.Rows.callWith_type1 ?_ hse rfl
  refine args_cons (he A s H _ E hA C fun v as s₁ k₁ r => args_nil ?_) hse
  cases r
  exact call_int_int (hq _ _ _ k₁ (.int _ _))
theorem index_ok (HB : Bs w B) (n : Int) (hn : -1000 ≤ n) (hn' : n ≤ 1000) (x : Str) : CallOK w B (k + 1) 268 [.int n, .str x] (.int n) := by
  refine callOK_c (fd := fd268) (body := bdS (stm 38)) ["n", "what"] HB (by kernel_rfl) (by kernel_rfl) (by decide +kernel) rfl (fun vs h => ?_) fun L => ?_
  · obtain ⟨a, b, rfl⟩ := len2 h; kernel_rfl
  have hE : EnvOK (callEnvC fd268 L 268) := envOKC fd268 (by kernel_rfl)
  refine Ex.cons (Es.iff (c := false) (Ts.eq (Ts.and (d := false) (Ts.typeNot (t := "int") HB hE Ev.name rfl (by kernel_rfl) (by kernel_rfl) (by kernel_rfl) rfl (by decide)) fun h => absurd h (by decide)) (by decide)) (fun h => absurd h (by decide)) fun _ => Ex.nil ?_)
  refine Ex.cons (Es.assign (Ev.int HB hE Ev.name (by kernel_rfl)) (.inl (by kernel_rfl)) trivial ?_)
  refine Ex.cons (Es.iff (c := false) (Ts.eq (Ts.or (Ts.cmp Ev.name Ev.cInt Cmp.gtI) fun _ => Ts.or (Ts.cmp Ev.name (Ev.neg Ev.cInt) Cmp.ltI) fun _ => Ts.or0) ?_) (fun h => absurd h (by decide)) fun _ => Ex.nil ?_)
  · have e1 : decide (n > 1099511627776) = false := decide_eq_false (by omega)
    have e2 : decide (n < -1099511627776) = false := decide_eq_false (by omega)
    show (decide (n > 1099511627776) || (decide (n < -1099511627776) || false)) = false
    rw [e1, e2]; rfl
  exact Ex.cons (Es.ret Ev.name rfl)
end
end Mine
end
section
open PySem PySem.W PySem.Calls PyProof.Rows PySem.Spec
namespace Mine
noncomputable def ioS (b db : Addr) (buf : Str) (pos : Nat) : OS := ⟨b, db, 802, [("_StringIO__newline", .dat (.str "\n")), ("_StringIO__buf", .dat (.str buf)), ("_StringIO__pos", .dat (.int pos))]⟩
section
variable {w : World} {B : Heap} {k : Nat} {lx : OS} {b db : Addr} {buf : Str} {pos : Nat}
theorem SrO.attr {env : Env} {σ : So} {Hc H : List Addr} {h : Heap} {x a : Str} {p pp : Pos} {d : PyData} (S : SrO w B env Hc H h σ) (HB : Bs w B) (o : OS) (c : Cls w o.C) (ho : o ∈ σ.T) (hr : σ.rv.lookup x = some (.ref o.x) := by rfl) (hl : o.fs.lookup a = some (.dat d) := by rfl) (ha : (findIn (KP w.params) (.ref o.C) a).any (noGet (KP w.params)) = true := by kernel_rfl) (hh : ∀ v, (∀ h, Reads h v d []) → handedIn v = true := by intro v hv; cases hv default <;> rfl)
    (hdb : (x == ("__debug__" : Str)) = false := by decide) : Ev w h k env σ.ρ (.Attribute (.Name x p) a pp) d := EvO.attr HB o c ho hr hl ha hh hdb Hc H h S
theorem Ev.sliceA {env : Env} {ρ : Vars} {v : Expr} {lo hi : Option Expr} {p pp : Pos} {x : Str} {l u : Option Int} (hv : Ev w B k env ρ v (.str x)) (hl : PartEv w B k env ρ lo l) (hu : PartEv w B k env ρ hi u) (hz : x.length ≤ sizeLine) (ht : ∀ t r, letTemporaryGo v (.str x t) r = pure () := by intro _ _; rfl) :
    Ev w B k env ρ (.Subscript v (.Slice lo hi .none p) pp) (.str (Txt.slice x l u)) := fun A s H Q E hA C hq =>
  Subscript_ (hv A s H _ E hA C fun a as s₁ k₁ r₁ => by
    cases r₁
    rename_i t
    refine wpAny_Slice (part_ev hl hA (C.keeps k₁) fun pl s₂ k₂ el => part_ev hu hA ((C.keeps k₁).keeps k₂) fun pu s₃ k₃ eu => ?_)
    rw [evalPart_none]
    refine wpAny_pure ?_
    unfold subscriptTail
    refine wpAny_bind ?_
    rw [getitemInPython_of_ne (typeIs_str s₃ x t).not_modules]
    refine wpAny_bind (wpAny_specialOf (typeIs_str _ x t) F.slot_str_getitem.lookup ?_)
    have fin : wpAny (model pg w) A (operate [.ref s₃.heap.objs.size, .str x t] (getItem (.str x t) (.ref s₃.heap.objs.size))) (fun r s₄ => wpAny (model pg w) A (letTemporaryGo v (.str x t) r >>= fun _ => pure r) Q E s₄) E { s₃ with heap := s₃.heap.push { cls := .type "slice", data := .fields #[partValue pl, partValue pu, .none] } } := by
      refine wpAny_operating (wpAny_getItem_str_slice (l := pl) (u := pu) (st := none) ⟨_, Heap.get?_push_size _ rfl, rfl, rfl⟩ rfl ?_)
      refine slice_post hz fun t' kk => ?_
      rw [el, eu]
      refine wpAny_bind (wpAny_of_eq (ht t _) (wpAny_pure ?_))
      exact hq _ [] _ (((k₁.comp k₂).comp k₃).comp push_kp) (.str _ _)
    first | exact wpAny_bind fin | exact wpAny_bind (wpAny_pure (wpAny_bind fin)) | exact wpAny_pure (wpAny_bind fin) | exact fin)
theorem len0 {vs : List Value} (h : vs.length = 0) : vs = [] := List.length_eq_zero_iff.mp h
theorem check_ok (HB : Bs w B) : MOK w B (k + 1) 586 b [] [lx, ioS b db buf pos] .none [lx, ioS b db buf pos] := by
  refine mok_def (fd := fd586) (body := bdS (mth 44 3)) [] HB (by kernel_rfl) (by kernel_rfl) (by decide +kernel) rfl (fun s v vs hB h => ?_) rfl trivial fun L => ?_
  · obtain rfl := len0 h; exact BindsTo.of_eq (by kernel_rfl)
  have io : ioS b db buf pos ∈ [lx, ioS b db buf pos] := .tail _ (.head _)
  refine ExO.cons (EsO.iff (c := false) (fun Hc H h S => Ts.cmp (a := .str buf) (S.attr HB (ioS b db buf pos) cls802 io) Ev.cNone (Cmp.isN (by intro e; cases e))) (fun h => absurd h (by decide)) fun _ => ExO.nil ?_)
  exact ExO.nil ⟨_, _, .inr ⟨rfl, rfl⟩⟩
theorem envO (fd : FuncData) {L a : Addr} (h : (fd.scope.kind, fd.globals, fd.builtins) = (.function, mainGlobals, builtinsNs)) : EnvOK (callEnvC fd L a) := envOKC fd h
theorem CallOK.up {w : World} {B h : Heap} {k : Nat} {f : Addr} {ds : List PyData} {d : PyData} (c : CallOK w B k f ds d) (hB : B.StaysIn h) : CallOK w h k f ds d := fun A s H vs as Q E hA hS hal r hq => c A s H vs as Q E hA (fun b o e => hS b o (hB b o e)) hal r hq
theorem read_ok (HB : Bs w B) (hne : lx.dx ≠ db) (hz : buf.length ≤ 100000) (hp : pos < buf.length) : MOK w B (k + 2) 748 b [.int 1] [lx, ioS b db buf pos] (.str (Txt.slice buf (some pos) (some (pos + 1)))) [lx, ioS b db buf (pos + 1)] := by
  refine mok_def (fd := fd748) (body := bdS (mth 44 25)) ["size"] HB (by kernel_rfl) (by kernel_rfl) (by decide +kernel) rfl (fun s v vs hB h => ?_) rfl trivial fun L => ?_
  · obtain ⟨a, rfl⟩ := len1 h
    exact BindsTo.of_defaults (T := 741) rfl (hB _ _ (HB.K 741 ⟨.type "tuple", none, .seq #[(.int (-1) 1246)] 0, #[]⟩ (by kernel_rfl))) rfl rfl (by kernel_rfl)
  have hE : EnvOK (callEnvC fd748 L 748) := envOKC fd748 (by kernel_rfl)
  have io : ioS b db buf pos ∈ [lx, ioS b db buf pos] := .tail _ (.head _)
  refine ExO.cons (EsO.iff (c := false) (fun Hc H h S => Ts.cmp Ev.name Ev.cNone (Cmp.isN (by intro e; cases e))) (fun h => absurd h (by decide)) fun _ => ExO.nil ?_)
  refine ExO.cons (EsO.assign (d := .int 1) (fun Hc H h S => Ev.fn 268 fd268 (HB.up S.base) hE (by kernel_rfl) (EvAll.cons Ev.name (EvAll.cons Ev.cStr EvAll.nil)) (index_ok (HB.up S.base) 1 (by decide) (by decide) _)) (.inl (by kernel_rfl)) rfl ?_)
  refine ExO.cons (EsO.expr0 HB (ioS b db buf pos) 586 cls802 io (RvO.name rfl) (by kernel_rfl) rfl (check_ok HB) rfl trivial ?_)
  refine ExO.cons (EsO.assign (d := .int pos) (fun Hc H h S => S.attr HB (ioS b db buf pos) cls802 io) (.inl (by kernel_rfl)) rfl ?_)
  refine ExO.cons (EsO.assign (d := .int buf.length) (fun Hc H h S => Ev.lenS (x := "len") (HB.up S.base) hE (by kernel_rfl) (S.attr HB (ioS b db buf pos) cls802 io) (by omega)) (.inl (by kernel_rfl)) rfl ?_)
  refine ExO.cons (EsO.iff (c := false) (fun Hc H h S => Ts.eq (Ts.cmp (a := .int pos) (b := .int buf.length) Ev.name Ev.name Cmp.geI) (decide_eq_false (by omega))) (fun h => absurd h (by decide)) fun _ => ExO.nil ?_)
  have eT : upd (ioS b db buf pos).dx "_StringIO__pos" (.dat (.int (pos + 1))) [lx, ioS b db buf pos] = [lx, ioS b db buf (pos + 1)] := by
    show [if lx.dx = db then _ else lx, if db = db then _ else _] = _
    rw [if_neg hne, if_pos rfl]
    rfl
  have io' : ioS b db buf (pos + 1) ∈ [lx, ioS b db buf (pos + 1)] := .tail _ (.head _)
  have hzz : buf.length ≤ sizeLine := by rw [sizeLine_eq]; omega
  have fin : ∀ (ρ : Vars) (T : List OS), ρ.lookup ("start" : Str) = some (.int pos) → ρ.lookup ("stop" : Str) = some (.int (pos + 1)) → ExO w B (k + 1) (callEnvC fd748 L 748) ⟨ρ, [("self", .ref b)], upd (ioS b db buf pos).dx "_StringIO__pos" (.dat (.int (pos + 1))) [lx, ioS b db buf pos]⟩ [(bdS (mth 44 25)).getD 8 (.Pass ⟨0, 0, 0, 0⟩)] (fun o => ∃ ρ' rv', o = .ret (.str (Txt.slice buf (some pos) (some (pos + 1)))) ⟨ρ', rv', [lx, ioS b db buf (pos + 1)]⟩ ∨ ((PyData.str (Txt.slice buf (some pos) (some (pos + 1)))) = .none ∧ o = .next ⟨ρ', rv', [lx, ioS b db buf (pos + 1)]⟩)) := by
    intro ρ T h1 h2
    rw [eT]
    exact ExO.cons (EsO.ret (fun Hc H h S => Ev.sliceA (l := some _) (u := some _) (S.attr HB (ioS b db buf (pos + 1)) cls802 io') (Ev.name h1) (Ev.name h2) hzz) ⟨_, _, .inl rfl⟩)
  refine ExO.cons (EsO.iff (c := decide ((pos : Int) + 1 < buf.length)) (fun Hc H h S => Ts.eq (Ts.and (Ts.cmp (a := .int 1) Ev.name Ev.cInt Cmp.geI) fun _ => Ts.and (Ts.cmp (a := .int (pos + 1)) (b := .int buf.length) (Ev.addI (a := pos) (b := 1) Ev.name Ev.name) Ev.name Cmp.ltI) fun _ => Ts.and0) ?_) (fun h => ?_) fun h => ?_)
  · show (true && (_ && true)) = _
    rw [Bool.and_true, Bool.true_and]
  · refine ExO.cons (EsO.assign (d := .int (pos + 1)) (fun Hc H h S => Ev.addI (a := pos) (b := 1) Ev.name Ev.name) (.inl (by kernel_rfl)) rfl (ExO.nil ?_))
    refine ExO.cons (EsO.setD (d := .int (pos + 1)) HB (ioS b db buf pos) cls802 io rfl (by kernel_rfl) (by show 3 ≤ 900; decide) (fun Hc H h S => Ev.name) trivial ?_)
    exact fin _ [] rfl rfl
  · have e : (buf.length : Int) = pos + 1 := by have := of_decide_eq_false h; omega
    refine ExO.nil ?_
    rw [e]
    refine ExO.cons (EsO.setD (d := .int (pos + 1)) HB (ioS b db buf pos) cls802 io rfl (by kernel_rfl) (by show 3 ≤ 900; decide) (fun Hc H h S => Ev.name) trivial ?_)
    exact fin _ [] rfl rfl
theorem read_end (HB : Bs w B) (hz : buf.length ≤ 100000) (hp : pos = buf.length) : MOK w B (k + 2) 748 b [.int 1] [lx, ioS b db buf pos] (.str "") [lx, ioS b db buf pos] := by
  refine mok_def (fd := fd748) (body := bdS (mth 44 25)) ["size"] HB (by kernel_rfl) (by kernel_rfl) (by decide +kernel) rfl (fun s v vs hB h => ?_) rfl trivial fun L => ?_
  · obtain ⟨a, rfl⟩ := len1 h
    exact BindsTo.of_defaults (T := 741) rfl (hB _ _ (HB.K 741 ⟨.type "tuple", none, .seq #[(.int (-1) 1246)] 0, #[]⟩ (by kernel_rfl))) rfl rfl (by kernel_rfl)
  have hE : EnvOK (callEnvC fd748 L 748) := envOKC fd748 (by kernel_rfl)
  have io : ioS b db buf pos ∈ [lx, ioS b db buf pos] := .tail _ (.head _)
  refine ExO.cons (EsO.iff (c := false) (fun Hc H h S => Ts.cmp Ev.name Ev.cNone (Cmp.isN (by intro e; cases e))) (fun h => absurd h (by decide)) fun _ => ExO.nil ?_)
  refine ExO.cons (EsO.assign (d := .int 1) (fun Hc H h S => Ev.fn 268 fd268 (HB.up S.base) hE (by kernel_rfl) (EvAll.cons Ev.name (EvAll.cons Ev.cStr EvAll.nil)) (index_ok (HB.up S.base) 1 (by decide) (by decide) _)) (.inl (by kernel_rfl)) rfl ?_)
  refine ExO.cons (EsO.expr0 HB (ioS b db buf pos) 586 cls802 io (RvO.name rfl) (by kernel_rfl) rfl (check_ok HB) rfl trivial ?_)
  refine ExO.cons (EsO.assign (d := .int pos) (fun Hc H h S => S.attr HB (ioS b db buf pos) cls802 io) (.inl (by kernel_rfl)) rfl ?_)
  refine ExO.cons (EsO.assign (d := .int buf.length) (fun Hc H h S => Ev.lenS (x := "len") (HB.up S.base) hE (by kernel_rfl) (S.attr HB (ioS b db buf pos) cls802 io) (by omega)) (.inl (by kernel_rfl)) rfl ?_)
  refine ExO.cons (EsO.iff (c := true) (fun Hc H h S => Ts.eq (Ts.cmp (a := .int pos) (b := .int buf.length) Ev.name Ev.name Cmp.geI) (decide_eq_true (by omega))) (fun _ => ?_) fun h => absurd h (by decide))
  exact ExO.cons (EsO.ret (fun Hc H h S => Ev.cStr) ⟨_, _, .inl rfl⟩)
end
end Mine
end
section
open PySem PySem.W PySem.Calls PyProof.Rows PySem.Spec
namespace Mine
section
variable {w : World} {B : Heap} {k : Nat} {env : Env} {σ : So} {K : OutO → Prop}
theorem Cmp.inS {a b : Str} : Cmp w k .In (.str a) (.str b) (Txt.contains b a) := fun A s x y as bs Q E hA r₁ r₂ hq => by cases r₁; cases r₂; exact SB.contains (hq _ Kp.rfl')
theorem Cmp.inT {d : PyData} {xs : List PyData} (hxs : PyData.canLayAll0 xs = true) (hd : d.canLay0 = true) (hz : min (PyData.depthAll xs) d.depth ≤ 60) : Cmp w k .In d (.tuple xs) (xs.any fun y => PyData.eqv y d) := fun A s x y as bs Q E hA r₁ r₂ hq =>
  SeqAt.in_tuple_reads r₂ r₁ hxs hd (by have := hA.line; omega) (hq _ Kp.rfl')
theorem EsO.augS {x a : Str} {xp tp pos : Pos} {e : Expr} {u v : Str} (HB : Bs w B) (o : OS) (c : Cls w o.C) (ho : o ∈ σ.T) (hr : σ.rv.lookup x = some (.ref o.x)) (hl : o.fs.lookup a = some (.dat (.str u))) (ha : (findIn (KP w.params) (.ref o.C) a).any (noGet (KP w.params)) = true) (ht : takerIn (KP w.params) o.C a = some none) (hz : o.fs.length ≤ 900)
    (he : EvO w B k env σ e (.str v)) (hzz : u.length + v.length ≤ sizeLine) (hK : K (.next ⟨σ.ρ, σ.rv, upd o.dx a (.dat (.str (u ++ v))) σ.T⟩)) (hdb : (x == ("__debug__" : Str)) = false := by decide) : EsO w B k env σ (.AugAssign (.Attribute (.Name x xp) a tp) .Add e pos) K := fun A s Hc H Q E hA S hq => by
  obtain ⟨vs, F, _, hrv⟩ := S.fr
  obtain ⟨hx, hv⟩ := hrv x _ hr
  refine wpAny_AugAssign_AttributeAny (wpAny_Name (F.var hx hv (fun _ _ e => e) ?_) hdb)
  obtain ⟨⟨us, O, hf⟩, _⟩ := S.obs o ho
  obtain ⟨v', hlv, hfit⟩ := hf.look hl
  obtain ⟨attr, ha1, ha2⟩ := any_some ha
  have hs : ∃ t, v' = .str u t := by
    have := hfit default
    cases this
    exact ⟨_, rfl⟩
  obtain ⟨t, rfl⟩ := hs
  refine Ob.get HB S.base c O ha1 ha2 hlv rfl ?_
  have S₁ := S.keeps (Kp.tok (s := s) (s.toks + 1))
  refine he Hc H _ S₁ A _ H _ E hA S₁.cx fun v₂ as s₂ k₂ r₂ => ?_
  cases r₂
  refine SB.iadd (fun t' kk => ?_) hzz
  have k₃ := ((Kp.tok (s := s) (s.toks + 1)).comp k₂).comp (Kp.tok (s := s₂) kk)
  exact SrO.set (M := model pg w) (a := .dat (.str (u ++ v))) (s := { s₂ with toks := kk }) HB (S.keeps k₃) o c ho ht hz (fun h => .str _ _) fun s₃ S₃ m₃ => hq _ _ _ hK ⟨rfl, S₃, (Kp.mv k₃).comp Gr.rfl' m₃⟩
noncomputable def seB (v : Value) : List (Str × Value) := [("self", v)]
theorem EvO.prop {x : Str} {p pos : Pos} {d : PyData} (HB : Bs w B) (o : OS) (hC : o.C = 895) (ho : o ∈ σ.T) (hr : σ.rv.lookup x = some (.ref o.x)) (hl : o.fs.lookup ("_punctuation_chars" : Str) = some (.dat d)) (hh : ∀ v, (∀ h, Reads h v d []) → handedIn v = true := by intro v hv; cases hv default <;> rfl)
    (hdb : (x == ("__debug__" : Str)) = false := by decide) : EvO w B (k + 2) env σ (.Attribute (.Name x p) "punctuation_chars" pos) d := fun Hc H h S A s H' Q E hA C hq => by
  obtain ⟨ox, odx, oC, ofs⟩ := o
  simp only at hC hl hr
  subst hC
  obtain ⟨vs, F, _, hrv⟩ := S.fr
  obtain ⟨hx, hv⟩ := hrv x _ hr
  obtain ⟨⟨us, O, hf⟩, _⟩ := S.obs _ ho
  obtain ⟨v, hlv, hfit⟩ := hf.look hl
  refine Attribute_Name_ (wpAny_Name (F.var hx hv (fun b o e => C.base b o e) ?_) hdb)
  have HB' := HB.up S.base
  have X := K_in HB' C.base
  have O' : Ob w s.heap ox odx 895 us := O.keeps (fun _ e => C.base _ _ e) (fun _ e => C.base _ _ e)
  obtain ⟨l, n, sl, rfl, h1, h2⟩ := O'
  have I : InstAt s.heap ox ⟨.ref 895, some odx, .plain, sl⟩ 895 (some (dictOf (ents w.params l) n)) := ⟨h1, rfl, rfl, h2⟩
  refine get_bind X I (plainGet_of (cls895 (w := w)).get).1 (findObj_data (a := .ref 827) (g := .builtin "property.__get__") (by kernel_rfl) (by kernel_rfl) (by kernel_rfl) (by kernel_rfl)) (plainGet_of (cls895 (w := w)).get).2 ?_
  refine wpAny_call (prop_get (s := { s with toks := s.toks + 1 }) (fget := 826) (rest := [.none, .none, .none, (.str "punctuation_chars" 1359), (.bool false)]) X (by kernel_rfl) ?_)
  have hA2 : AOK (k + 1) A.in1 := hA.in1
  refine enter0 (k := k) (fd := fd826) (body := bdS (mth 46 1)) (names := ["self"]) (ρ := []) (H := []) (G := fun binds s' => s' = { s with toks := s.toks + 1 } ∧ binds = seB (.ref ox)) HB' (by kernel_rfl) (by kernel_rfl) (by decide +kernel) rfl hA2 C.base (fun b hb => nomatch hb) (fun Q E hQ => ?_) ?_ ?_
  · have e : bindArgs fd826 ⟨[.ref ox], []⟩ = pure (seB (.ref ox)) := by kernel_rfl
    rw [e]
    exact wpAny_pure (hQ _ _ Kp.rfl' ⟨rfl, rfl⟩)
  · rintro binds s' k' ⟨rfl, rfl⟩
    refine ⟨fun y hy => ?_, fun y d e => by cases e⟩
    simp only [seB, List.mem_cons, List.not_mem_nil, or_false] at hy ⊢
    rw [hy]
  · rintro L binds s₁ s₂ k₁ ⟨rfl, rfl⟩ k₂ F₂ S₂ nfp
    have bself : (seB (.ref ox)).reverse.lookup ("self" : Str) = some (.ref ox) := by kernel_rfl
    refine wpAny_execs_cons (wpAny_Return_some (Attribute_Name_ (wpAny_Name (F₂.var (x := "self") (.inl (by kernel_rfl)) bself (fun _ _ e => e) ?_) (by decide))))
    have O₂ : Ob w s₂.heap ox odx 895 (l.map fun a => (a.1, a.2.2)) := ⟨l, n, sl, rfl, k₂.keep _ _ h1, k₂.keep _ _ h2⟩
    refine Ob.get (attr := none) HB' S₂.base cls895 O₂ (by kernel_rfl) rfl hlv (hh v hfit) ?_
    show wpAny _ _ (handedOut v) _ _ _
    rw [handedOut_of (hh v hfit)]
    exact wpAny_pure (hq v [] _ ((((Kp.tok _).comp k₁).comp k₂).comp (Kp.tok _)) (hfit _))
end
end Mine
end
section
open PySem PySem.W PySem.Calls PyProof.Rows PySem.Spec
namespace Mine
noncomputable def wcS : Str := "abcdfeghijklmnopqrstuvwxyzABCDEFGHIJKLMNOPQRSTUVWXYZ0123456789_ßàáâãäåæçèéêëìíîïðñòóôõöøùúûüýþÿÀÁÂÃÄÅÆÇÈÉÊËÌÍÎÏÐÑÒÓÔÕÖØÙÚÛÜÝÞ"
noncomputable def lexS (x dx b q1 q2 : Addr) (st : PyData) (tok : Str) : OS := ⟨x, dx, 895, [("instream", .raw (.ref b)), ("infile", .dat .none), ("posix", .dat (.bool true)), ("eof", .dat .none), ("commenters", .dat (.str "")), ("wordchars", .dat (.str wcS)), ("whitespace", .dat (.str " \t\r\n")), ("whitespace_split", .dat (.bool true)), ("quotes", .dat (.str "'\"")), ("escape", .dat (.str "\\")), ("escapedquotes", .dat (.str "\"")), ("state", .dat st), ("pushback", .raw (.ref q1)), ("lineno", .dat (.int 1)), ("debug", .dat (.int 0)), ("token", .dat (.str tok)), ("filestack", .raw (.ref q2)), ("source", .dat .none), ("_punctuation_chars", .dat (.str ""))]⟩
noncomputable def whB : Stmt → List Stmt
  | .While _ b _ _ => b
  | _ => []
noncomputable def rtB : List Stmt := whB ((bdS (mth 46 6)).getD 2 (.Pass ⟨0, 0, 0, 0⟩))
section
variable {w : World} {B : Heap} {k : Nat} {env : Env} {x dx b db q1 q2 : Addr} {st : PyData} {tok buf : Str} {pos : Nat} {K : OutO → Prop}
theorem SrO.prop {σ : So} {Hc H : List Addr} {h : Heap} {y : Str} {p pp : Pos} {d : PyData} (S : SrO w B env Hc H h σ) (HB : Bs w B) (o : OS) (hC : o.C = 895) (ho : o ∈ σ.T) (hr : σ.rv.lookup y = some (.ref o.x) := by rfl) (hl : o.fs.lookup ("_punctuation_chars" : Str) = some (.dat d) := by rfl) (hh : ∀ v, (∀ h, Reads h v d []) → handedIn v = true := by intro v hv; cases hv default <;> rfl)
    (hdb : (y == ("__debug__" : Str)) = false := by decide) : Ev w h (k + 2) env σ.ρ (.Attribute (.Name y p) "punctuation_chars" pp) d := EvO.prop HB o hC ho hr hl hh hdb Hc H h S
theorem rt_head {L : Addr} {ρ : Vars} {c : Str} {pos' : Nat} (HB : Bs w B) (hne : dx ≠ db) (hm : MOK w B (k + 2) 748 b [.int 1] [lexS x dx b q1 q2 st tok, ioS b db buf pos] (.str c) [lexS x dx b q1 q2 st tok, ioS b db buf pos']) (hn : (c == "\n") = false)
    (h : ExO w B (k + 2) (callEnvC fd863 L 863) ⟨("nextchar", .str c) :: ρ, [("self", .ref x)], [lexS x dx b q1 q2 st tok, ioS b db buf pos']⟩ (rtB.drop 3) K) : ExO w B (k + 2) (callEnvC fd863 L 863) ⟨ρ, [("self", .ref x)], [lexS x dx b q1 q2 st tok, ioS b db buf pos]⟩ rtB K := by
  have hE : EnvOK (callEnvC fd863 L 863) := envOKC fd863 (by kernel_rfl)
  have lx : lexS x dx b q1 q2 st tok ∈ [lexS x dx b q1 q2 st tok, ioS b db buf pos] := .head _
  have io : ioS b db buf pos ∈ [lexS x dx b q1 q2 st tok, ioS b db buf pos] := .tail _ (.head _)
  have lx' : lexS x dx b q1 q2 st tok ∈ [lexS x dx b q1 q2 st tok, ioS b db buf pos'] := .head _
  refine ExO.cons (EsO.iff (c := false) (fun Hc H h S => Ts.eq (Ts.and (d := false) (Ts.plain (d := .str "") (S.prop HB (lexS x dx b q1 q2 st tok) rfl lx) (small_str (by decide))) fun h => absurd h (by decide)) (by decide)) (fun h => absurd h (by decide)) fun _ => ?_)
  refine ExO.cons (EsO.call1 HB (ioS b db buf pos) 748 cls802 io (RvO.attr HB (lexS x dx b q1 q2 st tok) cls895 lx rfl rfl (by kernel_rfl) rfl) (by kernel_rfl) rfl (fun Hc H h S => Ev.cInt) hm rfl (.inl (by kernel_rfl)) rfl ?_)
  refine ExO.nil ?_
  refine ExO.cons (EsO.iff (c := false) (fun Hc H h S => Ts.eq (Ts.cmp Ev.name Ev.cStr Cmp.eqS) hn) (fun h => absurd h (by decide)) fun _ => ExO.nil ?_)
  refine ExO.cons (EsO.iff (c := false) (fun Hc H h S => Ts.cmp (a := .int 0) (S.attr HB (lexS x dx b q1 q2 st tok) cls895 lx') Ev.cInt Cmp.geI) (fun h => absurd h (by decide)) fun _ => ExO.nil ?_)
  exact h
theorem upd_tok (hne : dx ≠ db) (t : Str) : upd (lexS x dx b q1 q2 st tok).dx "token" (.dat (.str t)) [lexS x dx b q1 q2 st tok, ioS b db buf pos] = [lexS x dx b q1 q2 st t, ioS b db buf pos] := by
  show [if dx = dx then _ else _, if db = dx then _ else ioS b db buf pos] = _
  rw [if_pos rfl, if_neg (Ne.symm hne)]
  rfl
theorem upd_st (hne : dx ≠ db) (t : PyData) : upd (lexS x dx b q1 q2 st tok).dx "state" (.dat t) [lexS x dx b q1 q2 st tok, ioS b db buf pos] = [lexS x dx b q1 q2 t tok, ioS b db buf pos] := by
  show [if dx = dx then _ else _, if db = dx then _ else ioS b db buf pos] = _
  rw [if_pos rfl, if_neg (Ne.symm hne)]
  rfl
structure Sg1 (c : Str) : Prop where
  le : c.length ≤ 10
  ne : (c.length != 0) = true
  ws : Txt.contains " \t\r\n" c = false
  cm : Txt.contains "" c = false
  es : Txt.contains "\\" c = false
noncomputable abbrev rtE (L : Addr) : Env := callEnvC fd863 L 863
theorem rt_begin {L : Addr} {ρ : Vars} {c : Str} (HB : Bs w B) (hne : dx ≠ db) (hc : Sg1 c) (hw : Txt.contains wcS c = true)
    (hK : K (.next ⟨("nextchar", .str c) :: ρ, [("self", .ref x)], [lexS x dx b q1 q2 (.str "a") c, ioS b db buf pos]⟩)) : ExO w B (k + 2) (rtE L) ⟨("nextchar", .str c) :: ρ, [("self", .ref x)], [lexS x dx b q1 q2 (.str " ") tok, ioS b db buf pos]⟩ (rtB.drop 3) K := by
  have lx : lexS x dx b q1 q2 (.str " ") tok ∈ [lexS x dx b q1 q2 (.str " ") tok, ioS b db buf pos] := .head _
  have ht : tru (.str c) = true := hc.ne
  refine ExO.cons (EsO.iff (c := false) (fun Hc H h S => Ts.cmp (a := .str " ") (S.attr HB (lexS x dx b q1 q2 (.str " ") tok) cls895 lx) Ev.cNone (Cmp.isN (by intro e; cases e))) (fun h => absurd h (by decide)) fun _ => ?_)
  refine ExO.cons (EsO.iff (c := true) (fun Hc H h S => Ts.eq (Ts.cmp (a := .str " ") (S.attr HB (lexS x dx b q1 q2 (.str " ") tok) cls895 lx) Ev.cStr Cmp.eqS) (by decide)) (fun _ => ?_) fun h => absurd h (by decide))
  refine ExO.cons (EsO.iff (c := false) (fun Hc H h S => Ts.eq (Ts.not (Ts.plain (d := .str c) Ev.name (small_str (by have := hc.le; omega)))) (by rw [ht]; rfl)) (fun h => absurd h (by decide)) fun _ => ?_)
  refine ExO.cons (EsO.iff (c := false) (fun Hc H h S => Ts.eq (Ts.cmp (a := .str c) Ev.name (S.attr HB (lexS x dx b q1 q2 (.str " ") tok) cls895 lx) Cmp.inS) hc.ws) (fun h => absurd h (by decide)) fun _ => ?_)
  refine ExO.cons (EsO.iff (c := false) (fun Hc H h S => Ts.eq (Ts.cmp (a := .str c) Ev.name (S.attr HB (lexS x dx b q1 q2 (.str " ") tok) cls895 lx) Cmp.inS) hc.cm) (fun h => absurd h (by decide)) fun _ => ?_)
  refine ExO.cons (EsO.iff (c := false) (fun Hc H h S => Ts.eq (Ts.and (c := true) (Ts.plain (d := .bool true) (S.attr HB (lexS x dx b q1 q2 (.str " ") tok) cls895 lx) trivial) fun _ => Ts.and (Ts.cmp (a := .str c) Ev.name (S.attr HB (lexS x dx b q1 q2 (.str " ") tok) cls895 lx) Cmp.inS) fun _ => Ts.and0) (by rw [hc.es]; rfl)) (fun h => absurd h (by decide)) fun _ => ?_)
  refine ExO.cons (EsO.iff (c := true) (fun Hc H h S => Ts.eq (Ts.cmp (a := .str c) Ev.name (S.attr HB (lexS x dx b q1 q2 (.str " ") tok) cls895 lx) Cmp.inS) hw) (fun _ => ?_) fun h => absurd h (by decide))
  refine ExO.cons (EsO.setD (d := .str c) HB (lexS x dx b q1 q2 (.str " ") tok) cls895 lx rfl (by kernel_rfl) (by show 19 ≤ 900; decide) (fun Hc H h S => Ev.name) trivial ?_)
  rw [upd_tok hne]
  have lx' : lexS x dx b q1 q2 (.str " ") c ∈ [lexS x dx b q1 q2 (.str " ") c, ioS b db buf pos] := .head _
  refine ExO.cons (EsO.setD (d := .str "a") HB (lexS x dx b q1 q2 (.str " ") c) cls895 lx' rfl (by kernel_rfl) (by show 19 ≤ 900; decide) (fun Hc H h S => Ev.cStr) trivial ?_)
  rw [upd_st hne]
  exact ExO.nil (ExO.nil (ExO.nil (ExO.nil (ExO.nil (ExO.nil (ExO.nil (ExO.nil hK)))))))
theorem rt_quote {L : Addr} {ρ : Vars} (HB : Bs w B) (hne : dx ≠ db)
    (hK : K (.next ⟨("nextchar", .str "'") :: ρ, [("self", .ref x)], [lexS x dx b q1 q2 (.str "'") tok, ioS b db buf pos]⟩)) : ExO w B (k + 2) (rtE L) ⟨("nextchar", .str "'") :: ρ, [("self", .ref x)], [lexS x dx b q1 q2 (.str " ") tok, ioS b db buf pos]⟩ (rtB.drop 3) K := by
  have lx : lexS x dx b q1 q2 (.str " ") tok ∈ [lexS x dx b q1 q2 (.str " ") tok, ioS b db buf pos] := .head _
  refine ExO.cons (EsO.iff (c := false) (fun Hc H h S => Ts.cmp (a := .str " ") (S.attr HB (lexS x dx b q1 q2 (.str " ") tok) cls895 lx) Ev.cNone (Cmp.isN (by intro e; cases e))) (fun h => absurd h (by decide)) fun _ => ?_)
  refine ExO.cons (EsO.iff (c := true) (fun Hc H h S => Ts.eq (Ts.cmp (a := .str " ") (S.attr HB (lexS x dx b q1 q2 (.str " ") tok) cls895 lx) Ev.cStr Cmp.eqS) (by decide)) (fun _ => ?_) fun h => absurd h (by decide))
  refine ExO.cons (EsO.iff (c := false) (fun Hc H h S => Ts.eq (Ts.not (Ts.plain (d := .str "'") Ev.name (small_str (by decide)))) (by decide)) (fun h => absurd h (by decide)) fun _ => ?_)
  refine ExO.cons (EsO.iff (c := false) (fun Hc H h S => Ts.eq (Ts.cmp (a := .str "'") Ev.name (S.attr HB (lexS x dx b q1 q2 (.str " ") tok) cls895 lx) Cmp.inS) (by decide +kernel)) (fun h => absurd h (by decide)) fun _ => ?_)
  refine ExO.cons (EsO.iff (c := false) (fun Hc H h S => Ts.eq (Ts.cmp (a := .str "'") Ev.name (S.attr HB (lexS x dx b q1 q2 (.str " ") tok) cls895 lx) Cmp.inS) (by decide +kernel)) (fun h => absurd h (by decide)) fun _ => ?_)
  refine ExO.cons (EsO.iff (c := false) (fun Hc H h S => Ts.eq (Ts.and (c := true) (Ts.plain (d := .bool true) (S.attr HB (lexS x dx b q1 q2 (.str " ") tok) cls895 lx) trivial) fun _ => Ts.and (Ts.cmp (a := .str "'") Ev.name (S.attr HB (lexS x dx b q1 q2 (.str " ") tok) cls895 lx) Cmp.inS) fun _ => Ts.and0) (by decide +kernel)) (fun h => absurd h (by decide)) fun _ => ?_)
  refine ExO.cons (EsO.iff (c := false) (fun Hc H h S => Ts.eq (Ts.cmp (a := .str "'") Ev.name (S.attr HB (lexS x dx b q1 q2 (.str " ") tok) cls895 lx) Cmp.inS) (by decide +kernel)) (fun h => absurd h (by decide)) fun _ => ?_)
  refine ExO.cons (EsO.iff (c := false) (fun Hc H h S => Ts.eq (Ts.cmp (a := .str "'") (b := .str "") Ev.name (S.prop HB (lexS x dx b q1 q2 (.str " ") tok) rfl lx) Cmp.inS) (by decide +kernel)) (fun h => absurd h (by decide)) fun _ => ?_)
  refine ExO.cons (EsO.iff (c := true) (fun Hc H h S => Ts.eq (Ts.cmp (a := .str "'") Ev.name (S.attr HB (lexS x dx b q1 q2 (.str " ") tok) cls895 lx) Cmp.inS) (by decide +kernel)) (fun _ => ?_) fun h => absurd h (by decide))
  refine ExO.cons (EsO.iff (c := false) (fun Hc H h S => Ts.eq (Ts.not (Ts.plain (d := .bool true) (S.attr HB (lexS x dx b q1 q2 (.str " ") tok) cls895 lx) trivial)) (by decide)) (fun h => absurd h (by decide)) fun _ => ExO.nil ?_)
  refine ExO.cons (EsO.setD (d := .str "'") HB (lexS x dx b q1 q2 (.str " ") tok) cls895 lx rfl (by kernel_rfl) (by show 19 ≤ 900; decide) (fun Hc H h S => Ev.name) trivial ?_)
  rw [upd_st hne]
  exact ExO.nil (ExO.nil (ExO.nil (ExO.nil (ExO.nil (ExO.nil (ExO.nil (ExO.nil (ExO.nil (ExO.nil hK)))))))))
end
end Mine
end
section
open PySem PySem.W PySem.Calls PyProof.Rows PySem.Spec
namespace Mine
section
variable {w : World} {B : Heap} {k : Nat} {env : Env} {x dx b db q1 q2 : Addr} {st : PyData} {tok buf : Str} {pos : Nat} {K : OutO → Prop}
theorem rt_inq {L : Addr} {ρ : Vars} {c : Str} (HB : Bs w B) (hne : dx ≠ db) (hl : c.length ≤ 10) (hn : (c.length != 0) = true) (hq : (c == "'") = false) (hes : Txt.contains "\\" c = false) (hz : tok.length ≤ 100000)
    (hK : K (.next ⟨("quoted", .bool true) :: ("nextchar", .str c) :: ρ, [("self", .ref x)], [lexS x dx b q1 q2 (.str "'") (tok ++ c), ioS b db buf pos]⟩)) : ExO w B (k + 2) (rtE L) ⟨("nextchar", .str c) :: ρ, [("self", .ref x)], [lexS x dx b q1 q2 (.str "'") tok, ioS b db buf pos]⟩ (rtB.drop 3) K := by
  have lx : lexS x dx b q1 q2 (.str "'") tok ∈ [lexS x dx b q1 q2 (.str "'") tok, ioS b db buf pos] := .head _
  have ht : tru (.str c) = true := hn
  refine ExO.cons (EsO.iff (c := false) (fun Hc H h S => Ts.cmp (a := .str "'") (S.attr HB (lexS x dx b q1 q2 (.str "'") tok) cls895 lx) Ev.cNone (Cmp.isN (by intro e; cases e))) (fun h => absurd h (by decide)) fun _ => ?_)
  refine ExO.cons (EsO.iff (c := false) (fun Hc H h S => Ts.eq (Ts.cmp (a := .str "'") (S.attr HB (lexS x dx b q1 q2 (.str "'") tok) cls895 lx) Ev.cStr Cmp.eqS) (by decide)) (fun h => absurd h (by decide)) fun _ => ?_)
  refine ExO.cons (EsO.iff (c := true) (fun Hc H h S => Ts.eq (Ts.cmp (a := .str "'") (S.attr HB (lexS x dx b q1 q2 (.str "'") tok) cls895 lx) (S.attr HB (lexS x dx b q1 q2 (.str "'") tok) cls895 lx) Cmp.inS) (by decide +kernel)) (fun _ => ?_) fun h => absurd h (by decide))
  refine ExO.cons (EsO.assign (d := .bool true) (fun Hc H h S => Ev.cBool) (.inl (by kernel_rfl)) rfl ?_)
  refine ExO.cons (EsO.iff (c := false) (fun Hc H h S => Ts.eq (Ts.not (Ts.plain (d := .str c) Ev.name (small_str (by omega)))) (by rw [ht]; rfl)) (fun h => absurd h (by decide)) fun _ => ExO.nil ?_)
  refine ExO.cons (EsO.iff (c := false) (fun Hc H h S => Ts.eq (Ts.cmp (a := .str c) Ev.name (S.attr HB (lexS x dx b q1 q2 (.str "'") tok) cls895 lx) Cmp.eqS) hq) (fun h => absurd h (by decide)) fun _ => ?_)
  refine ExO.cons (EsO.iff (c := false) (fun Hc H h S => Ts.eq (Ts.and (c := true) (Ts.plain (d := .bool true) (S.attr HB (lexS x dx b q1 q2 (.str "'") tok) cls895 lx) trivial) fun _ => Ts.and (d := true) (Ts.cmp (a := .str c) Ev.name (S.attr HB (lexS x dx b q1 q2 (.str "'") tok) cls895 lx) Cmp.inS) fun h => by rw [hes] at h; cases h) (by rw [hes]; rfl)) (fun h => absurd h (by decide)) fun _ => ?_)
  refine ExO.cons (EsO.augS (u := tok) (v := c) HB (lexS x dx b q1 q2 (.str "'") tok) cls895 lx rfl rfl (by kernel_rfl) (by kernel_rfl) (by show 19 ≤ 900; decide) (fun Hc H h S => Ev.name) (by rw [sizeLine_eq]; omega) ?_)
  rw [upd_tok hne]
  exact ExO.nil (ExO.nil (ExO.nil (ExO.nil (ExO.nil (ExO.nil hK)))))
theorem rt_endq {L : Addr} {ρ : Vars} (HB : Bs w B) (hne : dx ≠ db)
    (hK : K (.next ⟨("quoted", .bool true) :: ("nextchar", .str "'") :: ρ, [("self", .ref x)], [lexS x dx b q1 q2 (.str "a") tok, ioS b db buf pos]⟩)) : ExO w B (k + 2) (rtE L) ⟨("nextchar", .str "'") :: ρ, [("self", .ref x)], [lexS x dx b q1 q2 (.str "'") tok, ioS b db buf pos]⟩ (rtB.drop 3) K := by
  have lx : lexS x dx b q1 q2 (.str "'") tok ∈ [lexS x dx b q1 q2 (.str "'") tok, ioS b db buf pos] := .head _
  refine ExO.cons (EsO.iff (c := false) (fun Hc H h S => Ts.cmp (a := .str "'") (S.attr HB (lexS x dx b q1 q2 (.str "'") tok) cls895 lx) Ev.cNone (Cmp.isN (by intro e; cases e))) (fun h => absurd h (by decide)) fun _ => ?_)
  refine ExO.cons (EsO.iff (c := false) (fun Hc H h S => Ts.eq (Ts.cmp (a := .str "'") (S.attr HB (lexS x dx b q1 q2 (.str "'") tok) cls895 lx) Ev.cStr Cmp.eqS) (by decide)) (fun h => absurd h (by decide)) fun _ => ?_)
  refine ExO.cons (EsO.iff (c := true) (fun Hc H h S => Ts.eq (Ts.cmp (a := .str "'") (S.attr HB (lexS x dx b q1 q2 (.str "'") tok) cls895 lx) (S.attr HB (lexS x dx b q1 q2 (.str "'") tok) cls895 lx) Cmp.inS) (by decide +kernel)) (fun _ => ?_) fun h => absurd h (by decide))
  refine ExO.cons (EsO.assign (d := .bool true) (fun Hc H h S => Ev.cBool) (.inl (by kernel_rfl)) rfl ?_)
  refine ExO.cons (EsO.iff (c := false) (fun Hc H h S => Ts.eq (Ts.not (Ts.plain (d := .str "'") Ev.name (small_str (by decide)))) (by decide)) (fun h => absurd h (by decide)) fun _ => ExO.nil ?_)
  refine ExO.cons (EsO.iff (c := true) (fun Hc H h S => Ts.eq (Ts.cmp (a := .str "'") Ev.name (S.attr HB (lexS x dx b q1 q2 (.str "'") tok) cls895 lx) Cmp.eqS) (by decide)) (fun _ => ?_) fun h => absurd h (by decide))
  refine ExO.cons (EsO.iff (c := false) (fun Hc H h S => Ts.eq (Ts.not (Ts.plain (d := .bool true) (S.attr HB (lexS x dx b q1 q2 (.str "'") tok) cls895 lx) trivial)) (by decide)) (fun h => absurd h (by decide)) fun _ => ?_)
  refine ExO.cons (EsO.setD (d := .str "a") HB (lexS x dx b q1 q2 (.str "'") tok) cls895 lx rfl (by kernel_rfl) (by show 19 ≤ 900; decide) (fun Hc H h S => Ev.cStr) trivial ?_)
  rw [upd_st hne]
  exact ExO.nil (ExO.nil (ExO.nil (ExO.nil (ExO.nil (ExO.nil hK)))))
theorem Cmp.ninS {a b : Str} : Cmp w k .NotIn (.str a) (.str b) (!Txt.contains b a) := fun A s x y as bs Q E hA r₁ r₂ hq => by cases r₁; cases r₂; exact SB.notContains (hq _ Kp.rfl')
theorem ExO.mono {σ : So} {ss : List Stmt} {K' : OutO → Prop} (h : ExO w B k env σ ss K) (hm : ∀ o, K o → K' o) : ExO w B k env σ ss K' := fun A s Hc H Q E hA S hq => h A s Hc H Q E hA S fun o f s' hK ho => hq o f s' (hm o hK) ho
theorem rt_a {L : Addr} {ρ : Vars} {c : Str} (HB : Bs w B)
    (h : ExO w B (k + 2) (rtE L) ⟨("nextchar", .str c) :: ρ, [("self", .ref x)], [lexS x dx b q1 q2 (.str "a") tok, ioS b db buf pos]⟩ (match rtB.drop 3 with | [.If _ _ [.If _ _ [.If _ _ [.If _ _ [.If _ b _ _] _] _] _] _] => b | _ => []) K) : ExO w B (k + 2) (rtE L) ⟨("nextchar", .str c) :: ρ, [("self", .ref x)], [lexS x dx b q1 q2 (.str "a") tok, ioS b db buf pos]⟩ (rtB.drop 3) K := by
  have lx : lexS x dx b q1 q2 (.str "a") tok ∈ [lexS x dx b q1 q2 (.str "a") tok, ioS b db buf pos] := .head _
  refine ExO.cons (EsO.iff (c := false) (fun Hc H h S => Ts.cmp (a := .str "a") (S.attr HB (lexS x dx b q1 q2 (.str "a") tok) cls895 lx) Ev.cNone (Cmp.isN (by intro e; cases e))) (fun h => absurd h (by decide)) fun _ => ?_)
  refine ExO.cons (EsO.iff (c := false) (fun Hc H h S => Ts.eq (Ts.cmp (a := .str "a") (S.attr HB (lexS x dx b q1 q2 (.str "a") tok) cls895 lx) Ev.cStr Cmp.eqS) (by decide)) (fun h => absurd h (by decide)) fun _ => ?_)
  refine ExO.cons (EsO.iff (c := false) (fun Hc H h S => Ts.eq (Ts.cmp (a := .str "a") (S.attr HB (lexS x dx b q1 q2 (.str "a") tok) cls895 lx) (S.attr HB (lexS x dx b q1 q2 (.str "a") tok) cls895 lx) Cmp.inS) (by decide +kernel)) (fun h => absurd h (by decide)) fun _ => ?_)
  refine ExO.cons (EsO.iff (c := false) (fun Hc H h S => Ts.eq (Ts.cmp (a := .str "a") (S.attr HB (lexS x dx b q1 q2 (.str "a") tok) cls895 lx) (S.attr HB (lexS x dx b q1 q2 (.str "a") tok) cls895 lx) Cmp.inS) (by decide +kernel)) (fun h => absurd h (by decide)) fun _ => ?_)
  refine ExO.cons (EsO.iff (c := true) (fun Hc H h S => Ts.eq (Ts.cmp (a := .str "a") (b := .tuple [.str "a", .str "c"]) (S.attr HB (lexS x dx b q1 q2 (.str "a") tok) cls895 lx) (Ev.dispT (EvAll.cons Ev.cStr (EvAll.cons Ev.cStr EvAll.nil)) (by decide)) (Cmp.inT (by decide +kernel) (by decide +kernel) (by decide +kernel))) (by decide +kernel)) (fun _ => ?_) fun h => absurd h (by decide))
  refine ExO.mono h fun o hK => ?_
  cases o with
  | next σ => exact ExO.nil (ExO.nil (ExO.nil (ExO.nil (ExO.nil hK))))
  | brk σ => exact hK
  | cont σ => exact hK
  | ret d σ => exact hK
end
end Mine
end
section
open PySem PySem.W PySem.Calls PyProof.Rows PySem.Spec
namespace Mine
theorem slice_ch {x : Str} {p c : Nat} (h : x.cps.toList[p]? = some c) : Txt.slice x (some (p : Int)) (some ((p : Int) + 1)) = ⟨#[c]⟩ := by
  have hp : p < x.cps.toList.length := (List.getElem?_eq_some_iff.mp h).1
  have := PySem.StrLaws.sliceText_plain (x := x) (i := p) (j := (p : Int) + 1) (by omega)
  refine Eq.trans ?_ (this.trans ?_)
  · rfl
  · have e : ((p : Int) + 1 - p).toNat = 1 := by omega
    have e2 : (p : Int).toNat = p := by omega
    rw [e, e2, List.drop_eq_getElem_cons hp]
    rw [List.getElem?_eq_getElem hp] at h
    cases h
    rfl
section
variable {w : World} {B : Heap} {k : Nat} {env : Env} {x dx b db q1 q2 : Addr} {st : PyData} {tok buf : Str} {pos : Nat} {K : OutO → Prop}
theorem Cmp.isNN : Cmp w k .Is .none .none true := fun A s x y as bs Q E hA r₁ r₂ hq => by
  cases r₁; cases r₂; exact wpAny_is_plain rfl (hq _ Kp.rfl')
theorem rt_none {L : Addr} {ρ : Vars} {c : Str} (HB : Bs w B) (hne : dx ≠ db)
    (hK : K (.brk ⟨("nextchar", .str c) :: ρ, [("self", .ref x)], [lexS x dx b q1 q2 .none "", ioS b db buf pos]⟩)) : ExO w B (k + 2) (rtE L) ⟨("nextchar", .str c) :: ρ, [("self", .ref x)], [lexS x dx b q1 q2 .none tok, ioS b db buf pos]⟩ (rtB.drop 3) K := by
  have lx : lexS x dx b q1 q2 .none tok ∈ [lexS x dx b q1 q2 .none tok, ioS b db buf pos] := .head _
  refine ExO.cons (EsO.iff (c := true) (fun Hc H h S => Ts.cmp (a := .none) (S.attr HB (lexS x dx b q1 q2 .none tok) cls895 lx) Ev.cNone Cmp.isNN) (fun _ => ?_) fun h => absurd h (by decide))
  refine ExO.cons (EsO.setD (d := .str "") HB (lexS x dx b q1 q2 .none tok) cls895 lx rfl (by kernel_rfl) (by show 19 ≤ 900; decide) (fun Hc H h S => Ev.cStr) trivial ?_)
  rw [upd_tok hne]
  exact ExO.cons (EsO.brk hK)
theorem rt_word {L : Addr} {ρ : Vars} {c : Str} (HB : Bs w B) (hne : dx ≠ db) (hc : Sg1 c) (hq : Txt.contains "'\"" c = false) (hz : tok.length ≤ 100000)
    (hK : K (.next ⟨("nextchar", .str c) :: ρ, [("self", .ref x)], [lexS x dx b q1 q2 (.str "a") (tok ++ c), ioS b db buf pos]⟩)) : ExO w B (k + 2) (rtE L) ⟨("nextchar", .str c) :: ρ, [("self", .ref x)], [lexS x dx b q1 q2 (.str "a") tok, ioS b db buf pos]⟩ (rtB.drop 3) K := by
  refine rt_a HB ?_
  have lx : lexS x dx b q1 q2 (.str "a") tok ∈ [lexS x dx b q1 q2 (.str "a") tok, ioS b db buf pos] := .head _
  have ht : tru (.str c) = true := hc.ne
  refine ExO.cons (EsO.iff (c := false) (fun Hc H h S => Ts.eq (Ts.not (Ts.plain (d := .str c) Ev.name (small_str (by have := hc.le; omega)))) (by rw [ht]; rfl)) (fun h => absurd h (by decide)) fun _ => ?_)
  refine ExO.cons (EsO.iff (c := false) (fun Hc H h S => Ts.eq (Ts.cmp (a := .str c) Ev.name (S.attr HB (lexS x dx b q1 q2 (.str "a") tok) cls895 lx) Cmp.inS) hc.ws) (fun h => absurd h (by decide)) fun _ => ?_)
  refine ExO.cons (EsO.iff (c := false) (fun Hc H h S => Ts.eq (Ts.cmp (a := .str c) Ev.name (S.attr HB (lexS x dx b q1 q2 (.str "a") tok) cls895 lx) Cmp.inS) hc.cm) (fun h => absurd h (by decide)) fun _ => ?_)
  refine ExO.cons (EsO.iff (c := false) (fun Hc H h S => Ts.eq (Ts.cmp (a := .str "a") (S.attr HB (lexS x dx b q1 q2 (.str "a") tok) cls895 lx) Ev.cStr Cmp.eqS) (by decide)) (fun h => absurd h (by decide)) fun _ => ?_)
  refine ExO.cons (EsO.iff (c := false) (fun Hc H h S => Ts.eq (Ts.and (c := true) (Ts.plain (d := .bool true) (S.attr HB (lexS x dx b q1 q2 (.str "a") tok) cls895 lx) trivial) fun _ => Ts.and (Ts.cmp (a := .str c) Ev.name (S.attr HB (lexS x dx b q1 q2 (.str "a") tok) cls895 lx) Cmp.inS) fun _ => Ts.and0) (by rw [hq]; rfl)) (fun h => absurd h (by decide)) fun _ => ?_)
  refine ExO.cons (EsO.iff (c := false) (fun Hc H h S => Ts.eq (Ts.and (c := true) (Ts.plain (d := .bool true) (S.attr HB (lexS x dx b q1 q2 (.str "a") tok) cls895 lx) trivial) fun _ => Ts.and (Ts.cmp (a := .str c) Ev.name (S.attr HB (lexS x dx b q1 q2 (.str "a") tok) cls895 lx) Cmp.inS) fun _ => Ts.and0) (by rw [hc.es]; rfl)) (fun h => absurd h (by decide)) fun _ => ?_)
  refine ExO.cons (EsO.iff (c := true) (fun Hc H h S => Ts.eq (Ts.or (Ts.cmp (a := .str c) Ev.name (S.attr HB (lexS x dx b q1 q2 (.str "a") tok) cls895 lx) Cmp.inS) fun _ => Ts.or (Ts.cmp (a := .str c) Ev.name (S.attr HB (lexS x dx b q1 q2 (.str "a") tok) cls895 lx) Cmp.inS) fun _ => Ts.or (Ts.and (c := true) (Ts.plain (d := .bool true) (S.attr HB (lexS x dx b q1 q2 (.str "a") tok) cls895 lx) trivial) fun _ => Ts.and (Ts.cmp (a := .str c) (b := .str "") Ev.name (S.prop HB (lexS x dx b q1 q2 (.str "a") tok) rfl lx) Cmp.ninS) fun _ => Ts.and0) fun _ => Ts.or0) (by rw [hc.cm]; simp)) (fun _ => ?_) fun h => absurd h (by decide))
  refine ExO.cons (EsO.augS (u := tok) (v := c) HB (lexS x dx b q1 q2 (.str "a") tok) cls895 lx rfl rfl (by kernel_rfl) (by kernel_rfl) (by show 19 ≤ 900; decide) (fun Hc H h S => Ev.name) (by have := hc.le; rw [sizeLine_eq]; omega) ?_)
  rw [upd_tok hne]
  exact ExO.nil (ExO.nil (ExO.nil (ExO.nil (ExO.nil (ExO.nil (ExO.nil (ExO.nil hK)))))))
theorem rt_space {L : Addr} {ρ : Vars} (HB : Bs w B) (hne : dx ≠ db) (hn : (tok.length != 0) = true) (hz : tok.length ≤ 100000)
    (hK : K (.brk ⟨("nextchar", .str " ") :: ρ, [("self", .ref x)], [lexS x dx b q1 q2 (.str " ") tok, ioS b db buf pos]⟩)) : ExO w B (k + 2) (rtE L) ⟨("nextchar", .str " ") :: ρ, [("self", .ref x)], [lexS x dx b q1 q2 (.str "a") tok, ioS b db buf pos]⟩ (rtB.drop 3) K := by
  refine rt_a HB ?_
  have lx : lexS x dx b q1 q2 (.str "a") tok ∈ [lexS x dx b q1 q2 (.str "a") tok, ioS b db buf pos] := .head _
  have lx' : lexS x dx b q1 q2 (.str " ") tok ∈ [lexS x dx b q1 q2 (.str " ") tok, ioS b db buf pos] := .head _
  have ht : tru (.str tok) = true := hn
  refine ExO.cons (EsO.iff (c := false) (fun Hc H h S => Ts.eq (Ts.not (Ts.plain (d := .str " ") Ev.name (small_str (by decide)))) (by decide)) (fun h => absurd h (by decide)) fun _ => ?_)
  refine ExO.cons (EsO.iff (c := true) (fun Hc H h S => Ts.eq (Ts.cmp (a := .str " ") Ev.name (S.attr HB (lexS x dx b q1 q2 (.str "a") tok) cls895 lx) Cmp.inS) (by decide +kernel)) (fun _ => ?_) fun h => absurd h (by decide))
  refine ExO.cons (EsO.iff (c := false) (fun Hc H h S => Ts.cmp (a := .int 0) (S.attr HB (lexS x dx b q1 q2 (.str "a") tok) cls895 lx) Ev.cInt Cmp.geI) (fun h => absurd h (by decide)) fun _ => ExO.nil ?_)
  refine ExO.cons (EsO.setD (d := .str " ") HB (lexS x dx b q1 q2 (.str "a") tok) cls895 lx rfl (by kernel_rfl) (by show 19 ≤ 900; decide) (fun Hc H h S => Ev.cStr) trivial ?_)
  rw [upd_st hne]
  refine ExO.cons (EsO.iff (c := true) (fun Hc H h S => Ts.eq (Ts.or (d := false) (Ts.plain (d := .str tok) (S.attr HB (lexS x dx b q1 q2 (.str " ") tok) cls895 lx') (small_str (by omega))) fun h => by rw [ht] at h; cases h) (by rw [ht]; rfl)) (fun _ => ?_) fun h => absurd h (by decide))
  exact ExO.cons (EsO.brk hK)
theorem rt_fin {L : Addr} {ρ : Vars} (HB : Bs w B) (hne : dx ≠ db)
    (hK : K (.brk ⟨("nextchar", .str "") :: ρ, [("self", .ref x)], [lexS x dx b q1 q2 .none tok, ioS b db buf pos]⟩)) : ExO w B (k + 2) (rtE L) ⟨("nextchar", .str "") :: ρ, [("self", .ref x)], [lexS x dx b q1 q2 (.str "a") tok, ioS b db buf pos]⟩ (rtB.drop 3) K := by
  refine rt_a HB ?_
  have lx : lexS x dx b q1 q2 (.str "a") tok ∈ [lexS x dx b q1 q2 (.str "a") tok, ioS b db buf pos] := .head _
  refine ExO.cons (EsO.iff (c := true) (fun Hc H h S => Ts.eq (Ts.not (Ts.plain (d := .str "") Ev.name (small_str (by decide)))) (by decide)) (fun _ => ?_) fun h => absurd h (by decide))
  refine ExO.cons (EsO.setD (d := .none) HB (lexS x dx b q1 q2 (.str "a") tok) cls895 lx rfl (by kernel_rfl) (by show 19 ≤ 900; decide) (fun Hc H h S => Ev.cNone) trivial ?_)
  rw [upd_st hne]
  exact ExO.cons (EsO.brk hK)
end
end Mine
end
section
open PySem PySem.W PySem.Calls PyProof.Rows PySem.Spec
namespace Mine
noncomputable def plC (c : Nat) : Bool := !Txt.contains " \t\r\n" ⟨#[c]⟩ && !Txt.contains "" ⟨#[c]⟩ && !Txt.contains "\\" ⟨#[c]⟩ && !Txt.contains "'\"" ⟨#[c]⟩ && !((⟨#[c]⟩ : Str) == "\n")
noncomputable def qtC (c : Nat) : Bool := !((⟨#[c]⟩ : Str) == "'") && !Txt.contains "\\" ⟨#[c]⟩ && !((⟨#[c]⟩ : Str) == "\n")
noncomputable def stAfter : List Nat → PyData
  | [] => .none
  | _ => .str " "
noncomputable def nAfter : List Nat → Nat
  | [] => 0
  | _ => 1
noncomputable def rtT : Expr := match (bdS (mth 46 6)).getD 2 (.Pass ⟨0, 0, 0, 0⟩) with
  | .While t _ _ _ => t
  | _ => .Constant .none 0 ⟨0, 0, 0, 0⟩
theorem plC_sg {c : Nat} (h : plC c = true) : Sg1 ⟨#[c]⟩ ∧ Txt.contains "'\"" ⟨#[c]⟩ = false ∧ ((⟨#[c]⟩ : Str) == "\n") = false := by
  simp only [plC, Bool.and_eq_true, Bool.not_eq_true'] at h
  obtain ⟨⟨⟨⟨h1, h2⟩, h3⟩, h4⟩, h5⟩ := h
  exact ⟨⟨by show 1 ≤ 10; decide, rfl, h1, h2, h3⟩, h4, h5⟩
theorem app_nil (x : Str) : x ++ (⟨#[]⟩ : Str) = x := by
  apply Str.ext'
  rw [Str.cps_append]
  exact Array.append_empty
theorem app_cons (x : Str) (c : Nat) (cs : List Nat) : x ++ (⟨#[c]⟩ : Str) ++ (⟨cs.toArray⟩ : Str) = x ++ (⟨(c :: cs).toArray⟩ : Str) := by
  apply Str.ext'
  simp [Str.cps_append]
theorem drop_head {l : List Nat} {p c : Nat} {r : List Nat} (h : l.drop p = c :: r) : l[p]? = some c ∧ l.drop (p + 1) = r := by
  refine ⟨?_, ?_⟩
  · have := congrArg List.head? h
    rw [List.head?_drop] at this
    exact this
  · rw [← List.drop_drop, h]; rfl
section
variable {w : World} {B : Heap} {k : Nat} {x dx b db q1 q2 : Addr} {st : PyData} {tok buf : Str} {pos : Nat} {K : OutO → Prop} {L : Addr} {ρ : Vars} {q : Bool} {n : Nat}
theorem wh_turn {σ : So} (h : ExO w B (k + 2) (rtE L) σ rtB fun o => match o with
    | .next σ' => WhO w B (k + 2) (rtE L) rtT rtB K n σ'
    | .cont σ' => WhO w B (k + 2) (rtE L) rtT rtB K n σ'
    | .brk σ' => K (.next σ')
    | .ret d σ' => K (.ret d σ')) : WhO w B (k + 2) (rtE L) rtT rtB K (n + 1) σ :=
  ⟨true, fun Hc H h S => Ts.plain (d := .bool true) Ev.cBool trivial, fun h => absurd h (by decide), fun _ => h⟩
theorem rd_ch (HB : Bs w B) (hne : dx ≠ db) (hz : buf.length ≤ 100000) {c : Nat} {r : List Nat} (h : buf.cps.toList.drop pos = c :: r) :
    MOK w B (k + 2) 748 b [.int 1] [lexS x dx b q1 q2 st tok, ioS b db buf pos] (.str ⟨#[c]⟩) [lexS x dx b q1 q2 st tok, ioS b db buf (pos + 1)] := by
  obtain ⟨h1, _⟩ := drop_head h
  have hp : pos < buf.length := by
    have := (List.getElem?_eq_some_iff.mp h1).1
    simpa [Str.length] using this
  have := read_ok (k := k) (lx := lexS x dx b q1 q2 st tok) (b := b) (db := db) HB hne hz hp
  rw [slice_ch h1] at this
  exact this
theorem rd_end (HB : Bs w B) (hz : buf.length ≤ 100000) (hp : pos = buf.length) :
    MOK w B (k + 2) 748 b [.int 1] [lexS x dx b q1 q2 st tok, ioS b db buf pos] (.str "") [lexS x dx b q1 q2 st tok, ioS b db buf pos] := read_end HB hz hp
theorem wh_word (HB : Bs w B) (hne : dx ≠ db) (hz : buf.length ≤ 100000) : ∀ (cs rest : List Nat) (pos : Nat) (tok : Str) (ρ : Vars), (∀ c ∈ cs, plC c = true) → buf.cps.toList.drop pos = cs ++ rest → tok.length + cs.length ≤ 10000 → ρ.lookup ("quoted" : Str) = some (.bool q) →
    (∀ ρ', ρ'.lookup ("quoted" : Str) = some (.bool q) → WhO w B (k + 2) (rtE L) rtT rtB K n ⟨ρ', [("self", .ref x)], [lexS x dx b q1 q2 (.str "a") (tok ++ ⟨cs.toArray⟩), ioS b db buf (pos + cs.length)]⟩) →
    WhO w B (k + 2) (rtE L) rtT rtB K (cs.length + n) ⟨ρ, [("self", .ref x)], [lexS x dx b q1 q2 (.str "a") tok, ioS b db buf pos]⟩
  | [], rest, pos, tok, ρ, _, _, _, hq, h => by
    have := h ρ hq
    rw [app_nil] at this
    rw [List.length_nil, Nat.zero_add]
    exact this
  | c :: cs, rest, pos, tok, ρ, hc, hd, hl, hq, h => by
    obtain ⟨hs, hq', hn⟩ := plC_sg (hc c (.head _))
    have e : (c :: cs).length + n = (cs.length + n) + 1 := by rw [List.length_cons]; omega
    rw [e]
    have hl' : tok.length + (cs.length + 1) ≤ 10000 := hl
    refine wh_turn (rt_head HB hne (rd_ch HB hne hz hd) hn (rt_word HB hne hs hq' (by omega) ?_))
    refine wh_word HB hne hz cs rest (pos + 1) _ _ (fun y hy => hc y (.tail _ hy)) (drop_head hd).2 ?_ hq fun ρ' hρ' => ?_
    · rw [Str.length_append]
      have : (⟨#[c]⟩ : Str).length = 1 := rfl
      omega
    · have := h ρ' hρ'
      rw [app_cons]
      rw [List.length_cons] at this
      have e2 : pos + 1 + cs.length = pos + (cs.length + 1) := by omega
      rw [e2]
      exact this
theorem wh_quoted (HB : Bs w B) (hne : dx ≠ db) (hz : buf.length ≤ 100000) : ∀ (cs rest : List Nat) (pos : Nat) (tok : Str) (ρ : Vars), (∀ c ∈ cs, qtC c = true) → buf.cps.toList.drop pos = cs ++ 39 :: rest → tok.length + cs.length ≤ 10000 →
    (∀ ρ', ρ'.lookup ("quoted" : Str) = some (.bool true) → WhO w B (k + 2) (rtE L) rtT rtB K n ⟨ρ', [("self", .ref x)], [lexS x dx b q1 q2 (.str "a") (tok ++ ⟨cs.toArray⟩), ioS b db buf (pos + (cs.length + 1))]⟩) →
    WhO w B (k + 2) (rtE L) rtT rtB K (cs.length + 1 + n) ⟨ρ, [("self", .ref x)], [lexS x dx b q1 q2 (.str "'") tok, ioS b db buf pos]⟩
  | [], rest, pos, tok, ρ, _, hd, hl, h => by
    have e : ([] : List Nat).length + 1 + n = n + 1 := by rw [List.length_nil]; omega
    rw [e]
    have he : (⟨#[39]⟩ : Str) = "'" := by decide +kernel
    have hr := rd_ch (k := k) (x := x) (dx := dx) (b := b) (db := db) (q1 := q1) (q2 := q2) (st := .str "'") (tok := tok) HB hne hz hd
    rw [he] at hr
    refine wh_turn (rt_head HB hne hr (by decide) (rt_endq HB hne ?_))
    have := h (("quoted", .bool true) :: ("nextchar", .str "'") :: ρ) rfl
    rw [app_nil] at this
    exact this
  | c :: cs, rest, pos, tok, ρ, hc, hd, hl, h => by
    have hcc := hc c (.head _)
    simp only [qtC, Bool.and_eq_true, Bool.not_eq_true'] at hcc
    obtain ⟨⟨h1, h2⟩, h3⟩ := hcc
    have e : (c :: cs).length + 1 + n = (cs.length + 1 + n) + 1 := by rw [List.length_cons]; omega
    rw [e]
    have hl' : tok.length + (cs.length + 1) ≤ 10000 := hl
    refine wh_turn (rt_head HB hne (rd_ch HB hne hz hd) h3 (rt_inq HB hne (by show 1 ≤ 10; decide) rfl h1 h2 (by omega) ?_))
    refine wh_quoted HB hne hz cs rest (pos + 1) _ _ (fun y hy => hc y (.tail _ hy)) (drop_head hd).2 ?_ fun ρ' hρ' => ?_
    · rw [Str.length_append]
      have : (⟨#[c]⟩ : Str).length = 1 := rfl
      omega
    · have := h ρ' hρ'
      rw [app_cons]
      rw [List.length_cons] at this
      have e2 : pos + 1 + (cs.length + 1) = pos + (cs.length + 1 + 1) := by omega
      rw [e2]
      exact this
theorem wh_end (HB : Bs w B) (hne : dx ≠ db) (hz : buf.length ≤ 100000) {rest : List Nat} (hd : buf.cps.toList.drop pos = rest) (hp : pos ≤ buf.length) (hr : rest = [] ∨ ∃ r, rest = 32 :: r) (hn : (tok.length != 0) = true) (hl : tok.length ≤ 10000) (hq : ρ.lookup ("quoted" : Str) = some (.bool q))
    (h : ∀ ρ', ρ'.lookup ("quoted" : Str) = some (.bool q) → K (.next ⟨ρ', [("self", .ref x)], [lexS x dx b q1 q2 (stAfter rest) tok, ioS b db buf (pos + nAfter rest)]⟩)) :
    WhO w B (k + 2) (rtE L) rtT rtB K 1 ⟨ρ, [("self", .ref x)], [lexS x dx b q1 q2 (.str "a") tok, ioS b db buf pos]⟩ := by
  rcases hr with rfl | ⟨r, rfl⟩
  · have hp' : pos = buf.length := by
      have := List.drop_eq_nil_iff.mp hd
      have e : buf.cps.toList.length = buf.length := by simp [Str.length]
      omega
    exact wh_turn (rt_head HB hne (rd_end HB hz hp') (by decide) (rt_fin HB hne (h _ hq)))
  · have he : (⟨#[32]⟩ : Str) = " " := by decide +kernel
    have hr := rd_ch (k := k) (x := x) (dx := dx) (b := b) (db := db) (q1 := q1) (q2 := q2) (st := .str "a") (tok := tok) HB hne hz hd
    rw [he] at hr
    exact wh_turn (rt_head HB hne hr (by decide) (rt_space HB hne hn (by omega) (h _ hq)))
end
end Mine
end
section
open PySem PySem.W PySem.Calls PyProof.Rows PySem.Spec
namespace Mine
noncomputable def codeOf (wd : Str) (q : Bool) : List Nat := if q = true then 39 :: (wd.cps.toList ++ [39]) else wd.cps.toList
noncomputable def wdOK (wd : Str) (q : Bool) : Bool := decide (wd.length ≤ 1000) && (wd.length != 0) && (if q = true then wd.cps.toList.all qtC else wd.cps.toList.all plC && Txt.contains wcS ⟨#[wd.cps.toList.headD 0]⟩)
theorem str_eta (x : Str) : (⟨x.cps.toList.toArray⟩ : Str) = x := by cases x; rfl
theorem emp_app (x : Str) : ("" : Str) ++ x = x := Str.empty_append x
section
variable {w : World} {B : Heap} {k : Nat} {x dx b db q1 q2 : Addr} {st : PyData} {tok buf : Str} {pos : Nat} {K : OutO → Prop} {L : Addr}
theorem wh_all (HB : Bs w B) (hne : dx ≠ db) (hz : buf.length ≤ 100000) {wd : Str} {q : Bool} (hw : wdOK wd q = true) {rest : List Nat} (hd : buf.cps.toList.drop pos = codeOf wd q ++ rest) (hp : pos + (codeOf wd q).length ≤ buf.length) (hr : rest = [] ∨ ∃ r, rest = 32 :: r) {ρ : Vars} (hq : ρ.lookup ("quoted" : Str) = some (.bool false))
    (h : ∀ ρ', ρ'.lookup ("quoted" : Str) = some (.bool q) → K (.next ⟨ρ', [("self", .ref x)], [lexS x dx b q1 q2 (stAfter rest) wd, ioS b db buf (pos + (codeOf wd q).length + nAfter rest)]⟩)) :
    ∃ n, WhO w B (k + 2) (rtE L) rtT rtB K n ⟨ρ, [("self", .ref x)], [lexS x dx b q1 q2 (.str " ") "", ioS b db buf pos]⟩ := by
  simp only [wdOK, Bool.and_eq_true, decide_eq_true_eq] at hw
  obtain ⟨⟨h1, h2⟩, h3⟩ := hw
  have hlen : wd.cps.toList.length = wd.length := by simp [Str.length]
  have hd2 : buf.cps.toList.drop (pos + (codeOf wd q).length) = rest := by rw [← List.drop_drop, hd, List.drop_left]
  cases q with
  | true =>
    rw [if_pos rfl] at h3
    have ec : codeOf wd true = 39 :: (wd.cps.toList ++ [39]) := rfl
    rw [ec] at hd hd2 h hp
    have hd' : buf.cps.toList.drop pos = 39 :: (wd.cps.toList ++ 39 :: rest) := by rw [hd]; simp
    have he : (⟨#[39]⟩ : Str) = "'" := by decide +kernel
    have hrd := rd_ch (k := k) (x := x) (dx := dx) (b := b) (db := db) (q1 := q1) (q2 := q2) (st := .str " ") (tok := "") HB hne hz hd'
    rw [he] at hrd
    refine ⟨wd.cps.toList.length + 1 + 1 + 1, wh_turn (rt_head HB hne hrd (by decide) (rt_quote HB hne ?_))⟩
    refine wh_quoted HB hne hz wd.cps.toList rest (pos + 1) "" _ (fun c hc => List.all_eq_true.mp h3 c hc) (drop_head hd').2 (by show 0 + _ ≤ _; omega) fun ρ' hρ' => ?_
    rw [str_eta, emp_app]
    have e : pos + (39 :: (wd.cps.toList ++ [39])).length = pos + 1 + (wd.cps.toList.length + 1) := by simp; omega
    rw [e] at hd2 h hp
    exact wh_end HB hne hz hd2 hp hr h2 (by omega) hρ' h
  | false =>
    rw [if_neg (by decide)] at h3
    obtain ⟨h3, h4⟩ := Bool.and_eq_true_iff.mp h3
    have ec : codeOf wd false = wd.cps.toList := rfl
    rw [ec] at hd hd2 h hp
    cases hcs : wd.cps.toList with
    | nil => rw [hcs] at hlen; rw [← hlen] at h2; cases h2
    | cons c cs =>
      rw [hcs] at hd h3 h4
      have hd' : buf.cps.toList.drop pos = c :: (cs ++ rest) := hd
      have h3' := List.all_eq_true.mp h3
      obtain ⟨hs, hq', hn⟩ := plC_sg (h3' c (.head _))
      refine ⟨cs.length + 1 + 1, wh_turn (rt_head HB hne (rd_ch HB hne hz hd') hn (rt_begin HB hne hs h4 ?_))⟩
      refine wh_word (q := false) HB hne hz cs rest (pos + 1) ⟨#[c]⟩ _ (fun y hy => h3' y (.tail _ hy)) (drop_head hd').2 ?_ hq fun ρ' hρ' => ?_
      · have : (⟨#[c]⟩ : Str).length = 1 := rfl
        have : wd.length = cs.length + 1 := by rw [← hlen, hcs]; rfl
        omega
      · have e1 : (⟨#[c]⟩ : Str) ++ (⟨cs.toArray⟩ : Str) = wd := by
          apply Str.ext'
          rw [Str.cps_append]
          have : wd.cps = (c :: cs).toArray := by rw [← hcs]
          rw [this]; simp
        rw [e1]
        have e : pos + wd.cps.toList.length = pos + 1 + cs.length := by rw [hcs]; simp; omega
        rw [e] at hd2 h hp
        exact wh_end HB hne hz hd2 hp hr h2 (by omega) hρ' h
theorem eq_emp {t : Str} (h : (t.length != 0) = true) : (t == "") = false := by
  cases e : (t == "") with
  | false => rfl
  | true => rw [beq_iff_eq.mp e] at h; exact absurd h (by decide)
theorem rt_tail (HB : Bs w B) (hne : dx ≠ db) {ρ : Vars} {q : Bool} (hq : ρ.lookup ("quoted" : Str) = some (.bool q)) (hn : (tok.length != 0) = true) (hl : tok.length ≤ 10000) {K : OutO → Prop}
    (hK : ∀ ρ' rv', K (.ret (.str tok) ⟨ρ', rv', [lexS x dx b q1 q2 st "", ioS b db buf pos]⟩)) :
    ExO w B (k + 2) (rtE L) ⟨ρ, [("self", .ref x)], [lexS x dx b q1 q2 st tok, ioS b db buf pos]⟩ ((bdS (mth 46 6)).drop 3) K := by
  have lx : lexS x dx b q1 q2 st tok ∈ [lexS x dx b q1 q2 st tok, ioS b db buf pos] := .head _
  have lx' : lexS x dx b q1 q2 st "" ∈ [lexS x dx b q1 q2 st "", ioS b db buf pos] := .head _
  refine ExO.cons (EsO.assign (d := .str tok) (fun Hc H h S => S.attr HB (lexS x dx b q1 q2 st tok) cls895 lx) (.inl (by kernel_rfl)) rfl ?_)
  refine ExO.cons (EsO.setD (d := .str "") HB (lexS x dx b q1 q2 st tok) cls895 lx rfl (by kernel_rfl) (by show 19 ≤ 900; decide) (fun Hc H h S => Ev.cStr) trivial ?_)
  rw [upd_tok hne]
  refine ExO.cons (EsO.iff (c := false) (fun Hc H h S => Ts.eq (Ts.and (c := true) (Ts.plain (d := .bool true) (S.attr HB (lexS x dx b q1 q2 st "") cls895 lx') trivial) fun _ => Ts.and (Ts.not (Ts.plain (d := .bool q) (Ev.name hq) trivial)) fun _ => Ts.and (Ts.cmp (a := .str tok) (b := .str "") Ev.name Ev.cStr Cmp.eqS) fun _ => Ts.and0) (by rw [eq_emp hn]; simp)) (fun h => absurd h (by decide)) fun _ => ExO.nil ?_)
  refine ExO.cons (EsO.iff (c := false) (fun Hc H h S => Ts.cmp (a := .int 0) (S.attr HB (lexS x dx b q1 q2 st "") cls895 lx') Ev.cInt Cmp.gtI) (fun h => absurd h (by decide)) fun _ => ExO.nil ?_)
  exact ExO.cons (EsO.ret (fun Hc H h S => Ev.name) (hK _ _))
theorem rt_tail0 (HB : Bs w B) (hne : dx ≠ db) {ρ : Vars} (hq : ρ.lookup ("quoted" : Str) = some (.bool false)) {K : OutO → Prop}
    (hK : ∀ ρ' rv', K (.ret .none ⟨ρ', rv', [lexS x dx b q1 q2 st "", ioS b db buf pos]⟩)) :
    ExO w B (k + 2) (rtE L) ⟨ρ, [("self", .ref x)], [lexS x dx b q1 q2 st "", ioS b db buf pos]⟩ ((bdS (mth 46 6)).drop 3) K := by
  have lx : lexS x dx b q1 q2 st "" ∈ [lexS x dx b q1 q2 st "", ioS b db buf pos] := .head _
  refine ExO.cons (EsO.assign (d := .str "") (fun Hc H h S => S.attr HB (lexS x dx b q1 q2 st "") cls895 lx) (.inl (by kernel_rfl)) rfl ?_)
  refine ExO.cons (EsO.setD (d := .str "") HB (lexS x dx b q1 q2 st "") cls895 lx rfl (by kernel_rfl) (by show 19 ≤ 900; decide) (fun Hc H h S => Ev.cStr) trivial ?_)
  rw [upd_tok hne]
  refine ExO.cons (EsO.iff (c := true) (fun Hc H h S => Ts.eq (Ts.and (c := true) (Ts.plain (d := .bool true) (S.attr HB (lexS x dx b q1 q2 st "") cls895 lx) trivial) fun _ => Ts.and (Ts.not (Ts.plain (d := .bool false) (Ev.name hq) trivial)) fun _ => Ts.and (Ts.cmp (a := .str "") (b := .str "") Ev.name Ev.cStr Cmp.eqS) fun _ => Ts.and0) (by decide)) (fun _ => ?_) fun h => absurd h (by decide))
  refine ExO.cons (EsO.assign (d := .none) (fun Hc H h S => Ev.cNone) (.inl (by kernel_rfl)) rfl (ExO.nil ?_))
  refine ExO.cons (EsO.iff (c := false) (fun Hc H h S => Ts.cmp (a := .int 0) (S.attr HB (lexS x dx b q1 q2 st "") cls895 lx) Ev.cInt Cmp.gtI) (fun h => absurd h (by decide)) fun _ => ExO.nil ?_)
  exact ExO.cons (EsO.ret (fun Hc H h S => Ev.name) (hK _ _))
theorem readtok_ok (HB : Bs w B) (hne : dx ≠ db) (hz : buf.length ≤ 100000) {wd : Str} {q : Bool} (hw : wdOK wd q = true) {rest : List Nat} (hd : buf.cps.toList.drop pos = codeOf wd q ++ rest) (hp : pos + (codeOf wd q).length ≤ buf.length) (hr : rest = [] ∨ ∃ r, rest = 32 :: r) :
    MOK w B (k + 3) 863 x [] [lexS x dx b q1 q2 (.str " ") "", ioS b db buf pos] (.str wd) [lexS x dx b q1 q2 (stAfter rest) "", ioS b db buf (pos + (codeOf wd q).length + nAfter rest)] := by
  refine mok_def (fd := fd863) (body := bdS (mth 46 6)) [] HB (by kernel_rfl) (by kernel_rfl) (by decide +kernel) rfl (fun s v vs hB h => ?_) rfl trivial fun L => ?_
  · obtain rfl := len0 h; exact BindsTo.of_eq (by kernel_rfl)
  have hw' := hw
  simp only [wdOK, Bool.and_eq_true, decide_eq_true_eq] at hw'
  refine ExO.cons (EsO.assign (d := .bool false) (fun Hc H h S => Ev.cBool) (.inl (by kernel_rfl)) rfl ?_)
  refine ExO.cons (EsO.assign (d := .str " ") (fun Hc H h S => Ev.cStr) (.inl (by kernel_rfl)) rfl ?_)
  obtain ⟨n, hn⟩ := wh_all (k := k) (x := x) (b := b) (q1 := q1) (q2 := q2) (L := L) (K := ThenO w B (k + 2) (rtE L) ((bdS (mth 46 6)).drop 3) (fun o => ∃ ρ' rv', o = .ret (.str wd) ⟨ρ', rv', [lexS x dx b q1 q2 (stAfter rest) "", ioS b db buf (pos + (codeOf wd q).length + nAfter rest)]⟩ ∨ ((PyData.str wd) = .none ∧ o = .next ⟨ρ', rv', [lexS x dx b q1 q2 (stAfter rest) "", ioS b db buf (pos + (codeOf wd q).length + nAfter rest)]⟩))) HB hne hz hw hd hp hr (ρ := [("escapedstate", .str " "), ("quoted", .bool false)]) rfl fun ρ' hρ' =>
    rt_tail HB hne hρ' hw'.1.2 (by have := hw'.1.1; omega) fun ρ' rv' => ⟨ρ', rv', .inl rfl⟩
  exact ExO.cons (EsO.while n hn)
theorem readtok_end (HB : Bs w B) (hne : dx ≠ db) (hz : buf.length ≤ 100000) (hp : pos = buf.length) :
    MOK w B (k + 3) 863 x [] [lexS x dx b q1 q2 .none "", ioS b db buf pos] .none [lexS x dx b q1 q2 .none "", ioS b db buf pos] := by
  refine mok_def (fd := fd863) (body := bdS (mth 46 6)) [] HB (by kernel_rfl) (by kernel_rfl) (by decide +kernel) rfl (fun s v vs hB h => ?_) rfl trivial fun L => ?_
  · obtain rfl := len0 h; exact BindsTo.of_eq (by kernel_rfl)
  refine ExO.cons (EsO.assign (d := .bool false) (fun Hc H h S => Ev.cBool) (.inl (by kernel_rfl)) rfl ?_)
  refine ExO.cons (EsO.assign (d := .str " ") (fun Hc H h S => Ev.cStr) (.inl (by kernel_rfl)) rfl ?_)
  refine ExO.cons (EsO.while 1 (wh_turn (rt_head HB hne (rd_end HB hz hp) (by decide) (rt_none HB hne ?_))))
  exact rt_tail0 HB hne rfl fun ρ' rv' => ⟨ρ', rv', .inl rfl⟩
end
end Mine
end
section
open PySem PySem.W PySem.Calls PyProof.Rows PySem.Spec
namespace Mine
noncomputable def dqO : Obj := { cls := .type "collections.deque", data := .fields #[.none, rawInt 0] }
theorem slot_dqlen : Slot "collections.deque" "__len__" "collections.deque.__len__" := .of (owner := "collections.deque") (n := "__len__") (by rw [typeLookup_type, builtinLookup_eq_fast]; kernel_rfl) (by decide +kernel) (by decide +kernel) (by decide +kernel) (by decide +kernel) (by rw [isSubtype_type]; kernel_rfl)
theorem entry_dqlen : entryFor table "collections.deque.__len__" = some Builtin.«collections.deque.__len__» := entryFor_of_tree (by kernel_rfl)
theorem args_dqlen (a : Value) : argsOk "collections.deque.__len__" ⟨[a], []⟩ := by unfold argsOk; kernel_rfl
theorem noBool_dq : typeLookup (.type "collections.deque") "__bool__" = pure none := by rw [typeLookup_type, builtinLookup_eq_fast]; kernel_rfl
theorem dq_len (q : Addr) : Meets (Builtin.«collections.deque.__len__» ⟨[.ref q], []⟩) (fun _ R s => s.heap.get? q = some dqO ∧ R (.ok (.ret (.int 0 s.toks))) { s with toks := s.toks + 1 }) := fun prog w A R s hs => by
  obtain ⟨h1, h2⟩ := hs
  unfold Builtin.«collections.deque.__len__»
  refine wpAny_bind (m := slotArgs "__len__" 0 _) (wpAny_pure ?_)
  unfold Builtin.Deque.size
  refine wpAny_bind (wpAny_bind (wpAny_fieldsOf h1 rfl (wpAny_pure ?_)))
  exact wpAny_bind (wpAny_mkInt (wpAny_pure h2))
section
variable {prog : Program} {w : World} {A : Around} {E : Value → Shared → Prop} {s : Shared}
theorem truthy_dq {q : Addr} {Q : Bool → Shared → Prop} (hq : s.heap.get? q = some dqO) (h : ∀ t, Q false { s with toks := t }) : wpAny (model prog w) A (truthy (.ref q)) Q E s := by
  have hT : s.TypeIs (.ref q) "collections.deque" := ⟨_, hq, rfl⟩
  have key : wpAny (model prog w) A (runValue (.builtin "len" ⟨[.ref q], []⟩)) (fun r s' => r = .int 0 (s.toks + 1) ∧ Q false s') E s := by
    refine wpAny_runValue (codeAny_builtin entry_len ?_)
    rw [Around.under_plainId plain_len _]
    unfold Builtin.«len»
    refine wpAny_bind (m := oneArg "len" _) (wpAny_pure ?_)
    refine wpAny_bind (m := callSpecial? (.ref q) (Str.ofString "__len__")) (wpAny_callSpecial?_slot (name := Str.ofString "__len__") hT slot_dqlen (call_meets slot_dqlen hT entry_dqlen (args_dqlen _) (dq_len q) ⟨hq, ?_⟩))
    show wpAny _ _ _ _ _ { s with toks := s.toks + 1 }
    refine wpAny_bind (wpAny_holding (wpAny_pure ?_))
    refine wpAny_bind (wpAny_letGo ?_)
    rw [if_neg (by decide)]
    show wpAny _ _ (if (0 : Int) ≥ 2 ^ 63 then _ else _) _ _ _
    rw [if_neg (by decide)]
    exact wpAny_bind (wpAny_mkInt (wpAny_pure ⟨rfl, h _⟩))
  unfold truthy
  first
    | refine wpAny_bind (wpAny_callSpecial?_none (name := Str.ofString "__bool__") hT noBool_dq ?_)
    | refine wpAny_bind (wpAny_pure (wpAny_bind (wpAny_callSpecial?_none (name := Str.ofString "__bool__") hT noBool_dq ?_)))
  first
    | refine wpAny_bind (wpAny_specialOf (name := Str.ofString "__len__") hT slot_dqlen.lookup ?_)
    | refine wpAny_bind (wpAny_pure (wpAny_bind (wpAny_specialOf (name := Str.ofString "__len__") hT slot_dqlen.lookup ?_)))
  first
    | exact wpAny_bind (wpAny_mono key (fun r s' h' => by obtain ⟨rfl, hq⟩ := h'; exact wpAny_pure hq) fun _ _ e => e)
    | exact wpAny_bind (wpAny_pure (wpAny_bind (wpAny_mono key (fun r s' h' => by obtain ⟨rfl, hq⟩ := h'; exact wpAny_pure hq) fun _ _ e => e)))
end
section
variable {w : World} {B : Heap} {k : Nat} {env : Env} {σ : So} {K : OutO → Prop}
theorem TsO.dq {e : Expr} {q : Addr} (hr : RvO w B env σ e (.ref q)) (hq : B.get? q = some dqO) (he : ∀ whole, isTrue e env whole = (do let v ← whole; standAt e.pos; holding [v] (truthy v)) := by intro _; rfl) : TsO w B k env σ e false := fun Hc H h S A s H' Q E hA C hK =>
  isTrue_plain (hr Hc H h S A s _ E C.base fun s' k' => truthy_dq (k'.keep _ _ (C.base _ _ (S.base _ _ hq))) fun t => hK _ (k'.comp (Kp.tok _))) (he _)
theorem TsO.not {e : Expr} {pos : Pos} {c : Bool} (h : TsO w B k env σ e c) : TsO w B k env σ (.UnaryOp .Not e pos) (!c) := fun Hc H h' S => Ts.not (h Hc H h' S)
end
end Mine
end
section
open PySem PySem.W PySem.Calls PyProof.Rows PySem.Spec
namespace Mine
section
variable {w : World} {B : Heap} {k : Nat} {x dx b db q1 q2 : Addr} {st : PyData} {tok buf : Str} {pos : Nat} {L : Addr}
theorem Cmp.nisNN : Cmp w k .IsNot .none .none false := fun A s x y as bs Q E hA r₁ r₂ hq => by
  cases r₁; cases r₂; exact wpAny_isNot_plain rfl (hq _ Kp.rfl')
theorem Cmp.eqSN {a : Str} : Cmp w k .Eq (.str a) .none false := fun A s x y as bs Q E hA r₁ r₂ hq => by
  cases r₁; cases r₂; exact EqNone.eq_str_none (hq _ Kp.rfl')
theorem Cmp.eqNN : Cmp w k .Eq .none .none true := fun A s x y as bs Q E hA r₁ r₂ hq => by
  cases r₁; cases r₂; exact EqNone.eq_none_none (hq _ Kp.rfl')
theorem gettok_ok (HB : Bs w B) (hq1 : B.get? q1 = some dqO) (hne : dx ≠ db) {wd : Str} {pos' : Nat} {st' : PyData} (hm : MOK w B (k + 3) 863 x [] [lexS x dx b q1 q2 st "", ioS b db buf pos] (.str wd) [lexS x dx b q1 q2 st' "", ioS b db buf pos']) :
    MOK w B (k + 4) 856 x [] [lexS x dx b q1 q2 st "", ioS b db buf pos] (.str wd) [lexS x dx b q1 q2 st' "", ioS b db buf pos'] := by
  refine mok_def (fd := fd856) (body := bdS (mth 46 5)) [] HB (by kernel_rfl) (by kernel_rfl) (by decide +kernel) rfl (fun s v vs hB h => ?_) rfl trivial fun L => ?_
  · obtain rfl := len0 h; exact BindsTo.of_eq (by kernel_rfl)
  have lx : lexS x dx b q1 q2 st "" ∈ [lexS x dx b q1 q2 st "", ioS b db buf pos] := .head _
  have lx' : lexS x dx b q1 q2 st' "" ∈ [lexS x dx b q1 q2 st' "", ioS b db buf pos'] := .head _
  refine ExO.cons (EsO.iff (c := false) (TsO.dq (RvO.attr HB (lexS x dx b q1 q2 st "") cls895 lx rfl rfl (by kernel_rfl) rfl) hq1) (fun h => absurd h (by decide)) fun _ => ExO.nil ?_)
  refine ExO.cons (EsO.call0 HB (lexS x dx b q1 q2 st "") 863 cls895 lx (RvO.name rfl) (by kernel_rfl) rfl hm rfl (.inl (by kernel_rfl)) rfl ?_)
  refine ExO.cons (EsO.iff (c := false) (fun Hc H h S => Ts.cmp (a := .none) (S.attr HB (lexS x dx b q1 q2 st' "") cls895 lx') Ev.cNone Cmp.nisNN) (fun h => absurd h (by decide)) fun _ => ExO.nil ?_)
  refine ExO.cons (EsO.while 1 ⟨false, fun Hc H h S => Ts.cmp (a := .str wd) (b := .none) Ev.name (S.attr HB (lexS x dx b q1 q2 st' "") cls895 lx') Cmp.eqSN, fun _ => ?_, fun h => absurd h (by decide)⟩)
  refine ExO.cons (EsO.iff (c := false) (fun Hc H h S => Ts.cmp (a := .int 0) (S.attr HB (lexS x dx b q1 q2 st' "") cls895 lx') Ev.cInt Cmp.geI) (fun h => absurd h (by decide)) fun _ => ExO.nil ?_)
  exact ExO.cons (EsO.ret (fun Hc H h S => Ev.name) ⟨_, _, .inl rfl⟩)
theorem gettok_end (HB : Bs w B) (hq1 : B.get? q1 = some dqO) (hq2 : B.get? q2 = some dqO) (hne : dx ≠ db) (hm : MOK w B (k + 3) 863 x [] [lexS x dx b q1 q2 st "", ioS b db buf pos] .none [lexS x dx b q1 q2 st "", ioS b db buf pos]) :
    MOK w B (k + 4) 856 x [] [lexS x dx b q1 q2 st "", ioS b db buf pos] .none [lexS x dx b q1 q2 st "", ioS b db buf pos] := by
  refine mok_def (fd := fd856) (body := bdS (mth 46 5)) [] HB (by kernel_rfl) (by kernel_rfl) (by decide +kernel) rfl (fun s v vs hB h => ?_) rfl trivial fun L => ?_
  · obtain rfl := len0 h; exact BindsTo.of_eq (by kernel_rfl)
  have lx : lexS x dx b q1 q2 st "" ∈ [lexS x dx b q1 q2 st "", ioS b db buf pos] := .head _
  refine ExO.cons (EsO.iff (c := false) (TsO.dq (RvO.attr HB (lexS x dx b q1 q2 st "") cls895 lx rfl rfl (by kernel_rfl) rfl) hq1) (fun h => absurd h (by decide)) fun _ => ExO.nil ?_)
  refine ExO.cons (EsO.call0 HB (lexS x dx b q1 q2 st "") 863 cls895 lx (RvO.name rfl) (by kernel_rfl) rfl hm rfl (.inl (by kernel_rfl)) rfl ?_)
  refine ExO.cons (EsO.iff (c := false) (fun Hc H h S => Ts.cmp (a := .none) (S.attr HB (lexS x dx b q1 q2 st "") cls895 lx) Ev.cNone Cmp.nisNN) (fun h => absurd h (by decide)) fun _ => ExO.nil ?_)
  refine ExO.cons (EsO.while 1 ⟨true, fun Hc H h S => Ts.cmp (a := .none) (b := .none) Ev.name (S.attr HB (lexS x dx b q1 q2 st "") cls895 lx) Cmp.eqNN, fun h => absurd h (by decide), fun _ => ?_⟩)
  refine ExO.cons (EsO.iff (c := true) (TsO.not (TsO.dq (RvO.attr HB (lexS x dx b q1 q2 st "") cls895 lx rfl rfl (by kernel_rfl) rfl) hq2)) (fun _ => ?_) fun h => absurd h (by decide))
  exact ExO.cons (EsO.ret (d := .none) (fun Hc H h S => S.attr HB (lexS x dx b q1 q2 st "") cls895 lx) ⟨_, _, .inl rfl⟩)
theorem next_ok (HB : Bs w B) {wd : Str} {pos' : Nat} {st' : PyData} (hm : MOK w B (k + 4) 856 x [] [lexS x dx b q1 q2 st "", ioS b db buf pos] (.str wd) [lexS x dx b q1 q2 st' "", ioS b db buf pos']) :
    MOK w B (k + 5) 892 x [] [lexS x dx b q1 q2 st "", ioS b db buf pos] (.str wd) [lexS x dx b q1 q2 st' "", ioS b db buf pos'] := by
  refine mok_def (fd := fd892) (body := bdS (mth 46 10)) [] HB (by kernel_rfl) (by kernel_rfl) (by decide +kernel) rfl (fun s v vs hB h => ?_) rfl trivial fun L => ?_
  · obtain rfl := len0 h; exact BindsTo.of_eq (by kernel_rfl)
  have lx : lexS x dx b q1 q2 st "" ∈ [lexS x dx b q1 q2 st "", ioS b db buf pos] := .head _
  have lx' : lexS x dx b q1 q2 st' "" ∈ [lexS x dx b q1 q2 st' "", ioS b db buf pos'] := .head _
  refine ExO.cons (EsO.call0 HB (lexS x dx b q1 q2 st "") 856 cls895 lx (RvO.name rfl) (by kernel_rfl) rfl hm rfl (.inl (by kernel_rfl)) rfl ?_)
  refine ExO.cons (EsO.iff (c := false) (fun Hc H h S => Ts.cmp (a := .str wd) (b := .none) Ev.name (S.attr HB (lexS x dx b q1 q2 st' "") cls895 lx') Cmp.eqSN) (fun h => absurd h (by decide)) fun _ => ExO.nil ?_)
  exact ExO.cons (EsO.ret (fun Hc H h S => Ev.name) ⟨_, _, .inl rfl⟩)
end
end Mine
end
section
open PySem PySem.W PySem.Calls PyProof.Rows PySem.Spec
namespace Mine
noncomputable abbrev frs (l : List Env) : List Addr := l.filterMap (fun e => e.frame)
structure MvF (T : List OS) (F : List Addr) (s s' : Shared) : Prop where
  same : ∃ h' tk, s' = { s with heap := h', toks := tk }
  keep : ∀ b o, b ∉ T.map (·.dx) → b ∉ F → s.heap.get? b = some o → s'.heap.get? b = some o
  fr : ∀ b o, b ∉ T.map (·.dx) → s.heap.get? b = some o → (∀ vs, o.data ≠ .fields vs) → ∃ sl, s'.heap.get? b = some { o with slots := sl }
theorem funs_of {h base base' : Heap} : ∀ {l : List Env}, h.FunFrames base l → (∀ b ∈ l.filterMap (·.frame), base'.get? b = none) → h.FunFrames base' l
  | [], _, _ => trivial
  | env :: r, ⟨h1, ⟨L, o, h2, h3, h4, h5⟩, h6⟩, hn => ⟨h1, ⟨L, o, h2, hn L (List.mem_filterMap.mpr ⟨env, .head _, h2⟩), h4, h5⟩, funs_of h6 fun b hb => hn b (by
    obtain ⟨e, he, q⟩ := List.mem_filterMap.mp hb
    exact List.mem_filterMap.mpr ⟨e, .tail _ he, q⟩)⟩
theorem funs_keep {h h' base : Heap} : ∀ {l : List Env}, h.FunFrames base l → (∀ b ∈ l.filterMap (·.frame), ∀ o, h.get? b = some o → h'.get? b = some o) → h'.FunFrames base l
  | [], _, _ => trivial
  | env :: r, ⟨h1, ⟨L, o, h2, h3, h4, h5⟩, h6⟩, hn => ⟨h1, ⟨L, o, h2, h3, hn L (List.mem_filterMap.mpr ⟨env, .head _, h2⟩) o h4, h5⟩, funs_keep h6 fun b hb => hn b (by
    obtain ⟨e, he, q⟩ := List.mem_filterMap.mp hb
    exact List.mem_filterMap.mpr ⟨e, .tail _ he, q⟩)⟩
theorem EsO.run {w : World} {B : Heap} {k : Nat} {env : Env} {σ : So} {st : Stmt} {K : OutO → Prop} {A : Around} {s : Shared} {Hc H : List Addr} {Q : Flow → Shared → Prop} {E : Value → Shared → Prop} (h : EsO w B k env σ st K) (hA : AOK k A) (S : SrO w B env Hc H s.heap σ) (hq : ∀ o f s', K o → OutOKO w B env Hc H s o f s' → Q f s') : wpAny (model pg w) A (exec st env) Q E s := h A s Hc H Q E hA S hq
theorem TsO.run {w : World} {B : Heap} {k : Nat} {env : Env} {σ : So} {e : Expr} {b : Bool} {A : Around} {s : Shared} {Hc H : List Addr} {Q : Bool → Shared → Prop} {E : Value → Shared → Prop} (h : TsO w B k env σ e b) (hA : AOK k A) (S : SrO w B env Hc H s.heap σ) (hq : ∀ s', Kp s s' → Q b s') : wpAny (model pg w) A (isTrue e env (eval e env)) Q E s := h Hc H s.heap S A s H Q E hA S.cx hq
section
variable {w : World} {B : Heap} {k : Nat} {x dx b db q1 q2 : Addr} {st : PyData} {tok buf : Str} {pos : Nat}
theorem enterO {f x : Addr} {fd : FuncData} {body : List Stmt} (names : List Str) {ds : List PyData} {T : List OS} (HB : Bs w B)
    (ho : List.lookup f (KP w.params) = some ⟨.type "function", none, .func fd, #[]⟩) (hcd : codeIn (KP w.params) fd.code fd.qualname = true) (hok : fnOkC fd ("self" :: names) = true) (hbody : fd.body = .stmts body)
    {A : Around} {s : Shared} {H : List Addr} {vs : List Value} {as : List Addr} {kws : List (Str × Value)} {R : Result → Shared → Prop} {args : Args} (hA : AOK (k + 1) A) (hB : B.StaysIn s.heap) (hal : ∀ b ∈ H, ∃ o, s.heap.get? b = some o) (hT : TIn w B s.heap H T) (r : ReadsAll (hideAll s.heap H) vs ds as)
    (hbind : BindsTo s fd args ((("self" : Str), .ref x) :: names.zip vs))
    (h : ∀ L s₂, Kp s s₂ → SrO w B (callEnvC fd L f) (hcO H T) (fp (callEnvC fd L f) ++ H) s₂.heap ⟨names.zip ds, [("self", .ref x)], T⟩ → (∀ b ∈ fp (callEnvC fd L f), s.heap.get? b = none) →
      wpAny (model pg w) (A.deeper (callEnvC fd L f)) (execs body (callEnvC fd L f)) (fun f s' => R (.ok (.ret (match f with | .ret v => v | _ => .none))) s')
        (fun e s' => wpAny (model pg w) (A.deeper (callEnvC fd L f)) (leaving (callEnvC fd L f) e) (fun _ s'' => R (.error e) s'') (fun e' s'' => R (.error e') s'') s') s₂) :
    codeAny (model pg w) A (.call (.ref f) args) R s := by
  have hnd : (("self" : Str) :: names).Nodup := by
    simp only [fnOkC, Bool.and_eq_true, decide_eq_true_eq] at hok
    exact hok.1.1.1.1.1.2
  have hlen := readsAll_length r
  refine enter0 (names := "self" :: names) (ρ := names.zip ds) (H := H) (G := fun binds s' => s' = s ∧ binds = (("self" : Str), .ref x) :: names.zip vs) HB ho hcd hok hbody hA hB hal (fun Q E hQ => ?_) ?_ ?_
  · exact hbind _ _ _ _ (hQ _ _ Kp.rfl' ⟨rfl, rfl⟩)
  · rintro binds s' k' ⟨rfl, rfl⟩
    refine ⟨fun y hy => ?_, fun y d e => ?_⟩
    · rcases List.mem_cons.mp hy with rfl | hy
      · exact .head _
      · exact .tail _ (List.of_mem_zip hy).1
    · obtain ⟨hy, v, bs, hv, r'⟩ := zip_look (List.nodup_cons.mp hnd).2 r y d e
      exact ⟨.tail _ hy, v, bs, by rw [List.reverse_cons, List.lookup_append, hv]; rfl, r'⟩
  · rintro L binds s₁ s₂ _ ⟨rfl, rfl⟩ k₂ F S nfp
    have hself : ((("self" : Str), Value.ref x) :: names.zip vs).reverse.lookup ("self" : Str) = some (.ref x) := by
      rw [List.reverse_cons, List.lookup_append]
      have : (names.zip vs).reverse.lookup ("self" : Str) = none := by
        rw [List.lookup_eq_none_iff]
        intro p hp
        have := (List.of_mem_zip (List.mem_reverse.mp hp)).1
        exact bne_iff_ne.mpr fun q => (List.nodup_cons.mp hnd).1 (q ▸ this)
      rw [this]; simp
    have nH : ∀ b ∈ fp (callEnvC fd L f), b ∉ H := fun b hb q => by obtain ⟨o, e⟩ := hal b q; rw [nfp b hb] at e; cases e
    have vself : isVar (callEnvC fd L f) "self" := by
      simp only [fnOkC, Bool.and_eq_true, List.all_eq_true, Bool.or_eq_true, beq_iff_eq] at hok
      exact hok.1.1.1.1.1.1 "self" (.head _)
    have kinds : ∀ y ∈ names, isVar (callEnvC fd L f) y := fun y hy => by
      simp only [fnOkC, Bool.and_eq_true, List.all_eq_true, Bool.or_eq_true, beq_iff_eq] at hok
      exact hok.1.1.1.1.1.1 y (.tail _ hy)
    have up : ∀ b o, (hideAll s₁.heap H).get? b = some o → (hideAll s₂.heap (fp (callEnvC fd L f) ++ H)).get? b = some o := fun b o e => by
      have hb := not_hid e
      have ea := of_hideAll H e
      refine hideAll_get _ (k₂.keep b o ea) fun q => ?_
      rcases List.mem_append.mp q with q | q
      · rw [nfp b q] at ea; cases ea
      · exact hb q
    refine h L s₂ k₂ ⟨S.base, ⟨_, F, fun y d e => ?_, fun y v e => ?_⟩, fun b hb => List.mem_append_left _ hb, fun b hb => ?_, S.lt, fun o ho => ?_, hT.apart⟩ nfp
    · obtain ⟨hy, v, bs, hv, r'⟩ := zip_look (List.nodup_cons.mp hnd).2 r y d e
      exact ⟨kinds y hy, v, bs, by rw [List.reverse_cons, List.lookup_append, hv]; rfl, Reads.keeps up r'⟩
    · simp only [List.lookup_cons, List.lookup_nil] at e
      split at e
      · rename_i q
        cases e
        have := beq_iff_eq.mp q
        subst this
        exact ⟨vself, hself⟩
      · cases e
    · obtain ⟨h1, _⟩ := mem_hcO.mp hb
      exact ⟨List.mem_append_right _ h1, fun q => nH b q h1⟩
    · obtain ⟨⟨us, O, hf⟩, h1, h2, h3⟩ := hT.obs o ho
      have ox : ∃ q, s₁.heap.get? o.x = some q := by obtain ⟨_, _, _, _, e, _⟩ := O; exact ⟨_, e⟩
      refine ⟨⟨us, O.keeps (fun _ e => k₂.keep _ _ e) (fun _ e => k₂.keep _ _ e), hf⟩, List.mem_append_right _ h1, fun q => (mem_hcO.mp q).2 (List.mem_map.mpr ⟨o, ho, rfl⟩), fun q => nH _ q h1, h2, fun q => ?_⟩
      rcases List.mem_append.mp q with q | q
      · obtain ⟨q', e⟩ := ox; rw [nfp _ q] at e; cases e
      · exact h3 q
theorem next_end (HB : Bs w B) {T : List OS} (hTe : T = [lexS x dx b q1 q2 st "", ioS b db buf pos]) (hm : MOK w B (k + 4) 856 x [] T .none T) {A : Around} {s : Shared} {H : List Addr} {outer : List Env} {Q : Value → Shared → Prop} {E : Value → Shared → Prop}
    (hA : AOK (k + 5) A) (hfr : A.frames = some outer) (hB : B.StaysIn s.heap) (hal : ∀ b ∈ H, ∃ o, s.heap.get? b = some o) (hT : TIn w B s.heap H T) (hl : s.heap.FunFrames B outer) (hap : ∀ L ∈ frs outer, L ∉ T.map (·.dx) ∧ L ∉ T.map (·.x))
    (hE : ∀ e s', MvF T (frs outer) s s' → TIn w B s'.heap H T → (∃ o, s'.heap.get? e = some o ∧ o.cls = .type "StopIteration") → E (.ref e) s') : wpAny (model pg w) A (call (.ref 892) [.ref x]) Q E s := by
  refine wpAny_call (enterO (k := k + 4) (x := x) (fd := fd892) (body := bdS (mth 46 10)) (names := []) (ds := []) (vs := []) (kws := []) HB (by kernel_rfl) (by kernel_rfl) (by decide +kernel) rfl hA hB hal hT .nil (BindsTo.of_eq (by kernel_rfl)) fun L s₂ k₂ S nfp => ?_)
  have hA' : AOK (k + 4) (A.deeper (callEnvC fd892 L 892)) := hA.deeper
  have hE' : EnvOK (callEnvC fd892 L 892) := envOKC fd892 (by kernel_rfl)
  have lx : lexS x dx b q1 q2 st "" ∈ T := by rw [hTe]; exact .head _
  refine wpAny_execs_cons (EsO.run (K := fun o => o = .next ⟨[("token", .none)], [("self", .ref x)], T⟩) (EsO.call0 HB (lexS x dx b q1 q2 st "") 856 cls895 lx (RvO.name rfl) (by kernel_rfl) rfl hm rfl (.inl (by kernel_rfl)) rfl rfl) hA' S fun o f s₃ hK ho => ?_)
  subst hK
  obtain ⟨rfl, S₃, m₃⟩ := ho
  have TS : ∀ b ∈ fp (callEnvC fd892 L 892), b = L := fun b hb => by
    have e : fp (callEnvC fd892 L 892) = [L] := by kernel_rfl
    rw [e] at hb; exact List.mem_singleton.mp hb
  have nL : s.heap.get? L = none := nfp L (.head _)
  have keep₃ : ∀ b, b ∉ T.map (·.dx) → ∀ o, s.heap.get? b = some o → s₃.heap.get? b = some o := fun b hb o e => by
    refine m₃.sub b o ?_ (k₂.keep b o e)
    by_cases q : b ∈ H
    · exact .inl (mem_hcO.mpr ⟨q, hb⟩)
    · refine .inr fun z => ?_
      rcases List.mem_append.mp z with z | z
      · rw [nfp b z] at e; cases e
      · exact q z
  have same₃ : ∃ h' tk, s₃ = { s with heap := h', toks := tk } := by
    exact sm_trans (Kp.sm k₂) m₃.same
  have hl₃ : s₃.heap.FunFrames B outer := by
    refine funs_keep hl fun b hb o e => keep₃ b (hap b hb).1 o e
  refine wpAny_execs_cons (wpAny_If ?_)
  refine TsO.run (b := true) (fun Hc H h S => Ts.cmp (a := .none) (b := .none) Ev.name (S.attr HB (lexS x dx b q1 q2 st "") cls895 lx) Cmp.eqNN) hA' S₃ fun s₄ k₄ => ?_
  rw [if_pos rfl]
  have S₄ := S₃.keeps k₄
  refine wpAny_execs_cons (owsi_raiseC hA'.handled (blt (w := w) HB hE' S₄.base (by kernel_rfl) (by kernel_rfl) PyProof.Rows.Boot.«StopIteration» (by decide) ⟨rfl, rfl⟩) fun h₅ e hx => ?_)
  have nLf : ∀ b ∈ frs outer, b ≠ L := fun b hb q => by
    obtain ⟨_, o, e, _⟩ := hl.mem hb
    rw [q, nL] at e; cases e
  obtain ⟨vs, Fm₄, _⟩ := S₄.fr
  obtain ⟨mL, hns, _⟩ := Fm₄.loc
  obtain ⟨tp, hte, htn, htt⟩ := hx.there
  have hl₄ : s₄.heap.FunFrames B outer := hl₃.of_keeps fun b o hb _ => ⟨o, k₄.keep b o hb, rfl⟩
  have hframes : (A.deeper (callEnvC fd892 L 892)).frames = some (callEnvC fd892 L 892 :: outer) := Around.frames_deeper hfr
  have base0 : ∀ b o, (hideAll s₄.heap (L :: frs outer)).get? b = some o → h₅.get? b = some o := fun b o q => hx.keeps b o (of_hideAll _ q)
  refine wpAny_leaving_first (base := hideAll s₄.heap (L :: frs outer)) (L := L) hframes ?_ rfl hte base0 ?_ rfl rfl fun h₆ hL => ?_
  · refine Heap.FunFrames.cons (by rw [hE'.kind]; decide) rfl (hns.keeps hx.keeps) (hideAll_none _ (.head _)) ?_
    exact (funs_of hl₄ fun b hb => hideAll_none _ (.tail _ hb)).of_keeps fun b o hb _ => ⟨o, hx.keeps b o hb, rfl⟩
  · cases q : (hideAll s₄.heap (L :: frs outer)).get? e with
    | none => rfl
    | some o => have := of_hideAll _ q; rw [hx.new] at this; cases this
  obtain ⟨b1, b2, b3, b4⟩ := hL
  have keep₆ : ∀ b o, b ∉ T.map (·.dx) → b ∉ frs outer → s.heap.get? b = some o → h₆.get? b = some o := fun b o h1 h2 q => by
    refine b1 b o (hideAll_get _ (k₄.keep b o (keep₃ b h1 o q)) fun z => ?_)
    rcases List.mem_cons.mp z with z | z
    · rw [z, nL] at q; cases q
    · exact h2 z
  have obk : ∀ o ∈ T, (∃ q, s.heap.get? o.x = some q) ∧ (∃ q, s.heap.get? o.dx = some q) := fun o ho => by
    obtain ⟨⟨us, O, _⟩, _⟩ := hT.obs o ho
    obtain ⟨_, _, _, _, e1, e2⟩ := O
    exact ⟨⟨_, e1⟩, ⟨_, e2⟩⟩
  refine hE e _ ⟨?_, keep₆, fun b o h1 q hnf => ?_⟩ ⟨fun o ho => ?_, hT.apart⟩ ?_
  · exact sm_trans same₃ (sm_trans (Kp.sm k₄) ⟨h₆, _, rfl⟩)
  · exact b4 b o (hx.keeps b o (k₄.keep b o (keep₃ b h1 o q))) hnf
  · obtain ⟨⟨us, O, hf⟩, i1, i2, i3⟩ := (S₄.tin).obs o ho
    obtain ⟨_, i1', _, i3'⟩ := hT.obs o ho
    obtain ⟨⟨q1', e1'⟩, ⟨q2', e2'⟩⟩ := obk o ho
    have kk : ∀ c, (∃ q, s.heap.get? c = some q) → c ∉ frs outer → ∀ q, s₄.heap.get? c = some q → h₆.get? c = some q := fun c hc hn q hq => by
      refine b1 c q (hideAll_get _ hq fun z => ?_)
      rcases List.mem_cons.mp z with z | z
      · obtain ⟨q', e'⟩ := hc; rw [z, nL] at e'; cases e'
      · exact hn z
    refine ⟨⟨us, O.keeps (fun q hq => kk _ ⟨_, e1'⟩ (fun z => (hap _ z).2 (List.mem_map.mpr ⟨o, ho, rfl⟩)) q hq) (fun q hq => kk _ ⟨_, e2'⟩ (fun z => (hap _ z).1 (List.mem_map.mpr ⟨o, ho, rfl⟩)) q hq), hf⟩, i1', i2, i3'⟩
  · obtain ⟨oe, _, _, _, _, q1', q2', _⟩ := b3
    exact ⟨oe, q1', q2'⟩
end
end Mine
end
section
open PySem PySem.W PySem.Calls PyProof.Rows PySem.Spec
namespace Mine
noncomputable def lineOf : List (Str × Bool) → List Nat
  | [] => []
  | [p] => codeOf p.1 p.2
  | p :: ps => codeOf p.1 p.2 ++ 32 :: lineOf ps
noncomputable def stW : List (Str × Bool) → PyData
  | [] => .none
  | _ => .str " "
noncomputable def restOf : List (Str × Bool) → List Nat
  | [] => []
  | ps => 32 :: lineOf ps
theorem lineOf_cons (p : Str × Bool) (ps : List (Str × Bool)) : lineOf (p :: ps) = codeOf p.1 p.2 ++ restOf ps := by
  cases ps with
  | nil => show codeOf p.1 p.2 = codeOf p.1 p.2 ++ []; rw [List.append_nil]
  | cons q qs => rfl
theorem restOf_st (ps : List (Str × Bool)) : stAfter (restOf ps) = stW ps ∧ (restOf ps = [] ∨ ∃ r, restOf ps = 32 :: r) ∧ (restOf ps).drop (nAfter (restOf ps)) = lineOf ps := by
  cases ps with
  | nil => exact ⟨rfl, .inl rfl, rfl⟩
  | cons q qs => exact ⟨rfl, .inr ⟨_, rfl⟩, rfl⟩
section
variable {w : World} {B : Heap} {k : Nat} {x dx b db q1 q2 : Addr} {st : PyData} {tok buf : Str} {pos : Nat}
theorem isub_stop : isSubtype (.type "StopIteration") (.type "StopIteration") = pure true := by rw [isSubtype_type]; kernel_rfl
theorem next_own {A : Around} {s : Shared} {C f : Addr} {ox : Obj} {od : Option Obj} {Q : Option Value → Shared → Prop} {E : Value → Shared → Prop} (X : Frag.In (KP w.params) s.heap) (I : InstAt s.heap x ox C od) (hs : findIn (KP w.params) (.ref C) "__next__" = some (some (.ref f))) (hf : isFn (KP w.params) (.ref f) = true)
    (h : wpAny (model pg w) A (call (.ref f) [.ref x]) (fun v s' => Q (some v) s') (fun e s' => ∃ a o, e = .ref a ∧ s'.heap.get? a = some o ∧ o.cls = .type "StopIteration" ∧ Q none s') s) : wpAny (model pg w) A (pyNext (.ref x)) Q E s := by
  unfold pyNext
  refine wpAny_bind (wpAny_attempt (special_fn (name := "__next__") (args := []) X I hs (beq_iff_eq.mp hf) (wpAny_mono h (fun v s' hq => wpAny_pure hq) fun e s' he => ?_)))
  obtain ⟨a, o, rfl, h1, h2, hq⟩ := he
  refine wpAny_bind (wpAny_isInstance ⟨o, h1, h2⟩ isub_stop ?_)
  exact wpAny_pure hq
theorem iter_raw (HB : Bs w B) {A : Around} {s : Shared} {Q : Value → Shared → Prop} {E : Value → Shared → Prop} (hA : AOK (k + 1) A) (hB : B.StaysIn s.heap) (hq : ∀ s', Kp s s' → Q (.ref x) s') : wpAny (model pg w) A (call (.ref 885) [.ref x]) Q E s := by
  refine wpAny_call (enterO (k := k) (x := x) (fd := fd885) (body := bdS (mth 46 9)) (names := []) (ds := []) (vs := []) (kws := []) (T := []) (H := []) HB (by kernel_rfl) (by kernel_rfl) (by decide +kernel) rfl hA hB (fun b hb => nomatch hb) ⟨(fun o ho => nomatch ho), .nil⟩ .nil (BindsTo.of_eq (by kernel_rfl)) fun L s₂ k₂ S nfp => ?_)
  refine wpAny_execs_cons (wpAny_Return_some ?_)
  exact RvO.name (v := .ref x) rfl (by decide) _ _ _ S _ s₂ _ _ (fun _ _ e => e) fun s' k' => hq _ (k₂.comp k')
theorem iter_own (HB : Bs w B) {A : Around} {s : Shared} {ox : Obj} {od : Option Obj} {Q : Value → Shared → Prop} {E : Value → Shared → Prop} (hA : AOK (k + 1) A) (hB : B.StaysIn s.heap) (I : InstAt s.heap x ox 895 od) (hq : ∀ s', Kp s s' → Q (.ref x) s') : wpAny (model pg w) A (pyIter (.ref x)) Q E s := by
  have X := K_in HB hB
  have hs : findIn (KP w.params) (.ref 895) "__iter__" = some (some (.ref 885)) := by kernel_rfl
  have hn : findIn (KP w.params) (.ref 895) "__next__" = some (some (.ref 892)) := by kernel_rfl
  have ht : typeIn (KP w.params) (.ref 885) = some (.type "function") := by kernel_rfl
  have fin : wpAny (model pg w) A (call (.ref 885) [.ref x] >>= fun v => pure (some v)) (fun r s' => r = some (.ref x) ∧ Kp s s') E s :=
    wpAny_bind (iter_raw HB hA hB fun s' k' => wpAny_pure ⟨rfl, k'⟩)
  have one : ∀ refuse : Sem Value, wpAny (model pg w) A (callSpecialIfBoundUnlessNone? (.ref x) "__iter__" refuse) (fun r s' => r = some (.ref x) ∧ Kp s s') E s := fun refuse => by
    simp only [callSpecialIfBoundUnlessNone?, bindSpecialIfBound?]
    refine wpAny_holding (wpAny_bind (wpAny_bind (wpAny_bind (I.type.here ((looks_findIn X hs).here (wpAny_bind (wpAny_askSetting (wpAny_ite ?_))))))))
    have fin2 : wpAny (model pg w) A (if (Value.ref 885 == Value.none) = true then (refuse >>= fun v => pure (some v)) else (call (.ref 885) [.ref x] >>= fun v => pure (some v))) (fun r s' => r = some (.ref x) ∧ Kp s s') E s := wp_neg (fun h => Bool.false_ne_true h) fin
    split
    · exact wpAny_bind ((bind_fn X _ ht).here (wpAny_pure (by exact fin2)))
    · exact wpAny_tryCatch (wpAny_bind ((bind_fn X _ ht).here (wpAny_pure (by exact fin2))))
  unfold pyIter
  refine wpAny_bind (wpAny_bind (I.type.here ((looks_findIn X hs).here ?_)))
  refine wpAny_bind (wpAny_mono (one _) (fun r s' hr => ?_) fun _ _ z => z)
  obtain ⟨rfl, k'⟩ := hr
  have I' : InstAt s'.heap x ox 895 od := by
    obtain ⟨i1, i2, i3, i4⟩ := I
    exact ⟨k'.keep _ _ i1, i2, i3, by
      revert i4
      cases ox.dict <;> cases od <;> first | exact id | exact fun q => k'.keep _ _ q⟩
  refine wpAny_bind (wpAny_bind (I'.type.here ((looks_findIn (K_in HB (stays_kp hB k')) hn).here ?_)))
  exact wpAny_pure (hq s' k')
end
end Mine
end
section
open PySem PySem.W PySem.Calls PyProof.Rows PySem.Spec
namespace Mine
structure MvD (D F : List Addr) (s s' : Shared) : Prop where
  same : ∃ h' tk, s' = { s with heap := h', toks := tk }
  keep : ∀ b o, b ∉ D → b ∉ F → s.heap.get? b = some o → s'.heap.get? b = some o
  fr : ∀ b o, b ∉ D → s.heap.get? b = some o → (∀ vs, o.data ≠ .fields vs) → ∃ sl, s'.heap.get? b = some { o with slots := sl }
theorem MvD.comp {D F : List Addr} {s s' s'' : Shared} (m : MvD D F s s') (m' : MvD D F s' s'') : MvD D F s s'' := by
  obtain ⟨⟨h', tk, rfl⟩, a, b⟩ := m
  obtain ⟨⟨h'', tk', rfl⟩, a', b'⟩ := m'
  refine ⟨⟨h'', tk', rfl⟩, fun c o h1 h2 e => a' c o h1 h2 (a c o h1 h2 e), fun c o h1 e hn => ?_⟩
  obtain ⟨sl, e'⟩ := b c o h1 e hn
  obtain ⟨sl', e''⟩ := b' c _ h1 e' hn
  exact ⟨sl', e''⟩
theorem Kp.mvd {D F : List Addr} {s s' : Shared} (k : Kp s s') : MvD D F s s' := ⟨let ⟨h', tk, e, _⟩ := k; ⟨h', tk, e⟩, fun b o _ _ e => k.keep b o e, fun b o _ e _ => ⟨o.slots, k.keep b o e⟩⟩
theorem MvT.mvd {T : List OS} {D F : List Addr} {s s' : Shared} (m : MvT T s s') (h : ∀ b ∈ T.map (·.dx), b ∈ D) : MvD D F s s' := ⟨m.same, fun b o h1 _ e => m.keep b o (fun q => h1 (h b q)) e, fun b o h1 e _ => ⟨o.slots, m.keep b o (fun q => h1 (h b q)) e⟩⟩
theorem MvF.mvd {T : List OS} {D F : List Addr} {s s' : Shared} (m : MvF T F s s') (h : ∀ b ∈ T.map (·.dx), b ∈ D) : MvD D F s s' := ⟨m.same, fun b o h1 h2 e => m.keep b o (fun q => h1 (h b q)) h2 e, fun b o h1 e hn => m.fr b o (fun q => h1 (h b q)) e hn⟩
theorem TIn.keeps {w : World} {B h h' : Heap} {H : List Addr} {T : List OS} (t : TIn w B h H T) (hk : ∀ b o, b ∈ T.map (·.x) ∨ b ∈ T.map (·.dx) → h.get? b = some o → h'.get? b = some o) : TIn w B h' H T :=
  ⟨fun o ho => let ⟨⟨us, O, hf⟩, a, b, c⟩ := t.obs o ho; ⟨⟨us, O.keeps (fun q e => hk _ q (.inl (List.mem_map.mpr ⟨o, ho, rfl⟩)) e) (fun q e => hk _ q (.inr (List.mem_map.mpr ⟨o, ho, rfl⟩)) e), hf⟩, a, b, c⟩, t.apart⟩
section
variable {w : World} {B : Heap} {k : Nat} {x dx b db q1 q2 : Addr} {buf : Str}
noncomputable abbrev lxT (x dx b db q1 q2 : Addr) (buf : Str) (ws : List (Str × Bool)) (pos : Nat) : List OS := [lexS x dx b q1 q2 (stW ws) "", ioS b db buf pos]
theorem inst_lex {h : Heap} {H : List Addr} {ws : List (Str × Bool)} {pos : Nat} (t : TIn w B h H (lxT x dx b db q1 q2 buf ws pos)) : ∃ ox od, InstAt h x ox 895 od := by
  obtain ⟨⟨us, ⟨l, n, sl, _, h1, h2⟩, _⟩, _⟩ := t.obs _ (.head _)
  exact ⟨_, some _, h1, rfl, rfl, h2⟩
theorem loop_lex (HB : Bs w B) (hq1 : B.get? q1 = some dqO) (hq2 : B.get? q2 = some dqO) (hne : dx ≠ db) (hz : buf.length ≤ 100000) {A : Around} {outer : List Env} {H : List Addr} {S : Addr} (hA : AOK (k + 6) A) (hfr : A.frames = some outer)
    (hap : ∀ L ∈ frs outer, L ≠ dx ∧ L ≠ db ∧ L ≠ x ∧ L ≠ b) (hS1 : S ≠ dx ∧ S ≠ db ∧ S ≠ x ∧ S ≠ b) (hS2 : S ∉ frs outer) (hS3 : B.get? S = none) {R : Result → Shared → Prop} :
    ∀ (ws : List (Str × Bool)) (pos : Nat) (s : Shared) (acc : Array Value) (c : Nat), (∀ p ∈ ws, wdOK p.1 p.2 = true) → buf.cps.toList.drop pos = lineOf ws → pos ≤ buf.length → B.StaysIn s.heap → (∀ b ∈ H, ∃ o, s.heap.get? b = some o) → TIn w B s.heap H (lxT x dx b db q1 q2 buf ws pos) → s.heap.FunFrames B outer →
      s.heap.get? S = some { cls := .type "list", dict := none, data := .seq acc c, slots := #[] } → acc.size + ws.length ≤ 100000 →
      (∀ s' acc' c' l, MvD [S, dx, db] (frs outer) s s' → s'.heap.get? S = some { cls := .type "list", dict := none, data := .seq acc' c', slots := #[] } → acc'.toList = acc.toList ++ strValues l → l.map (·.1) = ws.map (·.1) → R (.ok (.ret .none)) s') →
      codeAny (model pg w) A (.builtin "list.extend.loop" ⟨[.ref S, .ref x, .none], []⟩) R s := by
  have hA' : AOK (k + 5) A.in1 := hA.in1
  have hap' : ∀ (st : PyData) (tok : Str) (pos : Nat), ∀ L ∈ frs outer, L ∉ [lexS x dx b q1 q2 st tok, ioS b db buf pos].map (·.dx) ∧ L ∉ [lexS x dx b q1 q2 st tok, ioS b db buf pos].map (·.x) := fun st tok pos L hL => by
    obtain ⟨h1, h2, h3, h4⟩ := hap L hL
    show L ∉ [dx, db] ∧ L ∉ [x, b]
    simp [h1, h2, h3, h4]
  have inD : ∀ (st : PyData) (tok : Str) (pos : Nat), ∀ c ∈ [lexS x dx b q1 q2 st tok, ioS b db buf pos].map (·.dx), c ∈ [S, dx, db] := fun st tok pos c hc => by
    have hc : c ∈ [dx, db] := hc
    exact .tail _ hc
  have nS : ∀ (st : PyData) (tok : Str) (pos : Nat), S ∉ [lexS x dx b q1 q2 st tok, ioS b db buf pos].map (·.dx) := fun st tok pos => by
    show S ∉ [dx, db]
    simp [hS1.1, hS1.2.1]
  intro ws
  induction ws with
  | nil =>
    intro pos s acc c hw hd hp hB hal hT hl hS hsz hR
    have hpos : pos = buf.length := by
      have := List.drop_eq_nil_iff.mp hd
      have e : buf.cps.toList.length = buf.length := by simp [Str.length]
      omega
    obtain ⟨ox, od, I⟩ := inst_lex hT
    refine codeAny_builtin F.entry_extend_loop ?_
    rw [Around.under_plainId F.plain_extend_loop _]
    show wpAny _ A.in1 (pyNext (.ref x) >>= _) _ _ s
    refine wpAny_bind (next_own (f := 892) (K_in HB hB) I (by kernel_rfl) (by kernel_rfl) ?_)
    refine next_end (k := k) (outer := outer) HB rfl (gettok_end HB hq1 hq2 hne (readtok_end HB hne hz hpos)) hA' hfr hB hal hT hl (hap' _ _ _) fun e s' m hT' ⟨o, ho, hc⟩ => ⟨e, o, rfl, ho, hc, ?_⟩
    exact wpAny_pure (hR s' acc c [] (m.mvd (inD _ _ _)) (m.keep _ _ (nS _ _ _) hS2 hS) (by simp [strValues]) rfl)
  | cons p ps ih =>
    intro pos s acc c hw hd hp hB hal hT hl hS hsz hR
    rw [lineOf_cons] at hd
    obtain ⟨r1, r2, r3⟩ := restOf_st ps
    obtain ⟨ox, od, I⟩ := inst_lex hT
    have hlen : pos + ((codeOf p.1 p.2).length + (restOf ps).length) = buf.length := by
      have := congrArg List.length hd
      rw [List.length_drop, List.length_append] at this
      have e : buf.cps.toList.length = buf.length := by simp [Str.length]
      omega
    have hna : nAfter (restOf ps) ≤ (restOf ps).length := by cases ps <;> simp [restOf, nAfter]
    refine codeAny_builtin F.entry_extend_loop ?_
    rw [Around.under_plainId F.plain_extend_loop _]
    show wpAny _ A.in1 (pyNext (.ref x) >>= _) _ _ s
    refine wpAny_bind (next_own (f := 892) (K_in HB hB) I (by kernel_rfl) (by kernel_rfl) ?_)
    have hnx := next_ok HB (gettok_ok HB hq1 hne (readtok_ok (k := k) (x := x) (dx := dx) (b := b) (db := db) (q1 := q1) (q2 := q2) HB hne hz (hw p (.head _)) hd (by omega) r2))
    rw [r1] at hnx
    refine hnx A.in1 s H [] [] _ _ hA' hB hal hT .nil fun v as' s' m hT' r hal' => ?_
    cases r
    rename_i tk
    have hS' := m.keep S _ (nS _ _ _) hS
    show wpAny _ A.in1 (updateSeq S (·.push (.str p.1 tk)) >>= _) _ _ _
    refine wpAny_bind ?_
    have oth : ∀ c o, c ≠ S → s'.heap.get? c = some o → (s'.heap.update S (Obj.mapSeq (·.push (.str p.1 tk)))).get? c = some o := fun c o hb e => (Heap.get?_update_other _ _ (Ne.symm hb)).trans e
    have hB' : B.StaysIn s'.heap := fun c o e => m.keep c o (fun q => by
      have q : c ∈ [dx, db] := q
      obtain ⟨_, _, n1, _⟩ := hT.obs _ (.head _)
      obtain ⟨_, _, n2, _⟩ := hT.obs _ (.tail _ (.head _))
      have n1 : B.get? dx = none := n1
      have n2 : B.get? db = none := n2
      rcases List.mem_cons.mp q with q | q
      · rw [q, n1] at e; cases e
      · rw [List.mem_singleton.mp q, n2] at e; cases e) (hB c o e)
    have hl' : s'.heap.FunFrames B outer := funs_keep hl fun c hc o e => m.keep c o (hap' _ _ _ c hc).1 e
    have hacc := Heap.get?_update_self (Obj.mapSeq (·.push (.str p.1 tk))) hS' rfl
    refine wpAny_updateSeq hS' rfl (wpAny_pure ⟨plainId_quiet F.plain_extend_loop _, ih (pos + (codeOf p.1 p.2).length + nAfter (restOf ps)) _ (acc.push (.str p.1 tk)) _ (fun q hq => hw q (.tail _ hq)) ?_ (by omega) ?_ ?_ ?_ ?_ hacc ?_ fun s₂ acc' c' l m₂ hS₂ he1 he2 => ?_⟩) (by rw [sizeLine_eq]; omega) (by show (acc.push _).size ≤ sizeLine + 1; rw [Array.size_push, sizeLine_eq]; omega)
    · rw [← List.drop_drop, ← List.drop_drop, hd, List.drop_left, r3]
    · exact fun c o e => oth c o (fun q => by rw [q, hS3] at e; cases e) (hB' c o e)
    · intro c hc
      obtain ⟨o, e⟩ := hal' c hc
      by_cases q : c = S
      · subst q; exact ⟨_, hacc⟩
      · exact ⟨o, oth c o q e⟩
    · refine hT'.keeps fun c o hc e => oth c o (fun q => ?_) e
      subst q
      have hc : c ∈ [x, b] ∨ c ∈ [dx, db] := hc
      simp [hS1.1, hS1.2.1, hS1.2.2.1, hS1.2.2.2] at hc
    · exact funs_keep hl' fun c hc o e => oth c o (fun q => hS2 (q ▸ hc)) e
    · rw [Array.size_push]; rw [List.length_cons] at hsz; omega
    · refine hR s₂ acc' c' ((p.1, tk) :: l) (((m.mvd (inD _ _ _)).comp ⟨⟨_, s'.toks, rfl⟩, fun c o h1 _ e => oth c o (fun q => h1 (q ▸ .head _)) e, fun c o h1 e _ => ⟨o.slots, oth c o (fun q => h1 (q ▸ .head _)) e⟩⟩).comp m₂) hS₂ ?_ ?_
      · rw [he1, Array.toList_push]
        simp [strValues]
      · simp [he2]
end
end Mine
end
section
open PySem PySem.W PySem.Calls PyProof.Rows PySem.Spec
namespace Mine
section
variable {w : World} {B : Heap} {k : Nat} {x dx b db q1 q2 : Addr} {buf : Str}
theorem list_lex (HB : Bs w B) (hq1 : B.get? q1 = some dqO) (hq2 : B.get? q2 = some dqO) (hne : dx ≠ db) (hz : buf.length ≤ 100000) {A : Around} {outer : List Env} {H : List Addr} (hA : AOK (k + 8) A) (hfr : A.frames = some outer)
    (hap : ∀ L ∈ frs outer, L ≠ dx ∧ L ≠ db ∧ L ≠ x ∧ L ≠ b) {ws : List (Str × Bool)} {s : Shared} {Q : Value → Shared → Prop} {E : Value → Shared → Prop} (hne' : ws ≠ []) (hw : ∀ p ∈ ws, wdOK p.1 p.2 = true) (hd : buf.cps.toList = lineOf ws)
    (hB : B.StaysIn s.heap) (hal : ∀ b ∈ H, ∃ o, s.heap.get? b = some o) (hT : TIn w B s.heap H (lxT x dx b db q1 q2 buf ws 0)) (hl : s.heap.FunFrames B outer) (hsz : ws.length ≤ 10000)
    (hQ : ∀ s' S c' l, s.heap.get? S = none → MvD [dx, db] (frs outer) s s' → s'.heap.get? S = some { cls := .type "list", dict := none, data := .seq (strValues l).toArray c', slots := #[] } → l.map (·.1) = ws.map (·.1) → Q (.ref S) s') :
    wpAny (model pg w) A (call (.type "list") [.ref x]) Q E s := by
  have nS := next_new s.heap
  have hx : ∃ o, s.heap.get? x = some o := by
    obtain ⟨⟨us, ⟨_, _, _, _, e, _⟩, _⟩, _⟩ := hT.obs _ (.head _); exact ⟨_, e⟩
  have hb : ∃ o, s.heap.get? b = some o := by
    obtain ⟨⟨us, ⟨_, _, _, _, e, _⟩, _⟩, _⟩ := hT.obs _ (.tail _ (.head _)); exact ⟨_, e⟩
  have hdx : ∃ o, s.heap.get? dx = some o := by
    obtain ⟨⟨us, ⟨_, _, _, _, _, e⟩, _⟩, _⟩ := hT.obs _ (.head _); exact ⟨_, e⟩
  have hdb : ∃ o, s.heap.get? db = some o := by
    obtain ⟨⟨us, ⟨_, _, _, _, _, e⟩, _⟩, _⟩ := hT.obs _ (.tail _ (.head _)); exact ⟨_, e⟩
  have ne : ∀ c, (∃ o, s.heap.get? c = some o) → s.heap.objs.size ≠ c := fun c ⟨o, e⟩ q => by rw [← q, nS] at e; cases e
  have hS1 : s.heap.objs.size ≠ dx ∧ s.heap.objs.size ≠ db ∧ s.heap.objs.size ≠ x ∧ s.heap.objs.size ≠ b := ⟨ne _ hdx, ne _ hdb, ne _ hx, ne _ hb⟩
  have hS2 : s.heap.objs.size ∉ frs outer := fun q => by
    obtain ⟨_, o, e, _⟩ := hl.mem q
    rw [nS] at e; cases e
  have hS3 : B.get? s.heap.objs.size = none := by
    cases e : B.get? s.heap.objs.size with
    | none => rfl
    | some o => have := hB _ _ e; rw [nS] at this; cases this
  refine callType_codes (Q₁ := fun obj s₁ => obj = .ref s.heap.objs.size ∧ s₁ = { s with heap := s.heap.push { cls := .type "list", data := .seq #[] } }) F.called_list (F.typeCall_list_1 _) F.entry_list_init
    (code_list_new _ ⟨rfl, rfl⟩) fun obj s₁ h₁ => ?_
  obtain ⟨rfl, rfl⟩ := h₁
  generalize hSe : s.heap.objs.size = S at *
  have hS : (s.heap.push { cls := .type "list", data := .seq #[] }).get? S = some { cls := .type "list", data := .seq #[] } := by rw [← hSe]; exact Heap.get?_push_size _ rfl
  refine ⟨⟨_, hS, rfl⟩, F.args_list_init_2 _ _, ?_⟩
  show wpAny _ A.in1.in1 (do let old ← Builtin.List.listItems (.ref S); Builtin.List.listUpdate (.ref S) (fun _ => #[]); letGo old.toList.reverse; Builtin.List.listExtendWith (.ref S) (.ref x) .none) _ _ _
  refine wpAny_bind ?_
  unfold Builtin.List.listItems
  refine wpAny_bind (wpAny_seqItems hS rfl (wpAny_pure ?_))
  show wpAny _ A.in1.in1 (updateSeq S (fun _ => #[]) >>= fun _ => letGo (#[] : Array Value).toList.reverse >>= fun _ => Builtin.List.listExtendWith (.ref S) (.ref x) .none) _ _ _
  refine wpAny_bind (wpAny_updateSeq hS rfl ?_)
  have hS₂ := Heap.get?_update_self (Obj.mapSeq (fun _ => (#[] : Array Value))) hS rfl
  have k₂ : ∀ c o, s.heap.get? c = some o → ((s.heap.push { cls := .type "list", data := .seq #[] }).update S (Obj.mapSeq (fun _ => (#[] : Array Value)))).get? c = some o := fun c o e =>
    (Heap.get?_update_other _ _ (fun q => by rw [← q, nS] at e; cases e)).trans (Heap.get?_push_of_some _ e)
  refine wpAny_bind (wpAny_letGo ?_)
  generalize hH2 : (s.heap.push { cls := .type "list", data := .seq #[] }).update S (Obj.mapSeq (fun _ => (#[] : Array Value))) = h₂ at *
  have hA₂ : AOK (k + 6) A.in1.in1 := (hA.in1).in1
  have hA₁ : AOK (k + 6) A.in1 := (hA.in1).less (by omega)
  have hT₂ : TIn w B h₂ H (lxT x dx b db q1 q2 buf ws 0) := hT.keeps fun c o _ e => k₂ c o e
  obtain ⟨ox, od, I⟩ := inst_lex hT₂
  unfold Builtin.List.listExtendWith
  refine wpAny_bind (I.type.here ?_)
  have h1 : Builtin.List.listSameRef (.ref S) (.ref x) = false := by simp [Builtin.List.listSameRef, hS1.2.2.1]
  have h2 : (Value.ref 895 == Value.type "list") = false := by decide
  have h3 : (Value.ref 895 == Value.type "tuple") = false := by decide
  simp only [h1, h2, h3, Bool.or_false, Bool.false_eq_true, if_false]
  have hB₂ : B.StaysIn h₂ := fun c o e => k₂ c o (hB c o e)
  refine wpAny_bind (iter_own (k := k + 5) HB hA₂ hB₂ I fun s₃ k₃ => ?_)
  have hT₃ : TIn w B s₃.heap H (lxT x dx b db q1 q2 buf ws 0) := hT₂.keeps fun c o _ e => k₃.keep c o e
  have hB₃ : B.StaysIn s₃.heap := fun c o e => k₃.keep c o (hB₂ c o e)
  obtain ⟨ox₃, od₃, I₃⟩ := inst_lex hT₃
  have X₃ := K_in HB hB₃
  refine wpAny_bind (wpAny_holding ?_)
  unfold Builtin.List.listLengthHint
  refine wpAny_bind (wpAny_bind (I₃.type.here ((looks_findIn X₃ (name := "__len__") (r := none) (by kernel_rfl)).here ?_)))
  show wpAny _ A.in1.in1 (specialOf (Value.ref x) (Str.ofString "__length_hint__") >>= _) _ _ _
  refine wpAny_bind (wpAny_bind (I₃.type.here ((looks_findIn X₃ (name := "__length_hint__") (r := none) (by kernel_rfl)).here ?_)))
  refine wpAny_pure ?_
  show wpAny _ A.in1.in1 (rule "list.extend.makes-room" >>= fun _ => Builtin.List.listTouch (.ref S) >>= fun _ => again (.builtin "list.extend.loop" ⟨[.ref S, .ref x, .none], []⟩)) _ _ _
  refine wpAny_bind (wpAny_rule (wpAny_bind ?_))
  show wpAny _ A.in1.in1 (updateSeq S (·.push .none) >>= fun _ => updateSeq S (·.pop)) _ _ _
  have hS₃ := k₃.keep _ _ hS₂
  refine wpAny_bind (wpAny_updateSeq hS₃ rfl ?_)
  have hS₄ := Heap.get?_update_self (Obj.mapSeq (·.push Value.none)) hS₃ rfl
  refine wpAny_updateSeq (hz := by seq_fits) hS₄ rfl ?_
  have hS₅ := Heap.get?_update_self (Obj.mapSeq (·.pop)) hS₄ rfl
  have oth : ∀ c o, c ≠ S → s₃.heap.get? c = some o → ((s₃.heap.update S (Obj.mapSeq (·.push Value.none))).update S (Obj.mapSeq (·.pop))).get? c = some o :=
    fun c o hb e => (Heap.get?_update_other _ _ (Ne.symm hb)).trans ((Heap.get?_update_other _ _ (Ne.symm hb)).trans e)
  have all : ∀ c o, s.heap.get? c = some o → ((s₃.heap.update S (Obj.mapSeq (·.push Value.none))).update S (Obj.mapSeq (·.pop))).get? c = some o := fun c o e => oth c o (fun q => by rw [q, nS] at e; cases e) (k₃.keep c o (k₂ c o e))
  refine wpAny_pure ⟨plainId_quiet F.plain_extend_loop _, loop_lex (k := k) (outer := outer) (H := H) HB hq1 hq2 hne hz hA₁ hfr hap hS1 hS2 hS3 ws 0 _ _ _ hw (by rw [List.drop_zero]; exact hd) (Nat.zero_le _) (fun c o e => all c o (hB c o e)) (fun c hc => let ⟨o, e⟩ := hal c hc; ⟨o, all c o e⟩) (hT.keeps fun c o _ e => all c o e) (funs_keep hl fun c _ o e => all c o e) hS₅ (by simp; omega) fun s' acc' c' l m hS' e1 e2 => ⟨rfl, ?_⟩⟩
  have e3 : acc' = (strValues l).toArray := by
    have : acc'.toList = strValues l := by rw [e1]; simp
    rw [← this]
  rw [e3] at hS'
  refine hQ s' S c' l nS ⟨?_, fun c o n1 n2 e => m.keep c o (fun q => ?_) n2 (all c o e), fun c o n1 e hn => m.fr c o (fun q => ?_) (all c o e) hn⟩ hS' e2
  · exact sm_trans k₃.sm m.same
  · rcases List.mem_cons.mp q with q | q
    · rw [q, nS] at e; cases e
    · exact n1 q
  · rcases List.mem_cons.mp q with q | q
    · rw [q, nS] at e; cases e
    · exact n1 q
end
end Mine
end
section
open PySem PySem.W PySem.Calls PyProof.Rows PySem.Spec
namespace Mine
noncomputable def KC (P : Params) : List (Addr × Obj) := (2, cst P) :: KP P
section
variable {w : World} {B : Heap} {k : Nat}
theorem KC_in (HB : Bs w B) {h : Heap} (hB : B.StaysIn h) : Frag.In (KC w.params) h := fun a o e => by
  unfold KC at e
  rw [List.lookup_cons] at e
  split at e
  · rename_i q
    cases e
    rw [beq_iff_eq.mp q]
    exact hB _ _ HB.c2
  · exact K_in HB hB a o e
theorem new_attr (HB : Bs w B) {A : Around} {s : Shared} {E : Value → Shared → Prop} {Q : Value → Shared → Prop} {expr : Bool} (hB : B.StaysIn s.heap) (h : Q (.ref 295) { s with toks := s.toks + 1 }) : wpAny (model pg w) A (getAttr (.ref 802) "__new__" expr) Q E s :=
  have X := KC_in HB hB
  cls_bind (mc := .type "type") (g := .builtin "staticmethod.__get__") (a := .ref 299) (obj := .none) (tp := .ref 802) X (by kernel_rfl) (by kernel_rfl) (wpAny_call (sm_get (s := { s with toks := s.toks + 1 }) (f := .ref 295) (rest := []) X (by kernel_rfl) (handed_on rfl h)))
theorem obj_new {A : Around} {s : Shared} {E : Value → Shared → Prop} {pl : Sem Bool} {Q : Value × List Value → Shared → Prop} {L : Addr} {m : Str → Option Value} (hn : s.heap.Ns L m) (h : Q (.builtin "object.__new__", []) { s with toks := s.toks + 1 }) : wpAny (model pg w) A (getMethod (.type "object") "__new__" pl) Q E s :=
  have ht : typeOf (.type "object") = pure (.type "type") := by kernel_rfl
  have e : findCls [] (.type "object") (.type "type") "__new__" = some (.val (.builtin "object.__new__")) := by kernel_rfl
  have hv : handedIn (.builtin "object.__new__") = true := by kernel_rfl
  have F : Fr (default : Heap) L s.heap m := ⟨hn, (fun b o e => by cases e), Nat.zero_le _⟩
  have X : Frag.In [] (default : Heap) := fun a o e => by cases e
  have st : Manifest.isStub "object" = false := by decide +kernel
  method_type (prog := pg) (w := w) (T := "object") (name := "__new__") (v := .builtin "object.__new__") (K := []) (h₀ := (default : Heap)) (L := L) (m := m) (s := s) (A := A) (E := E) (pl := pl) (Q := Q) F X ht st e hv h
theorem K_at (HB : Bs w B) {h : Heap} (hB : B.StaysIn h) {a : Addr} {o : Obj} (e : List.lookup a (KP w.params) = some o) : h.get? a = some o := hB _ _ (HB.K a o e)
noncomputable abbrev cd802 : Obj := ⟨(.type "type"), none, .cls { name := "StringIO", bases := [(.ref 325)], mro := [(.ref 802), (.ref 325), (.ref 298), (.type "object")], ns := 801, qualname := "StringIO", hasDict := true, slotNames := [], subclasses := [], abstract := false, collection := none, hasDel := false }, #[some (.ref 558), none, some (.str "StringIO" 1039), some (.str "StringIO" 1047), some .none, some (.bool true)]⟩
noncomputable abbrev cd325 : Obj := ⟨(.type "type"), none, .cls { name := "TextIOBase", bases := [(.ref 298)], mro := [(.ref 325), (.ref 298), (.type "object")], ns := 324, qualname := "TextIOBase", hasDict := true, slotNames := [], subclasses := [(.ref 802)], abstract := false, collection := none, hasDel := false }, #[some (.ref 316), none, some (.str "TextIOBase" 759), some (.str "TextIOBase" 767), some .none, some (.bool true)]⟩
noncomputable abbrev cd298 : Obj := ⟨(.type "type"), none, .cls { name := "IOBase", bases := [(.type "object")], mro := [(.ref 298), (.type "object")], ns := 297, qualname := "IOBase", hasDict := true, slotNames := [], subclasses := [(.ref 313), (.ref 325)], abstract := false, collection := none, hasDel := false }, #[none, none, some (.str "IOBase" 709), some (.str "IOBase" 717), some .none, some (.bool true)]⟩
theorem sol_obj : Builtin.Slots.solid (.type "object") = pure (.type "object") := by kernel_rfl
theorem best1 : Builtin.Slots.bestBase [.type "object"] = pure (.type "object") := by kernel_rfl
theorem madeBy_none {M : Model} {h : Heap} {C : Addr} {oc : Value} {od : Option Addr} {cd : ClassData} {sl : Array (Option Value)} {c : Value} {l : List Value} (ho : h.get? C = some ⟨oc, od, .cls cd, sl⟩) (hm : cd.mro = c :: l) (hs : sl[4]? = some (some .none)) : Looks M h (Bind.madeBy (.ref C)) none := by
  intro A Q E s k q
  unfold Bind.madeBy
  have hm' : Looks M h (mroOf (.ref C)) cd.mro := ((Looks.ld (part := none) ho).andThen .now).andThen .now
  refine wpAny_bind (hm' A _ E s k ?_)
  rw [hm, List.forIn_cons]
  refine wpAny_bind (wpAny_bind (wpAny_bind (wpAny_bind (wpAny_loadPart (k _ _ ho) (wpAny_pure ?_)))))
  dsimp only
  simp only [hs]
  exact wpAny_pure (wpAny_pure (wpAny_pure q))
theorem madeHere_io {M : Model} {h : Heap} (h1 : h.get? 802 = some cd802) (h2 : h.get? 325 = some cd325) (h3 : h.get? 298 = some cd298) : Looks M h (Bind.madeHere "object.__new__" (.ref 802)) () := by
  intro A Q E s k q
  obtain ⟨hh, g, d, t, os⟩ := s
  have e1 : hh.get? 802 = some cd802 := k _ _ h1
  have e2 : hh.get? 325 = some cd325 := k _ _ h2
  have e3 : hh.get? 298 = some cd298 := k _ _ h3
  have m1 : Looks M hh (Bind.madeBy (.ref 802)) none := madeBy_none e1 rfl rfl
  have m2 : Looks M hh (Bind.madeBy (.ref 325)) none := madeBy_none e2 rfl rfl
  have m3 : Looks M hh (Bind.madeBy (.ref 298)) none := madeBy_none e3 rfl rfl
  have m4 : Looks M hh (Bind.madeBy (.type "object")) (some "object.__new__") := Looks.of_pure (by kernel_rfl)
  unfold Bind.madeHere Bind.staticBase Builtin.Slots.bestBase Builtin.Slots.solid
  repeat lk
  exact q
end
end Mine
end
section
open PySem PySem.W PySem.Calls PyProof.Rows PySem.Spec
namespace Mine
section
variable {w : World} {B : Heap} {k : Nat}
theorem io_at (HB : Bs w B) {h : Heap} (hB : B.StaysIn h) : h.get? 802 = some cd802 ∧ h.get? 325 = some cd325 ∧ h.get? 298 = some cd298 := ⟨K_at HB hB (by kernel_rfl), K_at HB hB (by kernel_rfl), K_at HB hB (by kernel_rfl)⟩
theorem io_looks (HB : Bs w B) {h : Heap} (hB : B.StaysIn h) : Looks (model pg w) h (isSubtype (.ref 802) (.ref 802)) true ∧ Looks (model pg w) h (isSubtype (.ref 802) (.type "object")) true ∧ Looks (model pg w) h (specialOf (.ref 802) "__call__") (some (.builtin "type.__call__")) ∧ Looks (model pg w) h (isInstance (.ref 802) (.type "type")) true := by
  have X := K_in HB hB
  exact ⟨looks_mroIn X (by kernel_rfl), looks_mroIn X (by kernel_rfl), looks_specialIn X (by kernel_rfl), looks_instIn X (by kernel_rfl)⟩
theorem objnew_io (HB : Bs w B) {A : Around} {h : Heap} {g : Array GenState} {d : Drawn} {t : Nat} {os : OsState} {R : Result → Shared → Prop} (hB : B.StaysIn h)
    (hq : R (.ok (.ret (.ref (h.objs.size + 1)))) ⟨(h.push emptyDict).push (instObj 802 h.objs.size), g, d, t, os⟩) :
    codeAny (model pg w) A (.call (.builtin "object.__new__") ⟨[.ref 802], []⟩) R ⟨h, g, d, t, os⟩ := by
  obtain ⟨h1, h2, h3⟩ := io_at HB hB
  obtain ⟨self, top, call, typ⟩ := io_looks HB hB
  have F := PySem.F.objNew
  refine codeAny_call_builtin_code (Code.quiet_builtin _ F.quiet) ?_
  simp only [checkBuiltinCall, F.kind, F.split, F.row]
  have m1 : Looks (model pg w) h (Bind.madeBy (.ref 802)) none := madeBy_none h1 rfl rfl
  have m2 : Looks (model pg w) h (Bind.madeBy (.ref 325)) none := madeBy_none h2 rfl rfl
  have m3 : Looks (model pg w) h (Bind.madeBy (.ref 298)) none := madeBy_none h3 rfl rfl
  have m4 : Looks (model pg w) h (Bind.madeBy (.type "object")) (some "object.__new__") := Looks.of_pure (by kernel_rfl)
  have here : Looks (model pg w) h (Bind.madeHere "object.__new__" (.ref 802)) () := madeHere_io h1 h2 h3
  have args : Bind.checkArgs "object.__new__" ⟨.hand, "object.__new__", "__new__", .cls, []⟩ ⟨[.ref 802], []⟩ = pure () := by kernel_rfl
  rw [args]
  repeat (first | simp only [bne_self_eq_false, Bool.false_eq_true, if_false] | lk)
  refine codeAny_builtin F.entry ?_
  unfold Builtin.«object.__new__»
  have fin : ∀ A', wpAny (model pg w) A' (do
      let d ← if typeHasDict (.ref 802) then some <$> alloc { cls := .type "dict", data := .dict #[] } else pure none
      ret (← newObj (.ref 802) .plain d)) (fun fin s' => match fin with | .done f => R (.ok f) s' | .again c' => c'.quiet = true ∧ codeAny (model pg w) A c' R s') (fun e s' => R (.error e) s') ⟨h, g, d, t, os⟩ := by
    intro A'
    show wpAny _ _ ((alloc emptyDict >>= fun x => pure (some x)) >>= _) _ _ _
    refine wpAny_bind (wpAny_bind (wpAny_alloc (wpAny_pure (wpAny_bind ?_))))
    show wpAny _ _ (newObjAsIs _ _ _) _ _ _
    unfold newObjAsIs classHasDel
    refine wpAny_bind (wpAny_alloc (wpAny_bind (wpAny_bind (wpAny_load (Heap.get?_push_of_some _ (Heap.get?_push_of_some _ h1)) (wpAny_pure (wpAny_pure (wpAny_pure ?_)))))))
    show R _ _
    rw [Heap.size_push]
    exact hq
  repeat (first | simp only [Bool.false_eq_true, if_false] | exact fin _ | lk)
noncomputable def nwB (v t dk : Value) : List (Str × Value) := [("cls", v), ("args", t), ("kwargs", dk)]
theorem ionew_raw (HB : Bs w B) {A : Around} {s : Shared} {v : Value} {Q : Value → Shared → Prop} {E : Value → Shared → Prop} (hA : AOK (k + 1) A) (hB : B.StaysIn s.heap)
    (hq : ∀ x dx s', Kp s s' → s.heap.get? x = none → s.heap.get? dx = none → x ≠ dx → s'.heap.get? x = some (instObj 802 dx) → s'.heap.get? dx = some emptyDict → Q (.ref x) s') : wpAny (model pg w) A (call (.ref 295) [.ref 802, v]) Q E s := by
  refine wpAny_call (enter0 (k := k) (fd := fd295) (body := bdS (mth 40 1)) (names := ["cls", "args", "kwargs"]) (ρ := []) (H := []) (G := fun binds s' => ∃ t dk, binds = nwB (.ref 802) t dk) HB (by kernel_rfl) (by kernel_rfl) (by decide +kernel) rfl hA hB (fun b hb => nomatch hb) (fun Q E hQ => ?_) ?_ ?_)
  · have e : bindArgs fd295 ⟨[.ref 802, v], []⟩ = (do let t ← newTuple [v]; let d ← alloc { cls := .type "dict", data := .dict #[] }; pure [("cls", .ref 802), ("args", t), ("kwargs", .ref d)]) := by kernel_rfl
    rw [e]
    refine wpAny_bind (wpAny_newTuple ?_ (by show 1 ≤ sizeLine; decide))
    refine wpAny_bind (wpAny_alloc (wpAny_pure ?_))
    exact hQ _ _ ((push_kp (t := s.toks)).comp (push_kp (t := s.toks))) ⟨_, _, rfl⟩
  · rintro binds s' k' ⟨t, dk, rfl⟩
    refine ⟨fun y hy => ?_, fun y d e => by cases e⟩
    simp only [nwB, List.mem_cons, List.not_mem_nil, or_false] at hy ⊢
    rcases hy with rfl | rfl | rfl <;> simp
  · rintro L binds s₁ s₂ k₁ ⟨t, dk, rfl⟩ k₂ F S nfp
    have hE : EnvOK (callEnvC fd295 L 295) := envOKC fd295 (by kernel_rfl)
    have vcls : isVar (callEnvC fd295 L 295) "cls" := .inl (by kernel_rfl)
    have bcls : (nwB (.ref 802) t dk).reverse.lookup ("cls" : Str) = some (.ref 802) := by kernel_rfl
    have kk := k₁.comp k₂
    obtain ⟨h1, h2, h3⟩ := io_at HB S.base
    refine wpAny_execs_cons (wpAny_If ?_)
    refine isTrue_and (wpAny_isTrue_Compare1 ?_)
    refine wpAny_Name (F.var vcls bcls (fun _ _ e => e) ?_) (by decide)
    refine glob (w := w) HB hE S.base (x := "BytesIO") (v := .ref 555) (by kernel_rfl) (by kernel_rfl) ?_ (by decide)
    refine wpAny_isNot_ref_other (by decide) h1 (S.base _ _ HB.c5) (by decide) ?_
    refine wpAny_truthy_bool ?_
    show wpAny _ _ _ _ _ _
    refine isTrue_and (wpAny_isTrue_Compare1 ?_)
    refine wpAny_Name (F.var vcls bcls (fun _ _ e => e) ?_) (by decide)
    refine glob (w := w) HB hE S.base (x := "StringIO") (v := .ref 802) (by kernel_rfl) (by kernel_rfl) ?_ (by decide)
    refine wpAny_isNot_ref_self (wpAny_truthy_bool ?_)
    refine wpAny_execs_nil ?_
    refine wpAny_execs_cons (wpAny_Return_some (MethodCall_ ?_))
    refine blt (w := w) HB hE S.base (x := "object") (by kernel_rfl) (by kernel_rfl) rfl (by decide) ?_
    obtain ⟨mL, hns, _⟩ := F.loc
    refine obj_new hns ?_
    refine PyProof.Rows.callWith_builtin1 (args_cons (wpAny_Name (F.var vcls bcls (fun _ _ e => e) (args_nil ?_)) (by decide)))
    refine wpAny_call ?_
    have nsz : ∀ c : Addr, s₂.heap.objs.size ≤ c → s.heap.get? c = none := fun c hc => by
      cases e : s.heap.get? c with
      | none => rfl
      | some o => exact absurd (Heap.lt_size (kk.keep _ _ e)) (Nat.not_lt.mpr hc)
    refine objnew_io HB S.base ?_
    refine hq (s₂.heap.objs.size + 1) s₂.heap.objs.size _ (kk.comp ((push_kp (t := s₂.toks + 1)).comp push_kp)) (nsz _ (Nat.le_succ _)) (nsz _ (Nat.le_refl _)) (Nat.succ_ne_self _) ?_ ?_
    · have := Heap.get?_push_size (s₂.heap.push emptyDict) (o := instObj 802 s₂.heap.objs.size) rfl
      rw [Heap.size_push] at this
      exact this
    · exact Heap.get?_push_of_some _ (Heap.get?_push_size _ rfl)
end
end Mine
end
section
open PySem PySem.W PySem.Calls PyProof.Rows PySem.Spec
namespace Mine
theorem upd1 {x dx C : Addr} {fs : List (Str × AV)} {n : Str} {a : AV} : upd dx n a [⟨x, dx, C, fs⟩] = [⟨x, dx, C, setV n a fs⟩] := by
  show [if dx = dx then _ else _] = _
  rw [if_pos rfl]
section
variable {w : World} {B : Heap} {k : Nat} {env : Env} {σ : So} {K : OutO → Prop}
theorem EsO.setCall1 {x a name : Str} {xp tp ap cp pos : Pos} {ob e : Expr} {d0 d : PyData} {T' : List OS} (HB : Bs w B) (o o' : OS) (f : Addr) (c : Cls w o.C) (c' : Cls w o'.C) (ho : o ∈ σ.T) (ho' : o' ∈ T') (hob : RvO w B env σ ob (.ref o.x)) (hf : (findIn (KP w.params) (.ref o.C) name, isFn (KP w.params) (.ref f), keepIn (KP w.params) (.ref f)) = (some (some (.ref f)), true, true)) (hl : o.fs.lookup name = none)
    (hev : EvO w B k env σ e d0) (hm : MOK w B k f o.x [d0] σ.T d T') (hdx : σ.T.map (·.dx) = T'.map (·.dx)) (hr : σ.rv.lookup x = some (.ref o'.x)) (ht : takerIn (KP w.params) o'.C a = some none) (hz : o'.fs.length ≤ 900) (hfl : flat d)
    (hK : K (.next ⟨σ.ρ, σ.rv, upd o'.dx a (.dat d) T'⟩))
    (hs : swapsWith (.Call (.Attribute ob name ap) [e] [] cp) (some (.Attribute (.Name x xp) a tp)) pos.line env = pure false := by rfl) (hse : starEach (e :: []) env = (false, eval e env) :: starEach [] env := by rfl) (hdb : (x == ("__debug__" : Str)) = false := by decide)
    (he : eval (.Call (.Attribute ob name ap) [e] [] cp) env = (do let ov ← eval ob env; standAt ap.atName; let (f, first) ← holding [ov] (getMethod ov name (do return (← importBound ob env).getD true)); callWith cp f first (backTo cp (starEach [e] env)) []) := by rfl) :
    EsO w B k env σ (.Assign [.Attribute (.Name x xp) a tp] (.Call (.Attribute ob name ap) [e] [] cp) pos) K := fun A s Hc H Q E hA S hq =>
  plainObj_wpAny_Assign_Attribute (callM HB hA S o f c ho hob hf hl (fun h S => EvAll.cons (hev _ _ h S) EvAll.nil hse) hm hdx (fun v as s' S' m r => by
    obtain ⟨vs, F, _, hrv⟩ := S'.fr
    obtain ⟨hx, hv⟩ := hrv x _ hr
    refine wpAny_Name (F.var hx hv (fun _ _ e => e) ?_) hdb
    have hfit : ∀ h, Reads h v d [] := fun h => by
      cases r with
      | none => exact .none
      | bool b => exact .bool b
      | int i t => exact .int i t
      | str x t => exact .str x t
      | list => exact hfl.elim
      | tuple => exact hfl.elim
      | dict => exact hfl.elim
    exact SrO.set (M := model pg w) (a := .dat d) HB S' o' c' ho' ht hz hfit fun s₂ S₂ m₂ => hq _ _ _ hK ⟨rfl, S₂, m.comp Gr.rfl' m₂⟩) (fun _ _ q => by cases q; exact hse) (fun _ _ q => by cases q; rfl) (fun q => nomatch q) fun M A Q E s h => by rw [he]; exact h) hs
noncomputable def ioI (b db : Addr) (fs : List (Str × AV)) : OS := ⟨b, db, 802, fs⟩
variable {b db : Addr} {buf : Str}
theorem trans_ok (HB : Bs w B) (s : Str) {bf : AV} {ps : AV} : MOK w B (k + 1) 579 b [.str s] [ioI b db [("_StringIO__newline", .dat (.str "\n")), ("_StringIO__buf", bf), ("_StringIO__pos", ps)]] (.str s) [ioI b db [("_StringIO__newline", .dat (.str "\n")), ("_StringIO__buf", bf), ("_StringIO__pos", ps)]] := by
  refine mok_def (fd := fd579) (body := bdS (mth 44 2)) ["s"] HB (by kernel_rfl) (by kernel_rfl) (by decide +kernel) rfl (fun s v vs hB h => ?_) rfl trivial fun L => ?_
  · obtain ⟨a, rfl⟩ := len1 h; exact BindsTo.of_eq (by kernel_rfl)
  have io : ioI b db [("_StringIO__newline", .dat (.str "\n")), ("_StringIO__buf", bf), ("_StringIO__pos", ps)] ∈ [ioI b db [("_StringIO__newline", .dat (.str "\n")), ("_StringIO__buf", bf), ("_StringIO__pos", ps)]] := .head _
  refine ExO.cons (EsO.assign (d := .str "\n") (fun Hc H h S => S.attr HB _ cls802 io) (.inl (by kernel_rfl)) rfl ?_)
  refine ExO.cons (EsO.iff (c := false) (fun Hc H h S => Ts.cmp (a := .str "\n") Ev.name Ev.cNone (Cmp.isN (by intro e; cases e))) (fun h => absurd h (by decide)) fun _ => ExO.nil ?_)
  refine ExO.cons (EsO.iff (c := false) (fun Hc H h S => Ts.eq (Ts.or (Ts.cmp (a := .str "\n") Ev.name Ev.cStr Cmp.eqS) fun _ => Ts.or (Ts.cmp (a := .str "\n") Ev.name Ev.cStr Cmp.eqS) fun _ => Ts.or0) (by decide)) (fun h => absurd h (by decide)) fun _ => ExO.nil ?_)
  exact ExO.cons (EsO.ret (fun Hc H h S => Ev.name) ⟨_, _, .inl rfl⟩)
noncomputable def initB (v : Value) : List (Str × Value) := [("self", v)]
theorem ioinit_ex (HB : Bs w B) (s : Str) {L : Addr} {K : OutO → Prop} (hK : ∀ ρ' rv', K (.next ⟨ρ', rv', [ioS b db s 0]⟩)) : ExO w B (k + 1) (callEnvC fd572 L 572) ⟨[("initial_value", .str s), ("newline", .str "\n")], [("self", .ref b)], [ioI b db []]⟩ (bdS (mth 44 1)) K := by
  have hE : EnvOK (callEnvC fd572 L 572) := envOKC fd572 (by kernel_rfl)
  refine ExO.cons (EsO.iff (c := false) (fun Hc H h S => Ts.eq (Ts.and (Ts.cmp (a := .str "\n") Ev.name Ev.cNone (Cmp.nisN (by intro e; cases e))) fun _ => Ts.and (d := true) (Ts.typeNot (t := "str") (d := .str "\n") (HB.up S.base) hE Ev.name rfl (by kernel_rfl) (by kernel_rfl) (by kernel_rfl) rfl (by decide)) fun _ => Ts.and0) (by decide)) (fun h => absurd h (by decide)) fun _ => ExO.nil ?_)
  refine ExO.cons (EsO.iff (c := false) (fun Hc H h S => Ts.eq (Ts.and (Ts.cmp (a := .str "\n") Ev.name Ev.cNone (Cmp.nisN (by intro e; cases e))) fun _ => Ts.and (Ts.cmp (a := .str "\n") Ev.name Ev.cStr Cmp.neS) fun _ => Ts.and (d := true) (Ts.cmp (a := .str "\n") Ev.name Ev.cStr Cmp.neS) fun h => absurd h (by decide)) (by decide)) (fun h => absurd h (by decide)) fun _ => ExO.nil ?_)
  refine ExO.cons (EsO.iff (c := false) (fun Hc H h S => Ts.eq (Ts.and (Ts.cmp (a := .str s) Ev.name Ev.cNone (Cmp.nisN (by intro e; cases e))) fun _ => Ts.and (d := true) (Ts.typeNot (t := "str") (d := .str s) (HB.up S.base) hE Ev.name rfl (by kernel_rfl) (by kernel_rfl) (by kernel_rfl) rfl (by decide)) fun _ => Ts.and0) (by decide)) (fun h => absurd h (by decide)) fun _ => ExO.nil ?_)
  refine ExO.cons (EsO.setD (d := .str "\n") HB (ioI b db []) cls802 (.head _) rfl (by kernel_rfl) (by show 0 ≤ 900; decide) (fun Hc H h S => Ev.name) trivial ?_)
  show ExO w B (k + 1) _ ⟨_, _, upd db _ _ [⟨b, db, 802, _⟩]⟩ _ _
  rw [upd1]
  refine ExO.cons (EsO.setD (d := .str "") HB ⟨b, db, 802, _⟩ cls802 (.head _) rfl (by kernel_rfl) (by show 1 ≤ 900; decide) (fun Hc H h S => Ev.cStr) trivial ?_)
  show ExO w B (k + 1) _ ⟨_, _, upd db _ _ [⟨b, db, 802, _⟩]⟩ _ _
  rw [upd1]
  refine ExO.cons (EsO.setD (d := .int 0) HB ⟨b, db, 802, _⟩ cls802 (.head _) rfl (by kernel_rfl) (by show 2 ≤ 900; decide) (fun Hc H h S => Ev.cInt) trivial ?_)
  show ExO w B (k + 1) _ ⟨_, _, upd db _ _ [⟨b, db, 802, _⟩]⟩ _ _
  rw [upd1]
  refine ExO.cons (EsO.iff (c := true) (fun Hc H h S => Ts.cmp (a := .str s) Ev.name Ev.cNone (Cmp.nisN (by intro e; cases e))) (fun _ => ?_) fun h => absurd h (by decide))
  refine ExO.cons (EsO.setCall1 (d := .str s) (d0 := .str s) (T' := [ioI b db [("_StringIO__newline", .dat (.str "\n")), ("_StringIO__buf", .dat (.str "")), ("_StringIO__pos", .dat (.int 0))]]) HB (ioI b db [("_StringIO__newline", .dat (.str "\n")), ("_StringIO__buf", .dat (.str "")), ("_StringIO__pos", .dat (.int 0))]) (ioI b db [("_StringIO__newline", .dat (.str "\n")), ("_StringIO__buf", .dat (.str "")), ("_StringIO__pos", .dat (.int 0))]) 579 cls802 cls802 (.head _) (.head _) (RvO.name rfl) (by kernel_rfl) rfl (fun Hc H h S => Ev.name) (trans_ok HB s) rfl rfl (by kernel_rfl) (by show 3 ≤ 900; decide) trivial ?_)
  show ExO w B (k + 1) _ ⟨_, _, upd db _ _ [⟨b, db, 802, _⟩]⟩ _ _
  rw [upd1]
  exact ExO.nil (ExO.nil (hK _ _))
end
end Mine
end
section
open PySem PySem.W PySem.Calls PyProof.Rows PySem.Spec
namespace Mine
theorem AOK.under {k : Nat} {A : Around} {C : Addr} {rest : List Value} {kw : List (Str × Value)} (h : AOK (k + 1) A) : AOK k (A.under (.builtin "type.__call__" ⟨.ref C :: rest, kw⟩)) :=
  ⟨h.handled, by have := h.depth; show A.depth + 1 + k < 900; omega, by have := h.units; show A.units + 1 + 20 * k < 9000; omega⟩
theorem frames_under {A : Around} {C : Addr} {rest : List Value} {kw : List (Str × Value)} {l : List Env} (h : A.frames = some l) : (A.under (.builtin "type.__call__" ⟨.ref C :: rest, kw⟩)).frames = some l := by
  show pushEnvs [] A.frames = some l
  rw [h]; rfl
section
variable {w : World} {B : Heap} {k : Nat}
theorem make_io {v : Value} (HB : Bs w B) {A : Around} {s : Shared} {R : Result → Shared → Prop} (hA : AOK (k + 2) A) (hB : B.StaysIn s.heap)
    (hn : ∀ x dx s', Kp s s' → s.heap.get? x = none → s.heap.get? dx = none → x ≠ dx → s'.heap.get? x = some (instObj 802 dx) → s'.heap.get? dx = some emptyDict →
      codeAny (model pg w) (A.under (.builtin "type.__call__" ⟨.ref 802 :: [v], []⟩)) (.call (.ref 572) ⟨[.ref x, v], []⟩) (InitBack x R) s') :
    codeAny (model pg w) A (.call (.ref 802) ⟨[v], []⟩) R s := by
  obtain ⟨h1, h2, h3⟩ := io_at HB hB
  obtain ⟨self, top, call, typ⟩ := io_looks HB hB
  obtain ⟨h, g, d, t, os⟩ := s
  have m1 : Looks (model pg w) h (Bind.madeBy (.ref 802)) none := madeBy_none h1 rfl rfl
  refine codeAny_of_tree ?_
  show wpAny _ _ (callAny (.ref 802) _) _ _ _
  refine nd_load h1 ?_
  show wpAny _ _ (callAny.viaDunder (.ref 802) _) _ _ _
  unfold callAny.viaDunder
  refine wpAny_bind (call.at ?_)
  dsimp only
  rw [tc_bind]
  refine wpAny_bind (wpAny_pure (wpAny_bind (wpAny_pure ?_)))
  refine wpAny_pure (a := Fin.again (.call (.builtin "type.__call__") ⟨.ref 802 :: [v], []⟩)) (And.intro rfl ?_)
  refine codeAny_call_builtin_at (Code.quiet_builtin _ (by decide +kernel)) entry_typeCall (check_slot tc_kind tc_split typ (tc_args _ _ _) ?_)
  unfold Builtin.«type.__call__»
  have hm : Looks (model pg w) h (mroOf (.ref 802)) [(.ref 802), (.ref 325), (.ref 298), (.type "object")] := ((Looks.ld (part := none) h1).andThen .now).andThen .now
  dsimp only
  refine wp_neg (fun h => Bool.false_ne_true h) ?_
  refine wpAny_bind (hm.at ?_)
  refine wp_neg (fun h => Bool.false_ne_true h) ?_
  refine wpAny_bind (m1.at ?_)
  dsimp only
  refine wpAny_bind (new_attr HB hB ?_)
  have hA' : AOK (k + 1) (A.under (.builtin "type.__call__" ⟨.ref 802 :: [v], []⟩)) := hA.under
  refine wpAny_bind (wpAny_holding (ionew_raw HB hA' hB fun x dx s' k' nx ndx hne hx hdx => ?_))
  have hB' : B.StaysIn s'.heap := stays_kp (s := ⟨h, g, d, t + 1, os⟩) hB k'
  have X := K_in HB hB'
  obtain ⟨self', _, _, _⟩ := io_looks HB hB'
  have t1 : Looks (model pg w) s'.heap (typeOf (.ref x)) (.ref 802) := (Looks.ld hx).andThen .now
  have i1 : Looks (model pg w) s'.heap (isInstance (.ref x) (.ref 802)) true := t1.andThen (f := fun t => isSubtype t (.ref 802)) self'
  refine wpAny_bind (i1.here ?_)
  refine wp_neg (fun h => Bool.false_ne_true h) ?_
  refine wpAny_bind (wpAny_holding ?_)
  have I : InstAt s'.heap x (instObj 802 dx) 802 (some emptyDict) := ⟨hx, rfl, rfl, hdx⟩
  refine special_fn X I (f := 572) (by kernel_rfl) (by kernel_rfl) ?_
  refine wpAny_call (codeAny_mono (hn x dx s' ((Kp.tok (s := ⟨h, g, d, t, os⟩) (t + 1)).comp k') nx ndx hne hx hdx) fun r s'' z => ?_)
  rcases r with e | (v | _ | _ | _) <;> first | exact z | exact z.elim | skip
  obtain ⟨rfl, z⟩ := z
  exact wpAny_pure z
theorem io_call (HB : Bs w B) {A : Around} {s : Shared} {x : Str} {t : Tok} {Q : Value → Shared → Prop} {E : Value → Shared → Prop} (hA : AOK (k + 3) A) (hB : B.StaysIn s.heap)
    (hq : ∀ b db s', Kp s s' → s.heap.get? b = none → s.heap.get? db = none → b ≠ db → (∃ vs, Ob w s'.heap b db 802 vs ∧ Fit (ioS b db x 0).fs vs) → Q (.ref b) s') : wpAny (model pg w) A (call (.ref 802) [.str x t]) Q E s := by
  refine wpAny_call (make_io (k := k + 1) HB hA hB fun b db s₁ k₁ nb ndb hne hb hdb => ?_)
  have hB₁ := stays_kp hB k₁
  have hA' : AOK (k + 2) (A.under (.builtin "type.__call__" ⟨.ref 802 :: [.str x t], []⟩)) := hA.under
  have nBdb : B.get? db = none := by
    cases e : B.get? db with
    | none => rfl
    | some o => have := hB _ _ e; rw [ndb] at this; cases this
  have hO : Ob w s₁.heap b db 802 [] := ⟨[], 0, #[], rfl, hb, hdb⟩
  have hT : TIn w B s₁.heap [db] [ioI b db []] := by
    refine ⟨fun o ho => ?_, .cons (fun _ h => nomatch h) .nil⟩
    rw [List.mem_singleton.mp ho]
    exact ⟨⟨[], hO, trivial⟩, .head _, nBdb, fun q => hne (List.mem_singleton.mp q)⟩
  have h5 : s₁.heap.get? 565 = some ⟨(.type "tuple"), none, .seq #[(.str "" 1053), (.str "\n" 1054)] 0, #[]⟩ := K_at HB hB₁ (by kernel_rfl)
  refine enterO (k := k + 1) (x := b) (fd := fd572) (body := bdS (mth 44 1)) (names := ["initial_value", "newline"]) (ds := [.str x, .str "\n"]) (vs := [.str x t, .str "\n" 1054]) (kws := []) (T := [ioI b db []]) (H := [db]) HB (by kernel_rfl) (by kernel_rfl) (by decide +kernel) rfl hA' hB₁ (fun c hc => by rw [List.mem_singleton.mp hc]; exact ⟨_, hdb⟩) hT (.cons (as := []) (.str _ _) (.cons (as := []) (.str _ _) .nil))
    (BindsTo.of_defaults (T := 565) rfl h5 rfl rfl (by kernel_rfl)) fun L s₂ k₂ S nfp => ?_
  refine (ioinit_ex (K := fun o => ∃ ρ' rv', o = .next ⟨ρ', rv', [ioS b db x 0]⟩) HB x fun ρ' rv' => ⟨ρ', rv', rfl⟩) _ s₂ _ _ _ _ hA'.deeper S fun o f s₃ hK ho => ?_
  obtain ⟨ρ', rv', rfl⟩ := hK
  obtain ⟨rfl, S₃, m₃⟩ := ho
  refine ⟨rfl, ?_⟩
  have keep : ∀ c o, s.heap.get? c = some o → s₃.heap.get? c = some o := fun c o e => by
    have e₁ := k₁.keep c o e
    refine m₃.sub c o (.inr fun z => ?_) (k₂.keep c o e₁)
    rcases List.mem_append.mp z with z | z
    · rw [nfp c z] at e₁; cases e₁
    · rw [List.mem_singleton.mp z, ndb] at e; cases e
  obtain ⟨⟨vs, O, hf⟩, _⟩ := S₃.obs _ (.head _)
  refine hq b db s₃ ?_ nb ndb hne ⟨vs, O, hf⟩
  exact Kp.of (sm_trans k₁.sm (sm_trans k₂.sm m₃.same)) keep
end
end Mine
end
section
open PySem PySem.W PySem.Calls PyProof.Rows PySem.Spec
namespace Mine
theorem mro_dq : mroOf (.type "collections.deque") = pure [.type "collections.deque", .type "object"] := by rw [mroOf_type]; kernel_rfl
theorem look_dqnew : typeLookup (.type "collections.deque") "__new__" = pure (some (.builtin "collections.deque.__new__")) := by rw [typeLookup_type, builtinLookup_eq_fast]; kernel_rfl
theorem slot_dqinit : Slot "collections.deque" "__init__" "collections.deque.__init__" := .of (owner := "collections.deque") (n := "__init__") (by rw [typeLookup_type, builtinLookup_eq_fast]; kernel_rfl) (by decide +kernel) (by decide +kernel) (by decide +kernel)
  (by first | exact .inl (by decide +kernel) | exact .inr (by decide +kernel)) (by rw [isSubtype_type]; kernel_rfl)
theorem called_dq : TypeCalled "collections.deque" "collections.deque.__new__" "collections.deque.__init__" :=
  ⟨by decide +kernel, by decide +kernel, ⟨_, _, mro_dq⟩, madeBy_type mro_dq look_dqnew (by decide +kernel), by decide +kernel, by rw [isSubtype_type]; kernel_rfl, slot_dqinit⟩
theorem entry_dqnew : entryFor table "collections.deque.__new__" = some Builtin.«collections.deque.__new__» := entryFor_of_tree (by kernel_rfl)
theorem entry_dqinit : entryFor table "collections.deque.__init__" = some Builtin.«collections.deque.__init__» := entryFor_of_tree (by kernel_rfl)
theorem typeCall_dq : checkTypeCall "collections.deque" ⟨[], []⟩ = pure () := by kernel_rfl
theorem newCall_dq : checkBuiltinCall "collections.deque.__new__" ⟨[.type "collections.deque"], []⟩ = pure () := by kernel_rfl
theorem plain_dqnew : plainId "collections.deque.__new__" = true := by decide +kernel
theorem args_dqinit (a : Value) : argsOk "collections.deque.__init__" ⟨[a], []⟩ := by unfold argsOk; kernel_rfl
theorem sub_dq : isSubtype (.type "collections.deque") (.type "collections.deque") = pure true := by rw [isSubtype_type]; kernel_rfl
section
variable {w : World} {A : Around} {E : Value → Shared → Prop} {s : Shared}
theorem code_dqnew {Q₁ : Value → Shared → Prop} (h : Q₁ (.ref s.heap.objs.size) { s with heap := s.heap.push dqO }) :
    codeAny (model pg w) A (.call (.builtin "collections.deque.__new__") ⟨[.type "collections.deque"], []⟩) (wants Q₁ E) s := by
  refine codeAny_of_tree ?_
  show wpAny _ A.in1 (do checkBuiltinCall "collections.deque.__new__" ⟨[.type "collections.deque"], []⟩; again (.builtin "collections.deque.__new__" ⟨[.type "collections.deque"], []⟩)) _ _ s
  refine wpAny_bind (wpAny_of_eq newCall_dq (wpAny_pure ⟨plainId_quiet plain_dqnew _, codeAny_builtin entry_dqnew ?_⟩))
  rw [Around.under_plainId plain_dqnew _]
  have hsub := sub_dq
  obtain ⟨hp, g, d, tk, os⟩ := s
  unfold Builtin.«collections.deque.__new__» Builtin.Deque.newArgs Builtin.Deque.new
  rw [show Builtin.Deque.ty = "collections.deque" from rfl]
  wp_walk
  exact h
theorem dqinit_eq (v : Value) : Builtin.«collections.deque.__init__» ⟨[v], []⟩ = (do setField v 0 .none; Builtin.Deque.clear v; ret .none) := by kernel_rfl
theorem dq_call {Q : Value → Shared → Prop} (h : ∀ q s', Kp s s' → s.heap.get? q = none → s'.heap.get? q = some dqO → Q (.ref q) s') : wpAny (model pg w) A (call (.type "collections.deque") []) Q E s := by
  refine callType_codes (Q₁ := fun obj s₁ => obj = .ref s.heap.objs.size ∧ s₁ = { s with heap := s.heap.push dqO }) called_dq typeCall_dq entry_dqinit (code_dqnew ⟨rfl, rfl⟩) fun obj s₁ h₁ => ?_
  obtain ⟨rfl, rfl⟩ := h₁
  have hS : (s.heap.push dqO).get? s.heap.objs.size = some dqO := Heap.get?_push_size _ rfl
  refine ⟨⟨_, hS, rfl⟩, args_dqinit _, ?_⟩
  rw [dqinit_eq]
  refine wpAny_bind (wpAny_setField hS rfl (by decide) ?_)
  have hS₂ : ((s.heap.push dqO).update s.heap.objs.size (Obj.mapFields (·.setIfInBounds 0 .none))).get? s.heap.objs.size = some dqO := by
    rw [Heap.get?_update_self _ hS rfl]; rfl
  unfold Builtin.Deque.clear Builtin.Deque.items
  refine wpAny_bind (wpAny_bind (wpAny_bind (wpAny_fieldsOf hS₂ rfl (wpAny_pure ?_))))
  refine wp_neg (by decide) ?_
  refine wpAny_pure (wpAny_pure ⟨rfl, h _ _ ?_ (next_new _) hS₂⟩)
  refine Kp.to (t := s.toks) fun b o e => (Heap.get?_update_other _ _ (fun q => ?_)).trans (Heap.get?_push_of_some _ e)
  rw [← q, next_new] at e; cases e
end
end Mine
end
section
open PySem PySem.W PySem.Calls PyProof.Rows PySem.Spec
namespace Mine
noncomputable def reb (B h : Heap) (H : List Addr) : Heap := hideAll h (H.filter fun b => (B.get? b).isNone)
theorem reb_stays {B h : Heap} {H : List Addr} : (reb B h H).StaysIn h := fun b o e => of_hideAll _ e
theorem reb_up {B h : Heap} {H : List Addr} (hB : B.StaysIn h) : B.StaysIn (reb B h H) := fun b o e => hideAll_get _ (hB b o e) fun q => by
  have := (List.mem_filter.mp q).2
  rw [e] at this; cases this
theorem reb_none {B h : Heap} {H : List Addr} {b : Addr} (hb : b ∈ H) (hn : B.get? b = none) : (reb B h H).get? b = none := hideAll_none _ (List.mem_filter.mpr ⟨hb, by rw [hn]; rfl⟩)
theorem reb_get {B h : Heap} {H : List Addr} {b : Addr} {o : Obj} (hb : b ∉ H) (e : h.get? b = some o) : (reb B h H).get? b = some o := hideAll_get _ e fun q => hb (List.mem_filter.mp q).1
section
variable {w : World} {B : Heap} {k : Nat} {env : Env} {σ : So} {K : OutO → Prop}
theorem SrO.rebase {Hc H : List Addr} {h : Heap} (S : SrO w B env Hc H h σ) : SrO w (reb B h H) env Hc H h σ := by
  obtain ⟨vs, F, hρ, hr⟩ := S.fr
  exact ⟨reb_stays, ⟨vs, ⟨F.kind, F.loc, F.cel, F.apart, F.apartL, fun b hb => reb_none (S.fpH b hb) (F.new b hb)⟩, hρ, hr⟩, S.fpH, S.hc, S.lt, fun o ho => let ⟨a, b, c, d, e, f⟩ := S.obs o ho; ⟨a, b, c, d, reb_none b e, f⟩, S.apart⟩
theorem Ts.isStr {e : Expr} {ρ : Vars} {p1 p2 p3 : Pos} {a : Str} (HB : Bs w B) (hE : EnvOK env) (he : Ev w B k env ρ e (.str a)) (g1 : env.kindOf "isinstance" = some .globalImplicit) (g2 : env.kindOf "str" = some .globalImplicit)
    (hse : starEach (e :: [.Name "str" p2]) env = (false, eval e env) :: starEach [.Name "str" p2] env := by rfl) : Ts w B k env ρ (.Call (.Name "isinstance" p1) [e, .Name "str" p2] [] p3) true := fun A s H Q E hA C hq => by
  refine isTrue_plain ?_
  refine wpAny_Call_NameR (blt (w := w) HB hE C.base g1 (by kernel_rfl) rfl (by decide) ?_)
  refine PyProof.Rows.callWith_builtin1 ?_ hse
  refine args_cons (he A s H _ E hA C fun v as s₁ k₁ r => args_cons (blt (w := w) HB hE (C.keeps k₁).base g2 (by kernel_rfl) rfl (by decide) (args_nil ?_))) hse
  cases r
  refine call_isinstance (isinstance_true type_of_str sub_str_self) ⟨typeIs_str _ _ _, ?_⟩
  exact wpAny_truthy_bool (hq _ k₁)
theorem SrO.storeRaw {M : Model} {A : Around} {E : Value → Shared → Prop} {Hc H : List Addr} {s : Shared} {x : Str} {v : Value} {Q : Unit → Shared → Prop} (S : SrO w B env Hc H s.heap σ) (hx : isVar env x)
    (h : ∀ s', SrO w B env Hc H s'.heap ⟨σ.ρ.filter (fun p => p.1 != x), (x, v) :: σ.rv, σ.T⟩ → Mv Hc H s s' → (∀ b o, b ∉ fp env → s.heap.get? b = some o → s'.heap.get? b = some o) → Q () s') : wpAny M A (storeName env x v) Q E s := by
  obtain ⟨vs, F, hρ, hr⟩ := S.fr
  refine F.store hx fun h' tk F' hk hz => ?_
  have up : ∀ b o, (hideAll s.heap H).get? b = some o → (hideAll h' H).get? b = some o := hide_sub fun b o hb e => hk b o (fun q => hb (S.fpH b q)) e
  refine h _ ⟨fun b o e => hk b o (fun q => by rw [F.new b q] at e; cases e) (S.base b o e), ⟨_, F', fun y d' e => ?_, fun y v' e => ?_⟩, S.fpH, S.hc, fun b hb => ?_, fun o ho => ?_, S.apart⟩ ⟨⟨h', tk, rfl⟩, fun b o hb e => hk b o (fun q => hb.elim (fun z => (S.hc b z).2 q) fun z => z (S.fpH b q)) e⟩ hk
  · obtain ⟨hyx, e⟩ := look_filter e
    obtain ⟨hy, v', bs, hv', r'⟩ := hρ y d' e
    exact ⟨hy, v', bs, by rw [if_neg hyx]; exact hv', Reads.keeps up r'⟩
  · simp only [List.lookup_cons] at e
    split at e
    · rename_i q
      cases e
      have := beq_iff_eq.mp q
      subst this
      exact ⟨hx, by simp⟩
    · rename_i q
      obtain ⟨hy, hv⟩ := hr y v' e
      exact ⟨hy, by rw [if_neg (fun c => by rw [c, beq_self_eq_true] at q; cases q)]; exact hv⟩
  · obtain ⟨o, e⟩ := S.lt b hb
    exact hz b o e
  · obtain ⟨⟨us, a, a'⟩, b, c, d, e, f⟩ := S.obs o ho
    exact ⟨⟨us, a.keeps (fun _ q => hk _ _ (fun z => f (S.fpH _ z)) q) (fun _ q => hk _ _ d q), a'⟩, b, c, d, e, f⟩
theorem EsO.setRaw {x a : Str} {xp tp pos : Pos} {e : Expr} {v : Value} (HB : Bs w B) (o : OS) (c : Cls w o.C) (ho : o ∈ σ.T) (hr : σ.rv.lookup x = some (.ref o.x)) (ht : takerIn (KP w.params) o.C a = some none) (hz : o.fs.length ≤ 900) (he : RvO w B env σ e v)
    (hK : K (.next ⟨σ.ρ, σ.rv, upd o.dx a (.raw v) σ.T⟩)) (hs : swapsWith e (some (.Attribute (.Name x xp) a tp)) pos.line env = pure false := by rfl) (hdb : (x == ("__debug__" : Str)) = false := by decide) : EsO w B k env σ (.Assign [.Attribute (.Name x xp) a tp] e pos) K := fun A s Hc H Q E hA S hq =>
  plainObj_wpAny_Assign_Attribute (he Hc H s.heap S A s _ E (fun _ _ e => e) fun s₁ k₁ => by
    have S₁ := S.keeps k₁
    obtain ⟨vs, F, _, hrv⟩ := S₁.fr
    obtain ⟨hx, hv⟩ := hrv x _ hr
    refine wpAny_Name (F.var hx hv (fun _ _ e => e) ?_) hdb
    exact SrO.set (M := model pg w) (a := .raw v) HB S₁ o c ho ht hz rfl fun s₂ S₂ m₂ => hq _ _ _ hK ⟨rfl, S₂, (Kp.mv k₁).comp Gr.rfl' m₂⟩) hs
theorem set_dq {x a : Str} {xp tp np cp pos : Pos} {A : Around} {s : Shared} {Hc H : List Addr} {Q : Flow → Shared → Prop} {E : Value → Shared → Prop} (HB : Bs w B) (hE : EnvOK env) (S : SrO w B env Hc H s.heap σ) (o : OS) (c : Cls w o.C) (ho : o ∈ σ.T) (hr : σ.rv.lookup x = some (.ref o.x)) (ht : takerIn (KP w.params) o.C a = some none) (hz : o.fs.length ≤ 900)
    (hg : env.kindOf "deque" = some .globalImplicit)
    (h : ∀ q s', SrO w B env Hc H s'.heap ⟨σ.ρ, σ.rv, upd o.dx a (.raw (.ref q)) σ.T⟩ → Mv Hc H s s' → s'.heap.get? q = some dqO → q ∉ H → Q .next s')
    (hs : swapsWith (.Call (.Name "deque" np) [] [] cp) (some (.Attribute (.Name x xp) a tp)) pos.line env = pure false := by rfl) (hdb : (x == ("__debug__" : Str)) = false := by decide) :
    wpAny (model pg w) A (exec (.Assign [.Attribute (.Name x xp) a tp] (.Call (.Name "deque" np) [] [] cp) pos) env) Q E s := by
  refine plainObj_wpAny_Assign_Attribute (Call_Name0 (Mine.glob HB hE S.base (v := .type "collections.deque") hg (by kernel_rfl) ?_)) hs
  refine PySem.callWith_type rfl (evalArgs_nil3 (dq_call fun q s₁ k₁ nq hq => ?_))
  have S₁ := S.keeps k₁
  obtain ⟨vs, F, _, hrv⟩ := S₁.fr
  obtain ⟨hx, hv⟩ := hrv x _ hr
  refine wpAny_Name (F.var hx hv (fun _ _ e => e) ?_) hdb
  have nqH : q ∉ H := fun z => by obtain ⟨o, e⟩ := S.lt q z; rw [nq] at e; cases e
  refine SrO.set (M := model pg w) (a := .raw (.ref q)) HB S₁ o c ho ht hz rfl fun s₂ S₂ m₂ => ?_
  exact h q s₂ S₂ ((Kp.mv k₁).comp Gr.rfl' m₂) (m₂.sub q _ (.inr nqH) hq) nqH
end
end Mine
end
section
open PySem PySem.W PySem.Calls PyProof.Rows PySem.Spec
namespace Mine
theorem execs_append (env : Env) (l2 : List Stmt) : ∀ l1 : List Stmt, execs (l1 ++ l2) env = (execs l1 env >>= fun f => match f with | .next => execs l2 env | f => pure f)
  | [] => rfl
  | st :: l1 => by
    show execs (st :: (l1 ++ l2)) env = _
    rw [execs_cons, execs_cons, bind_assoc]
    congr 1
    funext f
    cases f with
    | next => exact execs_append env l2 l1
    | _ => rfl
section
variable {w : World} {B : Heap} {k : Nat} {env : Env} {σ σ' : So}
theorem ExO.then {l1 l2 l : List Stmt} (hl : l = l1 ++ l2) (h : ExO w B k env σ l1 (fun o => o = .next σ')) {A : Around} {s : Shared} {Hc H : List Addr} {Q : Flow → Shared → Prop} {E : Value → Shared → Prop} (hA : AOK k A) (S : SrO w B env Hc H s.heap σ)
    (hq : ∀ s', SrO w B env Hc H s'.heap σ' → Mv Hc H s s' → wpAny (model pg w) A (execs l2 env) Q E s') : wpAny (model pg w) A (execs l env) Q E s := by
  rw [hl, execs_append]
  refine wpAny_bind (h A s Hc H _ E hA S fun o f s' hK ho => ?_)
  subst hK
  obtain ⟨rfl, S', m⟩ := ho
  exact hq s' S' m
noncomputable def lexL (b q1 q2 : Addr) : List (Str × AV) := [("instream", .raw (.ref b)), ("infile", .dat .none), ("posix", .dat (.bool true)), ("eof", .dat .none), ("commenters", .dat (.str "#")), ("wordchars", .dat (.str wcS)), ("whitespace", .dat (.str " \t\r\n")), ("whitespace_split", .dat (.bool false)), ("quotes", .dat (.str "'\"")), ("escape", .dat (.str "\\")), ("escapedquotes", .dat (.str "\"")), ("state", .dat (.str " ")), ("pushback", .raw (.ref q1)), ("lineno", .dat (.int 1)), ("debug", .dat (.int 0)), ("token", .dat (.str "")), ("filestack", .raw (.ref q2)), ("source", .dat .none), ("_punctuation_chars", .dat (.str ""))]
noncomputable def lexI (x dx b q1 q2 : Addr) (n : Nat) : OS := ⟨x, dx, 895, (lexL b q1 q2).take n⟩
variable {x dx b q1 q2 : Addr} {L : Addr} {K : OutO → Prop}
theorem upd_lex {n : Nat} {name : Str} {a : AV} (h : setV name a ((lexL b q1 q2).take n) = (lexL b q1 q2).take (n + 1)) : upd (lexI x dx b q1 q2 n).dx name a [lexI x dx b q1 q2 n] = [lexI x dx b q1 q2 (n + 1)] := by
  show upd dx name a [⟨x, dx, 895, _⟩] = _
  rw [upd1, h]; rfl
theorem lexI_len (n : Nat) : (lexI x dx b q1 q2 n).fs.length ≤ 900 := by
  show ((lexL b q1 q2).take n).length ≤ 900
  rw [List.length_take]
  have : (lexL b q1 q2).length = 19 := rfl
  omega
noncomputable def wc1 : Str := "abcdfeghijklmnopqrstuvwxyzABCDEFGHIJKLMNOPQRSTUVWXYZ0123456789_"
noncomputable def wc2 : Str := "ßàáâãäåæçèéêëìíîïðñòóôõöøùúûüýþÿÀÁÂÃÄÅÆÇÈÉÊËÌÍÎÏÐÑÒÓÔÕÖØÙÚÛÜÝÞ"
theorem wc12 : wc1 ++ wc2 = wcS := by decide +kernel
theorem ExO.at {n : Nat} {ρ : Vars} {rv : List (Str × Value)} {rest : List Stmt} {a : Str} {d : PyData} {e : Expr} {xp tp pos : Pos} (HB : Bs w B) (hr : rv.lookup ("self" : Str) = some (.ref x)) (ht : takerIn (KP w.params) 895 a = some none) (he : EvO w B k env ⟨ρ, rv, [lexI x dx b q1 q2 n]⟩ e d) (hf : flat d)
    (h : setV a (.dat d) ((lexL b q1 q2).take n) = (lexL b q1 q2).take (n + 1)) (hK : ExO w B k env ⟨ρ, rv, [lexI x dx b q1 q2 (n + 1)]⟩ rest K) (hs : swapsWith e (some (.Attribute (.Name "self" xp) a tp)) pos.line env = pure false := by rfl) :
    ExO w B k env ⟨ρ, rv, [lexI x dx b q1 q2 n]⟩ (.Assign [.Attribute (.Name "self" xp) a tp] e pos :: rest) K := by
  refine ExO.cons (EsO.setD HB (lexI x dx b q1 q2 n) cls895 (.head _) hr ht (lexI_len n) he hf ?_ hs)
  show ExO w B k env ⟨ρ, rv, _⟩ rest K
  rw [upd_lex h]
  exact hK
theorem RvO.isNotN {e : Expr} {v : Value} {n : Nat} {p pos : Pos} (h : RvO w B env σ e v) (hp : plainIs v .none = true) (hne : v ≠ .none) : TsO w B k env σ (.Compare e [.IsNot] [.Constant .none n p] pos) true := fun Hc H h' S A s H' Q E hA C hq => by
  refine wpAny_isTrue_Compare1 (h Hc H h' S A s _ E C.base fun s₁ k₁ => ?_)
  refine wpAny_Constant_none ?_
  exact wpAny_isNot_other hp hne (wpAny_truthy_bool (hq s₁ k₁))
theorem init_b (HB : Bs w B) {ρ : Vars} {rv : List (Str × Value)} (h1 : rv.lookup ("self" : Str) = some (.ref x)) (h2 : rv.lookup ("instream" : Str) = some (.ref b)) (h3 : ρ.lookup ("infile" : Str) = some .none) (h4 : ρ.lookup ("posix" : Str) = some (.bool true))
    (hK : K (.next ⟨ρ, rv, [lexI x dx b q1 q2 12]⟩)) : ExO w B (k + 1) (callEnvC fd819 L 819) ⟨ρ, rv, [lexI x dx b q1 q2 0]⟩ (((bdS (mth 46 0)).drop 1).take 12) K := by
  refine ExO.cons (EsO.iff (c := true) (RvO.isNotN (RvO.name h2) rfl (by intro e; cases e)) (fun _ => ?_) fun h => absurd h (by decide))
  refine ExO.cons (EsO.setRaw HB (lexI x dx b q1 q2 0) cls895 (.head _) h1 (by kernel_rfl) (lexI_len 0) (RvO.name h2) ?_)
  show ExO w B _ _ ⟨_, _, _⟩ _ _
  rw [upd_lex rfl]
  refine ExO.at HB h1 (by kernel_rfl) (fun Hc H h S => Ev.name h3) trivial rfl (ExO.nil ?_)
  refine ExO.at HB h1 (by kernel_rfl) (fun Hc H h S => Ev.name h4) trivial rfl ?_
  refine ExO.cons (EsO.iff (c := true) (fun Hc H h S => Ts.plain (d := .bool true) (Ev.name h4) trivial) (fun _ => ?_) fun h => absurd h (by decide))
  refine ExO.at HB h1 (by kernel_rfl) (fun Hc H h S => Ev.cNone) trivial rfl (ExO.nil ?_)
  refine ExO.at HB h1 (by kernel_rfl) (fun Hc H h S => Ev.cStr) trivial rfl ?_
  refine ExO.cons (EsO.setD (d := .str wc1) HB (lexI x dx b q1 q2 5) cls895 (.head _) h1 (by kernel_rfl) (lexI_len 5) (fun Hc H h S => Ev.cStr) trivial ?_)
  show ExO w B _ _ ⟨_, _, upd dx _ _ [⟨x, dx, 895, _⟩]⟩ _ _
  rw [upd1]
  refine ExO.cons (EsO.iff (c := true) (fun Hc H h S => Ts.plain (d := .bool true) (S.attr HB ⟨x, dx, 895, _⟩ cls895 (.head _) h1) trivial) (fun _ => ?_) fun h => absurd h (by decide))
  refine ExO.cons (EsO.augS (u := wc1) (v := wc2) HB ⟨x, dx, 895, _⟩ cls895 (.head _) h1 rfl (by kernel_rfl) (by kernel_rfl) (by show 6 ≤ 900; decide) (fun Hc H h S => Ev.cStr) (by decide +kernel) ?_)
  show ExO w B _ _ ⟨_, _, upd dx _ _ [⟨x, dx, 895, _⟩]⟩ _ _
  rw [upd1, wc12]
  show ExO w B _ _ ⟨_, _, [lexI x dx b q1 q2 6]⟩ _ _
  refine ExO.nil ?_
  refine ExO.at HB h1 (by kernel_rfl) (fun Hc H h S => Ev.cStr) trivial rfl ?_
  refine ExO.at HB h1 (by kernel_rfl) (fun Hc H h S => Ev.cBool) trivial rfl ?_
  refine ExO.at HB h1 (by kernel_rfl) (fun Hc H h S => Ev.cStr) trivial rfl ?_
  refine ExO.at HB h1 (by kernel_rfl) (fun Hc H h S => Ev.cStr) trivial rfl ?_
  refine ExO.at HB h1 (by kernel_rfl) (fun Hc H h S => Ev.cStr) trivial rfl ?_
  refine ExO.at HB h1 (by kernel_rfl) (fun Hc H h S => Ev.cStr) trivial rfl ?_
  exact ExO.nil hK
theorem init_d (HB : Bs w B) {ρ : Vars} {rv : List (Str × Value)} (h1 : rv.lookup ("self" : Str) = some (.ref x))
    (hK : K (.next ⟨ρ, rv, [lexI x dx b q1 q2 16]⟩)) : ExO w B (k + 1) (callEnvC fd819 L 819) ⟨ρ, rv, [lexI x dx b q1 q2 13]⟩ (((bdS (mth 46 0)).drop 14).take 3) K := by
  refine ExO.at HB h1 (by kernel_rfl) (fun Hc H h S => Ev.cInt) trivial rfl ?_
  refine ExO.at HB h1 (by kernel_rfl) (fun Hc H h S => Ev.cInt) trivial rfl ?_
  refine ExO.at HB h1 (by kernel_rfl) (fun Hc H h S => Ev.cStr) trivial rfl ?_
  exact ExO.nil hK
theorem init_f (HB : Bs w B) {ρ : Vars} {rv : List (Str × Value)} (h1 : rv.lookup ("self" : Str) = some (.ref x)) (h2 : rv.lookup ("punctuation_chars" : Str) = none) (h3 : ρ.lookup ("punctuation_chars" : Str) = some (.bool false))
    (hK : ∀ ρ' rv', K (.next ⟨ρ', rv', [lexI x dx b q1 q2 19]⟩)) : ExO w B (k + 1) (callEnvC fd819 L 819) ⟨ρ, rv, [lexI x dx b q1 q2 17]⟩ ((bdS (mth 46 0)).drop 18) K := by
  refine ExO.at HB h1 (by kernel_rfl) (fun Hc H h S => Ev.cNone) trivial rfl ?_
  refine ExO.cons (EsO.iff (c := true) (fun Hc H h S => Ts.not (Ts.plain (d := .bool false) (Ev.name h3) trivial)) (fun _ => ?_) fun h => absurd h (by decide))
  refine ExO.cons (EsO.assign (d := .str "") (fun Hc H h S => Ev.cStr) (.inl (by kernel_rfl)) h2 (ExO.nil ?_))
  refine ExO.at (d := .str "") HB h1 (by kernel_rfl) (fun Hc H h S => Ev.name) trivial rfl ?_
  refine ExO.cons (EsO.iff (c := false) (fun Hc H h S => Ts.plain (d := .str "") Ev.name (small_str (by decide))) (fun h => absurd h (by decide)) fun _ => ExO.nil ?_)
  exact ExO.nil (hK _ _)
end
end Mine
end
section
open PySem PySem.W PySem.Calls PyProof.Rows PySem.Spec
namespace Mine
section
variable {w : World} {B : Heap} {k : Nat} {x dx : Addr}
noncomputable abbrev inE (L : Addr) : Env := callEnvC fd819 L 819
theorem reb_bs {B h : Heap} {H : List Addr} (HB : Bs w B) (hB : B.StaysIn h) : Bs w (reb B h H) := HB.up (reb_up hB)
structure LexMade (w : World) (s s' : Shared) (x dx b db q1 q2 : Addr) (t : Str) : Prop where
  same : ∃ h' tk, s' = { s with heap := h', toks := tk }
  keep : ∀ c o, c ≠ dx → s.heap.get? c = some o → s'.heap.get? c = some o
  nb : s.heap.get? b = none
  ndb : s.heap.get? db = none
  bne : b ≠ db
  lex : ∃ vs, Ob w s'.heap x dx 895 vs ∧ Fit (lexI x dx b q1 q2 19).fs vs
  io : ∃ vs, Ob w s'.heap b db 802 vs ∧ Fit (ioS b db t 0).fs vs
  d1 : s'.heap.get? q1 = some dqO
  d2 : s'.heap.get? q2 = some dqO
theorem lexinit_raw (HB : Bs w B) {A : Around} {s : Shared} {t : Str} {tk : Tok} {R : Result → Shared → Prop} (hA : AOK (k + 4) A) (hB : B.StaysIn s.heap) (hn : B.get? dx = none) (hne : x ≠ dx) (hx : s.heap.get? x = some (instObj 895 dx)) (hdx : s.heap.get? dx = some emptyDict)
    (hq : ∀ b db q1 q2 s', LexMade w s s' x dx b db q1 q2 t → R (.ok (.ret .none)) s') : codeAny (model pg w) A (.call (.ref 819) ⟨[.ref x, .str t tk], [("posix", .bool true)]⟩) R s := by
  have hO : Ob w s.heap x dx 895 [] := ⟨[], 0, #[], rfl, hx, hdx⟩
  have hT : TIn w B s.heap [dx] [lexI x dx 0 0 0 0] := by
    refine ⟨fun o ho => ?_, .cons (fun _ h => nomatch h) .nil⟩
    rw [List.mem_singleton.mp ho]
    exact ⟨⟨[], hO, trivial⟩, .head _, hn, fun q => hne (List.mem_singleton.mp q)⟩
  have h5 : s.heap.get? 812 = some ⟨(.type "tuple"), none, .seq #[.none, .none, (.bool false), (.bool false)] 0, #[]⟩ := K_at HB hB (by kernel_rfl)
  refine enterO (k := k + 3) (x := x) (fd := fd819) (body := bdS (mth 46 0)) (names := ["instream", "infile", "posix", "punctuation_chars"]) (ds := [.str t, .none, .bool true, .bool false]) (vs := [.str t tk, .none, .bool true, .bool false]) (kws := []) (T := [lexI x dx 0 0 0 0]) (H := [dx]) HB (by kernel_rfl) (by kernel_rfl) (by decide +kernel) rfl hA hB (fun c hc => by rw [List.mem_singleton.mp hc]; exact ⟨_, hdx⟩) hT
    (.cons (as := []) (.str _ _) (.cons (as := []) .none (.cons (as := []) (.bool _) (.cons (as := []) (.bool _) .nil)))) (BindsTo.of_defaults (T := 812) rfl h5 rfl rfl (by kernel_rfl)) fun L s₂ k₂ S nfp => ?_
  have hA' : AOK (k + 3) (A.deeper (inE L)) := hA.deeper
  have hE : EnvOK (inE L) := envOKC fd819 (by kernel_rfl)
  have nd : ∀ c ∈ fp (inE L) ++ [dx], ∀ o, c ≠ dx → s.heap.get? c = some o → False := fun c hc o h1 e => by
    rcases List.mem_append.mp hc with z | z
    · rw [nfp c z] at e; cases e
    · exact h1 (List.mem_singleton.mp z)
  -- instream = StringIO(instream)
  refine wpAny_execs_cons (wpAny_If (TsO.run (b := true) (fun Hc H h S => Ts.isStr (a := t) (HB.up S.base) hE Ev.name (by kernel_rfl) (by kernel_rfl)) hA' S fun s₃ k₃ => ?_))
  rw [if_pos rfl]
  have S₃ := S.keeps k₃
  refine wpAny_execs_cons (wpAny_Assign_Name ?_)
  refine wpAny_Call_NameR (glob (w := w) HB hE S₃.base (x := "StringIO") (v := .ref 802) (by kernel_rfl) (by kernel_rfl) ?_ (by decide))
  refine callWith_K (K_in HB S₃.base) (by kernel_rfl) ?_
  have ei : EvO w B (k + 3) (inE L) ⟨[("instream", .str t), ("infile", .none), ("posix", .bool true), ("punctuation_chars", .bool false)], [("self", .ref x)], [lexI x dx 0 0 0 0]⟩ (.Name "instream" ⟨630, 32, 630, 40⟩) (.str t) := fun Hc H h S => Ev.name
  refine args_cons (ei _ _ _ S₃ _ s₃ _ _ _ hA' S₃.cx fun v as s₄ k₄ r => args_nil ⟨K_in HB (S₃.keeps k₄).base, ?_⟩)
  cases r
  have S₄ := S₃.keeps k₄
  refine io_call (k := k) HB hA' S₄.base fun b db s₅ k₅ nb ndb hbne hio => ?_
  have S₅ := S₄.keeps k₅
  refine S₅.storeRaw (x := "instream") (.inl (by kernel_rfl)) fun s₆ S₆ m₆ hk₆ => ?_
  refine wpAny_execs_nil ?_
  have nbH : b ∉ fp (inE L) ++ [dx] := fun z => by obtain ⟨o, e⟩ := S₄.lt b z; rw [nb] at e; cases e
  have ndbH : db ∉ fp (inE L) ++ [dx] := fun z => by obtain ⟨o, e⟩ := S₄.lt db z; rw [ndb] at e; cases e
  obtain ⟨us, Oio, fio⟩ := hio
  have Oio₆ : Ob w s₆.heap b db 802 us := Oio.keeps (fun o e => hk₆ _ o (fun z => nbH (List.mem_append_left _ z)) e) (fun o e => hk₆ _ o (fun z => ndbH (List.mem_append_left _ z)) e)
  have keep₆ : ∀ c o, c ≠ dx → s.heap.get? c = some o → s₆.heap.get? c = some o := fun c o h1 e =>
    m₆.sub c o (.inr fun z => nd c z o h1 e) (k₅.keep c o (k₄.keep c o (k₃.keep c o (k₂.keep c o e))))
  have Sb : SrO w (reb B s₆.heap (fp (inE L) ++ [dx])) (inE L) (hcO [dx] [lexI x dx 0 0 0 0]) (fp (inE L) ++ [dx]) s₆.heap ⟨[("infile", .none), ("posix", .bool true), ("punctuation_chars", .bool false)], [("instream", .ref b), ("self", .ref x)], [lexI x dx b 0 0 0]⟩ := S₆.rebase
  have HB₁ : Bs w (reb B s₆.heap (fp (inE L) ++ [dx])) := reb_bs HB S₆.base
  have Oio₁ : Ob w (reb B s₆.heap (fp (inE L) ++ [dx])) b db 802 us := Oio₆.keeps (fun o e => reb_get nbH e) (fun o e => reb_get ndbH e)
  generalize hB1 : reb B s₆.heap (fp (inE L) ++ [dx]) = B₁ at Sb HB₁ Oio₁
  refine ExO.then (l1 := ((bdS (mth 46 0)).drop 1).take 12) (l2 := (bdS (mth 46 0)).drop 13) (by kernel_rfl) (init_b (k := k + 2) (b := b) (q1 := 0) (q2 := 0) (ρ := [("infile", .none), ("posix", .bool true), ("punctuation_chars", .bool false)]) (rv := [("instream", .ref b), ("self", .ref x)]) HB₁ rfl rfl rfl rfl rfl) hA' Sb fun s₇ S₇ m₇ => ?_
  refine wpAny_execs_cons (set_dq HB₁ hE S₇ (lexI x dx b 0 0 12) cls895 (.head _) rfl (by kernel_rfl) (lexI_len 12) (by kernel_rfl) fun q1 s₈ S₈ m₈ hq1 nq1 => ?_)
  have S₈ : SrO w B₁ (inE L) (hcO [dx] [lexI x dx 0 0 0 0]) (fp (inE L) ++ [dx]) s₈.heap ⟨[("infile", .none), ("posix", .bool true), ("punctuation_chars", .bool false)], [("instream", .ref b), ("self", .ref x)], [lexI x dx b q1 0 13]⟩ := by
    have e : upd (lexI x dx b 0 0 12).dx "pushback" (.raw (.ref q1)) [lexI x dx b 0 0 12] = [lexI x dx b q1 0 13] := by
      show upd dx _ _ [⟨x, dx, 895, _⟩] = _
      rw [upd1]; rfl
    rw [e] at S₈
    exact S₈
  have Sc := S₈.rebase
  have HB₂ : Bs w (reb B₁ s₈.heap (fp (inE L) ++ [dx])) := reb_bs HB₁ S₈.base
  have up₂ : B₁.StaysIn (reb B₁ s₈.heap (fp (inE L) ++ [dx])) := reb_up S₈.base
  have hq1₂ : (reb B₁ s₈.heap (fp (inE L) ++ [dx])).get? q1 = some dqO := reb_get nq1 hq1
  generalize hB2 : reb B₁ s₈.heap (fp (inE L) ++ [dx]) = B₂ at Sc HB₂ up₂ hq1₂
  refine ExO.then (l1 := ((bdS (mth 46 0)).drop 14).take 3) (l2 := (bdS (mth 46 0)).drop 17) (by kernel_rfl) (init_d (k := k + 2) (b := b) (q1 := q1) (q2 := 0) (ρ := [("infile", .none), ("posix", .bool true), ("punctuation_chars", .bool false)]) (rv := [("instream", .ref b), ("self", .ref x)]) HB₂ rfl rfl) hA' Sc fun s₉ S₉ m₉ => ?_
  refine wpAny_execs_cons (set_dq HB₂ hE S₉ (lexI x dx b q1 0 16) cls895 (.head _) rfl (by kernel_rfl) (lexI_len 16) (by kernel_rfl) fun q2 s₁₀ S₁₀ m₁₀ hq2 nq2 => ?_)
  have S₁₀ : SrO w B₂ (inE L) (hcO [dx] [lexI x dx 0 0 0 0]) (fp (inE L) ++ [dx]) s₁₀.heap ⟨[("infile", .none), ("posix", .bool true), ("punctuation_chars", .bool false)], [("instream", .ref b), ("self", .ref x)], [lexI x dx b q1 q2 17]⟩ := by
    have e : upd (lexI x dx b q1 0 16).dx "filestack" (.raw (.ref q2)) [lexI x dx b q1 0 16] = [lexI x dx b q1 q2 17] := by
      show upd dx _ _ [⟨x, dx, 895, _⟩] = _
      rw [upd1]; rfl
    rw [e] at S₁₀
    exact S₁₀
  have Sd := S₁₀.rebase
  have HB₃ : Bs w (reb B₂ s₁₀.heap (fp (inE L) ++ [dx])) := reb_bs HB₂ S₁₀.base
  have up₃ : B₂.StaysIn (reb B₂ s₁₀.heap (fp (inE L) ++ [dx])) := reb_up S₁₀.base
  have hq2₃ : (reb B₂ s₁₀.heap (fp (inE L) ++ [dx])).get? q2 = some dqO := reb_get nq2 hq2
  generalize hB3 : reb B₂ s₁₀.heap (fp (inE L) ++ [dx]) = B₃ at Sd HB₃ up₃ hq2₃
  refine (init_f (k := k + 2) (L := L) (b := b) (q1 := q1) (q2 := q2) (K := fun o => ∃ ρ' rv', o = .next ⟨ρ', rv', [lexI x dx b q1 q2 19]⟩) HB₃ rfl rfl rfl fun ρ' rv' => ⟨ρ', rv', rfl⟩) _ s₁₀ _ _ _ _ hA' Sd fun o f s' hK ho => ?_
  obtain ⟨ρ', rv', rfl⟩ := hK
  obtain ⟨rfl, S', m'⟩ := ho
  have up₁ : B₁.StaysIn s'.heap := fun c o e => S'.base c o (up₃ c o (up₂ c o e))
  refine hq b db q1 q2 s' ⟨?_, fun c o h1 e => ?_, ?_, ?_, hbne, ?_, ⟨us, Oio₁.keeps (fun o e => up₁ _ o e) (fun o e => up₁ _ o e), fio⟩, S'.base _ _ (up₃ _ _ hq1₂), S'.base _ _ hq2₃⟩
  · exact sm_trans (Kp.sm k₂) (sm_trans (Kp.sm k₃) (sm_trans (Kp.sm k₄) (sm_trans (Kp.sm k₅) (sm_trans m₆.same (sm_trans m₇.same (sm_trans m₈.same (sm_trans m₉.same (sm_trans m₁₀.same m'.same))))))))
  · have nH : c ∉ fp (inE L) ++ [dx] := fun z => nd c z o h1 e
    exact m'.sub c o (.inr nH) (m₁₀.sub c o (.inr nH) (m₉.sub c o (.inr nH) (m₈.sub c o (.inr nH) (m₇.sub c o (.inr nH) (keep₆ c o h1 e)))))
  · cases e : s.heap.get? b with
    | none => rfl
    | some o => have := k₄.keep b o (k₃.keep b o (k₂.keep b o e)); rw [nb] at this; cases this
  · cases e : s.heap.get? db with
    | none => rfl
    | some o => have := k₄.keep db o (k₃.keep db o (k₂.keep db o e)); rw [ndb] at this; cases this
  · obtain ⟨a, _⟩ := S'.obs _ (.head _)
    exact a
end
end Mine
end
section
open PySem PySem.W PySem.Calls PyProof.Rows PySem.Spec
namespace Mine
section
variable {w : World} {B : Heap} {k : Nat} {env : Env}
theorem Sr.toO {Hc H : List Addr} {h : Heap} {ρ : Vars} (S : Sr B env Hc H h ⟨ρ, none⟩) : SrO w B env Hc H h ⟨ρ, [], []⟩ := by
  obtain ⟨vs, F, hρ, _⟩ := S.fr
  exact ⟨S.base, ⟨vs, F, hρ, fun x v e => by cases e⟩, S.fpH, S.hc, S.lt, fun o ho => (nomatch ho), .nil⟩
theorem SrO.take {Hc H : List Addr} {h : Heap} {ρ : Vars} {rv : List (Str × Value)} {T : List OS} (S : SrO w B env Hc H h ⟨ρ, rv, []⟩) (hf : ∀ x d, ρ.lookup x = some d → flat d) (ap : T.Pairwise fun o o' => o.dx ≠ o'.dx)
    (ho : ∀ o ∈ T, (∃ vs, Ob w h o.x o.dx o.C vs ∧ Fit o.fs vs) ∧ o.dx ∉ H ∧ B.get? o.dx = none ∧ o.x ∉ H ∧ o.x ∉ T.map (·.dx)) : SrO w B env Hc (T.map (·.dx) ++ H) h ⟨ρ, rv, T⟩ := by
  obtain ⟨vs, F, hρ, hr⟩ := S.fr
  refine ⟨S.base, ⟨vs, F, fun x d e => ?_, hr⟩, fun b hb => List.mem_append_right _ (S.fpH b hb), fun b hb => ⟨List.mem_append_right _ (S.hc b hb).1, (S.hc b hb).2⟩, fun b hb => ?_, fun o h1 => ?_, ap⟩
  · obtain ⟨hx, v, as, hv, r⟩ := hρ x d e
    exact ⟨hx, v, as, hv, (hf x d e).reads r⟩
  · rcases List.mem_append.mp hb with z | z
    · obtain ⟨o, h1, rfl⟩ := List.mem_map.mp z
      obtain ⟨⟨us, ⟨_, _, _, _, _, e⟩, _⟩, _⟩ := ho o h1
      exact ⟨_, e⟩
    · exact S.lt b z
  · obtain ⟨a, b, c, d, e⟩ := ho o h1
    refine ⟨a, List.mem_append_left _ (List.mem_map.mpr ⟨o, h1, rfl⟩), fun q => b (S.hc _ q).1, fun q => b (S.fpH _ q), c, fun q => ?_⟩
    rcases List.mem_append.mp q with z | z
    · exact e z
    · exact d z
theorem lex_call (HB : Bs w B) {A : Around} {s : Shared} {t : Str} {tk : Tok} {Q : Value → Shared → Prop} {E : Value → Shared → Prop} (hA : AOK (k + 5) A) (hB : B.StaysIn s.heap)
    (hq : ∀ x dx b db q1 q2 s', Kp s s' → s.heap.get? x = none → s.heap.get? dx = none → s.heap.get? b = none → s.heap.get? db = none → x ≠ dx → x ≠ db → b ≠ db → b ≠ dx → dx ≠ db → (∃ vs, Ob w s'.heap x dx 895 vs ∧ Fit (lexI x dx b q1 q2 19).fs vs) → (∃ vs, Ob w s'.heap b db 802 vs ∧ Fit (ioS b db t 0).fs vs) → s'.heap.get? q1 = some dqO → s'.heap.get? q2 = some dqO → Q (.ref x) s') :
    wpAny (model pg w) A (call (.ref 895) [.str t tk] [("posix", .bool true)]) Q E s := by
  have X := K_in HB hB
  obtain ⟨h, g, d, tt, os⟩ := s
  refine wpAny_call (make_core (makes_of X (by kernel_rfl)) (looks_findIn X (r := some (.ref 819)) (by kernel_rfl)) (fun self => bind_fn X self (by kernel_rfl)) (.inl rfl) ?_)
  have k₁ : Kp ⟨h, g, d, tt, os⟩ ⟨(h.push emptyDict).push (instObj 895 h.objs.size), g, d, tt, os⟩ := (push_kp (t := tt)).comp (push_kp (t := tt))
  have ndx : h.get? h.objs.size = none := next_new h
  have nx : h.get? (h.objs.size + 1) = none := by
    cases e : h.get? (h.objs.size + 1) with
    | none => rfl
    | some o => exact absurd (Heap.lt_size e) (Nat.not_lt.mpr (Nat.le_succ _))
  have hne : h.objs.size + 1 ≠ h.objs.size := Nat.succ_ne_self _
  have hx : ((h.push emptyDict).push (instObj 895 h.objs.size)).get? (h.objs.size + 1) = some (instObj 895 h.objs.size) := by heap_get
  have hdx : ((h.push emptyDict).push (instObj 895 h.objs.size)).get? h.objs.size = some emptyDict := Heap.get?_push_of_some _ (Heap.get?_push_size _ rfl)
  have nB : B.get? h.objs.size = none := by
    cases e : B.get? h.objs.size with
    | none => rfl
    | some o => have := hB _ _ e; rw [next_new] at this; cases this
  refine lexinit_raw (k := k) HB hA.under (stays_kp hB k₁) nB hne hx hdx fun b db q1 q2 s' M => ⟨rfl, ?_⟩
  have nb : h.get? b = none := by
    cases e : h.get? b with
    | none => rfl
    | some o => have := k₁.keep b o e; rw [M.nb] at this; cases this
  have ndb : h.get? db = none := by
    cases e : h.get? db with
    | none => rfl
    | some o => have := k₁.keep db o e; rw [M.ndb] at this; cases this
  refine hq _ _ b db q1 q2 s' ?_ nx ndx nb ndb hne (fun q => ?_) M.bne (fun q => ?_) (fun q => ?_) M.lex M.io M.d1 M.d2
  · obtain ⟨h', tk', e⟩ := M.same
    subst e
    exact Kp.to (s := ⟨h, g, d, tt, os⟩) fun c o e => M.keep c o (fun q => by rw [q, ndx] at e; cases e) (k₁.keep c o e)
  · have := M.ndb; rw [← q, hx] at this; cases this
  · have := M.nb; rw [q, hdx] at this; cases this
  · have := M.ndb; rw [← q, hdx] at this; cases this
end
end Mine
end
section
open PySem PySem.W PySem.Calls PyProof.Rows PySem.Spec
namespace Mine
section
variable {w : World} {B : Heap} {k : Nat}
noncomputable def spB (v : Value) : List (Str × Value) := [("s", v), ("comments", .bool false), ("posix", .bool true)]
noncomputable abbrev spE (L : Addr) : Env := callEnvC fd907 L 907
theorem updL {x dx b db : Addr} {t : Str} {n : Str} {a : AV} {fs : List (Str × AV)} (hne : dx ≠ db) : upd dx n a [⟨x, dx, 895, fs⟩, ioS b db t 0] = [⟨x, dx, 895, setV n a fs⟩, ioS b db t 0] := by
  show [if dx = dx then _ else _, if db = dx then _ else ioS b db t 0] = _
  rw [if_pos rfl, if_neg (Ne.symm hne)]
theorem EvO.run {env : Env} {σ : So} {e : Expr} {d : PyData} {A : Around} {s : Shared} {Hc H : List Addr} {Q : Value → Shared → Prop} {E : Value → Shared → Prop} (h : EvO w B k env σ e d) (hA : AOK k A) (S : SrO w B env Hc H s.heap σ) (hq : ∀ v as s', Kp s s' → Reads (hideAll s'.heap H) v d as → Q v s') : wpAny (model pg w) A (eval e env) Q E s := h Hc H s.heap S A s H Q E hA S.cx hq
theorem sp_set (HB : Bs w B) {L x dx b db q1 q2 : Addr} {t : Str} (hne : dx ≠ db) {ρ : Vars} {rv : List (Str × Value)} (h1 : rv.lookup ("lex" : Str) = some (.ref x)) (h2 : ρ.lookup ("comments" : Str) = some (.bool false)) :
    ExO w B (k + 1) (spE L) ⟨ρ, rv, [lexI x dx b q1 q2 19, ioS b db t 0]⟩ (((bdS (stm 47)).drop 2).take 2) (fun o => o = .next ⟨ρ, rv, [lexS x dx b q1 q2 (.str " ") "", ioS b db t 0]⟩) := by
  refine ExO.cons (EsO.setD (d := .bool true) HB (lexI x dx b q1 q2 19) cls895 (.head _) h1 (by kernel_rfl) (lexI_len 19) (fun Hc H h S => Ev.cBool) trivial ?_)
  show ExO w B _ _ ⟨_, _, upd dx _ _ [⟨x, dx, 895, _⟩, ioS b db t 0]⟩ _ _
  rw [updL hne]
  refine ExO.cons (EsO.iff (c := true) (fun Hc H h S => Ts.not (Ts.plain (d := .bool false) (Ev.name h2) trivial)) (fun _ => ?_) fun h => absurd h (by decide))
  refine ExO.cons (EsO.setD (d := .str "") HB ⟨x, dx, 895, _⟩ cls895 (.head _) h1 (by kernel_rfl) (by show 19 ≤ 900; decide) (fun Hc H h S => Ev.cStr) trivial ?_)
  show ExO w B _ _ ⟨_, _, upd dx _ _ [⟨x, dx, 895, _⟩, ioS b db t 0]⟩ _ _
  rw [updL hne]
  exact ExO.nil (ExO.nil rfl)
theorem split_raw (HB : Bs w B) {A : Around} {s : Shared} {t : Str} {tk : Tok} {outer : List Env} {ws : List (Str × Bool)} {Q : Value → Shared → Prop} {E : Value → Shared → Prop} (hA : AOK (k + 10) A) (hfr : A.frames = some outer) (hl : s.heap.FunFrames B outer) (hB : B.StaysIn s.heap)
    (hw : ∀ p ∈ ws, wdOK p.1 p.2 = true) (hne : ws ≠ []) (hd : t.cps.toList = lineOf ws) (hz : t.length ≤ 100000) (hsz : ws.length ≤ 10000)
    (hQ : ∀ S c' l s', MvD [] (frs outer) s s' → s.heap.get? S = none → s'.heap.get? S = some { cls := .type "list", dict := none, data := .seq (strValues l).toArray c', slots := #[] } → l.map (·.1) = ws.map (·.1) → Q (.ref S) s') :
    wpAny (model pg w) A (call (.ref 907) [.str t tk]) Q E s := by
  have h5 : s.heap.get? 900 = some ⟨(.type "tuple"), none, .seq #[(.bool false), (.bool true)] 0, #[]⟩ := K_at HB hB (by kernel_rfl)
  refine wpAny_call (enter0 (k := k + 9) (fd := fd907) (body := bdS (stm 47)) (names := ["s", "comments", "posix"]) (ρ := [("s", .str t), ("comments", .bool false), ("posix", .bool true)]) (H := []) (G := fun binds s' => s' = s ∧ binds = spB (.str t tk)) HB (by kernel_rfl) (by kernel_rfl) (by decide +kernel) rfl hA hB (fun b hb => nomatch hb) (fun Q E hQ => ?_) ?_ ?_)
  · exact (BindsTo.of_defaults (binds := spB (.str t tk)) (T := 900) rfl h5 rfl rfl (by kernel_rfl)) _ _ _ _ (hQ _ _ Kp.rfl' ⟨rfl, rfl⟩)
  · rintro binds s' k' ⟨rfl, rfl⟩
    refine ⟨fun y hy => ?_, fun y d e => ?_⟩
    · simp only [spB, List.mem_cons, List.not_mem_nil, or_false] at hy ⊢
      rcases hy with rfl | rfl | rfl <;> simp
    · simp only [List.lookup_cons, List.lookup_nil] at e
      split at e
      · rename_i q; cases e; rw [beq_iff_eq.mp q]; exact ⟨.head _, .str t tk, [], by kernel_rfl, .str _ _⟩
      · split at e
        · rename_i q; cases e; rw [beq_iff_eq.mp q]; exact ⟨.tail _ (.head _), .bool false, [], by kernel_rfl, .bool _⟩
        · split at e
          · rename_i q; cases e; rw [beq_iff_eq.mp q]; exact ⟨.tail _ (.tail _ (.head _)), .bool true, [], by kernel_rfl, .bool _⟩
          · cases e
  · rintro L binds s₁ s₂ _ ⟨rfl, rfl⟩ k₂ F S nfp
    have hE : EnvOK (spE L) := envOKC fd907 (by kernel_rfl)
    have hA' : AOK (k + 9) (A.deeper (spE L)) := hA.deeper
    have efp : fp (spE L) = [L] := by kernel_rfl
    have nL : s₁.heap.get? L = none := nfp L (.head _)
    have hfr' : (A.deeper (spE L)).frames = some (spE L :: outer) := Around.frames_deeper hfr
    have S₂ := S.toO (w := w)
    refine wpAny_execs_cons (wpAny_If (TsO.run (b := false) (fun Hc H h S => Ts.cmp (a := .str t) Ev.name Ev.cNone (Cmp.isN (by intro e; cases e))) hA' S₂ fun s₃ k₃ => ?_))
    rw [if_neg (by decide)]
    refine wpAny_execs_nil ?_
    have S₃ := S₂.keeps k₃
    refine wpAny_execs_cons (wpAny_Assign_Name ?_)
    refine wpAny_Call_Name_kw (glob (w := w) HB hE S₃.base (x := "shlex") (v := .ref 895) (by kernel_rfl) (by kernel_rfl) ?_ (by decide))
    refine callWith_KW (K_in HB S₃.base) (by kernel_rfl) (by kernel_rfl) ?_
    refine args_cons (EvO.run (d := .str t) (fun Hc H h S => Ev.name) hA' S₃ fun v as s₄ k₄ r => args_nil ?_)
    cases r
    have S₄ := S₃.keeps k₄
    refine kwAll_cons (EvO.run (d := .bool true) (fun Hc H h S => Ev.name) hA' S₄ fun v as s₅ k₅ r => kwAll_nil ⟨K_in HB (S₄.keeps k₅).base, ?_⟩)
    cases r
    have S₅ := S₄.keeps k₅
    refine lex_call (k := k + 4) HB hA' S₅.base fun x dx b db q1 q2 s₆ k₆ nx ndx nb ndb n1 n2 n3 n4 n5 hlex hio hq1 hq2 => ?_
    have S₆ := S₅.keeps k₆
    refine S₆.storeRaw (x := "lex") (.inl (by kernel_rfl)) fun s₇ S₇ m₇ hk₇ => ?_
    have nH : ∀ c, s₅.heap.get? c = none → c ∉ fp (spE L) ++ [] := fun c hc z => by obtain ⟨o, e⟩ := S₅.lt c z; rw [hc] at e; cases e
    have nB : ∀ c, s₅.heap.get? c = none → B.get? c = none := fun c hc => by
      cases e : B.get? c with
      | none => rfl
      | some o => have := S₅.base _ _ e; rw [hc] at this; cases this
    have nfp' : ∀ c, s₅.heap.get? c = none → c ∉ fp (spE L) := fun c hc z => nH c hc (List.mem_append_left _ z)
    have kk : ∀ c, s₅.heap.get? c = none → ∀ o, s₆.heap.get? c = some o → s₇.heap.get? c = some o := fun c hc o e => hk₇ c o (nfp' c hc) e
    obtain ⟨us1, O1, f1⟩ := hlex
    obtain ⟨us2, O2, f2⟩ := hio
    have O1 : Ob w s₇.heap x dx 895 us1 := O1.keeps (fun o e => kk _ nx o e) (fun o e => kk _ ndx o e)
    have O2 : Ob w s₇.heap b db 802 us2 := O2.keeps (fun o e => kk _ nb o e) (fun o e => kk _ ndb o e)
    have hk7 : ∀ c, c ≠ L → ∀ o, s₆.heap.get? c = some o → s₇.heap.get? c = some o := fun c hc o e => hk₇ c o (fun z => by rw [efp] at z; exact hc (List.mem_singleton.mp z)) e
    have S₈ : SrO w B (spE L) [] ([lexI x dx b q1 q2 19, ioS b db t 0].map (·.dx) ++ (fp (spE L) ++ [])) s₇.heap ⟨[("s", .str t), ("comments", .bool false), ("posix", .bool true)], [("lex", .ref x)], [lexI x dx b q1 q2 19, ioS b db t 0]⟩ := by
      refine SrO.take S₇ (fun y d e => ?_) (.cons (fun o ho => ?_) (.cons (fun _ h => nomatch h) .nil)) fun o ho => ?_
      · simp only [List.lookup_cons, List.lookup_nil] at e
        split at e
        · cases e; trivial
        · split at e
          · cases e; trivial
          · split at e
            · cases e; trivial
            · cases e
      · rw [List.mem_singleton.mp ho]; exact n5
      · rcases List.mem_cons.mp ho with rfl | ho
        · refine ⟨⟨us1, O1, f1⟩, nH _ ndx, nB _ ndx, nH _ nx, ?_⟩
          show x ∉ [dx, db]
          simp [n1, n2]
        · rw [List.mem_singleton.mp ho]
          refine ⟨⟨us2, O2, f2⟩, nH _ ndb, nB _ ndb, nH _ nb, ?_⟩
          show b ∉ [dx, db]
          simp [n3, n4]
    refine ExO.then (l1 := ((bdS (stm 47)).drop 2).take 2) (l2 := (bdS (stm 47)).drop 4) (by kernel_rfl) (sp_set (k := k + 8) HB n5 rfl rfl) hA' S₈ fun s₉ S₉ m₉ => ?_
    -- list(lex)
    obtain ⟨vs₉, F₉, _, hrv₉⟩ := S₉.fr
    obtain ⟨vlex, hlex₉⟩ := hrv₉ "lex" _ rfl
    refine wpAny_execs_cons (wpAny_Return_some ?_)
    refine wpAny_Call_NameR (blt (w := w) HB hE S₉.base (x := "list") (by kernel_rfl) (by kernel_rfl) rfl (by decide) ?_)
    refine PyProof.Rows.callWith_type1 (args_cons (wpAny_Name (F₉.var vlex hlex₉ (fun _ _ e => e) (args_nil ?_)) (by decide)))
    have keep₉ : ∀ c o, s₁.heap.get? c = some o → s₉.heap.get? c = some o := fun c o e => by
      have e₅ := k₅.keep c o (k₄.keep c o (k₃.keep c o (k₂.keep c o e)))
      have hcL : c ≠ L := fun q => by rw [q, nL] at e; cases e
      have e₇ := hk7 c hcL o (k₆.keep c o e₅)
      refine m₉.sub c o (.inr fun z => ?_) e₇
      rcases List.mem_append.mp z with z | z
      · have z : c ∈ [dx, db] := z
        rcases List.mem_cons.mp z with q | q
        · rw [q, ndx] at e₅; cases e₅
        · rw [List.mem_singleton.mp q, ndb] at e₅; cases e₅
      · rw [efp] at z; exact hcL (List.mem_singleton.mp z)
    have q7 : ∀ q, s₆.heap.get? q = some dqO → s₉.heap.get? q = some dqO ∧ q ∉ [dx, db] ∧ q ∉ L :: frs outer := fun q e => by
      have hqL : q ≠ L := fun z => by
        obtain ⟨_, F₆, _⟩ := S₆.fr
        obtain ⟨m, ⟨o', es, ep, e1, e2, _⟩, _⟩ := F₆.loc
        have e1 : s₆.heap.get? L = some o' := e1
        rw [← z, e] at e1; cases e1; cases e2
      have e₇ := hk7 q hqL _ e
      have nd : q ≠ dx := fun z => by
        obtain ⟨_, _, _, _, _, ed⟩ := O1
        rw [← z, e₇] at ed
        injection ed with ed
        have ed : Value.type "collections.deque" = Value.type "dict" := congrArg Obj.cls ed
        injection ed with ed
        exact absurd ed (by decide)
      have ndb' : q ≠ db := fun z => by
        obtain ⟨_, _, _, _, _, ed⟩ := O2
        rw [← z, e₇] at ed
        injection ed with ed
        have ed : Value.type "collections.deque" = Value.type "dict" := congrArg Obj.cls ed
        injection ed with ed
        exact absurd ed (by decide)
      refine ⟨m₉.sub q _ (.inr fun z => ?_) e₇, by simp [nd, ndb'], fun z => ?_⟩
      · rcases List.mem_append.mp z with z | z
        · have z : q ∈ [dx, db] := z
          simp [nd, ndb'] at z
        · rw [efp] at z; exact hqL (List.mem_singleton.mp z)
      · rcases List.mem_cons.mp z with z | z
        · exact hqL z
        · obtain ⟨_, o, eo, hno⟩ := hl.mem z
          have := k₆.keep q o (k₅.keep q o (k₄.keep q o (k₃.keep q o (k₂.keep q o eo))))
          rw [e] at this; cases this; exact hno _ rfl
    obtain ⟨q1a, q1b, q1c⟩ := q7 q1 hq1
    obtain ⟨q2a, q2b, q2c⟩ := q7 q2 hq2
    have frE : frs (spE L :: outer) = L :: frs outer := rfl
    have hBL : B.get? L = none := F.new L (.head _)
    -- the base for the loop
    have B1s : (reb B s₉.heap ([dx, db] ++ (L :: frs outer))).StaysIn s₉.heap := reb_stays
    have HB1 : Bs w (reb B s₉.heap ([dx, db] ++ (L :: frs outer))) := reb_bs HB S₉.base
    have hq1' : (reb B s₉.heap ([dx, db] ++ (L :: frs outer))).get? q1 = some dqO := reb_get (fun z => (List.mem_append.mp z).elim q1b q1c) q1a
    have hq2' : (reb B s₉.heap ([dx, db] ++ (L :: frs outer))).get? q2 = some dqO := reb_get (fun z => (List.mem_append.mp z).elim q2b q2c) q2a
    have hndx : (reb B s₉.heap ([dx, db] ++ (L :: frs outer))).get? dx = none := reb_none (.head _) (nB _ ndx)
    have hndb : (reb B s₉.heap ([dx, db] ++ (L :: frs outer))).get? db = none := reb_none (.tail _ (.head _)) (nB _ ndb)
    have hnF : ∀ c ∈ L :: frs outer, (reb B s₉.heap ([dx, db] ++ (L :: frs outer))).get? c = none := fun c hc => reb_none (List.mem_append_right _ hc) (by
      rcases List.mem_cons.mp hc with q | q
      · rw [q]; exact hBL
      · exact (hl.mem q).1)
    generalize reb B s₉.heap ([dx, db] ++ (L :: frs outer)) = B1 at B1s HB1 hq1' hq2' hndx hndb hnF
    have aliveF : ∀ c ∈ frs outer, ∃ o, s₁.heap.get? c = some o := fun c hc => by obtain ⟨_, o, e, _⟩ := hl.mem hc; exact ⟨o, e⟩
    have old : ∀ c, (∃ o, s₁.heap.get? c = some o) → ∀ d, s₅.heap.get? d = none → c ≠ d := fun c ⟨o, e⟩ d hd q => by
      have := k₅.keep c o (k₄.keep c o (k₃.keep c o (k₂.keep c o e)))
      rw [q, hd] at this; cases this
    have aL₅ : ∃ o, s₅.heap.get? L = some o := S₅.lt L (List.mem_append_left _ (.head _))
    have hap : ∀ c ∈ frs (spE L :: outer), c ≠ dx ∧ c ≠ db ∧ c ≠ x ∧ c ≠ b := fun c hc => by
      rcases List.mem_cons.mp hc with q | q
      · have : ∀ d, s₅.heap.get? d = none → c ≠ d := fun d hd z => by
          obtain ⟨o, e⟩ := aL₅
          have e : s₅.heap.get? c = some o := by rw [q]; exact e
          rw [z, hd] at e; cases e
        exact ⟨this _ ndx, this _ ndb, this _ nx, this _ nb⟩
      · exact ⟨old c (aliveF c q) _ ndx, old c (aliveF c q) _ ndb, old c (aliveF c q) _ nx, old c (aliveF c q) _ nb⟩
    obtain ⟨mL, hnsL, _⟩ := F₉.loc
    have hl₉ : s₉.heap.FunFrames B1 (spE L :: outer) := by
      refine Heap.FunFrames.cons (by rw [hE.kind]; decide) rfl hnsL (hnF L (.head _)) ?_
      exact funs_keep (funs_of hl fun c hc => hnF c (.tail _ hc)) fun c _ o e => keep₉ c o e
    have tin := S₉.tin
    have hT : TIn w B1 s₉.heap [dx, db] (lxT x dx b db q1 q2 t ws 0) := by
      have est : stW ws = .str " " := by cases ws with
        | nil => exact absurd rfl hne
        | cons => rfl
      have e : lxT x dx b db q1 q2 t ws 0 = [lexS x dx b q1 q2 (.str " ") "", ioS b db t 0] := by show [lexS x dx b q1 q2 (stW ws) "", _] = _; rw [est]
      rw [e]
      refine ⟨fun o ho => ?_, tin.apart⟩
      obtain ⟨a, _, _, _⟩ := tin.obs o ho
      rcases List.mem_cons.mp ho with q | q
      · subst q; refine ⟨a, .head _, hndx, ?_⟩
        show x ∉ [dx, db]
        simp [n1, n2]
      · rw [List.mem_singleton.mp q] at a ⊢; refine ⟨a, .tail _ (.head _), hndb, ?_⟩
        show b ∉ [dx, db]
        simp [n3, n4]
    have al₉ : ∀ c ∈ [dx, db], ∃ o, s₉.heap.get? c = some o := fun c hc => S₉.lt c (List.mem_append_left _ hc)
    refine list_lex (k := k) (outer := spE L :: outer) (H := [dx, db]) HB1 hq1' hq2' n5 hz (hA'.less (by omega)) hfr' hap hne hw hd B1s al₉ hT hl₉ hsz fun s' S' c' l nS m' hS' hl' => ?_
    have all : ∀ c o, s₁.heap.get? c = some o → c ∉ [dx, db] ∧ c ≠ L := fun c o e => ⟨by
      have := old c ⟨o, e⟩
      simp [this _ ndx, this _ ndb], fun q => by rw [q, nL] at e; cases e⟩
    refine hQ S' c' l s' ⟨?_, fun c o _ h2 e => ?_, fun c o _ e hn => ?_⟩ ?_ hS' hl'
    · exact sm_trans (Kp.sm k₂) (sm_trans (Kp.sm k₃) (sm_trans (Kp.sm k₄) (sm_trans (Kp.sm k₅) (sm_trans (Kp.sm k₆) (sm_trans m₇.same (sm_trans m₉.same m'.same))))))
    · obtain ⟨a1, a2⟩ := all c o e
      refine m'.keep c o a1 (fun z => ?_) (keep₉ c o e)
      rcases List.mem_cons.mp z with z | z
      · exact a2 z
      · exact h2 z
    · exact m'.fr c o (all c o e).1 (keep₉ c o e) hn
    · cases e : s₁.heap.get? S' with
      | none => rfl
      | some o => have := keep₉ _ _ e; rw [nS] at this; cases this
end
end Mine
end
section
open PySem PySem.W PySem.Calls PyProof.Rows PySem.Spec
namespace Mine
noncomputable def setO (led : Bool) : Obj := { cls := .type "set", dict := none, data := .set #[] 0 (.fresh 0 0 led) }
noncomputable def sitO (M : Addr) : Obj := { cls := .type "set_iterator", data := .fields #[rawInt 0, rawInt 0, .ref M, rawInt 0, rawInt 0] }
theorem entry_set_iter : entryFor table "set.__iter__" = some Builtin.«frozenset.__iter__» := entryFor_alias (id' := "frozenset.__iter__") (by kernel_rfl) rfl (by decide +kernel) (by kernel_rfl)
theorem slot_sitnext : Slot "set_iterator" "__next__" "set_iterator.__next__" := .of (owner := "set_iterator") (n := "__next__") (by rw [typeLookup_type, builtinLookup_eq_fast]; kernel_rfl) (by decide +kernel) (by decide +kernel) (by decide +kernel)
  (by first | exact .inl (by decide +kernel) | exact .inr (by decide +kernel)) (by rw [isSubtype_type]; kernel_rfl)
theorem entry_sitnext : entryFor table "set_iterator.__next__" = some Builtin.«set_iterator.__next__» := entryFor_of_tree (by kernel_rfl)
theorem args_sitnext (a : Value) : argsOk "set_iterator.__next__" ⟨[a], []⟩ := by unfold argsOk; kernel_rfl
section
variable {w : World} {A : Around} {E : Value → Shared → Prop} {s : Shared}
theorem wp_state {M : Addr} {led : Bool} {Mo : Model} {Q : Array (Int × Value) × Nat × SetTable → Shared → Prop} (hM : s.heap.get? M = some (setO led)) (h : Q (#[], 0, .fresh 0 0 led) s) : wpAny Mo A (setState M) Q E s := by
  unfold setState
  refine wpAny_bind (wpAny_load hM ?_)
  refine wp_neg (fun h => ?_) (wpAny_pure h)
  cases led <;> exact absurd h (by decide)
theorem iter_set0 {M : Addr} {led : Bool} {Q : Value → Shared → Prop} (hM : s.heap.get? M = some (setO led)) (h : Q (.ref s.heap.objs.size) { s with heap := s.heap.push (sitO M) }) : wpAny (model pg w) A (pyIter (.ref M)) Q E s := by
  have hT : s.TypeIs (.ref M) "set" := ⟨_, hM, rfl⟩
  refine wpAny_pyIter_slot hT F.slot_set_iter (wpAny_call_entry F.slot_set_iter hT entry_set_iter ?_ (F.args_set_iter_1 _))
  unfold Builtin.«frozenset.__iter__» Builtin.Frozenset.slot0 Builtin.Frozenset.sizeOf setEntries setDrawn setsByText setEpoch
  refine wpAny_bind (wpAny_bind (wpAny_pure (wpAny_pure ?_)))
  refine wpAny_bind (wpAny_bind (wpAny_bind (wp_state hM (wpAny_pure (wpAny_pure ?_)))))
  refine wpAny_bind (wpAny_bind (wp_state hM (wpAny_bind (wpAny_bind (wpAny_askSetting (wpAny_pure (wpAny_pure ?_)))))))
  dsimp only
  generalize (model pg w).w.params.followText "set-order" = bt
  split
  · rename_i q
    exact absurd q (by cases bt <;> cases led <;> decide)
  refine wpAny_bind (wpAny_pure ?_)
  refine wpAny_bind (wpAny_bind (wp_state hM (wpAny_pure ?_)))
  refine wpAny_bind (wpAny_newObj_type (wpAny_pure ⟨_, rfl, "set_iterator", _, ⟨_, Heap.get?_push_size _ rfl, rfl⟩, slot_sitnext.lookup, h⟩))
theorem next_set0 {M I : Addr} {led : Bool} {Q : Option Value → Shared → Prop} (hh : A.handled = none) (hM : s.heap.get? M = some (setO led)) (hI : s.heap.get? I = some (sitO M)) (h : ∀ s', (∀ b o, b ≠ I → s.heap.get? b = some o → s'.heap.get? b = some o) → (∃ h' tk, s' = { s with heap := h', toks := tk }) → Q none s') : wpAny (model pg w) A (pyNext (.ref I)) Q E s := by
  have hT : s.TypeIs (.ref I) "set_iterator" := ⟨_, hI, rfl⟩
  unfold pyNext
  refine wpAny_bind (wpAny_attempt (wpAny_callSpecial?_slot (name := Str.ofString "__next__") hT slot_sitnext (wpAny_call_entry slot_sitnext hT entry_sitnext ?_ (args_sitnext _))))
  unfold Builtin.«set_iterator.__next__» setEntries setNext setsByText
  refine wpAny_bind (m := slotArgs "__next__" 0 _) (wpAny_pure ?_)
  refine wpAny_bind (wpAny_fieldsOf hI rfl ?_)
  dsimp only [sitO]
  refine wpAny_bind (wpAny_bind (wp_state hM (wpAny_pure ?_)))
  refine wp_neg (fun q => absurd q (by cases led <;> decide)) ?_
  refine wpAny_bind (wpAny_mono (Q := fun r s' => r = none ∧ s' = s) ?_ (fun r s' hr => ?_) fun _ _ z => z)
  · refine wpAny_bind (wp_state hM (wpAny_bind (wpAny_bind (wpAny_askSetting (wpAny_pure ?_)))))
    dsimp only
    generalize hbt : (model pg w).w.params.followText "set-order" = bt
    cases bt with
    | true =>
      rw [if_pos rfl]
      refine wp_neg (by decide) ?_
      unfold setWalk setsByText
      refine wpAny_bind (wpAny_bind (wp_state hM (wpAny_bind (wpAny_bind (wpAny_askSetting (wpAny_pure ?_))))))
      dsimp only
      rw [hbt, if_pos rfl]
      exact wpAny_bind (wpAny_askSetting (wpAny_pure (wpAny_pure ⟨rfl, rfl⟩)))
    | false =>
      rw [if_neg (by decide)]
      cases led
      · exact wp_neg (by decide) (wpAny_bind (wpAny_pure (wpAny_pure ⟨rfl, rfl⟩)))
      · exact wp_neg (by decide) (wpAny_bind (wpAny_pure (wpAny_pure ⟨rfl, rfl⟩)))
  obtain ⟨rfl, rfl⟩ := hr
  dsimp only
  refine wpAny_bind (wpAny_setField hI rfl (by show 2 < 5; decide) ?_)
  refine wpAny_bind ?_
  simp only [newExc, newTuple]
  refine wpAny_bind (wpAny_newObj_type ?_ (by size_fits))
  refine wpAny_bind (m := firstArgMember _ _) (wpAny_of_eq (a := Value.none) (by first | rfl | (simp only [firstArgMember]; rfl)) ?_)
  refine wpAny_newObj_type ?_ (by size_fits)
  simp only [raiseNew]
  refine wpAny_bind (wpAny_handled ?_)
  rw [show A.in1.handled = none from hh]
  refine wpAny_bind (wpAny_pure (wpAny_throw ?_))
  refine wpAny_bind (wpAny_isInstance (T := "StopIteration") (b := true) ⟨_, Heap.get?_push_size _ rfl, rfl⟩ isub_stop ?_)
  refine wpAny_pure (h _ (fun b o hb e => ?_) ⟨_, _, rfl⟩)
  exact Heap.get?_push_of_some _ (Heap.get?_push_of_some _ ((Heap.get?_update_other _ _ (Ne.symm hb)).trans e))
end
end Mine
end
section
open PySem PySem.W PySem.Calls PyProof.Rows PySem.Spec
namespace Mine
section
variable {w : World} {B : Heap} {k : Nat} {env : Env} {σ : So}
theorem RvO.attrB {x a : Str} {p pos : Pos} {v : Value} {xo dxo C : Addr} {vs : List (Str × Value)} (HB : Bs w B) (hO : Ob w B xo dxo C vs) (c : Cls w C) (hr : σ.rv.lookup x = some (.ref xo)) (hl : vs.lookup a = some v) (ha : (findIn (KP w.params) (.ref C) a).any (noGet (KP w.params)) = true) (hh : handedIn v = true)
    (hdb : (x == ("__debug__" : Str)) = false := by decide) : RvO w B env σ (.Attribute (.Name x p) a pos) v := fun Hc H h S A s Q E hB hq => by
  obtain ⟨vs', F, _, hrv⟩ := S.fr
  obtain ⟨hx, hv⟩ := hrv x _ hr
  obtain ⟨attr, ha1, ha2⟩ := any_some ha
  refine Attribute_Name_ (wpAny_Name (F.var hx hv (fun b o e => hB b o e) ?_) hdb)
  exact Ob.get (HB.up S.base) hB c (hO.keeps (fun _ e => hB _ _ (S.base _ _ e)) (fun _ e => hB _ _ (S.base _ _ e))) ha1 ha2 hl hh (hq _ (Kp.tok _))
theorem RvO.run {e : Expr} {v : Value} {A : Around} {s : Shared} {Hc H : List Addr} {Q : Value → Shared → Prop} {E : Value → Shared → Prop} (h : RvO w B env σ e v) (S : SrO w B env Hc H s.heap σ) (hq : ∀ s', Kp s s' → Q v s') : wpAny (model pg w) A (eval e env) Q E s := h Hc H s.heap S A s Q E (fun _ _ e => e) hq
theorem SrO.turn0 {Hc H wr : List Addr} {h h' : Heap} {ρ : Vars} {rv : List (Str × Value)} (S : SrO w B env Hc H h ⟨ρ, rv, []⟩) (hk : ∀ b o, b ∉ wr → h.get? b = some o → h'.get? b = some o) (hw : ∀ b ∈ wr, b ∉ H ∧ B.get? b = none ∧ ∃ o, h.get? b = some o ∧ ¬ dataC o) : SrO w B env Hc H h' ⟨ρ, rv, []⟩ := by
  obtain ⟨vs, F, hρ, hr⟩ := S.fr
  have up : ∀ b o, dataC o → (hideAll h H).get? b = some o → (hideAll h' H).get? b = some o := fun b o hc e => by
    have hb := not_hid e
    have ea := of_hideAll H e
    refine hideAll_get H (hk b o (fun q => ?_) ea) hb
    obtain ⟨_, _, o', e', n⟩ := hw b q
    rw [ea] at e'; cases e'; exact n hc
  have inH : ∀ b ∈ H, b ∉ wr := fun b hb q => (hw b q).1 hb
  exact ⟨fun b o e => hk b o (fun q => by rw [(hw b q).2.1] at e; cases e) (S.base b o e), ⟨vs, F.keeps fun b o hb e => hk b o (inH b (S.fpH b hb)) e, fun x d e => let ⟨hx, v, as, hv, r⟩ := hρ x d e; ⟨hx, v, as, hv, reads_keepsC up r⟩, hr⟩, S.fpH, S.hc, fun b hb => let ⟨o, e⟩ := S.lt b hb; ⟨o, hk b o (inH b hb) e⟩, fun o ho => (nomatch ho), .nil⟩
noncomputable def rdF (M Dl D : Addr) : List (Str × Value) := [("_mods", .ref M), ("_dirs", .ref Dl), ("_ignore", .ref D)]
noncomputable abbrev nmE (L : Addr) : Env := callEnvC fd221 L 221
noncomputable def hitB (dirs : List Str) (word : Str) : Bool := dirs.any fun d => Txt.startswith word (d ++ "/")
variable {x dx M Dl D : Addr} {A : Around} {E : Value → Shared → Prop} {s : Shared} {Hc H : List Addr} {kvs : List (Str × Value)} {stem : Str}
theorem wp_inD {Q : Bool → Shared → Prop} {p1 p2 p3 pos : Pos} (HB : Bs w B) (hO : Ob w B x dx 224 (rdF M Dl D)) (S : SrO w B env Hc H s.heap σ) (hA : AOK k A) (h1 : σ.ρ.lookup ("modulename" : Str) = some (.str stem)) (h2 : σ.rv.lookup ("self" : Str) = some (.ref x)) (hds : (D == sysModules) = false) (hD : s.heap.DictOf (strKind pg w) D kvs) (hn : valueAt kvs stem = none)
    (hq : ∀ s', Kp s s' → Q false s') : wpAny (model pg w) A (isTrue (.Compare (.Name "modulename" p1) [.In] [.Attribute (.Name "self" p2) "_ignore" p3] pos) env (eval (.Compare (.Name "modulename" p1) [.In] [.Attribute (.Name "self" p2) "_ignore" p3] pos) env)) Q E s := by
  refine wpAny_isTrue_Compare1 ?_
  refine EvO.run (d := .str stem) (fun Hc H h S => Ev.name h1) hA S fun v as s₁ k₁ r => ?_
  cases r
  have S₁ := S.keeps k₁
  refine RvO.run (RvO.attrB HB hO cls224 h2 (v := .ref D) rfl (by kernel_rfl) rfl) S₁ fun s₂ k₂ => ?_
  have hm := (hD.keep k₁.keep).keep k₂.keep
  refine wpAny_in_of (knd := strKind pg w) (k := stem) ?_ hds hm.mapOf ?_
  · exact beq_self_eq_true stem
  rw [hn]
  exact wpAny_truthy_bool (hq _ ((k₁.comp k₂).comp (Kp.tok _)))
theorem wp_inM {Q : Bool → Shared → Prop} {p1 p2 p3 pos : Pos} {led : Bool} (HB : Bs w B) (hO : Ob w B x dx 224 (rdF M Dl D)) (hM : B.get? M = some (setO led)) (S : SrO w B env Hc H s.heap σ) (hA : AOK k A) (h1 : σ.ρ.lookup ("modulename" : Str) = some (.str stem)) (h2 : σ.rv.lookup ("self" : Str) = some (.ref x))
    (hq : ∀ s', Kp s s' → Q false s') : wpAny (model pg w) A (isTrue (.Compare (.Name "modulename" p1) [.In] [.Attribute (.Name "self" p2) "_mods" p3] pos) env (eval (.Compare (.Name "modulename" p1) [.In] [.Attribute (.Name "self" p2) "_mods" p3] pos) env)) Q E s := by
  refine wpAny_isTrue_Compare1 ?_
  refine EvO.run (d := .str stem) (fun Hc H h S => Ev.name h1) hA S fun v as s₁ k₁ r => ?_
  cases r
  have S₁ := S.keeps k₁
  refine RvO.run (RvO.attrB HB hO cls224 h2 (v := .ref M) rfl (by kernel_rfl) rfl) S₁ fun s₂ k₂ => ?_
  have hm := (S₁.keeps k₂).base _ _ hM
  refine wpAny_inSet_of (knd := strKind pg w) (k := stem) (S := fun _ => false) (n := 0) (beq_self_eq_true stem) rfl ⟨_, #[], 0, .fresh 0 0 led, hm, ⟨rfl, rfl, rfl⟩, rfl, (fun e he => by simp at he), (fun k => by simp), by decide, by cases led <;> decide, rfl⟩ ?_
  exact wpAny_truthy_bool (hq _ ((k₁.comp k₂).comp (Kp.tok _)))
end
end Mine
end
section
open PySem PySem.W PySem.Calls PyProof.Rows PySem.Spec
namespace Mine
section
variable {w : World} {B : Heap} {k : Nat} {x dx M Dl D : Addr} {A : Around} {E : Value → Shared → Prop} {s : Shared} {Hc H : List Addr} {kvs : List (Str × Value)} {stem word : Str}
theorem for_set0 {env : Env} {ρ : Vars} {rv : List (Str × Value)} {y : Str} {py : Pos} {it : Expr} {body : List Stmt} {pos : Pos} {led : Bool} {Q : Flow → Shared → Prop} (HB : Bs w B) (hM : B.get? M = some (setO led)) (S : SrO w B env Hc H s.heap ⟨ρ, rv, []⟩) (hA : AOK k A) (hi : RvO w B env ⟨ρ, rv, []⟩ it (.ref M))
    (hq : ∀ s', SrO w B env Hc H s'.heap ⟨ρ, rv, []⟩ → Kp s s' → Q .next s') (hfs : ∀ v, foldedSetIterable it env v = pure v := by intro _; rfl) : wpAny (model pg w) A (exec (.For (.Name y py) it body [] pos) env) Q E s := by
  refine wpAny_For (RvO.run hi S fun s₁ k₁ => ?_) hfs
  have S₁ := S.keeps k₁
  have hM₁ := S₁.base _ _ hM
  refine iter_set0 hM₁ ?_
  have k₂ : Kp s₁ { s₁ with heap := s₁.heap.push (sitO M) } := push_kp (t := s₁.toks)
  have S₂ := S₁.keeps k₂
  have nI := next_new s₁.heap
  refine codeAny_forLoop (fun m s' => s' = { s₁ with heap := s₁.heap.push (sitO M) }) ?_ 0 rfl
  rintro n s' rfl
  refine next_set0 hA.handled (S₂.base _ _ hM) (Heap.get?_push_size _ rfl) fun s₃ hk ⟨h', tk, e⟩ => ?_
  refine wpAny_execs_nil ?_
  have al : ∀ b, b ∈ H → b ≠ s₁.heap.objs.size := fun b hb q => by obtain ⟨o, e⟩ := S₁.lt b hb; rw [q, nI] at e; cases e
  have hBn : B.get? s₁.heap.objs.size = none := by
    cases e : B.get? s₁.heap.objs.size with
    | none => rfl
    | some o => have := S₁.base _ _ e; rw [nI] at this; cases this
  have S₃ : SrO w B env Hc H s₃.heap ⟨ρ, rv, []⟩ := S₂.turn0 (wr := [s₁.heap.objs.size]) (fun b o hb e => hk b o (fun q => hb (q ▸ .head _)) e) fun b hb => by
    rw [List.mem_singleton.mp hb]
    exact ⟨fun q => al _ q rfl, hBn, _, Heap.get?_push_size _ rfl, not_data_of rfl (by decide) (by decide) (by decide)⟩
  refine hq s₃ S₃ ?_
  subst e
  exact Kp.of (sm_trans k₁.sm ⟨_, _, rfl⟩) fun b o e => hk b o (fun q => by rw [q] at e; have := k₁.keep _ _ e; rw [nI] at this; cases this) (Heap.get?_push_of_some _ (k₁.keep b o e))
theorem stored_new {kvs : List (Str × Value)} {k : Str} {v : Value} (h : valueAt kvs k = none) : stored kvs k v = kvs ++ [(k, v)] := by
  unfold stored
  rw [if_neg]
  intro q
  rw [List.any_eq_true] at q
  obtain ⟨kv, h1, h2⟩ := q
  unfold valueAt at h
  rw [Option.map_eq_none_iff, List.find?_eq_none] at h
  exact h kv h1 h2
theorem wp_mark {i : Int} {ρ : Vars} {L : Addr} {n1 n2 : Nat} {p1 p2 p3 p4 p5 p6 p7 p8 : Pos} {rest : List Stmt} {Q : Flow → Shared → Prop} (HB : Bs w B) (hO : Ob w B x dx 224 (rdF M Dl D)) (S : SrO w B (nmE L) Hc H s.heap ⟨ρ, [("self", .ref x)], []⟩) (hA : AOK k A) (h1 : ρ.lookup ("modulename" : Str) = some (.str stem)) (hD : s.heap.DictOf (strKind pg w) D kvs) (hn : valueAt kvs stem = none) (hz : kvs.length ≤ 1000)
    (hq : ∀ tk tk' s', (∀ b o, b ≠ D → s.heap.get? b = some o → s'.heap.get? b = some o) → (∃ h' tk, s' = { s with heap := h', toks := tk }) → s'.heap.DictOf (strKind pg w) D (kvs ++ [(stem, .int i tk)]) → Q (.ret (.int i tk')) s') :
    wpAny (model pg w) A (execs (.Assign [.Subscript (.Attribute (.Name "self" p1) "_ignore" p2) (.Name "modulename" p3) p4] (.Constant (.int i) n1 p5) p6 :: .Return (some (.Constant (.int i) n2 p7)) p8 :: rest) (nmE L)) Q E s := by
  refine wpAny_execs_cons (wpAny_Assign_Subscript ?_)
  refine wpAny_Constant_int ?_
  have S₁ := S.keeps (Kp.tok (s := s) (s.toks + 1))
  refine RvO.run (s := { s with toks := s.toks + 1 }) (RvO.attrB HB hO cls224 rfl (v := .ref D) rfl (by kernel_rfl) rfl) S₁ fun s₂ k₂ => ?_
  have S₂ : SrO w B (nmE L) Hc H s₂.heap ⟨ρ, [("self", .ref x)], []⟩ := SrO.keeps (s := { s with toks := s.toks + 1 }) S₁ k₂
  refine EvO.run (d := .str stem) (fun Hc H h S => Ev.name h1) hA S₂ fun v as s₃ k₃ r => ?_
  cases r
  have kk := ((Kp.tok (s := s) (s.toks + 1)).comp k₂).comp k₃
  refine wpAny_setItem_pairs (knd := strKind pg w) (k := stem) (beq_self_eq_true stem) (hD.keep kk.keep) (fun h' hD' hs' => ?_) (by rw [sizeLine_eq]; omega)
  rw [stored_new hn] at hD'
  refine wpAny_execs_cons (wpAny_Return_some (wpAny_Constant_int ?_))
  refine hq _ _ _ (fun b o hb e => hs'.extBut b o hb (kk.keep b o e)) ?_ hD'
  exact sm_trans (Kp.sm kk) ⟨_, _, rfl⟩
end
end Mine
end
section
open PySem PySem.W PySem.Calls PyProof.Rows PySem.Spec
namespace Mine
section
variable {w : World} {A : Around} {E : Value → Shared → Prop} {s : Shared}
theorem wp_owned {M : Model} {target : Expr} {I l : Addr} {i : Nat} {v : Value} {Q : Unit → Shared → Prop} (ht : (∃ es n p, target = .Tuple es n p) ∨ ∃ x p, target = .Name x p) (hI : s.heap.IsListIter I l i) (h : Q () s) : wpAny M A (letOwnedTupleGo target (.ref I) v) Q E s := by
  rcases ht with ⟨es, n, p, rfl⟩ | ⟨x, p, rfl⟩
  · obtain ⟨⟨c, d, dt, sl⟩, ho, hc, hd⟩ := hI
    dsimp only at hc hd
    subst hc hd
    unfold letOwnedTupleGo
    dsimp only
    cases v with
    | ref a =>
      refine wpAny_bind (wpAny_load ho ?_)
      dsimp only
      refine wp_neg (fun q => ?_) (wpAny_pure h)
      simp at q
    | _ => exact wpAny_pure h
  · exact wpAny_pure h
theorem loop_list {target : Expr} {body : List Stmt} {env : Env} {R : Result → Shared → Prop} {Ls : Addr} {items : Array Value} (J : Addr → Nat → Shared → Prop) (ht : (∃ es n p, target = .Tuple es n p) ∨ ∃ x p, target = .Name x p) (hh : A.handled = none) (hl : s.heap.IsList Ls items)
    (h0 : ∀ o, ¬ dataC o → J s.heap.objs.size 0 { s with heap := s.heap.push o })
    (hJ : ∀ I i s₁ h' tk, J I i s₁ → (∀ b o, b ≠ I → s₁.heap.get? b = some o → h'.get? b = some o) → (∃ o, s₁.heap.get? I = some o ∧ ¬ dataC o) → J I i { s₁ with heap := h', toks := tk })
    (step : ∀ I i v s₁, i < items.size → items[i]? = some v → J I i s₁ → I ≠ Ls → (∃ o, s₁.heap.get? I = some o) → s₁.heap.IsList Ls items → wpAny (model pg w) A (assign target env v) (fun _ s₂ => wpAny (model pg w) A (execs body env) (fun f s₃ => match f with
      | .next => J I (i + 1) s₃ ∧ (∀ o, s₁.heap.get? I = some o → s₃.heap.get? I = some o) ∧ (∀ o, s₁.heap.get? Ls = some o → s₃.heap.get? Ls = some o)
      | .cont => J I (i + 1) s₃ ∧ (∀ o, s₁.heap.get? I = some o → s₃.heap.get? I = some o) ∧ (∀ o, s₁.heap.get? Ls = some o → s₃.heap.get? Ls = some o)
      | .brk => R (.ok .next) s₃
      | .ret v => R (.ok (.ret v)) s₃) (notedBy (model pg w) A env fun e s' => R (.error e) s') s₂) (notedBy (model pg w) A env fun e s' => R (.error e) s') s₁)
    (fin : ∀ I s', J I items.size s' → R (.ok .next) s') : wpAny (model pg w) A (pyIter (.ref Ls)) (fun it s₂ => codeAny (model pg w) A (.forLoop target it body [] env) R s₂) E s := by
  refine wpAny_pyIter_list hl ?_
  have hne : Ls ≠ s.heap.objs.size := (let ⟨_, e, _⟩ := hl; Nat.ne_of_lt (Heap.lt_size e))
  have W := Walks.list (prog := pg) (w := w) hh s.heap.objs.size Ls hne items
  have nd : ∀ (i : Nat) (h : Heap), h.IsListIter s.heap.objs.size Ls i → ∃ o, h.get? s.heap.objs.size = some o ∧ ¬ dataC o := fun i h ⟨o, e, c, _⟩ => ⟨o, e, not_data_of c (by decide) (by decide) (by decide)⟩
  have hst : (s.heap.push { cls := .type "list_iterator", data := .fields #[.ref Ls, .int 0 0] }).IsListIter s.heap.objs.size Ls 0 ∧ (s.heap.push { cls := .type "list_iterator", data := .fields #[.ref Ls, .int 0 0] }).IsList Ls items := ⟨⟨_, Heap.get?_push_size _ rfl, rfl, rfl⟩, hl.push _⟩
  refine codeAny_forLoop_any (fun m s' => ∃ i, m = items.size + 1 - i ∧ i ≤ items.size ∧ (s'.heap.IsListIter s.heap.objs.size Ls i ∧ s'.heap.IsList Ls items) ∧ J s.heap.objs.size i s') ?_ (items.size + 1) ⟨0, rfl, Nat.zero_le _, hst, h0 _ (not_data_of rfl (by decide) (by decide) (by decide))⟩
  rintro m s' ⟨i, rfl, hi, hst', hj⟩
  by_cases hlt : i < items.size
  · refine W.item i s' _ _ hlt hst' fun v h₁ tk₁ hP hst₁ hk₁ => ?_
    have hj₁ := hJ _ _ _ h₁ tk₁ hj (fun b o hb e => hk₁ b o (fun q => hb (List.mem_singleton.mp q)) e) (nd i _ hst'.1)
    refine wp_owned (s := { s' with heap := h₁, toks := tk₁ }) ht hst₁.1 ?_
    obtain ⟨oI, eI, _⟩ := nd _ _ hst₁.1
    refine wpAny_mono (step _ i v { s' with heap := h₁, toks := tk₁ } hlt hP hj₁ (Ne.symm hne) ⟨oI, eI⟩ hst₁.2) (fun _ s₂ h₂ => wpAny_mono h₂ (fun f s₃ h₃ => ?_) fun _ _ z => z) fun _ _ z => z
    have go : (J s.heap.objs.size (i + 1) s₃ ∧ (∀ o, h₁.get? s.heap.objs.size = some o → s₃.heap.get? s.heap.objs.size = some o) ∧ (∀ o, h₁.get? Ls = some o → s₃.heap.get? Ls = some o)) → ∃ m, m < items.size + 1 - i ∧ ∃ i, m = items.size + 1 - i ∧ i ≤ items.size ∧ (s₃.heap.IsListIter s.heap.objs.size Ls i ∧ s₃.heap.IsList Ls items) ∧ J s.heap.objs.size i s₃ := fun ⟨a, b, c⟩ =>
      ⟨items.size + 1 - (i + 1), by omega, i + 1, rfl, hlt, ⟨hst₁.1.at fun o e => b o e, hst₁.2.at fun o e => c o e⟩, a⟩
    cases f with
    | next => exact go h₃
    | cont => exact go h₃
    | brk => exact h₃
    | ret v => exact h₃
  · have hin : i = items.size := by omega
    subst hin
    refine W.done s' _ _ hst' fun h₁ tk₁ hk₁ => wpAny_execs_nil ?_
    exact fin _ _ (hJ _ _ _ h₁ tk₁ hj (fun b o hb e => hk₁ b o (fun q => hb (List.mem_singleton.mp q)) e) (nd _ _ hst'.1))
end
end Mine
end
section
open PySem PySem.W PySem.Calls PyProof.Rows PySem.Spec
namespace Mine
section
variable {w : World} {B : Heap} {k : Nat} {x dx M Dl D : Addr} {A : Around} {E : Value → Shared → Prop} {s : Shared} {kvs : List (Str × Value)} {stem word : Str}
theorem strValues_get {l : List (Str × Tok)} {i : Nat} {v : Value} (h : (strValues l).toArray[i]? = some v) : ∃ t, ∃ d, (l.map (·.1))[i]? = some d ∧ v = .str d t := by
  have h : (strValues l)[i]? = some v := by simpa using h
  unfold strValues at h
  rw [List.getElem?_map] at h
  obtain ⟨p, h1, h2⟩ := Option.map_eq_some_iff.mp h
  exact ⟨p.2, p.1, by rw [List.getElem?_map, h1]; rfl, h2.symm⟩
theorem any_snoc {α : Type} {xs : List α} {p : α → Bool} {i : Nat} {a : α} (h : xs[i]? = some a) : (xs.take (i + 1)).any p = ((xs.take i).any p || p a) := by
  rw [List.take_add_one, h]
  simp
theorem names_raw (HB : Bs w B) {l : List (Str × Tok)} {led : Bool} {t1 t2 : Tok} {Q : Value → Shared → Prop} (hA : AOK (k + 1) A) (hB : B.StaysIn s.heap) (hO : Ob w B x dx 224 (rdF M Dl D)) (hM : B.get? M = some (setO led)) (hDl : B.IsList Dl (strValues l).toArray)
    (hD : s.heap.DictOf (strKind pg w) D kvs) (hDB : B.get? D = none) (hds : (D == sysModules) = false) (hn : valueAt kvs stem = none) (hz : kvs.length ≤ 1000) (hw : word.length ≤ 1000) (hl : ∀ p ∈ l, p.1.length ≤ 1000)
    (hq : ∀ tk tk' s', (∀ b o, b ≠ D → s.heap.get? b = some o → s'.heap.get? b = some o) → (∃ h' tk, s' = { s with heap := h', toks := tk }) → s'.heap.DictOf (strKind pg w) D (kvs ++ [(stem, .int (if hitB (l.map (·.1)) word = true then 1 else 0) tk)]) → Q (.int (if hitB (l.map (·.1)) word = true then 1 else 0) tk') s') :
    wpAny (model pg w) A (call (.ref 221) [.ref x, .str word t1, .str stem t2]) Q E s := by
  have aD : ∃ o, s.heap.get? D = some o := by obtain ⟨o, _, _, e, _⟩ := hD; exact ⟨o, e⟩
  refine wpAny_call (enterO (k := k) (x := x) (fd := fd221) (body := bdS (mth 29 1)) (names := ["filename", "modulename"]) (ds := [.str word, .str stem]) (vs := [.str word t1, .str stem t2]) (kws := []) (T := []) (H := [D]) HB (by kernel_rfl) (by kernel_rfl) (by decide +kernel) rfl hA hB (fun c hc => by rw [List.mem_singleton.mp hc]; exact aD) ⟨(fun o ho => nomatch ho), .nil⟩ (.cons (as := []) (.str _ _) (.cons (as := []) (.str _ _) .nil)) (BindsTo.of_eq (by kernel_rfl)) fun L s₂ k₂ S nfp => ?_)
  have hE : EnvOK (nmE L) := envOKC fd221 (by kernel_rfl)
  have hA' : AOK k (A.deeper (nmE L)) := hA.deeper
  have inHc : D ∈ hcO [D] [] := mem_hcO.mpr ⟨.head _, by simp⟩
  have nH : ∀ c o, c ≠ D → s.heap.get? c = some o → c ∉ fp (nmE L) ++ [D] := fun c o h1 e z => by
    rcases List.mem_append.mp z with z | z
    · rw [nfp c z] at e; cases e
    · exact h1 (List.mem_singleton.mp z)
  have hD₂ := hD.keep k₂.keep
  refine wpAny_execs_cons (wpAny_If (wp_inD HB hO S hA' rfl rfl hds hD₂ hn fun s₃ k₃ => ?_))
  rw [if_neg (by decide)]
  refine wpAny_execs_nil ?_
  have S₃ := S.keeps k₃
  refine wpAny_execs_cons (wpAny_If (wp_inM HB hO hM S₃ hA' rfl rfl fun s₄ k₄ => ?_))
  rw [if_neg (by decide)]
  refine wpAny_execs_nil ?_
  have S₄ := S₃.keeps k₄
  refine wpAny_execs_cons (for_set0 HB hM S₄ hA' (RvO.attrB HB hO cls224 rfl rfl (by kernel_rfl) rfl) fun s₅ S₅ k₅ => ?_)
  refine wpAny_execs_cons (wpAny_If (TsO.run (b := false) (fun Hc H h S => Ts.cmp (a := .str word) Ev.name Ev.cNone (Cmp.isN (by intro e; cases e))) hA' S₅ fun s₆ k₆ => ?_))
  rw [if_neg (by decide)]
  refine wpAny_execs_nil ?_
  have S₆ := S₅.keeps k₆
  have kk₆ := (((k₂.comp k₃).comp k₄).comp k₅).comp k₆
  -- for d in self._dirs
  refine wpAny_execs_cons (wpAny_For (RvO.run (RvO.attrB HB hO cls224 rfl (v := .ref Dl) rfl (by kernel_rfl) rfl) S₆ fun s₇ k₇ => ?_) (by intro _; rfl))
  have S₇ := S₆.keeps k₇
  have kk₇ := kk₆.comp k₇
  have hL₇ : s₇.heap.IsList Dl (strValues l).toArray := hDl.at fun o e => S₇.base _ _ e
  have hD₇ := hD.keep kk₇.keep
  have nI := next_new s₇.heap
  have nIs : s.heap.get? s₇.heap.objs.size = none := by
    cases e : s.heap.get? s₇.heap.objs.size with
    | none => rfl
    | some o => have := kk₇.keep _ _ e; rw [nI] at this; cases this
  have nIB : B.get? s₇.heap.objs.size = none := by
    cases e : B.get? s₇.heap.objs.size with
    | none => rfl
    | some o => have := S₇.base _ _ e; rw [nI] at this; cases this
  have nIH : s₇.heap.objs.size ∉ fp (nmE L) ++ [D] := fun z => by obtain ⟨o, e⟩ := S₇.lt _ z; rw [nI] at e; cases e
  refine loop_list (s := s₇) (fun I i s' => ∃ ρ', SrO w B (nmE L) (hcO [D] []) (fp (nmE L) ++ [D]) s'.heap ⟨ρ', [("self", .ref x)], []⟩ ∧ ρ'.lookup ("filename" : Str) = some (.str word) ∧ ρ'.lookup ("modulename" : Str) = some (.str stem) ∧ s'.heap.DictOf (strKind pg w) D kvs ∧ (∀ b o, b ≠ D → s.heap.get? b = some o → s'.heap.get? b = some o) ∧ (∃ h' tk, s' = { s with heap := h', toks := tk }) ∧ I ∉ fp (nmE L) ++ [D] ∧ s.heap.get? I = none ∧ B.get? I = none ∧ ((l.map (·.1)).take i).any (fun d => Txt.startswith word (d ++ "/")) = false) (.inr ⟨_, _, rfl⟩) hA'.handled hL₇ ?_ ?_ ?_ ?_
  · intro o hno
    have k₈ : Kp s₇ { s₇ with heap := s₇.heap.push o } := push_kp (t := s₇.toks)
    refine ⟨_, S₇.keeps k₈, rfl, rfl, hD₇.keep k₈.keep, fun b o' _ e => k₈.keep b o' (kk₇.keep b o' e), ?_, nIH, nIs, nIB, rfl⟩
    exact (kk₇.comp k₈).sm
  · rintro I i s₁ h' tk ⟨ρ', S', l1, l2, hD', kp, ⟨h₁, tk₁, rfl⟩, n1, n2, n3, ha⟩ hk ⟨oI, eI, nI'⟩
    refine ⟨ρ', S'.turn0 (wr := [I]) (fun b o hb e => hk b o (fun q => hb (q ▸ .head _)) e) fun b hb => ?_, l1, l2, hD'.at fun o e => hk _ o (fun q => n1 (q ▸ List.mem_append_right _ (.head _))) e, fun b o hb e => hk b o (fun q => by rw [q, n2] at e; cases e) (kp b o hb e), ⟨h', tk, rfl⟩, n1, n2, n3, ha⟩
    rw [List.mem_singleton.mp hb]
    exact ⟨n1, n3, oI, eI, nI'⟩
  · rintro I i v s₁ hi hv ⟨ρ', S', l1, l2, hD', kp, same, n1, n2, n3, ha⟩ hIL ⟨oI, eI⟩ hls
    obtain ⟨t, d, hd, rfl⟩ := strValues_get hv
    have hdl : d.length ≤ 1000 := by
      obtain ⟨p, hp, rfl⟩ := List.mem_map.mp (List.mem_of_getElem? hd)
      exact hl p hp
    refine wpAny_assign_Name ?_
    refine S'.store (x := "d") (d := .str d) (as := []) (.inl (by kernel_rfl)) rfl (.str _ _) fun s₉ S₉ m₉ => ?_
    have es : ("/" : Str).length = 1 := by decide +kernel
    refine wpAny_execs_cons (wpAny_If (TsO.run (b := Txt.startswith word (d ++ "/")) (fun Hc H h S => Ts.plain (d := .bool (Txt.startswith word (d ++ "/"))) (Ev.startswith (a := word) (b := d ++ "/") (Ev.name l1) (Ev.addS (a := d) (b := "/") Ev.name (Ev.glob (t := 333) (HB.up S.base) hE (by kernel_rfl) (by kernel_rfl)) (by rw [es, sizeLine_eq]; omega))) trivial) hA' S₉ fun s₁₀ k₁₀ => ?_))
    have S₁₀ := S₉.keeps k₁₀
    have kI : ∀ o, s₁.heap.get? I = some o → s₁₀.heap.get? I = some o := fun o e => k₁₀.keep _ _ (m₉.sub I o (.inr n1) e)
    have kp₁₀ : ∀ b o, b ≠ D → s.heap.get? b = some o → s₁₀.heap.get? b = some o := fun b o hb e => k₁₀.keep b o (m₉.sub b o (.inr (nH b o hb e)) (kp b o hb e))
    have hD₁₀ : s₁₀.heap.DictOf (strKind pg w) D kvs := (hD'.at fun o e => m₉.sub D o (.inl inHc) e).keep k₁₀.keep
    have same₁₀ : ∃ h' tk, s₁₀ = { s with heap := h', toks := tk } := by
      exact sm_trans same (sm_trans m₉.same (Kp.sm k₁₀))
    cases hb : Txt.startswith word (d ++ "/") with
    | true =>
      rw [if_pos rfl]
      refine wp_mark HB hO S₁₀ hA' l2 hD₁₀ hn hz fun tk tk' s' kp' same' hD'' => ?_
      have hit : hitB (l.map (·.1)) word = true := by
        unfold hitB
        exact List.any_eq_true.mpr ⟨d, List.mem_of_getElem? hd, hb⟩
      have := hq tk tk' s' (fun b o hb e => kp' b o hb (kp₁₀ b o hb e)) (sm_trans same₁₀ same')
      rw [if_pos hit] at this
      exact this hD''
    | false =>
      rw [if_neg (by decide)]
      refine wpAny_execs_nil (wpAny_execs_nil ⟨⟨_, S₁₀, l1, l2, hD₁₀, kp₁₀, same₁₀, n1, n2, n3, ?_⟩, kI, fun o e => ?_⟩)
      · rw [any_snoc hd, ha, hb]; rfl
      · obtain ⟨od, ed, _⟩ := hDl
        have := S'.base _ _ ed
        rw [e] at this; cases this
        exact S₁₀.base _ _ ed
  · rintro I s' ⟨ρ', S', l1, l2, hD', kp, same, n1, n2, n3, ha⟩
    refine wp_mark HB hO S' hA' l2 hD' hn hz fun tk tk' s'' kp' same' hD'' => ?_
    have hit : hitB (l.map (·.1)) word = false := by
      have e : (l.map (·.1)).length = (strValues l).toArray.size := by simp [strValues]
      rw [← e, List.take_length] at ha
      exact ha
    have := hq tk tk' s'' (fun b o hb e => kp' b o hb (kp b o hb e)) (sm_trans same same')
    rw [if_neg (by rw [hit]; decide)] at this
    exact this hD''
end
end Mine
end
section
open PySem PySem.W PySem.Calls PyProof.Rows PySem.Spec
namespace Mine
noncomputable def npOk (p : Str) : Bool := decide (p.length ≤ 1000) && (p.length != 0) && (Txt.slice p none (some 1) != "/") && (Txt.split p "/").all plainPart && decide ((Txt.split p "/").length ≤ 1000) && decide ((Builtin.Str.partsBetween p (Builtin.Str.occurrences p "/" 0 p.length (p.length + 1)) ("/" : Str).length).length ≤ 1000) && (Txt.join "/" (Txt.split p "/") == p) && JoinOk "/" (Txt.split p "/")
section
variable {w : World} {B : Heap} {k : Nat} {env : Env} {ρ : Vars}
theorem np_ok (HB : Bs w B) {p : Str} (h : npOk p = true) : CallOK w B (k + 3) 201 [.str p] (.str p) := by
  simp only [npOk, Bool.and_eq_true, decide_eq_true_eq, beq_iff_eq] at h
  obtain ⟨⟨⟨⟨⟨⟨⟨h1, h2⟩, h3⟩, h4⟩, h5⟩, h6⟩, h7⟩, h8⟩ := h
  exact normpath_ok HB p h1 h2 h3 h4 h5 h6 h7 h8 (emp_app p)
theorem Ev.ifexp {t e1 e2 : Expr} {pos : Pos} {c : Bool} {d : PyData} (ht : Ts w B k env ρ t c) (h1 : c = true → Ev w B k env ρ e1 d) (h2 : c = false → Ev w B k env ρ e2 d) : Ev w B k env ρ (.IfExp t e1 e2 pos) d := fun A s H Q E hA C hq => by
  refine IfExp_ (ht A s H _ E hA C fun s₁ k₁ => ?_)
  cases c with
  | true => exact h1 rfl A s₁ H Q E hA (C.keeps k₁) fun v as s₂ k₂ r => hq v as s₂ (k₁.comp k₂) r
  | false => exact h2 rfl A s₁ H Q E hA (C.keeps k₁) fun v as s₂ k₂ r => hq v as s₂ (k₁.comp k₂) r
noncomputable abbrev igE (L : Addr) : Env := callEnvC fd214 L 214
theorem reads_list_strs {h : Heap} {H : List Addr} {v : Value} {dirs : List Str} {as : List Addr} (r : Reads (hideAll h H) v (.list (dirs.map .str)) as) : ∃ Dl l, v = .ref Dl ∧ h.IsList Dl (strValues l).toArray ∧ l.map (·.1) = dirs ∧ Dl ∉ H := by
  cases r with
  | list h1 h2 h3 h4 =>
    obtain ⟨l, e1, e2⟩ := reads_strs h4
    exact ⟨_, l, rfl, ⟨_, of_hideAll H h1, h2, _, by rw [h3, ← e1]⟩, e2, not_hid h1⟩
theorem LC.mapF {α : Type} {f g : α → PyData} {E : Addr → Env} {ρf : Vars} {y : Str} {elt : Expr} : ∀ {as : List α}, (∀ a ∈ as, ∀ C, Ev w B k (E C) ((y, f a) :: ρf) elt (g a)) → LC w B k E ρf y [] elt (as.map f) (as.map g)
  | [], _ => LC.nil
  | a :: as, h => LC.keep (fun C => TsL.nil) (fun C => h a (.head _) C) (LC.mapF fun b hb => h b (.tail _ hb))
theorem nd1 {k : Str} {t : Tok} {v : Value} : ((strPairs [(Value.str k t, v)]).map (·.1)).Nodup := by
  show [k].Nodup
  simp
theorem fit_cons {a : Str} {b : Value} {l : List (Str × AV)} {us : List (Str × Value)} (h : Fit ((a, .raw b) :: l) us) : ∃ r, us = (a, b) :: r ∧ Fit l r := by
  cases us with
  | nil => exact h.elim
  | cons p r =>
    obtain ⟨y, v⟩ := p
    obtain ⟨e, hv, hr⟩ := h
    have hv : b = v := hv
    exact ⟨r, by rw [e, hv], hr⟩
theorem fit3 {a1 a2 a3 : Str} {b1 b2 b3 : Value} {us : List (Str × Value)} (h : Fit [(a1, .raw b1), (a2, .raw b2), (a3, .raw b3)] us) : us = [(a1, b1), (a2, b2), (a3, b3)] := by
  obtain ⟨r1, rfl, g1⟩ := fit_cons h
  obtain ⟨r2, rfl, g2⟩ := fit_cons g1
  obtain ⟨r3, rfl, g3⟩ := fit_cons g2
  cases r3 with
  | nil => rfl
  | cons p r => exact g3.elim
structure IgMade (w : World) (s s' : Shared) (H0 : List Addr) (x dx M Dl D : Addr) (dirs : List Str) : Prop where
  same : ∃ h' tk, s' = { s with heap := h', toks := tk }
  keep : ∀ c o, c ≠ dx → s.heap.get? c = some o → s'.heap.get? c = some o
  ob : Ob w s'.heap x dx 224 (rdF M Dl D)
  mods : ∃ led, s'.heap.get? M = some (setO led)
  dirs : ∃ l, s'.heap.IsList Dl (strValues l).toArray ∧ l.map (·.1) = dirs
  dict : ∃ tk, s'.heap.DictOf (strKind pg w) D [("<string>", .int 1 tk)]
  nD : s.heap.get? D = none
  ds : (D == sysModules) = false
  nM : M ∉ H0
  nDl : Dl ∉ H0
set_option maxHeartbeats 1000000 in
theorem iginit_raw {x dx : Addr} {H0 : List Addr} (HB : Bs w B) {A : Around} {s : Shared} {v : Value} {as : List Addr} {dirs : List Str} {R : Result → Shared → Prop} (hA : AOK (k + 4) A) (hB : B.StaysIn s.heap) (hn : B.get? dx = none) (hne : x ≠ dx) (hx : s.heap.get? x = some (instObj 224 dx)) (hdx : s.heap.get? dx = some emptyDict) (hal : ∀ b ∈ H0, ∃ o, s.heap.get? b = some o) (hx0 : x ∉ H0)
    (r : Reads (hideAll s.heap (dx :: H0)) v (.list (dirs.map .str)) as) (hd : ∀ p ∈ dirs, npOk p = true) (hz : dirs.length ≤ 1000)
    (hq : ∀ M Dl D s', IgMade w s s' H0 x dx M Dl D dirs → R (.ok (.ret .none)) s') : codeAny (model pg w) A (.call (.ref 214) ⟨[.ref x, .none, v], []⟩) R s := by
  have hO : Ob w s.heap x dx 224 [] := ⟨[], 0, #[], rfl, hx, hdx⟩
  have hT : TIn w B s.heap (dx :: H0) [⟨x, dx, 224, []⟩] := by
    refine ⟨fun o ho => ?_, .cons (fun _ h => nomatch h) .nil⟩
    rw [List.mem_singleton.mp ho]
    exact ⟨⟨[], hO, trivial⟩, .head _, hn, fun q => (List.mem_cons.mp q).elim hne hx0⟩
  have h5 : s.heap.get? 209 = some ⟨(.type "tuple"), none, .seq #[.none, .none] 0, #[]⟩ := K_at HB hB (by kernel_rfl)
  refine enterO (k := k + 3) (x := x) (fd := fd214) (body := bdS (mth 29 0)) (names := ["modules", "dirs"]) (ds := [.none, .list (dirs.map .str)]) (vs := [.none, v]) (kws := []) (T := [⟨x, dx, 224, []⟩]) (H := dx :: H0) HB (by kernel_rfl) (by kernel_rfl) (by decide +kernel) rfl hA hB (fun c hc => (List.mem_cons.mp hc).elim (fun q => by rw [q]; exact ⟨_, hdx⟩) (hal c)) hT
    (.cons (as := []) .none (.cons (bs := []) r .nil)) (BindsTo.of_defaults (T := 209) rfl h5 rfl rfl (by kernel_rfl)) fun L s₂ k₂ S nfp => ?_
  have hA' : AOK (k + 3) (A.deeper (igE L)) := hA.deeper
  have hE : EnvOK (igE L) := envOKC fd214 (by kernel_rfl)
  have nd : ∀ c o, c ≠ dx → s.heap.get? c = some o → c ∈ hcO (dx :: H0) [⟨x, dx, 224, []⟩] ∨ c ∉ fp (igE L) ++ (dx :: H0) := fun c o h1 e => by
    by_cases q : c ∈ H0
    · exact .inl (mem_hcO.mpr ⟨.tail _ q, fun z => h1 (List.mem_singleton.mp z)⟩)
    · refine .inr fun z => ?_
      rcases List.mem_append.mp z with z | z
      · rw [nfp c z] at e; cases e
      · exact (List.mem_cons.mp z).elim h1 q
  -- self._mods
  refine wpAny_execs_cons (plainObj_wpAny_Assign_Attribute (IfExp_ (TsO.run (b := true) (fun Hc H h S => Ts.not (Ts.plain (d := .none) Ev.name trivial)) hA' S fun s₃ k₃ => ?_)))
  rw [if_pos rfl]
  have S₃ := S.keeps k₃
  refine Call_Name0 (blt (w := w) HB hE S₃.base (x := "set") (by kernel_rfl) (by kernel_rfl) rfl (by decide) ?_)
  refine PySem.callWith_type rfl (evalArgs_nil3 (call_set_0 fun led => ?_))
  have k₄ : Kp s₃ { s₃ with heap := s₃.heap.push (setO led) } := push_kp (t := s₃.toks)
  have S₄ := S₃.keeps k₄
  have nM : s₃.heap.objs.size ∉ fp (igE L) ++ (dx :: H0) := fun z => by obtain ⟨o, e⟩ := S₃.lt _ z; rw [next_new] at e; cases e
  generalize hMe : s₃.heap.objs.size = M at *
  have hM₄ : (s₃.heap.push (setO led)).get? M = some (setO led) := by rw [← hMe]; exact Heap.get?_push_size _ rfl
  refine RvO.run (s := { s₃ with heap := s₃.heap.push (setO led) }) (RvO.name rfl) S₄ fun s₅ k₅ => ?_
  have S₅ := S₄.keeps k₅
  refine SrO.set (M := model pg w) (a := .raw (.ref M)) HB S₅ ⟨x, dx, 224, []⟩ cls224 (.head _) (by kernel_rfl) (by show 0 ≤ 900; decide) rfl fun s₆ S₆ m₆ => ?_
  have hM₆ : s₆.heap.get? M = some (setO led) := m₆.sub M _ (.inr nM) (k₅.keep _ _ hM₄)
  have S₆ : SrO w B (igE L) (hcO (dx :: H0) [⟨x, dx, 224, []⟩]) (fp (igE L) ++ (dx :: H0)) s₆.heap ⟨[("modules", .none), ("dirs", .list (dirs.map .str))], [("self", .ref x)], [⟨x, dx, 224, [("_mods", .raw (.ref M))]⟩]⟩ := by
    have e : upd dx "_mods" (.raw (.ref M)) [⟨x, dx, 224, []⟩] = [⟨x, dx, 224, [("_mods", .raw (.ref M))]⟩] := by rw [upd1]; rfl
    rw [← e]; exact S₆
  -- self._dirs
  refine wpAny_execs_cons (plainObj_wpAny_Assign_Attribute (EvO.run (d := .list (dirs.map .str)) (fun Hc H h S => Ev.ifexp (c := dirs.isEmpty) (Ts.eq (Ts.not (Ts.plain (d := .list (dirs.map .str)) Ev.name (by show (dirs.map PyData.str).length ≤ 1000000; rw [List.length_map]; omega))) ?_) (fun hc => ?_) fun hc => ?_) hA' S₆ fun v₇ as₇ s₇ k₇ r₇ => ?_))
  · show (!(!(dirs.map PyData.str).isEmpty)) = dirs.isEmpty
    cases dirs <;> rfl
  · have : dirs = [] := List.isEmpty_iff.mp hc
    subst this
    exact Ev.disp (ds := []) EvAll.nil (by decide)
  · refine Ev.lc _ [] (Src.list Ev.name) rfl (by decide +kernel) trivial ?_ (by rw [List.length_map]; omega)
    exact LC.mapF fun p hp C => Ev.fn 201 fd201 (HB.up S.base) ⟨hE.kind, hE.globals, hE.builtins⟩ (by kernel_rfl) (EvAll.cons (Ev.name (d := .str p)) EvAll.nil) (np_ok (k := k) (HB.up S.base) (hd p hp))
  obtain ⟨Dl, l, rfl, hl₇, el, nDl⟩ := reads_list_strs r₇
  have S₇ := S₆.keeps k₇
  refine RvO.run (RvO.name rfl) S₇ fun s₈ k₈ => ?_
  have S₈ := S₇.keeps k₈
  refine SrO.set (M := model pg w) (a := .raw (.ref Dl)) HB S₈ ⟨x, dx, 224, [("_mods", .raw (.ref M))]⟩ cls224 (.head _) (by kernel_rfl) (by show 1 ≤ 900; decide) rfl fun s₉ S₉ m₉ => ?_
  have hM₉ : s₉.heap.get? M = some (setO led) := m₉.sub M _ (.inr nM) (k₈.keep _ _ (k₇.keep _ _ hM₆))
  have hl₉ : s₉.heap.IsList Dl (strValues l).toArray := hl₇.at fun o e => m₉.sub Dl o (.inr nDl) (k₈.keep _ _ e)
  have S₉ : SrO w B (igE L) (hcO (dx :: H0) [⟨x, dx, 224, []⟩]) (fp (igE L) ++ (dx :: H0)) s₉.heap ⟨[("modules", .none), ("dirs", .list (dirs.map .str))], [("self", .ref x)], [⟨x, dx, 224, [("_mods", .raw (.ref M)), ("_dirs", .raw (.ref Dl))]⟩]⟩ := by
    have e : upd dx "_dirs" (.raw (.ref Dl)) [⟨x, dx, 224, [("_mods", .raw (.ref M))]⟩] = [⟨x, dx, 224, [("_mods", .raw (.ref M)), ("_dirs", .raw (.ref Dl))]⟩] := by rw [upd1]; rfl
    rw [← e]; exact S₉
  -- self._ignore
  refine wpAny_execs_cons (plainObj_wpAny_Assign_Attribute ?_)
  refine wpAny_Dict_walk (knd := strKind pg w) rfl rfl (by simp) (by decide) ?_
  refine pairTrees_cons_walk (Constant_str (wpAny_Constant_int (pairTrees_nil_walk ?_)))
  have nD := next_new s₉.heap
  refine display_done_str rfl nd1 (Heap.DictOf.new _) fun h₁₀ hD₁₀ hs₁₀ => ?_
  have kp₁₀ : ∀ b o, s₉.heap.get? b = some o → h₁₀.get? b = some o := fun b o e => hs₁₀.extBut b o (fun q => by rw [q, nD] at e; cases e) (Heap.get?_push_of_some _ e)
  generalize hDe : s₉.heap.objs.size = D at *
  have k₁₀ : ∀ tk, Kp s₉ { s₉ with heap := h₁₀, toks := tk } := fun tk => Kp.to kp₁₀
  have nDH : D ∉ fp (igE L) ++ (dx :: H0) := fun z => by obtain ⟨o, e⟩ := S₉.lt _ z; rw [nD] at e; cases e
  refine RvO.run (s := { s₉ with heap := h₁₀, toks := _ }) (RvO.name rfl) (S₉.keeps (k₁₀ _)) fun s₁₁ k₁₁ => ?_
  have S₁₁ := (S₉.keeps (k₁₀ s₉.toks)).keeps (s := { s₉ with heap := h₁₀, toks := _ }) k₁₁
  refine SrO.set (M := model pg w) (a := .raw (.ref D)) HB S₁₁ ⟨x, dx, 224, [("_mods", .raw (.ref M)), ("_dirs", .raw (.ref Dl))]⟩ cls224 (.head _) (by kernel_rfl) (by show 2 ≤ 900; decide) rfl fun s' S' m' => ?_
  refine wpAny_execs_nil ?_
  have kk : ∀ c, (c ∈ hcO (dx :: H0) [⟨x, dx, 224, []⟩] ∨ c ∉ fp (igE L) ++ (dx :: H0)) → ∀ o, s₉.heap.get? c = some o → s'.heap.get? c = some o := fun c hc o e => m'.sub c o hc (k₁₁.keep c o (kp₁₀ c o e))
  have keep : ∀ c o, c ≠ dx → s.heap.get? c = some o → s'.heap.get? c = some o := fun c o h1 e => by
    have nH := nd c o h1 e
    exact kk c nH o (m₉.sub c o nH (k₈.keep c o (k₇.keep c o (m₆.sub c o nH (k₅.keep c o (k₄.keep c o (k₃.keep c o (k₂.keep c o e))))))))
  have S' : SrO w B (igE L) (hcO (dx :: H0) [⟨x, dx, 224, []⟩]) (fp (igE L) ++ (dx :: H0)) s'.heap ⟨[("modules", .none), ("dirs", .list (dirs.map .str))], [("self", .ref x)], [⟨x, dx, 224, [("_mods", .raw (.ref M)), ("_dirs", .raw (.ref Dl)), ("_ignore", .raw (.ref D))]⟩]⟩ := by
    have e : upd dx "_ignore" (.raw (.ref D)) [⟨x, dx, 224, [("_mods", .raw (.ref M)), ("_dirs", .raw (.ref Dl))]⟩] = [⟨x, dx, 224, [("_mods", .raw (.ref M)), ("_dirs", .raw (.ref Dl)), ("_ignore", .raw (.ref D))]⟩] := by rw [upd1]; rfl
    rw [← e]; exact S'
  obtain ⟨⟨us, O, hf⟩, _⟩ := S'.obs _ (.head _)
  have us_is : us = rdF M Dl D := fit3 hf
  subst us_is
  refine hq M Dl D s' ⟨?_, keep, O, ⟨led, kk M (.inr nM) _ hM₉⟩, ⟨l, hl₉.at fun o e => kk Dl (.inr nDl) o e, el⟩, ⟨_, (hD₁₀.at fun o e => m'.sub D o (.inr nDH) (k₁₁.keep D o e))⟩, ?_, ?_, fun q => nM (List.mem_append_right _ (.tail _ q)), fun q => nDl (List.mem_append_right _ (.tail _ q))⟩
  · exact sm_trans (Kp.sm k₂ :) (sm_trans (Kp.sm k₃ :) (sm_trans (Kp.sm k₅ :) (sm_trans m₆.same (sm_trans (Kp.sm k₇ :) (sm_trans (Kp.sm k₈ :) (sm_trans m₉.same (sm_trans (Kp.sm k₁₁ :) m'.same)))))))
  · cases e : s.heap.get? D with
    | none => rfl
    | some o =>
      by_cases q : D = dx
      · exact absurd (List.mem_append_right _ (by rw [q]; exact .head _)) nDH
      · have nH := nd D o q e
        have := m₉.sub D o nH (k₈.keep D o (k₇.keep D o (m₆.sub D o nH (k₅.keep D o (k₄.keep D o (k₃.keep D o (k₂.keep D o e)))))))
        rw [nD] at this; cases this
  · have hlt : (963 : Nat) < s₉.heap.objs.size := Heap.lt_size (S₉.base _ _ (HB.K 963 ⟨.type "function", none, .func fd963, #[]⟩ (by kernel_rfl)))
    rw [hDe] at hlt
    rw [beq_eq_false_iff_ne]
    show (D : Nat) ≠ (1 : Nat)
    omega
end
end Mine
end
section
open PySem PySem.W PySem.Calls PyProof.Rows PySem.Spec
namespace Mine
section
variable {w : World} {B : Heap} {k : Nat} {A : Around} {E : Value → Shared → Prop} {s : Shared}
theorem assign_pair {env : Env} {x y : Str} {px py pos : Pos} {n : Nat} {l : Addr} {a b : Value} {Q : Unit → Shared → Prop} (hh : A.handled = none) (hl : s.heap.IsList l #[a, b])
    (h : ∀ h', (∀ c o, s.heap.get? c = some o → h'.get? c = some o) → wpAny (model pg w) A (storeName env x a) (fun _ s₁ => wpAny (model pg w) A (storeName env y b) Q E s₁) E { s with heap := h' }) :
    wpAny (model pg w) A (assign (.Tuple [.Name x px, .Name y py] n pos) env (.ref l)) Q E s := by
  have hlt : l ≠ s.heap.objs.size := by obtain ⟨o, ho, _⟩ := hl; exact Nat.ne_of_lt (Heap.lt_size ho)
  rw [assign_Tuple]
  refine wpAny_bind (wpAny_standAt ?_)
  unfold unpack
  refine wpAny_bind (wpAny_holding ?_)
  show wpAny _ _ (unpackItems (.ref l) 2 none) _ _ _
  unfold unpackItems
  refine wpAny_bind ?_
  unfold notIterableAtAll
  refine wpAny_bind (wpAny_specialOf hl.typeIs slot_list_iter.lookup ?_)
  refine wpAny_pure ?_
  simp only [Bool.false_eq_true, if_false]
  refine wpAny_bind (wpAny_holding (wpAny_pyIter_list hl ?_))
  have hit : (s.heap.push { cls := .type "list_iterator", data := .fields #[.ref l, .int 0 0] }).IsListIter s.heap.objs.size l 0 := ⟨_, Heap.get?_push_size _ rfl, rfl, rfl⟩
  refine wpAny_bind (wpAny_holding ?_)
  show wpAny _ _ (pyNext (.ref s.heap.objs.size) >>= _) _ _ _
  refine wpAny_bind (wpAny_pyNext_list_item hit (hl.push _) (x := a) rfl fun h₁ hit₁ hs₁ => ?_)
  have hl₁ : h₁.IsList l #[a, b] := (hl.push _).at fun o e => hs₁.extBut _ o hlt e
  refine wpAny_bind (wpAny_holding ?_)
  show wpAny _ _ (pyNext (.ref s.heap.objs.size) >>= _) _ _ _
  refine wpAny_bind (wpAny_pyNext_list_item (s := { s with heap := h₁ }) hit₁ hl₁ (x := b) rfl fun h₂ hit₂ hs₂ => ?_)
  have hl₂ : h₂.IsList l #[a, b] := hl₁.at fun o e => hs₂.extBut _ o hlt e
  refine wpAny_bind (wpAny_holding (wpAny_pure (wpAny_pure (wpAny_pure ?_))))
  simp only [List.length_cons, List.length_nil]
  refine wp_neg (by decide) ?_
  refine wpAny_bind (wpAny_holding (wpAny_pyNext_list_end (s := { s with heap := h₂ }) hh hit₂ hl₂ rfl fun h₃ he₃ => ?_))
  simp only [Option.isSome_none, Bool.false_eq_true, if_false]
  refine wpAny_pure ?_
  show wpAny _ _ (do holding [b] (assign (.Name x px) env a); holding [] (assign (.Name y py) env b); pure ()) _ _ _
  refine wpAny_bind (wpAny_holding (wpAny_assign_Name ?_))
  refine wpAny_mono (h h₃ fun c o e => ?_) (fun _ s₁ h₁ => wpAny_bind (wpAny_holding (wpAny_assign_Name (wpAny_mono h₁ (fun _ _ q => wpAny_pure q) fun _ _ z => z)))) fun _ _ z => z
  have hc : c ≠ s.heap.objs.size := fun q => by rw [q, next_new] at e; cases e
  exact he₃ c o hc (hs₂.extBut c o hc (hs₁.extBut c o hc (Heap.get?_push_of_some _ e)))
noncomputable def pr (p : Str × Str) : PyData := .list [.str p.1, .str p.2]
theorem reads_pair {h : Heap} {v : Value} {p : Str × Str} {as : List Addr} (r : Reads h v (pr p) as) : ∃ l t u, v = .ref l ∧ h.IsList l #[.str p.1 t, .str p.2 u] := by
  unfold pr at r
  cases r with
  | list h1 h2 h3 h4 =>
    rename_i a o vs n as'
    obtain ⟨x, y, e⟩ := len2 (readsAll_length h4)
    rw [e] at h4
    cases h4 with
    | cons r1 r2 =>
    cases r2 with
    | cons r3 r4 =>
    cases r1; cases r3
    rename_i t u
    have e2 : vs = #[.str p.1 t, .str p.2 u] := Array.ext' e
    exact ⟨a, t, u, rfl, o, h1, h2, n, by rw [h3, e2]⟩
noncomputable abbrev dsE (L : Addr) : Env := callEnvC fd948 L 948
theorem toStr1 : (toString (1 : Int) : Str) = "1" ∧ (toString (0 : Int) : Str) = "0" := by decide +kernel
theorem log_small {i : Int} (h : i = 1 ∨ i = 0) : i.natAbs.log2 < 1920 := by rcases h with rfl | rfl <;> decide
end
end Mine
end
section
open PySem PySem.W PySem.Calls PyProof.Rows PySem.Spec
namespace Mine
theorem valueAt_none {kvs : List (Str × Value)} {k : Str} (h : k ∉ kvs.map (·.1)) : valueAt kvs k = none := by
  unfold valueAt
  rw [Option.map_eq_none_iff, List.find?_eq_none]
  intro kv h1 h2
  exact h (List.mem_map.mpr ⟨kv, h1, by simpa using h2⟩)
noncomputable def okD (dirs : List Str) (i : Int) (p : Str × Str) : Bool := (if hitB dirs p.1 = true then (1 : Int) else 0) == i
section
variable {w : World} {B : Heap} {k : Nat} {x dx M Dl D : Addr} {A : Around} {E : Value → Shared → Prop} {s : Shared} {Hc H : List Addr} {env : Env}
theorem SrO.changeD {h h' : Heap} {ρ : Vars} {rv : List (Str × Value)} (S : SrO w B env Hc H h ⟨ρ, rv, []⟩) (hDH : D ∈ H) (hDf : D ∉ fp env) (hDB : B.get? D = none) (hk : ∀ b o, b ≠ D → h.get? b = some o → h'.get? b = some o) (hD : ∃ o, h'.get? D = some o) : SrO w B env Hc H h' ⟨ρ, rv, []⟩ := by
  obtain ⟨vs, F, hρ, hr⟩ := S.fr
  have up : ∀ b o, (hideAll h H).get? b = some o → (hideAll h' H).get? b = some o := hide_sub fun b o hb e => hk b o (fun q => hb (q ▸ hDH)) e
  refine ⟨fun b o e => hk b o (fun q => by rw [q, hDB] at e; cases e) (S.base b o e), ⟨vs, F.keeps fun b o hb e => hk b o (fun q => hDf (q ▸ hb)) e, fun x d e => let ⟨hx, v, as, hv, r⟩ := hρ x d e; ⟨hx, v, as, hv, Reads.keeps up r⟩, hr⟩, S.fpH, S.hc, fun b hb => ?_, fun o ho => (nomatch ho), .nil⟩
  by_cases q : b = D
  · rw [q]; exact hD
  · obtain ⟨o, e⟩ := S.lt b hb
    exact ⟨o, hk b o q e⟩
theorem wp_test {L : Addr} {ρ : Vars} {l : List (Str × Tok)} {led : Bool} {kvs : List (Str × Value)} {word stem : Str} {i : Int} {c : Str} {n1 : Nat} {p1 p2 p3 p4 p5 p6 p7 p8 p9 : Pos} {Q : Bool → Shared → Prop} (HB : Bs w B) (hO : Ob w B x dx 224 (rdF M Dl D)) (hM : B.get? M = some (setO led)) (hDl : B.IsList Dl (strValues l).toArray) (hDB : B.get? D = none) (hds : (D == sysModules) = false) (hll : ∀ p ∈ l, p.1.length ≤ 1000)
    (hi : (i = 1 ∧ c = "1") ∨ (i = 0 ∧ c = "0")) (hA : AOK (k + 1) A) (S : SrO w B (dsE L) Hc H s.heap ⟨ρ, [("reader", .ref x)], []⟩) (hDH : D ∈ H) (hDf : D ∉ fp (dsE L)) (h1 : ρ.lookup ("word" : Str) = some (.str word)) (h2 : ρ.lookup ("stem" : Str) = some (.str stem)) (hw : word.length ≤ 1000) (hz : kvs.length ≤ 1000)
    (hD : s.heap.DictOf (strKind pg w) D kvs) (hn : valueAt kvs stem = none)
    (hq : ∀ s' tk, SrO w B (dsE L) Hc H s'.heap ⟨ρ, [("reader", .ref x)], []⟩ → (∀ b o, b ≠ D → s.heap.get? b = some o → s'.heap.get? b = some o) → (∃ h' tk, s' = { s with heap := h', toks := tk }) → s'.heap.DictOf (strKind pg w) D (kvs ++ [(stem, .int (if hitB (l.map (·.1)) word = true then 1 else 0) tk)]) → Q (!okD (l.map (·.1)) i (word, stem)) s')
    (he : eval (.Call (.Attribute (.Name "reader" p2) "names" p3) [.Name "word" p4, .Name "stem" p5] [] p6) (dsE L) = (do let ov ← eval (.Name "reader" p2) (dsE L); standAt p3.atName; let (f, first) ← holding [ov] (getMethod ov "names" (do return (← importBound (.Name "reader" p2) (dsE L)).getD true)); callWith p6 f first (backTo p6 (starEach [.Name "word" p4, .Name "stem" p5] (dsE L))) []) := by rfl) :
    wpAny (model pg w) A (isTrue (.Compare (.Call (.Name "str" p1) [.Call (.Attribute (.Name "reader" p2) "names" p3) [.Name "word" p4, .Name "stem" p5] [] p6] [] p7) [.NotEq] [.Constant (.str c) n1 p8] p9) (dsE L) (eval (.Compare (.Call (.Name "str" p1) [.Call (.Attribute (.Name "reader" p2) "names" p3) [.Name "word" p4, .Name "stem" p5] [] p6] [] p7) [.NotEq] [.Constant (.str c) n1 p8] p9) (dsE L))) Q E s := by
  have hE : EnvOK (dsE L) := envOKC fd948 (by kernel_rfl)
  refine wpAny_isTrue_Compare1 ?_
  refine wpAny_Call_NameR (blt (w := w) HB hE S.base (x := "str") (by kernel_rfl) (by kernel_rfl) rfl (by decide) ?_)
  refine PyProof.Rows.callWith_type1 (args_cons ?_)
  refine MethodCall_ (pl := do return (← importBound (.Name "reader" p2) (dsE L)).getD true) (RvO.run (RvO.name rfl) S fun s₁ k₁ => ?_) he
  have S₁ := S.keeps k₁
  have O₁ : Ob w s₁.heap x dx 224 (rdF M Dl D) := hO.keeps (fun _ e => S₁.base _ _ e) (fun _ e => S₁.base _ _ e)
  refine O₁.meth HB S₁.base cls224 (f := 221) (by kernel_rfl) (by kernel_rfl) rfl ?_
  refine callWith_K (K_in HB S₁.base) (by kernel_rfl) ?_
  refine args_cons (EvO.run (d := .str word) (fun Hc H h S => Ev.name h1) hA S₁ fun v as s₂ k₂ r => ?_)
  cases r
  have S₂ := S₁.keeps k₂
  refine args_cons (EvO.run (d := .str stem) (fun Hc H h S => Ev.name h2) hA S₂ fun v as s₃ k₃ r => args_nil ⟨K_in HB (S₂.keeps k₃).base, ?_⟩)
  cases r
  have S₃ := S₂.keeps k₃
  have kk := (k₁.comp k₂).comp k₃
  refine names_raw (k := k) HB hA S₃.base hO hM hDl (hD.keep kk.keep) hDB hds hn hz hw hll fun tk tk' s₄ kp₄ same₄ hD₄ => ?_
  have S₄ := S₃.changeD hDH hDf hDB kp₄ (by obtain ⟨o, _, _, e, _⟩ := hD₄; exact ⟨o, e⟩)
  refine args_nil ?_
  have hv : (if hitB (l.map (·.1)) word = true then (1 : Int) else 0) = 1 ∨ (if hitB (l.map (·.1)) word = true then (1 : Int) else 0) = 0 := by split <;> simp
  refine P.str_of_int (log_small hv) ?_
  refine Constant_str ?_
  refine ne_str ?_
  refine wpAny_truthy_bool ?_
  have fin : ((toString (if hitB (l.map (·.1)) word = true then (1 : Int) else 0) : Str) != c) = !okD (l.map (·.1)) i (word, stem) := by
    unfold okD
    rcases hi with ⟨rfl, rfl⟩ | ⟨rfl, rfl⟩ <;> cases hitB (l.map (·.1)) word <;> decide +kernel
  rw [fin]
  refine hq _ tk (S₄.keeps ((Kp.tok _).comp (Kp.tok _))) (fun b o hb e => kp₄ b o hb (kk.keep b o e)) ?_ hD₄
  exact sm_trans (Kp.sm kk :) (sm_trans same₄ ⟨s₄.heap, _, rfl⟩)
end
end Mine
end
section
open PySem PySem.W PySem.Calls PyProof.Rows PySem.Spec
namespace Mine
section
variable {w : World} {B : Heap} {k : Nat} {x dx M Dl D : Addr} {A : Around} {E : Value → Shared → Prop} {s : Shared} {Hc H : List Addr}
theorem all_snoc {α : Type} {xs : List α} {p : α → Bool} {i : Nat} {a : α} (h : xs[i]? = some a) : (xs.take (i + 1)).all p = ((xs.take i).all p && p a) := by
  rw [List.take_add_one, h]
  simp
set_option maxHeartbeats 1000000 in
theorem does_loop {L : Addr} {ρ : Vars} {l : List (Str × Tok)} {led : Bool} {kvs : List (Str × Value)} {ps : List (Str × Str)} {g : Str} {i : Int} {c : Str} {n1 n2 n3 : Nat} {q1 q2 q3 q4 q5 q6 q7 p1 p2 p3 p4 p5 p6 p7 p8 p9 q8 : Pos} {Q : Flow → Shared → Prop} (HB : Bs w B) (hO : Ob w B x dx 224 (rdF M Dl D)) (hM : B.get? M = some (setO led)) (hDl : B.IsList Dl (strValues l).toArray) (hDB : B.get? D = none) (hds : (D == sysModules) = false) (hll : ∀ p ∈ l, p.1.length ≤ 1000)
    (hi : (i = 1 ∧ c = "1") ∨ (i = 0 ∧ c = "0")) (hA : AOK (k + 1) A) (S : SrO w B (dsE L) Hc H s.heap ⟨ρ, [("reader", .ref x)], []⟩) (hDH : D ∈ H) (hDc : D ∈ Hc) (hDf : D ∉ fp (dsE L)) (hg : ρ.lookup g = some (.list (ps.map pr))) (hgw : g ≠ "word" ∧ g ≠ "stem") (hw : ∀ p ∈ ps, p.1.length ≤ 1000) (hz : kvs.length + ps.length ≤ 1000)
    (hD : s.heap.DictOf (strKind pg w) D kvs) (hn : (kvs.map (·.1) ++ ps.map (·.2)).Nodup)
    (h1 : ∀ s' kvs' ρ', SrO w B (dsE L) Hc H s'.heap ⟨ρ', [("reader", .ref x)], []⟩ → (∀ y : Str, y ≠ "word" → y ≠ "stem" → ρ'.lookup y = ρ.lookup y) → (∀ b o, (b ∈ Hc ∨ b ∉ H) → b ≠ D → s.heap.get? b = some o → s'.heap.get? b = some o) → (∃ h' tk, s' = { s with heap := h', toks := tk }) → s'.heap.DictOf (strKind pg w) D kvs' → kvs'.map (·.1) = kvs.map (·.1) ++ ps.map (·.2) → ps.all (okD (l.map (·.1)) i) = true → Q .next s')
    (h2 : ∀ s', (∀ b o, (b ∈ Hc ∨ b ∉ H) → b ≠ D → s.heap.get? b = some o → s'.heap.get? b = some o) → (∃ h' tk, s' = { s with heap := h', toks := tk }) → ps.all (okD (l.map (·.1)) i) = false → Q (.ret (.bool false)) s')
    (he : eval (.Call (.Attribute (.Name "reader" p2) "names" p3) [.Name "word" p4, .Name "stem" p5] [] p6) (dsE L) = (do let ov ← eval (.Name "reader" p2) (dsE L); standAt p3.atName; let (f, first) ← holding [ov] (getMethod ov "names" (do return (← importBound (.Name "reader" p2) (dsE L)).getD true)); callWith p6 f first (backTo p6 (starEach [.Name "word" p4, .Name "stem" p5] (dsE L))) []) := by rfl)
    (hdb : (g == ("__debug__" : Str)) = false := by decide) (hfs : ∀ v, foldedSetIterable (.Name g q4) (dsE L) v = pure v := by intro _; rfl) :
    wpAny (model pg w) A (exec (.For (.Tuple [.Name "word" q1, .Name "stem" q2] n2 q3) (.Name g q4) [.If (.Compare (.Call (.Name "str" p1) [.Call (.Attribute (.Name "reader" p2) "names" p3) [.Name "word" p4, .Name "stem" p5] [] p6] [] p7) [.NotEq] [.Constant (.str c) n1 p8] p9) [.Return (some (.Constant (.bool false) n3 q5)) q6] [] q7] [] q8) (dsE L)) Q E s := by
  refine wpAny_For (EvO.run (d := .list (ps.map pr)) (fun Hc H h S => Ev.name hg hdb) hA S fun v as s₁ k₁ r => ?_) hfs
  have S₁ := S.keeps k₁
  cases r with
  | list r1 r2 r3 r4 =>
  rename_i Ls oL items nL as'
  have hL : s₁.heap.IsList Ls items := ⟨oL, of_hideAll H r1, r2, nL, r3⟩
  have nLs : Ls ∉ H := not_hid r1
  have nI := next_new s₁.heap
  have hsz : items.size = ps.length := by have := readsAll_length r4; simpa using this
  have nIs : s.heap.get? s₁.heap.objs.size = none := by
    cases e : s.heap.get? s₁.heap.objs.size with
    | none => rfl
    | some o => have := k₁.keep _ _ e; rw [nI] at this; cases this
  have nIB : B.get? s₁.heap.objs.size = none := by
    cases e : B.get? s₁.heap.objs.size with
    | none => rfl
    | some o => have := S₁.base _ _ e; rw [nI] at this; cases this
  have nIH : s₁.heap.objs.size ∉ H := fun z => by obtain ⟨o, e⟩ := S₁.lt _ z; rw [nI] at e; cases e
  refine loop_list (s := s₁) (fun I j s' => ∃ ρ' kvs', SrO w B (dsE L) Hc H s'.heap ⟨ρ', [("reader", .ref x)], []⟩ ∧ (∀ y : Str, y ≠ "word" → y ≠ "stem" → ρ'.lookup y = ρ.lookup y) ∧ s'.heap.DictOf (strKind pg w) D kvs' ∧ kvs'.map (·.1) = kvs.map (·.1) ++ (ps.take j).map (·.2) ∧ (∀ b o, (b ∈ Hc ∨ b ∉ H) → b ≠ D → s.heap.get? b = some o → s'.heap.get? b = some o) ∧ (∃ h' tk, s' = { s with heap := h', toks := tk }) ∧ I ∉ H ∧ s.heap.get? I = none ∧ B.get? I = none ∧ (∃ as, ReadsAll (hideAll s'.heap H) items.toList (ps.map pr) as) ∧ (ps.take j).all (okD (l.map (·.1)) i) = true) (.inl ⟨_, _, _, rfl⟩) hA.handled hL ?_ ?_ ?_ ?_
  · intro o hno
    have k₂ : Kp s₁ { s₁ with heap := s₁.heap.push o } := push_kp (t := s₁.toks)
    refine ⟨ρ, kvs, S₁.keeps k₂, fun _ _ _ => rfl, (hD.keep k₁.keep).keep k₂.keep, by simp, fun b o' _ _ e => k₂.keep b o' (k₁.keep b o' e), ?_, nIH, nIs, nIB, ⟨_, ReadsAll.keeps k₂.hide r4⟩, rfl⟩
    exact (k₁.comp k₂).sm
  · rintro I j s₂ h' tk ⟨ρ', kvs', S', hl, hD', hk', kp, ⟨h₁, tk₁, rfl⟩, n1, n2, n3, ⟨as₂, ra⟩, ha⟩ hk ⟨oI, eI, nI'⟩
    refine ⟨ρ', kvs', S'.turn0 (wr := [I]) (fun b o hb e => hk b o (fun q => hb (q ▸ .head _)) e) fun b hb => ?_, hl, hD'.at fun o e => hk _ o (fun q => n1 (q ▸ hDH)) e, hk', fun b o hb hb' e => hk b o (fun q => by rw [q, n2] at e; cases e) (kp b o hb hb' e), ⟨h', tk, rfl⟩, n1, n2, n3, ⟨as₂, readsAll_keepsC (fun b o hc e => ?_) ra⟩, ha⟩
    · rw [List.mem_singleton.mp hb]
      exact ⟨n1, n3, oI, eI, nI'⟩
    · have hb := not_hid e
      have ea := of_hideAll H e
      refine hideAll_get H (hk b o (fun q => ?_) ea) hb
      rw [q, eI] at ea; cases ea; exact nI' hc
  · rintro I j v s₂ hj hv ⟨ρ', kvs', S', hl, hD', hk', kp, same, n1, n2, n3, ⟨as₂, ra⟩, ha⟩ hIL ⟨oI, eI⟩ hls
    obtain ⟨d, bs, hd, rv⟩ := readsAll_get ra j v (by simpa using hv)
    rw [List.getElem?_map] at hd
    obtain ⟨p, hp, rfl⟩ := Option.map_eq_some_iff.mp hd
    obtain ⟨lp, t, u, rfl, hlp⟩ := reads_pair rv
    have hpm := List.mem_of_getElem? hp
    have hlp₂ : s₂.heap.IsList lp #[.str p.1 t, .str p.2 u] := hlp.at fun o e => of_hideAll H e
    refine assign_pair hA.handled hlp₂ fun h₃ kp₃ => ?_
    have k₃ : Kp s₂ { s₂ with heap := h₃ } := Kp.to (t := s₂.toks) kp₃
    have S₃ := S'.keeps k₃
    refine SrO.store (s := { s₂ with heap := h₃ }) (x := "word") (d := .str p.1) (as := []) S₃ (.inl (by kernel_rfl)) rfl (.str _ _) fun s₄ S₄ m₄ => ?_
    refine SrO.store (x := "stem") (d := .str p.2) (as := []) S₄ (.inl (by kernel_rfl)) rfl (.str _ _) fun s₅ S₅ m₅ => ?_
    have mk : ∀ b o, (b ∈ Hc ∨ b ∉ H) → s₂.heap.get? b = some o → s₅.heap.get? b = some o := fun b o hb e => m₅.sub b o hb (m₄.sub b o hb (kp₃ b o e))
    have hD₅ : s₅.heap.DictOf (strKind pg w) D kvs' := hD'.at fun o e => mk D o (.inl hDc) e
    have hn' : p.2 ∉ kvs'.map (·.1) := by
      rw [hk']
      intro z
      have e : ps = ps.take j ++ p :: ps.drop (j + 1) := by
        have hjl : j < ps.length := by have := (List.getElem?_eq_some_iff.mp hp).1; exact this
        rw [← List.take_append_drop j ps]
        congr 1
        · simp
        · rw [List.take_append_drop, List.drop_eq_getElem_cons hjl]
          congr 1
          rw [List.getElem?_eq_getElem hjl] at hp
          exact Option.some.inj hp
      rw [e, List.map_append, List.map_cons, ← List.append_assoc] at hn
      have := (List.nodup_append.mp hn).2.2
      exact this _ z _ (.head _) rfl
    have hz' : kvs'.length ≤ 1000 := by
      have := congrArg List.length hk'
      simp only [List.length_map, List.length_append, List.length_take] at this
      omega
    refine wpAny_execs_cons (wpAny_If (wp_test (k := k) HB hO hM hDl hDB hds hll hi hA S₅ hDH hDf rfl rfl (hw p hpm) hz' hD₅ (valueAt_none hn') (fun s₆ tk S₆ kp₆ same₆ hD₆ => ?_) he))
    have kp6 : ∀ b o, (b ∈ Hc ∨ b ∉ H) → b ≠ D → s.heap.get? b = some o → s₆.heap.get? b = some o := fun b o hb hb' e => kp₆ b o hb' (mk b o hb (kp b o hb hb' e))
    have same6 : ∃ h' tk, s₆ = { s with heap := h', toks := tk } := by
      exact sm_trans same (sm_trans m₄.same (sm_trans m₅.same same₆))
    cases hb : okD (l.map (·.1)) i p with
    | false =>
      rw [if_pos (by rfl)]
      refine wpAny_execs_cons (wpAny_Return_some (wpAny_Constant_bool ?_))
      refine h2 s₆ kp6 same6 ?_
      exact List.all_eq_false.mpr ⟨p, hpm, by rw [hb]; decide⟩
    | true =>
      rw [if_neg (by decide)]
      refine wpAny_execs_nil (wpAny_execs_nil ⟨⟨_, _, S₆, fun y h1 h2 => ?_, hD₆, ?_, kp6, same6, n1, n2, n3, ⟨as₂, ReadsAll.keeps (hide_sub fun b o hb e => kp₆ b o (fun q => hb (q ▸ hDH)) (mk b o (.inr hb) e)) ra⟩, ?_⟩, fun o e => kp₆ I o (fun q => n1 (q ▸ hDH)) (mk I o (.inr n1) e), fun o e => kp₆ Ls o (fun q => nLs (q ▸ hDH)) (mk Ls o (.inr nLs) e)⟩)
      · rw [List.lookup_cons, beq_eq_false_iff_ne.mpr h2]
        show List.lookup y (("word", PyData.str p.1) :: ρ') = _
        rw [List.lookup_cons, beq_eq_false_iff_ne.mpr h1]
        exact hl y h1 h2
      · rw [List.map_append, hk', List.take_add_one, hp]
        simp
      · rw [all_snoc hp, ha, hb]; rfl
  · rintro I s' ⟨ρ', kvs', S', hl, hD', hk', kp, same, n1, n2, n3, ⟨as₂, ra⟩, ha⟩
    rw [hsz, List.take_length] at ha hk'
    exact h1 s' kvs' ρ' S' hl kp same hD' hk' ha
end
end Mine
end
section
open PySem PySem.W PySem.Calls PyProof.Rows PySem.Spec
namespace Mine
noncomputable def doesB (dirs : List Str) (gone kept : List (Str × Str)) : Bool := gone.all (okD dirs 1) && kept.all (okD dirs 0)
section
variable {w : World} {B : Heap} {k : Nat} {env : Env}
theorem SrO.hideNew {Hc H : List Addr} {s s' : Shared} {ρ : Vars} {rv : List (Str × Value)} {D : Addr} (S : SrO w B env Hc H s.heap ⟨ρ, rv, []⟩) (kk : Kp s s') (nD : s.heap.get? D = none) (aD : ∃ o, s'.heap.get? D = some o) : SrO w (reb B s'.heap (D :: H)) env (D :: Hc) (D :: H) s'.heap ⟨ρ, rv, []⟩ := by
  obtain ⟨vs, F, hρ, hr⟩ := S.fr
  have nDH : D ∉ H := fun z => by obtain ⟨o, e⟩ := S.lt D z; rw [nD] at e; cases e
  have up : ∀ b o, (hideAll s.heap H).get? b = some o → (hideAll s'.heap (D :: H)).get? b = some o := fun b o e => by
    have hb := not_hid e
    have ea := of_hideAll H e
    refine hideAll_get _ (kk.keep b o ea) fun z => ?_
    rcases List.mem_cons.mp z with z | z
    · rw [z, nD] at ea; cases ea
    · exact hb z
  have F' := F.keeps fun b o _ e => kk.keep b o e
  refine ⟨reb_stays, ⟨vs, ⟨F'.kind, F'.loc, F'.cel, F'.apart, F'.apartL, fun b hb => reb_none (.tail _ (S.fpH b hb)) (F.new b hb)⟩, fun x d e => let ⟨hx, v, as, hv, r⟩ := hρ x d e; ⟨hx, v, as, hv, Reads.keeps up r⟩, hr⟩, fun b hb => .tail _ (S.fpH b hb), fun b hb => ?_, fun b hb => ?_, fun o ho => (nomatch ho), .nil⟩
  · rcases List.mem_cons.mp hb with q | q
    · rw [q]; exact ⟨.head _, fun z => nDH (S.fpH _ z)⟩
    · exact ⟨.tail _ (S.hc b q).1, (S.hc b q).2⟩
  · rcases List.mem_cons.mp hb with q | q
    · rw [q]; exact aD
    · obtain ⟨o, e⟩ := S.lt b q; exact ⟨o, kk.keep b o e⟩
theorem ig_call (HB : Bs w B) {A : Around} {s : Shared} {v : Value} {as H : List Addr} {dirs : List Str} {Q : Value → Shared → Prop} {E : Value → Shared → Prop} (hA : AOK (k + 5) A) (hB : B.StaysIn s.heap) (hal : ∀ b ∈ H, ∃ o, s.heap.get? b = some o) (r : Reads (hideAll s.heap H) v (.list (dirs.map .str)) as) (hd : ∀ p ∈ dirs, npOk p = true) (hz : dirs.length ≤ 1000)
    (hq : ∀ x dx M Dl D s', Kp s s' → s.heap.get? D = none → s.heap.get? x = none → s.heap.get? dx = none → D ≠ x → D ≠ dx → Ob w s'.heap x dx 224 (rdF M Dl D) → (∃ led, s'.heap.get? M = some (setO led)) → (∃ l, s'.heap.IsList Dl (strValues l).toArray ∧ l.map (·.1) = dirs) → (∃ tk, s'.heap.DictOf (strKind pg w) D [("<string>", .int 1 tk)]) → (D == sysModules) = false → M ∉ H → Dl ∉ H → Q (.ref x) s') :
    wpAny (model pg w) A (call (.ref 224) [.none, v]) Q E s := by
  have X := K_in HB hB
  obtain ⟨h, g, d, tt, os⟩ := s
  refine wpAny_call (make_core (makes_of X (by kernel_rfl)) (looks_findIn X (r := some (.ref 214)) (by kernel_rfl)) (fun self => bind_fn X self (by kernel_rfl)) (.inl rfl) ?_)
  have k₁ : Kp ⟨h, g, d, tt, os⟩ ⟨(h.push emptyDict).push (instObj 224 h.objs.size), g, d, tt, os⟩ := (push_kp (t := tt)).comp (push_kp (t := tt))
  have ndx : h.get? h.objs.size = none := next_new h
  have nx : h.get? (h.objs.size + 1) = none := by
    cases e : h.get? (h.objs.size + 1) with
    | none => rfl
    | some o => exact absurd (Heap.lt_size e) (Nat.not_lt.mpr (Nat.le_succ _))
  have hne : h.objs.size + 1 ≠ h.objs.size := Nat.succ_ne_self _
  have hx : ((h.push emptyDict).push (instObj 224 h.objs.size)).get? (h.objs.size + 1) = some (instObj 224 h.objs.size) := by heap_get
  have hdx : ((h.push emptyDict).push (instObj 224 h.objs.size)).get? h.objs.size = some emptyDict := Heap.get?_push_of_some _ (Heap.get?_push_size _ rfl)
  have nB : B.get? h.objs.size = none := by
    cases e : B.get? h.objs.size with
    | none => rfl
    | some o => have := hB _ _ e; rw [next_new] at this; cases this
  have r₁ : Reads (hideAll ((h.push emptyDict).push (instObj 224 h.objs.size)) (h.objs.size :: H)) v (.list (dirs.map .str)) as := Reads.keeps (fun b o e => by
    have ea := of_hideAll H e
    refine hideAll_get _ (k₁.keep b o ea) fun z => ?_
    rcases List.mem_cons.mp z with z | z
    · rw [z, ndx] at ea; cases ea
    · exact not_hid e z) r
  refine iginit_raw (k := k) HB hA.under (stays_kp hB k₁) nB hne hx hdx (H0 := H) (fun b hb => let ⟨o, e⟩ := hal b hb; ⟨o, k₁.keep b o e⟩) (fun z => by obtain ⟨o, e⟩ := hal _ z; have e : h.get? (h.objs.size + 1) = some o := e; rw [nx] at e; cases e) r₁ hd hz fun M Dl D s' I => ⟨rfl, ?_⟩
  have nD : h.get? D = none := by
    cases e : h.get? D with
    | none => rfl
    | some o => have := k₁.keep D o e; rw [I.nD] at this; cases this
  refine hq _ _ M Dl D s' ?_ nD nx ndx (fun q => ?_) (fun q => ?_) I.ob I.mods I.dirs I.dict I.ds I.nM I.nDl
  · obtain ⟨h', tk', e⟩ := I.same
    subst e
    exact Kp.to (s := ⟨h, g, d, tt, os⟩) fun c o e => I.keep c o (fun q => by rw [q, ndx] at e; cases e) (k₁.keep c o e)
  · have := I.nD; rw [q, hx] at this; cases this
  · have := I.nD; rw [q, hdx] at this; cases this
end
end Mine
end
section
open PySem PySem.W PySem.Calls PyProof.Rows PySem.Spec
namespace Mine
section
variable {w : World} {B : Heap} {k : Nat}
set_option maxHeartbeats 1000000 in
theorem does_ok (HB : Bs w B) (dirs : List Str) (gone kept : List (Str × Str)) (hd : ∀ p ∈ dirs, npOk p = true) (hz : dirs.length ≤ 1000) (hg : ∀ p ∈ gone, p.1.length ≤ 1000) (hk : ∀ p ∈ kept, p.1.length ≤ 1000) (hl : gone.length + kept.length ≤ 900)
    (hn : (("<string>" : Str) :: (gone.map (·.2) ++ kept.map (·.2))).Nodup) :
    CallOK w B (k + 6) 948 [.list (dirs.map .str), .list (gone.map pr), .list (kept.map pr)] (.bool (doesB dirs gone kept)) := fun A s H vs as Q E hA hB hal r hq => by
  refine wpAny_call (enter (k := k + 5) (fd := fd948) (body := bdS (stm 56)) (names := ["chosen", "gone", "kept"]) (es := [.list (dirs.map .str), .list (gone.map pr), .list (kept.map pr)]) (H := H) HB (by kernel_rfl) (by kernel_rfl) (by decide +kernel) rfl hA hB hal (fun Q E hQ => ?_) fun L s₂ k₂ S nfp => ?_)
  · have e : bindArgs fd948 ⟨vs, []⟩ = pure ((["chosen", "gone", "kept"] : List Str).zip vs) := by
      obtain ⟨a, b, c, rfl⟩ := len3 (readsAll_length r); kernel_rfl
    rw [e]
    exact wpAny_pure (hQ vs as s Kp.rfl' r)
  have hE : EnvOK (dsE L) := envOKC fd948 (by kernel_rfl)
  have hA' : AOK (k + 5) (A.deeper (dsE L)) := hA.deeper
  have S₂ := S.toO (w := w)
  -- reader = _Ignore(None, chosen)
  refine wpAny_execs_cons (wpAny_Assign_Name ?_)
  refine wpAny_Call_NameR (glob (w := w) HB hE S₂.base (x := "_Ignore") (v := .ref 224) (by kernel_rfl) (by kernel_rfl) ?_ (by decide))
  refine callWith_K (K_in HB S₂.base) (by kernel_rfl) ?_
  refine args_cons (wpAny_Constant_none (args_cons (EvO.run (d := .list (dirs.map .str)) (fun Hc H h S => Ev.name) hA' S₂ fun v as s₃ k₃ r₃ => args_nil ⟨K_in HB (S₂.keeps k₃).base, ?_⟩)))
  have S₃ := S₂.keeps k₃
  refine ig_call (k := k) HB hA' S₃.base S₃.lt r₃ hd hz fun x dx M Dl D s₄ k₄ nD nx ndx nDx nDdx hO ⟨led, hM⟩ ⟨l, hDl, el⟩ ⟨tkD, hD⟩ hds nMH nDlH => ?_
  have aD : ∃ o, s₄.heap.get? D = some o := by obtain ⟨o, _, _, e, _⟩ := hD; exact ⟨o, e⟩
  have S₄ := S₃.hideNew k₄ nD aD
  have HB1 : Bs w (reb B s₄.heap (D :: (fp (dsE L) ++ H))) := reb_bs HB (stays_kp S₃.base k₄)
  have nH : ∀ c, s₃.heap.get? c = none → c ≠ D → c ∉ D :: (fp (dsE L) ++ H) := fun c hc hcD z => by
    rcases List.mem_cons.mp z with z | z
    · exact hcD z
    · obtain ⟨o, e⟩ := S₃.lt c z; rw [hc] at e; cases e
  have nDH : D ∉ fp (dsE L) ++ H := fun z => by obtain ⟨o, e⟩ := S₃.lt D z; rw [nD] at e; cases e
  have nDB : B.get? D = none := by
    cases e : B.get? D with
    | none => rfl
    | some o => have := S₃.base _ _ e; rw [nD] at this; cases this
  have nMD : M ≠ D := fun q => by
    obtain ⟨o, _, _, e, _, e2, _⟩ := hD
    rw [q, e] at hM; cases hM; cases e2
  have nDlD : Dl ≠ D := fun q => by
    obtain ⟨o, _, _, e, _, e2, _⟩ := hD
    obtain ⟨o', e', _, n', e3⟩ := hDl
    rw [q, e] at e'; cases e'; rw [e2] at e3; cases e3
  have hO1 : Ob w (reb B s₄.heap (D :: (fp (dsE L) ++ H))) x dx 224 (rdF M Dl D) := hO.keeps (fun o e => reb_get (nH x nx (Ne.symm nDx)) e) (fun o e => reb_get (nH dx ndx (Ne.symm nDdx)) e)
  have hM1 : (reb B s₄.heap (D :: (fp (dsE L) ++ H))).get? M = some (setO led) := reb_get (fun z => (List.mem_cons.mp z).elim nMD nMH) hM
  have hDl1 : (reb B s₄.heap (D :: (fp (dsE L) ++ H))).IsList Dl (strValues l).toArray := hDl.at fun o e => reb_get (fun z => (List.mem_cons.mp z).elim nDlD nDlH) e
  have hDB1 : (reb B s₄.heap (D :: (fp (dsE L) ++ H))).get? D = none := reb_none (.head _) nDB
  generalize reb B s₄.heap (D :: (fp (dsE L) ++ H)) = B1 at S₄ HB1 hO1 hM1 hDl1 hDB1
  refine S₄.storeRaw (x := "reader") (.inl (by kernel_rfl)) fun s₅ S₅ m₅ hk₅ => ?_
  have nDf : D ∉ fp (dsE L) := fun z => nDH (List.mem_append_left _ z)
  have hD₅ : s₅.heap.DictOf (strKind pg w) D [("<string>", .int 1 tkD)] := hD.at fun o e => hk₅ D o nDf e
  have hll : ∀ p ∈ l, p.1.length ≤ 1000 := fun p hp => by
    have := hd p.1 (by rw [← el]; exact List.mem_map.mpr ⟨p, hp, rfl⟩)
    simp only [npOk, Bool.and_eq_true, decide_eq_true_eq] at this
    exact this.1.1.1.1.1.1.1
  have old : ∀ b o, s.heap.get? b = some o → b ≠ D ∧ (b ∈ D :: H ∨ b ∉ D :: (fp (dsE L) ++ H)) := fun b o e => by
    have hbD : b ≠ D := fun q => by have := k₃.keep b o (k₂.keep b o e); rw [q, nD] at this; cases this
    refine ⟨hbD, ?_⟩
    by_cases q : b ∈ H
    · exact .inl (.tail _ q)
    · refine .inr fun z => ?_
      rcases List.mem_cons.mp z with z | z
      · exact hbD z
      · rcases List.mem_append.mp z with z | z
        · rw [nfp b z] at e; cases e
        · exact q z
  have kk₅ : ∀ b o, s.heap.get? b = some o → s₅.heap.get? b = some o := fun b o e => hk₅ b o (fun z => by rw [nfp b z] at e; cases e) (k₄.keep b o (k₃.keep b o (k₂.keep b o e)))
  have same₅ : ∃ h' tk, s₅ = { s with heap := h', toks := tk } := by
    exact sm_trans (Kp.sm k₂ :) (sm_trans (Kp.sm k₃ :) (sm_trans (Kp.sm k₄ :) m₅.same))
  have fin : ∀ s' b, (∀ b o, (b ∈ D :: H ∨ b ∉ D :: (fp (dsE L) ++ H)) → b ≠ D → s₅.heap.get? b = some o → s'.heap.get? b = some o) → (∃ h' tk, s' = { s₅ with heap := h', toks := tk }) → b = doesB dirs gone kept → Q (.bool b) s' := fun s' b kp same e => by
    subst e
    refine hq _ [] s' ?_ (.bool _)
    exact Kp.of (sm_trans same₅ same) fun b o e => kp b o (old b o e).2 (old b o e).1 (kk₅ b o e)
  have hn1 : (([("<string>", Value.int 1 tkD)] : List (Str × Value)).map (·.1) ++ gone.map (·.2)).Nodup := by
    have : (("<string>" : Str) :: (gone.map (·.2) ++ kept.map (·.2))) = (("<string>" : Str) :: gone.map (·.2)) ++ kept.map (·.2) := rfl
    rw [this] at hn
    exact (List.nodup_append.mp hn).1
  refine wpAny_execs_cons (does_loop (k := k + 4) (i := 1) (c := "1") (ps := gone) (g := "gone") HB1 hO1 hM1 hDl1 hDB1 hds hll (.inl ⟨rfl, rfl⟩) hA' S₅ (.head _) (.head _) nDf rfl (by decide) hg (by show 1 + _ ≤ 1000; omega) hD₅ hn1 (fun s₆ kvs ρ' S₆ hρ kp₆ same₆ hD₆ hkv hall => ?_) fun s₆ kp₆ same₆ hall => ?_)
  · rw [el] at hall
    have hg' : ρ'.lookup ("kept" : Str) = some (.list (kept.map pr)) := (hρ "kept" (by decide) (by decide)).trans rfl
    have hlen : kvs.length = gone.length + 1 := by
      have := congrArg List.length hkv
      simp at this
      omega
    refine wpAny_execs_cons (does_loop (k := k + 4) (i := 0) (c := "0") (ps := kept) (g := "kept") HB1 hO1 hM1 hDl1 hDB1 hds hll (.inr ⟨rfl, rfl⟩) hA' S₆ (.head _) (.head _) nDf hg' (by decide) hk (by omega) hD₆ (by rw [hkv]; exact hn) (fun s₇ kvs₇ ρ₇ S₇ hρ₇ kp₇ same₇ hD₇ hkv₇ hall₇ => ?_) fun s₇ kp₇ same₇ hall₇ => ?_)
    · rw [el] at hall₇
      refine wpAny_execs_cons (wpAny_Return_some (wpAny_Constant_bool ?_))
      refine fin s₇ true (fun b o h1 h2 e => kp₇ b o h1 h2 (kp₆ b o h1 h2 e)) ?_ (by unfold doesB; rw [hall, hall₇]; rfl)
      exact sm_trans same₆ same₇
    · rw [el] at hall₇
      refine fin s₇ false (fun b o h1 h2 e => kp₇ b o h1 h2 (kp₆ b o h1 h2 e)) ?_ (by unfold doesB; rw [hall, hall₇]; rfl)
      exact sm_trans same₆ same₇
  · rw [el] at hall
    exact fin s₆ false kp₆ same₆ (by unfold doesB; rw [hall]; rfl)
end
end Mine
end
section
open PySem PySem.W PySem.Calls PyProof.Rows PySem.Spec
namespace Mine
section
variable {w : World} {B : Heap} {k : Nat} {env : Env} {Hc H : List Addr} {ρ : Vars} {rv : List (Str × Value)}
theorem SrO.more {N : List Addr} {s s' : Shared} (S : SrO w B env Hc H s.heap ⟨ρ, rv, []⟩) (kk : Kp s s') (hn : ∀ b ∈ N, s.heap.get? b = none) (ha : ∀ b ∈ N, ∃ o, s'.heap.get? b = some o) : SrO w B env (N ++ Hc) (N ++ H) s'.heap ⟨ρ, rv, []⟩ := by
  obtain ⟨vs, F, hρ, hr⟩ := S.fr
  have up : ∀ b o, (hideAll s.heap H).get? b = some o → (hideAll s'.heap (N ++ H)).get? b = some o := fun b o e => by
    have hb := not_hid e
    have ea := of_hideAll H e
    refine hideAll_get _ (kk.keep b o ea) fun q => ?_
    rcases List.mem_append.mp q with q | q
    · rw [hn b q] at ea; cases ea
    · exact hb q
  refine ⟨stays_kp S.base kk, ⟨vs, F.keeps fun b o _ e => kk.keep b o e, fun x d e => let ⟨hx, v, as, hv, r⟩ := hρ x d e; ⟨hx, v, as, hv, Reads.keeps up r⟩, hr⟩, fun b hb => List.mem_append_right _ (S.fpH b hb), fun b hb => ?_, fun b hb => ?_, fun o ho => (nomatch ho), .nil⟩
  · rcases List.mem_append.mp hb with q | q
    · refine ⟨List.mem_append_left _ q, fun z => ?_⟩
      obtain ⟨o, e⟩ := S.lt b (S.fpH b z)
      rw [hn b q] at e; cases e
    · exact ⟨List.mem_append_right _ (S.hc b q).1, (S.hc b q).2⟩
  · rcases List.mem_append.mp hb with q | q
    · exact ha b q
    · obtain ⟨o, e⟩ := S.lt b q; exact ⟨o, kk.keep b o e⟩
theorem SrO.less {Hc' H' : List Addr} {h : Heap} (S : SrO w B env Hc H h ⟨ρ, rv, []⟩) (h1 : ∀ b ∈ H', b ∈ H) (h2 : ∀ b ∈ fp env, b ∈ H') (h3 : ∀ b ∈ Hc', b ∈ H' ∧ b ∈ Hc) : SrO w B env Hc' H' h ⟨ρ, rv, []⟩ := by
  obtain ⟨vs, F, hρ, hr⟩ := S.fr
  exact ⟨S.base, ⟨vs, F, fun x d e => let ⟨hx, v, as, hv, r⟩ := hρ x d e; ⟨hx, v, as, hv, Reads.keeps (hide_more h1) r⟩, hr⟩, h2, fun b hb => ⟨(h3 b hb).1, (S.hc b (h3 b hb).2).2⟩, fun b hb => S.lt b (h1 b hb), fun o ho => (nomatch ho), .nil⟩
theorem SrO.sub {ρ' : Vars} {rv' : List (Str × Value)} {h : Heap} (S : SrO w B env Hc H h ⟨ρ, rv, []⟩) (h1 : ∀ x d, ρ'.lookup x = some d → ρ.lookup x = some d) (h2 : ∀ x v, rv'.lookup x = some v → rv.lookup x = some v) : SrO w B env Hc H h ⟨ρ', rv', []⟩ := by
  obtain ⟨vs, F, hρ, hr⟩ := S.fr
  exact ⟨S.base, ⟨vs, F, fun x d e => hρ x d (h1 x d e), fun x v e => hr x v (h2 x v e)⟩, S.fpH, S.hc, S.lt, fun o ho => (nomatch ho), .nil⟩
theorem SrO.addData {h : Heap} {x : Str} {v : Value} {d : PyData} {as : List Addr} (S : SrO w B env Hc H h ⟨ρ, rv, []⟩) (hx : rv.lookup x = some v) (r : Reads (hideAll h H) v d as) : SrO w B env Hc H h ⟨(x, d) :: ρ, rv, []⟩ := by
  obtain ⟨vs, F, hρ, hr⟩ := S.fr
  refine ⟨S.base, ⟨vs, F, fun y d' e => ?_, hr⟩, S.fpH, S.hc, S.lt, fun o ho => (nomatch ho), .nil⟩
  rw [List.lookup_cons] at e
  split at e
  · rename_i q
    cases e
    have := beq_iff_eq.mp q
    subst this
    obtain ⟨a, b⟩ := hr y v hx
    exact ⟨a, v, as, b, r⟩
  · exact hρ y d' e
theorem SrO.toS {h : Heap} (S : SrO w B env Hc H h ⟨ρ, rv, []⟩) : Sr B env Hc H h ⟨ρ, none⟩ := by
  obtain ⟨vs, F, hρ, hr⟩ := S.fr
  exact ⟨S.base, ⟨vs, F, hρ, fun x ds e => by cases e⟩, S.fpH, S.hc, S.lt⟩
theorem wp_append {A : Around} {E : Value → Shared → Prop} {s : Shared} {oe e : Expr} {ap cp pos : Pos} {W : Addr} {us : Array Value} {d : PyData} {Q : Flow → Shared → Prop} (hA : AOK k A) (S : SrO w B env Hc H s.heap ⟨ρ, rv, []⟩) (ho : ∀ (Q : Value → Shared → Prop), (∀ s', Kp s s' → Q (.ref W) s') → wpAny (model pg w) A (eval oe env) Q E s)
    (hl : s.heap.PlainList W us) (hWH : W ∈ H) (hWf : W ∉ fp env) (hWB : B.get? W = none) (he : EvO w B k env ⟨ρ, rv, []⟩ e d) (hz : us.size ≤ 1000000)
    (hq : ∀ v as s', SrO w B env Hc H s'.heap ⟨ρ, rv, []⟩ → s'.heap.PlainList W (us.push v) → Reads (hideAll s'.heap H) v d as → (∀ b o, b ≠ W → s.heap.get? b = some o → s'.heap.get? b = some o) → (∃ h' tk, s' = { s with heap := h', toks := tk }) → Q .next s')
    (hline : (ap.endLine == cp.line) = true := by rfl) (hse : starEach [e] env = [(false, eval e env)] := by rfl)
    (hi : interactive env = false := by rfl) (hs : swapsWith (.Call (.Attribute oe "append" ap) [e] [] cp) none pos.line env = pure false := by rfl) (hbase : attributeBase oe "append" env (eval oe env) = eval oe env := by rfl) :
    wpAny (model pg w) A (exec (.Expr (.Call (.Attribute oe "append" ap) [e] [] cp) pos) env) Q E s := by
  refine wpAny_Expr ?_ hi hs
  refine wpAny_Call_append hbase (by rw [hse]; rfl) hline (by rw [hse]; rfl) ?_
  refine ho _ fun s₀ k₀ => ⟨W, us, rfl, ?_, ?_⟩
  · obtain ⟨n, hg⟩ := hl; exact ⟨_, n, k₀.keep _ _ hg, rfl, rfl, rfl⟩
  refine EvO.run he hA (S.keeps k₀) fun v as s₁ k₁ r => ?_
  have kk := k₀.comp k₁
  refine wpAny_list_append_plain (hl.at fun o e => kk.keep W o e) (fun h' hl' hs' => ?_) (by rw [sizeLine_eq]; omega)
  have S₁ := S.keeps kk
  have hk : ∀ b o, b ≠ W → s₁.heap.get? b = some o → h'.get? b = some o := fun b o hb e => (hs'.2 b hb).trans e
  have S₂ := S₁.changeD hWH hWf hWB hk (by obtain ⟨n, hg⟩ := hl'; exact ⟨_, hg⟩)
  refine hq v as _ S₂ hl' (Reads.keeps (hide_sub fun b o hb e => hk b o (fun q => hb (q ▸ hWH)) e) r) (fun b o hb e => hk b o hb (kk.keep b o e)) ?_
  exact sm_trans (Kp.sm kk :) ⟨h', _, rfl⟩
theorem chr_ev {x : Str} {np pos : Pos} {e : Expr} {i : Int} (HB : Bs w B) (hE : EnvOK env) (hx : env.kindOf "chr" = some .globalImplicit) (ha : Ev w B k env ρ e (.int i)) (h0 : 0 ≤ i) (h1 : i ≤ 1114111) (he : starEach [e] env = [(false, eval e env)] := by rfl) : Ev w B k env ρ (.Call (.Name "chr" np) [e] [] pos) (.str ⟨#[i.toNat]⟩) :=
  Ev.blt1 (id := "chr") HB hE hx (by kernel_rfl) (by decide +kernel) (by decide) ha (fun A s H v as Q E hA r hq => by
    cases r
    exact chr_of_range h0 h1 (hq _ _ _ (Kp.tok _) (.str _ _))) he
theorem loop_walks {A : Around} {s : Shared} {x : Str} {px : Pos} {body : List Stmt} {R : Result → Shared → Prop} {I : Addr} {fpI wr : List Addr} {n : Nat} {P : Nat → Value → Prop} {St : Nat → Heap → Prop} (J : Nat → Shared → Prop) (W : Walks pg w A I fpI wr n P St) (hst : St 0 s.heap) (h0 : J 0 s)
    (hJ : ∀ i s₁ h' tk, St i s₁.heap → J i s₁ → (∀ b o, b ∉ wr → s₁.heap.get? b = some o → h'.get? b = some o) → J i { s₁ with heap := h', toks := tk })
    (step : ∀ i v s₁, i < n → P i v → St (i + 1) s₁.heap → J i s₁ → wpAny (model pg w) A (assign (.Name x px) env v) (fun _ s₂ => wpAny (model pg w) A (execs body env) (fun f s₃ => f = .next ∧ J (i + 1) s₃ ∧ St (i + 1) s₃.heap) (notedBy (model pg w) A env fun e s' => R (.error e) s') s₂) (notedBy (model pg w) A env fun e s' => R (.error e) s') s₁)
    (fin : ∀ s', J n s' → R (.ok .next) s') : codeAny (model pg w) A (.forLoop (.Name x px) (.ref I) body [] env) R s := by
  refine codeAny_forLoop (fun m s' => ∃ i, m = n + 1 - i ∧ i ≤ n ∧ St i s'.heap ∧ J i s') ?_ (n + 1) ⟨0, rfl, Nat.zero_le _, hst, h0⟩
  rintro m s' ⟨i, rfl, hi, hst', hj⟩
  by_cases hlt : i < n
  · refine W.item i s' _ _ hlt hst' fun v h₁ tk₁ hP hst₁ hk₁ => ?_
    refine wpAny_mono (step i v { s' with heap := h₁, toks := tk₁ } hlt hP hst₁ (hJ _ _ h₁ tk₁ hst' hj hk₁)) (fun _ s₂ h₂ => wpAny_mono h₂ (fun f s₃ h₃ => ?_) fun _ _ z => z) fun _ _ z => z
    obtain ⟨rfl, a, b⟩ := h₃
    exact ⟨n + 1 - (i + 1), by omega, i + 1, rfl, hlt, b, a⟩
  · have hin : i = n := by omega
    subst hin
    refine W.done s' _ _ hst' fun h₁ tk₁ hk₁ => wpAny_execs_nil ?_
    exact fin _ (hJ _ _ h₁ tk₁ hst' hj hk₁)
end
end Mine
end
section
open PySem PySem.W PySem.Calls PyProof.Rows PySem.Spec
namespace Mine
noncomputable def lawS (i : Nat) : Stmt := ((bdS (stm 59))[i]?).getD (.Pass ⟨0, 0, 0, 0⟩)
noncomputable def forB : Stmt → List Stmt
  | .For _ _ b _ _ => b
  | _ => []
noncomputable abbrev lwE (L : Addr) : Env := callEnvC fd963 L 963
noncomputable def nmL : List Str := ["b", "a", " ", "ab"]
noncomputable def dig : Nat → Nat → List Str
  | 0, _ => []
  | n + 1, r => if r = 0 then [] else (nmL[r % 4]?).getD "" :: dig n (r / 4)
noncomputable def fileN (i : Nat) : Str := (⟨#[97 + i]⟩ : Str) ++ ".p"
noncomputable def wayOf (i m : Nat) : List Str := dig 2 m ++ [fileN i]
noncomputable def dNames : PyData := .list (nmL.map .str)
noncomputable def dNums (ns : List Nat) : PyData := .list (ns.map fun (n : Nat) => .int (n : Int))
theorem fmod_nat (a b : Nat) : ((a : Int).fmod (b : Int)) = ((a % b : Nat) : Int) := by
  rw [Int.fmod_eq_emod_of_nonneg _ (Int.natCast_nonneg b)]; exact (Int.natCast_emod a b).symm
theorem fdiv_nat (a b : Nat) : ((a : Int).fdiv (b : Int)) = ((a / b : Nat) : Int) := by
  rw [Int.fdiv_eq_ediv_of_nonneg _ (Int.natCast_nonneg b)]; exact (Int.natCast_ediv a b).symm
theorem sub_of {α : Type} {ρ ρ' : List (Str × α)} (h : ∀ p ∈ ρ', ρ.lookup p.1 = some p.2) : ∀ x d, ρ'.lookup x = some d → ρ.lookup x = some d := fun x d e => h (x, d) (look_mem e)
structure Rws (B h : Heap) (H : List Addr) (R : Addr) (r : Nat → Addr) (ws : Nat → List (List Str)) : Prop where
  top : h.PlainList R #[.ref (r 0), .ref (r 1)]
  row : ∀ b < 2, ∃ us as, h.PlainList (r b) us ∧ ReadsAll (hideAll h H) us.toList ((ws b).map way) as
  ne : r 0 ≠ r 1
  neR : ∀ b < 2, R ≠ r b
  nR : B.get? R = none
  nr : ∀ b < 2, B.get? (r b) = none
theorem Rws.keep {B h h' : Heap} {H H' : List Addr} {R : Addr} {r : Nat → Addr} {ws : Nat → List (List Str)} (X : Rws B h H R r ws) (h1 : ∀ b o, dataC o → (hideAll h H).get? b = some o → (hideAll h' H').get? b = some o) (h2 : ∀ o, h.get? R = some o → h'.get? R = some o) (h3 : ∀ b < 2, ∀ o, h.get? (r b) = some o → h'.get? (r b) = some o) : Rws B h' H' R r ws :=
  ⟨X.top.at fun o e => h2 o e, fun b hb => let ⟨us, as, a, c⟩ := X.row b hb; ⟨us, as, a.at fun o e => h3 b hb o e, readsAll_keepsC h1 c⟩, X.ne, X.neR, X.nR, X.nr⟩
section
variable {w : World} {B : Heap} {k : Nat} {A : Around} {E : Value → Shared → Prop} {s : Shared}
noncomputable abbrev HCr (R : Addr) (r : Nat → Addr) : List Addr := [R, r 0, r 1]
noncomputable abbrev HHr (L R : Addr) (r : Nat → Addr) : List Addr := HCr R r ++ fp (lwE L)
noncomputable abbrev ρ0 (ns : List Nat) : Vars := [("names", dNames), ("numbers", dNums ns)]
theorem mem_r {R : Addr} {r : Nat → Addr} {b : Nat} (hb : b < 2) : r b ∈ HCr R r := by
  have : b = 0 ∨ b = 1 := by omega
  rcases this with rfl | rfl <;> simp
set_option maxHeartbeats 2000000 in
theorem law_turn (HB : Bs w B) {L R : Addr} {r : Nat → Addr} {ws : Nat → List (List Str)} {ns : List Nat} {i n : Nat} {Q : Flow → Shared → Prop} (hA : AOK (k + 1) A)
    (S : SrO w B (lwE L) (HCr R r) (HHr L R r) s.heap ⟨("k", .int (i : Int)) :: ρ0 ns, [("rows", .ref R)], []⟩) (hi : ns[i]? = some n) (hn : n < 32) (hz : ns.length ≤ 1000) (hi8 : i < 1000) (X : Rws B s.heap (HHr L R r) R r ws) (hw : ∀ b < 2, (ws b).length ≤ 1000)
    (hq : ∀ s', SrO w B (lwE L) (HCr R r) (HHr L R r) s'.heap ⟨ρ0 ns, [("rows", .ref R)], []⟩ → Rws B s'.heap (HHr L R r) R r (fun c => if c = n % 2 then ws c ++ [wayOf i (n / 2)] else ws c) → (∀ b o, b ∉ HHr L R r → s.heap.get? b = some o → s'.heap.get? b = some o) → (∃ h' tk, s' = { s with heap := h', toks := tk }) → Q .next s') :
    wpAny (model pg w) A (execs (forB (lawS 3)) (lwE L)) Q E s := by
  have hE : EnvOK (lwE L) := envOKC fd963 (by kernel_rfl)
  have hfpH : ∀ b ∈ fp (lwE L), b ∈ HHr L R r := fun b hb => List.mem_append_right _ hb
  have hdi : (ns.map fun (n : Nat) => PyData.int (n : Int))[i]? = some (.int (n : Int)) := by rw [List.getElem?_map, hi]; rfl
  have hzl : (ns.map fun (n : Nat) => PyData.int (n : Int)).length ≤ 1000000 := by rw [List.length_map]; omega
  -- rest = numbers[k] // 2
  refine wpAny_execs_cons (EsO.run (K := fun o => o = .next ⟨("rest", .int ((n / 2 : Nat) : Int)) :: ("k", .int (i : Int)) :: ρ0 ns, [("rows", .ref R)], []⟩) (EsO.assign (fun Hc H h S => Ev.eq (Ev.divI (a := (n : Int)) (b := 2) (Ev.item (xs := ns.map fun (n : Nat) => .int (n : Int)) (n := i) Ev.name Ev.name hzl hdi) Ev.cInt (by decide) (PyProof.noPylong_small (by decide))) (by congr 1; exact fdiv_nat n 2)) (.inl (by kernel_rfl)) (hK := rfl)) hA S fun o f s₁ hK ho => ?_)
  subst hK
  obtain ⟨rfl, S₁, m₁⟩ := ho
  have X₁ : Rws B s₁.heap (HHr L R r) R r ws := X.keep (fun b o _ e => m₁.view Gr.rfl' b o e) (fun o e => m₁.sub R o (.inl (.head _)) e) fun b hb o e => m₁.sub _ o (.inl (mem_r hb)) e
  -- way = []
  refine wpAny_execs_cons (wpAny_Assign_Name (List_ (args_nil (wpAny_newObj_type (data := .seq (#[] : Array Value)) ?_ (by show (#[] : Array Value).size ≤ sizeLine; decide)))))
  have nW := next_new s₁.heap
  have k₂ : Kp s₁ { s₁ with heap := s₁.heap.push ⟨.type "list", none, .seq #[] 0, #[]⟩ } := push_kp (t := s₁.toks)
  have hW₂ : (s₁.heap.push ⟨.type "list", none, .seq #[] 0, #[]⟩).PlainList s₁.heap.objs.size #[] := ⟨0, Heap.get?_push_size _ rfl⟩
  have S₂ := S₁.more (N := [s₁.heap.objs.size]) k₂ (fun b hb => by rw [List.mem_singleton.mp hb]; exact nW) (fun b hb => by rw [List.mem_singleton.mp hb]; exact ⟨_, Heap.get?_push_size _ rfl⟩)
  have nWB : B.get? s₁.heap.objs.size = none := by
    cases e : B.get? s₁.heap.objs.size with
    | none => rfl
    | some o => have := S₁.base _ _ e; rw [nW] at this; cases this
  generalize hWe : s₁.heap.objs.size = W at *
  have nWH : W ∉ HHr L R r := fun z => by obtain ⟨o, e⟩ := S₁.lt W z; rw [nW] at e; cases e
  have nWf : W ∉ fp (lwE L) := fun z => nWH (hfpH _ z)
  have X₂ : Rws B (s₁.heap.push ⟨.type "list", none, .seq #[] 0, #[]⟩) (W :: HHr L R r) R r ws := X₁.keep (fun b o _ e => by
    have hb := not_hid e
    have ea := of_hideAll _ e
    refine hideAll_get _ (k₂.keep b o ea) fun z => ?_
    rcases List.mem_cons.mp z with z | z
    · rw [z, nW] at ea; cases ea
    · exact hb z) (fun o e => k₂.keep _ _ e) fun b _ o e => k₂.keep _ _ e
  refine SrO.storeRaw (s := { s₁ with heap := s₁.heap.push ⟨.type "list", none, .seq #[] 0, #[]⟩ }) S₂ (x := "way") (.inl (by kernel_rfl)) fun s₃ S₃ m₃ hk₃ => ?_
  have S₃ : SrO w B (lwE L) (W :: HCr R r) (W :: HHr L R r) s₃.heap ⟨("rest", .int ((n / 2 : Nat) : Int)) :: ("k", .int (i : Int)) :: ρ0 ns, [("way", .ref W), ("rows", .ref R)], []⟩ := S₃
  have hW₃ : s₃.heap.PlainList W #[] := hW₂.at fun o e => m₃.sub W o (.inl (.head _)) e
  have X₃ : Rws B s₃.heap (W :: HHr L R r) R r ws := X₂.keep (fun b o _ e => m₃.view Gr.rfl' b o e) (fun o e => m₃.sub R o (.inl (.tail _ (.head _))) e) fun b hb o e => m₃.sub _ o (.inl (.tail _ (mem_r hb))) e
  have kp₃ : ∀ b o, b ∉ HHr L R r → s.heap.get? b = some o → s₃.heap.get? b = some o := fun b o hb e => by
    have e₁ := m₁.sub b o (.inr hb) e
    exact hk₃ b o (fun z => hb (hfpH _ z)) (k₂.keep b o e₁)
  have same₃ : ∃ h' tk, s₃ = { s with heap := h', toks := tk } := by
    exact sm_trans m₁.same m₃.same
  -- while rest > 0
  refine wpAny_execs_cons (wpAny_While (codeAny_whileLoop (fun m s' => ∃ (rest : Nat) (us : Array Value) (acc : List Str) (as : List Addr), SrO w B (lwE L) (W :: HCr R r) (W :: HHr L R r) s'.heap ⟨("rest", .int (rest : Int)) :: ("k", .int (i : Int)) :: ρ0 ns, [("way", .ref W), ("rows", .ref R)], []⟩ ∧ s'.heap.PlainList W us ∧ ReadsAll (hideAll s'.heap (W :: HHr L R r)) us.toList (acc.map .str) as ∧
      Rws B s'.heap (W :: HHr L R r) R r ws ∧ (∀ b o, b ∉ HHr L R r → s.heap.get? b = some o → s'.heap.get? b = some o) ∧ (∃ h' tk, s' = { s with heap := h', toks := tk }) ∧ rest < 4 ^ m ∧ acc ++ dig m rest = dig 2 (n / 2) ∧ acc.length + m ≤ 2) ?_ 2 ⟨n / 2, #[], [], [], S₃, hW₃, .nil, X₃, kp₃, same₃, by omega, rfl, by decide⟩))
  rintro m s₄ ⟨rest, us, acc, as, S₄, hW₄, ra₄, X₄, kp₄, same₄, hlt, hacc, hlen⟩
  have hsz : us.size = acc.length := by have := readsAll_length ra₄; simpa using this
  refine TsO.run (b := decide ((rest : Int) > 0)) (fun Hc H h S => Ts.cmp (a := .int (rest : Int)) Ev.name Ev.cInt Cmp.gtI) hA S₄ fun s₅ k₅ => ?_
  have S₅ := S₄.keeps k₅
  have X₅ : Rws B s₅.heap (W :: HHr L R r) R r ws := X₄.keep (fun b o _ e => k₅.hide b o e) (fun o e => k₅.keep _ _ e) fun b _ o e => k₅.keep _ _ e
  have hW₅ : s₅.heap.PlainList W us := hW₄.at fun o e => k₅.keep _ _ e
  have ra₅ := ReadsAll.keeps (k₅.hide (H := W :: HHr L R r)) ra₄
  have kp₅ : ∀ b o, b ∉ HHr L R r → s.heap.get? b = some o → s₅.heap.get? b = some o := fun b o hb e => k₅.keep b o (kp₄ b o hb e)
  have same₅ : ∃ h' tk, s₅ = { s with heap := h', toks := tk } := by
    exact sm_trans same₄ (Kp.sm k₅ :)
  by_cases hr0 : rest = 0
  · -- the end
    subst hr0
    rw [if_neg (by decide)]
    refine wpAny_execs_nil ?_
    have hd0 : dig m 0 = [] := by cases m <;> rfl
    rw [hd0, List.append_nil] at hacc
    subst hacc
    have up : ∀ b o, (hideAll s₅.heap (W :: HHr L R r)).get? b = some o → (hideAll s₅.heap (HHr L R r)).get? b = some o := hide_more fun b hb => .tail _ hb
    have rW : Reads (hideAll s₅.heap (HHr L R r)) (.ref W) (.list ((dig 2 (n / 2)).map .str)) (W :: as) := by
      obtain ⟨c, hg⟩ := hW₅
      exact .list (hideAll_get _ hg nWH) rfl rfl (ReadsAll.keeps up ra₅)
    have S₆ : SrO w B (lwE L) (HCr R r) (HHr L R r) s₅.heap ⟨("way", .list ((dig 2 (n / 2)).map .str)) :: ("rest", .int ((0 : Nat) : Int)) :: ("k", .int (i : Int)) :: ρ0 ns, [("way", .ref W), ("rows", .ref R)], []⟩ :=
      (S₅.less (fun b hb => .tail _ hb) hfpH fun b hb => ⟨List.mem_append_left _ hb, .tail _ hb⟩).addData rfl rW
    have X₆ : Rws B s₅.heap (HHr L R r) R r ws := X₅.keep (fun b o _ e => up b o e) (fun o e => e) fun b _ o e => e
    have hb2 : n % 2 < 2 := Nat.mod_lt _ (by decide)
    obtain ⟨us', as', hl', rr'⟩ := X₆.row (n % 2) hb2
    have hlen' : us'.size = (ws (n % 2)).length := by have := readsAll_length rr'; simpa using this
    have hmem : r (n % 2) ∈ HHr L R r := List.mem_append_left _ (mem_r hb2)
    have hnf : r (n % 2) ∉ fp (lwE L) := (S₆.hc _ (mem_r hb2)).2
    refine wpAny_execs_cons (wp_append (d := way (wayOf i (n / 2))) hA S₆ (fun Q hQ => ?_) hl' hmem hnf (X₆.nr _ hb2) (fun Hc H h S => ?_) (by have := hw _ hb2; omega) fun v as₇ s₇ S₇ hl₇ r₇ kp₇ same₇ => wpAny_execs_nil ?_)
    · -- rows[numbers[k] % 2]
      refine Subscript_ (RvO.run (RvO.name rfl) S₆ fun s₇ k₇ => ?_)
      have S₇ := S₆.keeps k₇
      refine EvO.run (d := .int ((n % 2 : Nat) : Int)) (fun Hc H h S => Ev.eq (Ev.modI (a := (n : Int)) (b := 2) (Ev.item (xs := ns.map fun (n : Nat) => .int (n : Int)) (n := i) Ev.name Ev.name hzl hdi) Ev.cInt (by decide)) (by congr 1; exact fmod_nat n 2)) hA S₇ fun v as₈ s₈ k₈ r₈ => ?_
      cases r₈
      obtain ⟨cR, hR⟩ := X₆.top
      have kk := k₇.comp k₈
      have hbb : n % 2 = 0 ∨ n % 2 = 1 := by omega
      refine item_list ⟨_, kk.keep _ _ hR, rfl, _, rfl⟩ (by omega) (by omega) (x := .ref (r (n % 2))) ?_ (hQ _ kk) (by with_unfolding_all rfl) (by intro _; with_unfolding_all rfl)
      rcases hbb with q | q <;> rw [q] <;> rfl
    · unfold way wayOf
      rw [List.map_append]
      refine Ev.addL (Ev.name (d := .list ((dig 2 (n / 2)).map .str))) (Ev.disp (ds := [.str (fileN i)]) (EvAll.cons (Ev.addS (a := (⟨#[97 + i]⟩ : Str)) (b := ".p") (Ev.eq (chr_ev (x := "chr") (HB.up S.base) hE (by kernel_rfl) (i := ((97 + i : Nat) : Int)) (Ev.eq (Ev.addI (a := 97) (b := (i : Int)) Ev.cInt Ev.name) (by congr 1)) (by omega) (by omega)) (by rw [Int.toNat_natCast])) Ev.cStr (by show 1 + _ ≤ _; rw [sizeLine_eq]; decide)) EvAll.nil) (by show 1 ≤ 1000000; decide)) (by rw [List.length_map]; have := congrArg List.length (rfl : dig 2 (n / 2) = dig 2 (n / 2)); omega) (by show 1 ≤ 1000000; decide)
    · have e7 : ∀ b o, dataC o → (hideAll s₅.heap (HHr L R r)).get? b = some o → (hideAll s₇.heap (HHr L R r)).get? b = some o := fun b o _ e => hideAll_get _ (kp₇ b o (fun q => not_hid e (q ▸ hmem)) (of_hideAll _ e)) (not_hid e)
      refine hq s₇ (S₇.sub (sub_of fun p hp => ?_) (sub_of fun p hp => ?_)) ⟨X₆.top.at fun o e => kp₇ _ o (X₆.neR _ hb2) e, fun b hb => ?_, X₆.ne, X₆.neR, X₆.nR, X₆.nr⟩ (fun b o hb e => kp₇ b o (fun q => hb (q ▸ hmem)) (kp₅ b o hb e)) ?_
      · simp only [List.mem_cons, List.not_mem_nil, or_false] at hp
        rcases hp with rfl | rfl <;> rfl
      · simp only [List.mem_cons, List.not_mem_nil, or_false] at hp
        subst hp; rfl
      · by_cases q : b = n % 2
        · subst q
          obtain ⟨cs, rn⟩ := readsAll_snoc (readsAll_keepsC e7 rr') r₇
          refine ⟨_, cs, hl₇, ?_⟩
          rw [if_pos rfl, Array.toList_push, List.map_append]
          exact rn
        · obtain ⟨us₂, as₂, hl₂, rr₂⟩ := X₆.row b hb
          rw [if_neg q]
          refine ⟨us₂, as₂, hl₂.at fun o e => kp₇ _ o (fun z => ?_) e, readsAll_keepsC e7 rr₂⟩
          have hbb : (b = 0 ∧ n % 2 = 1) ∨ (b = 1 ∧ n % 2 = 0) := by omega
          rcases hbb with ⟨q1, q2⟩ | ⟨q1, q2⟩ <;> rw [q1, q2] at z
          · exact X₆.ne z
          · exact X₆.ne z.symm
      · exact sm_trans same₅ same₇
  · -- a turn
    rw [if_pos (by simp; omega)]
    obtain ⟨m', rfl⟩ : ∃ m', m = m' + 1 := by
      cases m with
      | zero => simp at hlt; omega
      | succ m' => exact ⟨m', rfl⟩
    have hd1 : dig (m' + 1) rest = (nmL[rest % 4]?).getD "" :: dig m' (rest / 4) := by
      show (if rest = 0 then [] else _) = _
      rw [if_neg hr0]
    rw [hd1] at hacc
    have hr4 : rest % 4 < 4 := Nat.mod_lt _ (by decide)
    have hnm : (nmL.map PyData.str)[rest % 4]? = some (.str ((nmL[rest % 4]?).getD "")) := by
      have : ∀ j < 4, (nmL.map PyData.str)[j]? = some (.str ((nmL[j]?).getD "")) := by
        intro j hj
        match j, hj with
        | 0, _ => rfl
        | 1, _ => rfl
        | 2, _ => rfl
        | 3, _ => rfl
      exact this _ hr4
    refine wpAny_execs_cons (wp_append (d := .str ((nmL[rest % 4]?).getD "")) hA S₅ (fun Q hQ => RvO.run (RvO.name rfl) S₅ hQ) hW₅ (.head _) nWf nWB (fun Hc H h S => Ev.item (xs := nmL.map .str) (n := rest % 4) Ev.name (Ev.eq (Ev.modI (a := (rest : Int)) (b := 4) Ev.name Ev.cInt (by decide)) (by congr 1; exact fmod_nat rest 4)) (by decide) hnm) (by omega) fun v as₆ s₆ S₆ hW₆ r₆ kp₆ same₆ => ?_)
    refine wpAny_execs_cons (EsO.run (K := fun o => o = .next ⟨("rest", .int ((rest / 4 : Nat) : Int)) :: ("rest", .int (rest : Int)) :: ("k", .int (i : Int)) :: ρ0 ns, [("way", .ref W), ("rows", .ref R)], []⟩) (EsO.assign (fun Hc H h S => Ev.eq (Ev.divI (a := (rest : Int)) (b := 4) Ev.name Ev.cInt (by decide) (PyProof.noPylong_small (by decide))) (by congr 1; exact fdiv_nat rest 4)) (.inl (by kernel_rfl)) (hK := rfl)) hA S₆ fun o f s₇ hK ho => ?_)
    subst hK
    obtain ⟨rfl, S₇, m₇⟩ := ho
    refine wpAny_execs_nil ?_
    have e6 : ∀ b o, dataC o → (hideAll s₅.heap (W :: HHr L R r)).get? b = some o → (hideAll s₆.heap (W :: HHr L R r)).get? b = some o := fun b o _ e => hideAll_get _ (kp₆ b o (fun q => not_hid e (q ▸ .head _)) (of_hideAll _ e)) (not_hid e)
    have inW : ∀ b, b ∈ HHr L R r → b ≠ W := fun b hb q => nWH (q ▸ hb)
    have X₆ : Rws B s₆.heap (W :: HHr L R r) R r ws := X₅.keep e6 (fun o e => kp₆ _ o (inW _ (.head _)) e) fun b hb o e => kp₆ _ o (inW _ (List.mem_append_left _ (mem_r hb))) e
    obtain ⟨cs, rn⟩ := readsAll_snoc (readsAll_keepsC e6 ra₅) r₆
    refine ⟨m', Nat.lt_succ_self _, rest / 4, us.push v, acc ++ [(nmL[rest % 4]?).getD ""], cs, S₇.sub (sub_of fun p hp => ?_) (fun _ _ e => e), hW₆.at fun o e => m₇.sub W o (.inl (.head _)) e, ?_, X₆.keep (fun b o _ e => m₇.view Gr.rfl' b o e) (fun o e => m₇.sub R o (.inl (.tail _ (.head _))) e) (fun b hb o e => m₇.sub _ o (.inl (.tail _ (mem_r hb))) e), fun b o hb e => ?_, ?_, ?_, ?_, ?_⟩
    · simp only [List.mem_cons, List.not_mem_nil, or_false] at hp
      rcases hp with rfl | rfl | rfl | rfl <;> rfl
    · rw [Array.toList_push, List.map_append]
      exact ReadsAll.keeps (m₇.view Gr.rfl') rn
    · by_cases q : b = W
      · subst q
        have := m₁.sub b o (.inr hb) e
        rw [nW] at this; cases this
      · refine m₇.sub b o (.inr fun z => ?_) (kp₆ b o q (kp₅ b o hb e))
        exact (List.mem_cons.mp z).elim q hb
    · exact sm_trans same₅ (sm_trans same₆ m₇.same)
    · have : 4 ^ (m' + 1) = 4 ^ m' * 4 := Nat.pow_succ ..
      omega
    · rw [← hacc]; simp
    · simp; omega
end
end Mine
end
section
open PySem PySem.W PySem.Calls PyProof.Rows PySem.Spec
namespace Mine
noncomputable def rowsTo (ns : List Nat) (c : Nat) : Nat → List (List Str)
  | 0 => []
  | j + 1 => if c = (ns[j]?).getD 0 % 2 then rowsTo ns c j ++ [wayOf j ((ns[j]?).getD 0 / 2)] else rowsTo ns c j
theorem rowsTo_len (ns : List Nat) (c : Nat) : ∀ j, (rowsTo ns c j).length ≤ j
  | 0 => Nat.le_refl _
  | j + 1 => by
    have := rowsTo_len ns c j
    unfold rowsTo
    split
    · simp; omega
    · omega
section
variable {w : World} {B : Heap} {k : Nat} {A : Around} {E : Value → Shared → Prop} {s : Shared}
theorem Src.run {env : Env} {ρ : Vars} {it : Expr} {xs : List PyData} {H : List Addr} {Q : Value → Shared → Prop} (h : Src w B k env ρ it xs) (hA : AOK k A) (C : Cx B env H s.heap ρ)
    (hq : ∀ I fpI wr P St s', Kp s s' → Walks pg w A I fpI wr xs.length P St → St 0 s'.heap → (∀ b ∈ wr, s.heap.get? b = none) → (∀ i h, St i h → ∀ b ∈ wr, ∃ o, h.get? b = some o ∧ ¬ dataC o) →
      (∀ b ∈ fpI, b ∉ H ∧ ∃ o, s'.heap.get? b = some o) → (∀ i v, i < xs.length → P i v → ∃ d as, xs[i]? = some d ∧ Reads (hideAll s'.heap H) v d as) → Q (.ref I) s') :
    wpAny (model pg w) A (eval it env) (fun x s₁ => wpAny (model pg w) A (pyIter x) Q E s₁) E s := h A s H Q E hA C hq
set_option maxHeartbeats 2000000 in
theorem law_loop (HB : Bs w B) {L R : Addr} {r : Nat → Addr} {ns : List Nat} {Q : Flow → Shared → Prop} (hA : AOK (k + 1) A)
    (S : SrO w B (lwE L) (HCr R r) (HHr L R r) s.heap ⟨ρ0 ns, [("rows", .ref R)], []⟩) (hn : ∀ n ∈ ns, n < 32) (hz : ns.length ≤ 900) (X : Rws B s.heap (HHr L R r) R r fun _ => [])
    (hq : ∀ s', SrO w B (lwE L) (HCr R r) (HHr L R r) s'.heap ⟨ρ0 ns, [("rows", .ref R)], []⟩ → Rws B s'.heap (HHr L R r) R r (fun c => rowsTo ns c ns.length) → (∀ b o, b ∉ HHr L R r → s.heap.get? b = some o → s'.heap.get? b = some o) → (∃ h' tk, s' = { s with heap := h', toks := tk }) → Q .next s') :
    wpAny (model pg w) A (exec (lawS 3) (lwE L)) Q E s := by
  have hE : EnvOK (lwE L) := envOKC fd963 (by kernel_rfl)
  have al : ∀ b ∈ HHr L R r, ∃ o, s.heap.get? b = some o := S.lt
  have hfpH : ∀ b ∈ fp (lwE L), b ∈ HHr L R r := fun b hb => List.mem_append_right _ hb
  refine wpAny_For (Src.run (Src.range1 (n := ns.length) (HB.up S.base) hE (by kernel_rfl) (Ev.eq (Ev.lenL (x := "len") (xs := ns.map fun (n : Nat) => PyData.int (n : Int)) (HB.up S.base) hE (by kernel_rfl) Ev.name (by rw [List.length_map]; omega)) (by rw [List.length_map])) (by omega)) hA S.cx fun I fpI wr P St s₁ k₁ W st h1 h2 h3 h4 => ?_)
  have nwr : ∀ b ∈ wr, b ∉ HHr L R r := fun b hb z => by obtain ⟨o, e⟩ := al b z; rw [h1 b hb] at e; cases e
  have nB : ∀ b ∈ wr, B.get? b = none := fun b hb => by
    cases e : B.get? b with
    | none => rfl
    | some o => have := S.base _ _ e; rw [h1 b hb] at this; cases this
  have hlen : (rng 0 1 ns.length).length = ns.length := by rw [rng_up]; simp
  refine loop_walks (J := fun i s' => SrO w B (lwE L) (HCr R r) (HHr L R r) s'.heap ⟨ρ0 ns, [("rows", .ref R)], []⟩ ∧ Rws B s'.heap (HHr L R r) R r (fun c => rowsTo ns c i) ∧ (∀ b o, b ∉ HHr L R r → s.heap.get? b = some o → s'.heap.get? b = some o) ∧ (∃ h' tk, s' = { s with heap := h', toks := tk })) W st ⟨S.keeps k₁, X.keep (fun b o _ e => k₁.hide b o e) (fun o e => k₁.keep _ _ e) (fun b _ o e => k₁.keep _ _ e), fun b o _ e => k₁.keep b o e, ?_⟩ ?_ ?_ ?_
  · exact k₁.sm
  · -- the iterator moves
    rintro i s₂ h' tk hst ⟨S₂, X₂, kp₂, same₂⟩ hk
    have hw : ∀ b ∈ wr, b ∉ HHr L R r ∧ B.get? b = none ∧ ∃ o, s₂.heap.get? b = some o ∧ ¬ dataC o := fun b hb => ⟨nwr b hb, nB b hb, h2 i _ hst b hb⟩
    refine ⟨S₂.turn0 hk hw, X₂.keep (fun b o hc e => ?_) (fun o e => hk R o (fun z => nwr R z (.head _)) e) (fun b hb o e => hk _ o (fun z => nwr _ z (List.mem_append_left _ (mem_r hb))) e), fun b o hb e => ?_, ?_⟩
    · refine hideAll_get _ (hk b o (fun z => ?_) (of_hideAll _ e)) (not_hid e)
      obtain ⟨_, _, o', e', n⟩ := hw b z
      rw [of_hideAll _ e] at e'; cases e'; exact n hc
    · exact hk b o (fun z => by rw [h1 b z] at e; cases e) (kp₂ b o hb e)
    · exact sm_trans same₂ ⟨h', tk, rfl⟩
  · -- a turn
    rintro i v s₂ hi hP hst ⟨S₂, X₂, kp₂, same₂⟩
    rw [hlen] at hi
    obtain ⟨d, as, hd, rd⟩ := h4 i v (by rw [hlen]; exact hi) hP
    rw [rng_up] at hd
    simp [hi] at hd
    subst hd
    cases rd
    obtain ⟨n, hni⟩ : ∃ n, ns[i]? = some n := ⟨ns[i], by rw [List.getElem?_eq_getElem hi]⟩
    have hn32 : n < 32 := hn n (List.mem_of_getElem? hni)
    refine wpAny_assign_Name (SrO.store (s := s₂) S₂ (x := "k") (.inl (by kernel_rfl)) rfl (.int _ _) fun s₃ S₃ m₃ => ?_)
    have X₃ : Rws B s₃.heap (HHr L R r) R r (fun c => rowsTo ns c i) := X₂.keep (fun b o _ e => m₃.view Gr.rfl' b o e) (fun o e => m₃.sub R o (.inl (.head _)) e) fun b hb o e => m₃.sub _ o (.inl (mem_r hb)) e
    refine law_turn HB hA S₃ hni hn32 (by omega) (by omega) X₃ (fun b _ => Nat.le_trans (rowsTo_len _ _ _) (by omega)) fun s₄ S₄ X₄ kp₄ same₄ => ⟨rfl, ⟨S₄, ?_, fun b o hb e => kp₄ b o hb (m₃.sub b o (.inr hb) (kp₂ b o hb e)), ?_⟩, ?_⟩
    · have : (fun c => rowsTo ns c (i + 1)) = fun c => if c = n % 2 then rowsTo ns c i ++ [wayOf i (n / 2)] else rowsTo ns c i := by
        funext c
        show (if c = (ns[i]?).getD 0 % 2 then _ else _) = _
        rw [hni]
        rfl
      rw [this]; exact X₄
    · exact sm_trans same₂ (sm_trans m₃.same same₄)
    · refine W.frame _ _ _ hst fun b hb o e => ?_
      have nb := (h3 b hb).1
      exact kp₄ b o nb (m₃.sub b o (.inr nb) e)
  · rintro s' ⟨S', X', kp', same'⟩
    rw [hlen] at X'
    exact hq s' S' X' kp' same'
end
end Mine
end
section
open PySem PySem.W PySem.Calls PyProof.Rows PySem.Spec
namespace Mine
noncomputable def dWays (x : List (List Str)) : PyData := .list (x.map way)
noncomputable def dRows (rs : List (List (List Str))) : PyData := .list (rs.map dWays)
section
variable {w : World} {B : Heap} {k : Nat} {env : Env} {ρ : Vars}
theorem Rws.data {h : Heap} {L R : Addr} {r : Nat → Addr} {ws : Nat → List (List Str)} {ns : List Nat} (S : SrO w B (lwE L) (HCr R r) (HHr L R r) h ⟨ρ0 ns, [("rows", .ref R)], []⟩) (X : Rws B h (HHr L R r) R r ws) :
    Sr B (lwE L) [] (fp (lwE L)) h ⟨("rows", dRows [ws 0, ws 1]) :: ρ0 ns, none⟩ := by
  have hfpH : ∀ b ∈ fp (lwE L), b ∈ HHr L R r := fun b hb => List.mem_append_right _ hb
  have up : ∀ b o, (hideAll h (HHr L R r)).get? b = some o → (hideAll h (fp (lwE L))).get? b = some o := hide_more hfpH
  have nf : ∀ b ∈ HCr R r, b ∉ fp (lwE L) := fun b hb => (S.hc b hb).2
  have row : ∀ b < 2, ∃ as, Reads (hideAll h (fp (lwE L))) (.ref (r b)) (dWays (ws b)) as := fun b hb => by
    obtain ⟨us, as, ⟨c, hg⟩, ra⟩ := X.row b hb
    exact ⟨_, .list (hideAll_get _ hg (nf _ (mem_r hb))) rfl rfl (ReadsAll.keeps up ra)⟩
  obtain ⟨as0, r0⟩ := row 0 (by decide)
  obtain ⟨as1, r1⟩ := row 1 (by decide)
  obtain ⟨c, hR⟩ := X.top
  have rR : Reads (hideAll h (fp (lwE L))) (.ref R) (dRows [ws 0, ws 1]) _ := .list (hideAll_get _ hR (nf _ (.head _))) rfl rfl (.cons r0 (.cons r1 .nil))
  have S' : SrO w B (lwE L) [] (fp (lwE L)) h ⟨ρ0 ns, [("rows", .ref R)], []⟩ := S.less hfpH (fun b hb => hb) fun b hb => nomatch hb
  exact (S'.addData (d := dRows [ws 0, ws 1]) rfl rR).toS
theorem Sr.hideN {Hc H : List Addr} {h : Heap} {b : Addr} (S : Sr B env Hc H h ⟨ρ, none⟩) (hb : ∃ o, h.get? b = some o ∧ ¬ dataC o) : Sr B env Hc (b :: H) h ⟨ρ, none⟩ := by
  obtain ⟨vs, F, hρ, ho⟩ := S.fr
  have up : ∀ a o, dataC o → (hideAll h H).get? a = some o → (hideAll h (b :: H)).get? a = some o := fun a o hc e => by
    refine hideAll_get _ (of_hideAll _ e) fun q => ?_
    rcases List.mem_cons.mp q with q | q
    · obtain ⟨o', e', n⟩ := hb
      rw [← q, of_hideAll _ e] at e'; cases e'; exact n hc
    · exact not_hid e q
  exact ⟨S.base, ⟨vs, F, fun x d e => let ⟨hx, v, as, hv, r⟩ := hρ x d e; ⟨hx, v, as, hv, reads_keepsC up r⟩, fun x ds e => by cases e⟩, fun a ha => .tail _ (S.fpH a ha), fun a ha => ⟨.tail _ (S.hc a ha).1, (S.hc a ha).2⟩, fun a ha => by
    rcases List.mem_cons.mp ha with q | q
    · obtain ⟨o, e, _⟩ := hb; exact ⟨o, q ▸ e⟩
    · exact S.lt a q⟩
theorem Sr.lessH {Hc H H' : List Addr} {h : Heap} (S : Sr B env Hc H h ⟨ρ, none⟩) (h1 : ∀ b ∈ H', b ∈ H) (h2 : ∀ b ∈ fp env, b ∈ H') : Sr B env [] H' h ⟨ρ, none⟩ := by
  obtain ⟨vs, F, hρ, ho⟩ := S.fr
  exact ⟨S.base, ⟨vs, F, fun x d e => let ⟨hx, v, as, hv, r⟩ := hρ x d e; ⟨hx, v, as, hv, Reads.keeps (hide_more h1) r⟩, fun x ds e => by cases e⟩, h2, fun b hb => (nomatch hb), fun b hb => S.lt b (h1 b hb)⟩
set_option maxHeartbeats 1000000 in
theorem comp_kj {A : Around} {s s₂ : Shared} {H : List Addr} {x : Str} {px pos : Pos} {elt iter : Expr} {scope : Scope} {cl : List (Str × Addr)} {I : Addr} {fpI wr : List Addr} {P : Nat → Value → Prop} {St : Nat → Heap → Prop} {xs : List PyData} {ls : List Str}
    {RR : Value → Addr → Result → Shared → Prop} {E : Value → Shared → Prop} (hA : AOK k A) (C₀ : Cx B env H s.heap ρ) (h9 : 909 ∈ H) (h9B : B.get? 909 = none) (hok : compOk scope x = true) (k₂ : Kp s s₂) (W : Walks pg w A I fpI wr xs.length P St) (hst : St 0 s₂.heap)
    (hwr : ∀ b ∈ wr, s.heap.get? b = none) (hcl : ∀ i h, St i h → ∀ b ∈ wr, ∃ o, h.get? b = some o ∧ ¬ dataC o) (hfp : ∀ b ∈ fpI, b ∉ H ∧ ∃ o, s₂.heap.get? b = some o)
    (hP : ∀ i v, i < xs.length → P i v → ∃ d as, xs[i]? = some d ∧ Reads (hideAll s₂.heap H) v d as) (hlen : ls.length = xs.length) (hz : xs.length ≤ 1000000) (ht : Tb s.heap) (hg : AllBare s.gens)
    (hel : ∀ (i : Nat) d t, xs[i]? = some d → ls[i]? = some t → ∀ (C D : Addr) (s₃ : Shared) (Q : Value → Shared → Prop) (E : Value → Shared → Prop), Cx B (compEnvC scope cl C env) (C :: D :: H) s₃.heap [(x, d)] → Tb s₃.heap → AllBare s₃.gens → (∀ tk s₄, Kj s₃ s₄ → Q (.str t tk) s₄) → wpAny (model pg w) A (eval elt (compEnvC scope cl C env)) Q E s₃)
    (hRR : ∀ D C s' m' l, s₂.heap.get? D = none → s₂.heap.get? C = none → D ≠ C → s'.heap.Ns C m' → s'.heap.PlainList D (strValues l).toArray → l.map (·.1) = ls → (∀ b o, b ≠ 909 → b ∉ wr → s₂.heap.get? b = some o → s'.heap.get? b = some o) → AllBare s'.gens → s'.os = s.os → Tb s'.heap → RR (.ref D) C (.ok .next) s') :
    wpAny (model pg w) A (newList []) (fun acc s₃ => wpAny (model pg w) A (newFunctionEnv scope env.globals cl [] env.qual none .none (some env)) (fun cenv s₄ =>
      codeAny (model pg w) A (.compStart (.ListComp elt [⟨.Name x px, iter, [], 0⟩] scope pos) 0 (.ref I) acc { cenv with scope := relabel scope env }) (RR acc cenv.locals) s₄) E s₃) E s₂ := by
  simp only [compOk, Bool.and_eq_true, List.all_eq_true, bne_iff_ne, beq_iff_eq, Bool.or_eq_true] at hok
  obtain ⟨⟨⟨hcell, hkind⟩, hnames⟩, hx⟩ := hok
  refine wpAny_newObj_type (wpAny_newFunctionEnv hcell (by intro y hy; simp at hy) (fun h₁ hns₁ hsb₁ => ?_) hkind) (by show 0 ≤ sizeLine; exact Nat.zero_le _)
  dsimp only at hns₁ hsb₁ ⊢
  generalize hH2 : s₂.heap.push { cls := .type "list", dict := none, data := .seq ([] : List Value).toArray } = H2 at hns₁ hsb₁ ⊢
  have hC : H2.objs.size = s₂.heap.objs.size + 1 := by rw [← hH2, Heap.size_push]
  have hDC : s₂.heap.objs.size ≠ H2.objs.size := by rw [hC]; exact Nat.ne_of_lt (Nat.lt_succ_self _)
  have below : ∀ b, b < s₂.heap.objs.size → b ≠ H2.objs.size ∧ b ≠ s₂.heap.objs.size := fun b hb => ⟨by rw [hC]; exact Nat.ne_of_lt (Nat.lt_succ_of_lt hb), Nat.ne_of_lt hb⟩
  have old : ∀ b o, s₂.heap.get? b = some o → h₁.get? b = some o := fun b o e => hsb₁.extBut b o (below b (Heap.lt_size e)).1 (Heap.get?_push_of_some _ (hH2 ▸ Heap.get?_push_of_some _ e))
  have fresh : ∀ a, s₂.heap.objs.size ≤ a → s₂.heap.get? a = none := fun a ha => by
    cases e : s₂.heap.get? a with
    | none => rfl
    | some o' => exact absurd (Heap.lt_size e) (Nat.not_lt.mpr ha)
  have hacc : h₁.PlainList s₂.heap.objs.size #[] := ⟨_, hsb₁.extBut _ _ hDC (Heap.get?_push_of_some _ (hH2 ▸ Heap.get?_push_size _ rfl))⟩
  have hst₁ : St 0 h₁ := W.frame _ _ _ hst fun b _ o e => old b o e
  have fD := fresh s₂.heap.objs.size (Nat.le_refl _)
  have fC := fresh H2.objs.size (by rw [hC]; exact Nat.le_succ _)
  generalize hD : s₂.heap.objs.size = D at *
  generalize hCe : H2.objs.size = C at *
  have hDf : D ∉ fpI := fun hm => by obtain ⟨_, o, e⟩ := hfp _ hm; rw [fD] at e; cases e
  have hCf : C ∉ fpI := fun hm => by obtain ⟨_, o, e⟩ := hfp _ hm; rw [fC] at e; cases e
  have h9f : 909 ∉ fpI := fun hm => (hfp _ hm).1 h9
  have hCw : C ∉ wr := fun h => hCf (W.sub _ h)
  have hDw : D ∉ wr := fun h => hDf (W.sub _ h)
  have h9w : 909 ∉ wr := fun h => h9f (W.sub _ h)
  have nCD : ∀ b o, s₂.heap.get? b = some o → b ≠ C ∧ b ≠ D := fun b o e => ⟨(fun q => by rw [q, fC] at e; cases e), fun q => by rw [q, fD] at e; cases e⟩
  have nwr : ∀ b o, s.heap.get? b = some o → b ∉ wr := fun b o e q => by rw [hwr b q] at e; cases e
  obtain ⟨o9, a9⟩ : ∃ o, s₂.heap.get? 909 = some o := let ⟨ps, a, _⟩ := ht; ⟨_, k₂.keep _ _ a⟩
  have n9C : C ≠ 909 := fun q => (nCD 909 o9 a9).1 q.symm
  have n9D : D ≠ 909 := fun q => (nCD 909 o9 a9).2 q.symm
  have tb_at : ∀ {h h' : Heap}, Tb h → (∀ o, h.get? 909 = some o → h'.get? 909 = some o) → Tb h' := fun ⟨ps, a, b⟩ hh => ⟨ps, hh _ a, b⟩
  have loop : ∀ s₃ : Shared, s₃ = { s₂ with heap := h₁, toks := s₂.toks + ([] : List (Str × Value)).length } →
      codeAny (model pg w) A (.compLoop (.ListComp elt [⟨.Name x px, iter, [], 0⟩] scope pos) 0 (.ref I) (.ref D) (compEnvC scope cl C env)) (RR (.ref D) C) s₃ := by
    rintro s₃ rfl
    refine codeAny_compLoop_tests (fun n s' => ∃ m' l i, n = xs.length + 1 - i ∧ i ≤ xs.length ∧ St i s'.heap ∧ s'.heap.PlainList D (strValues l).toArray ∧ s'.heap.Ns C m' ∧ (∀ b o, b ≠ 909 → b ∉ wr → s₂.heap.get? b = some o → s'.heap.get? b = some o) ∧
      l.map (·.1) = ls.take i ∧ AllBare s'.gens ∧ s'.os = s.os ∧ Tb s'.heap) ?_ (xs.length + 1)
      ⟨_, [], 0, rfl, Nat.zero_le _, hst₁, hacc, hns₁, fun b o _ _ e => old b o e, rfl, ?_, ?_, ?_⟩
    · rintro n s' ⟨m', l, i, rfl, hi, hst', hacc', hn', hk', hl, hg', hos', ht'⟩
      have hll : l.length = i := by have := congrArg List.length hl; simpa [hlen, Nat.min_eq_left hi] using this
      by_cases hlt : i < xs.length
      · refine W.item i _ _ _ hlt hst' fun v h₂ tk₂ hPv hst₂ hk₂ => ?_
        obtain ⟨d, bs, hd, r⟩ := hP i v hlt hPv
        obtain ⟨t, hti⟩ : ∃ t, ls[i]? = some t := ⟨ls[i], List.getElem?_eq_getElem (by omega)⟩
        refine wpAny_assign_Name (wpAny_storeName_local (lookup_relabel_local hx) (hn'.at' fun o e => hk₂ _ o hCw e) (fun h₃ hn₃ hs₃ => ?_) (by simp [compEnvC, relabel, hkind]))
        have up₃ : ∀ b o, b ≠ C → b ∉ wr → s'.heap.get? b = some o → h₃.get? b = some o := fun b o hbC hbf e => hs₃.extBut b o hbC (hk₂ b o hbf e)
        have hst₃ : St (i + 1) h₃ := W.frame _ _ _ hst₂ fun b hb o e => hs₃.extBut b o (fun h => hCf ((show b = C from h) ▸ hb)) e
        have up₂₃ : ∀ b o, b ≠ 909 → b ∉ wr → s₂.heap.get? b = some o → h₃.get? b = some o := fun b o h9b hb e => up₃ b o (nCD b o e).1 hb (hk' b o h9b hb e)
        have up₀₃ : ∀ b o, b ≠ 909 → s.heap.get? b = some o → h₃.get? b = some o := fun b o h9b e => up₂₃ b o h9b (nwr b o e) (k₂.keep b o e)
        have r₃ : Reads (hideAll h₃ (C :: D :: H)) v d bs := by
          refine reads_keepsC (fun b o hc e => ?_) r
          have hb := not_hid e
          have ea := of_hideAll H e
          have nw : b ∉ wr := fun q => by obtain ⟨o', e', n'⟩ := hcl 0 _ hst b q; rw [ea] at e'; cases e'; exact n' hc
          refine hideAll_get _ (up₂₃ b o (fun q => hb (q ▸ h9)) nw ea) fun q => ?_
          rcases List.mem_cons.mp q with q | q
          · exact (nCD b o ea).1 q
          rcases List.mem_cons.mp q with q | q
          · exact (nCD b o ea).2 q
          · exact hb q
        have hacc₃ : h₃.PlainList D (strValues l).toArray := hacc'.at fun o e => up₃ D o hDC hDw e
        have ht₃ : Tb h₃ := tb_at ht' fun o e => up₃ 909 o (Ne.symm n9C) h9w e
        have C₃ : Cx B (compEnvC scope cl C env) (C :: D :: H) h₃ [(x, d)] := by
          refine ⟨fun b o e => up₀₃ b o (fun q => by rw [q, h9B] at e; cases e) (C₀.base b o e), fun y dy ey => ?_, fun b hb => ?_⟩
          · rw [List.lookup_cons] at ey
            split at ey
            · rename_i q
              cases ey
              have := beq_iff_eq.mp q
              subst this
              exact ⟨v, bs, Var.local (env := compEnvC scope cl C env) (x := y) (by simp [compEnvC, relabel, hkind]) (lookup_relabel_local (env := env) hx) hn₃ (by simp), r₃⟩
            · cases ey
          · rcases List.mem_cons.mp hb with rfl | hb
            · obtain ⟨o, _, _, e, _⟩ := hn₃; exact ⟨o, e⟩
            rcases List.mem_cons.mp hb with rfl | hb
            · obtain ⟨o, e⟩ := hacc₃; exact ⟨_, e⟩
            · by_cases q : b = 909
              · obtain ⟨ps, a, _⟩ := ht₃; exact ⟨_, q ▸ a⟩
              · obtain ⟨o, e⟩ := C₀.al b hb; exact ⟨o, up₀₃ b o q e⟩
        rw [List.forIn_nil]
        refine wpAny_pure ?_
        rw [if_pos rfl]
        refine hel i d t hd hti C D _ _ _ C₃ ht₃ hg' fun tk s₄ kj => ?_
        have hacc₄ : s₄.heap.PlainList D (strValues l).toArray := hacc₃.at fun o e => kj.keep D o n9D e
        have hn₄ := hn₃.at' fun o e => kj.keep C o n9C e
        refine wpAny_list_append_plain hacc₄ (fun h₅ hl₅ hs₅ => ?_) (by simp [strValues, hll]; rw [sizeLine_eq]; omega)
        refine ⟨xs.length + 1 - (i + 1), by omega, _, l ++ [(t, tk)], i + 1, rfl, hlt, W.frame _ _ _ hst₃ fun b hb o e => hs₅.extBut b o (fun q => hDf (q ▸ hb)) (kj.keep b o (fun q => h9f (q ▸ hb)) e), ?_, hn₄.sameBut hs₅ (Ne.symm hDC), fun b o h9b hb e => hs₅.extBut b o (nCD b o e).2 (kj.keep b o h9b (up₂₃ b o h9b hb e)), ?_, kj.bare, kj.os.trans hos', tb_at kj.tb fun o e => hs₅.extBut _ o (Ne.symm n9D) e⟩
        · have : (strValues (l ++ [(t, tk)])).toArray = (strValues l).toArray.push (.str t tk) := by simp [strValues]
          rw [this]; exact hl₅
        · rw [List.map_append, hl, List.take_succ, hti]; rfl
      · have hin : i = xs.length := by omega
        refine W.done _ _ _ (hin ▸ hst') fun h₂ tk₂ hk₂ => ?_
        refine hRR D C _ m' l fD fC hDC (hn'.at' fun o e => hk₂ _ o hCw e) (hacc'.at fun o e => hk₂ _ o hDw e) (by rw [hl, hin, ← hlen, List.take_length]) (fun b o h9b hb e => hk₂ b o hb (hk' b o h9b hb e)) hg' hos' (tb_at ht' fun o e => hk₂ 909 o h9w e)
    · show AllBare s₂.gens; rw [sm_gens k₂.sm]; exact hg
    · show s₂.os = s.os; exact sm_os k₂.sm
    · exact tb_at ht fun o e => old _ _ (k₂.keep _ _ e)
  exact codeAny_compStart_list (loop _ rfl) (W.self 0 _ _ _ hst₁ (loop _ rfl))
end
end Mine
end
section
open PySem PySem.W PySem.Calls PyProof.Rows PySem.Spec
namespace Mine
structure RowOK (r : List (List Str)) (Ws : List (Str × Bool)) : Prop where
  ws : r.map (Txt.join "/") = Ws.map (·.1)
  jo : ∀ x ∈ r, JoinOk "/" x = true
  q : ∀ p ∈ Ws, QOK p
  j : JoinOk " " (Ws.map qd) = true
  len : r.length ≤ 1000
theorem Kp.kj {s s₁ s₂ : Shared} (k : Kp s s₁) (j : Kj s₁ s₂) : Kj s s₂ := by
  obtain ⟨h, t, rfl, hk⟩ := k
  exact ⟨fun b o hb e => j.keep b o hb (hk b o e), j.bare, j.os, j.tb⟩
theorem Tb.keep {h h' : Heap} (t : Tb h) (hk : ∀ o, h.get? 909 = some o → h'.get? 909 = some o) : Tb h' := let ⟨ps, a, b⟩ := t; ⟨ps, hk _ a, b⟩
section
variable {w : World} {B : Heap} {k : Nat} {env : Env} {ρ : Vars}
theorem Sr.step {Hc H N : List Addr} {h h' : Heap} {D : Addr} (S : Sr B env Hc H h ⟨ρ, none⟩) (hDH : D ∈ H) (hDf : D ∉ fp env) (hDB : B.get? D = none) (hk : ∀ b o, b ≠ D → h.get? b = some o → h'.get? b = some o) (hD : ∃ o, h'.get? D = some o)
    (hn : ∀ b ∈ N, h.get? b = none) (ha : ∀ b ∈ N, ∃ o, h'.get? b = some o) : Sr B env [] (N ++ H) h' ⟨ρ, none⟩ := by
  obtain ⟨vs, F, hρ, ho⟩ := S.fr
  have up : ∀ a o, (hideAll h H).get? a = some o → (hideAll h' (N ++ H)).get? a = some o := fun a o e => by
    refine hideAll_get _ (hk a o (fun q => not_hid e (q ▸ hDH)) (of_hideAll _ e)) fun q => ?_
    rcases List.mem_append.mp q with q | q
    · have := of_hideAll _ e; rw [hn a q] at this; cases this
    · exact not_hid e q
  refine ⟨fun b o e => hk b o (fun q => by rw [q, hDB] at e; cases e) (S.base b o e), ⟨vs, F.keeps fun b o hb e => hk b o (fun q => hDf (q ▸ hb)) e, fun x d e => let ⟨hx, v, as, hv, r⟩ := hρ x d e; ⟨hx, v, as, hv, Reads.keeps up r⟩, fun x ds e => by cases e⟩, fun b hb => List.mem_append_right _ (S.fpH b hb), fun b hb => (nomatch hb), fun a ha' => ?_⟩
  rcases List.mem_append.mp ha' with q | q
  · exact ha a q
  · by_cases z : a = D
    · exact z ▸ hD
    · obtain ⟨o, e⟩ := S.lt a q; exact ⟨o, hk a o z e⟩
set_option maxHeartbeats 1000000 in
theorem Es.kj {A : Around} {E : Value → Shared → Prop} {s : Shared} {H : List Addr} {Q : Flow → Shared → Prop} {x y : Str} {px py pos spos : Pos} {elt iter : Expr} {scope : Scope} {xs : List PyData} {ls : List Str} (cl : List (Str × Addr)) (hA : AOK k A) (S : Sr B env [] H s.heap ⟨ρ, none⟩) (h9 : 909 ∈ H) (h9B : B.get? 909 = none) (h9f : 909 ∉ fp env)
    (hsrc : Src w B k env ρ iter xs) (hclos : closureFor scope env = pure cl) (hok : compOk scope x = true) (hlen : ls.length = xs.length) (hz : xs.length ≤ 1000000) (ht : Tb s.heap) (hg : AllBare s.gens) (hy : isVar env y)
    (hel : ∀ (i : Nat) d t, xs[i]? = some d → ls[i]? = some t → ∀ (C D : Addr) (s₃ : Shared) (Q : Value → Shared → Prop) (E : Value → Shared → Prop), Cx B (compEnvC scope cl C env) (C :: D :: H) s₃.heap [(x, d)] → Tb s₃.heap → AllBare s₃.gens → (∀ tk s₄, Kj s₃ s₄ → Q (.str t tk) s₄) → wpAny (model pg w) A (eval elt (compEnvC scope cl C env)) Q E s₃)
    (hq : ∀ s', Sr B env [] H s'.heap ⟨(y, .list (ls.map .str)) :: ρ, none⟩ → (∀ b o, b ∉ H → s.heap.get? b = some o → s'.heap.get? b = some o) → AllBare s'.gens → s'.os = s.os → Tb s'.heap → Q .next s')
    (hsw : swapsWith (.ListComp elt [⟨.Name x px, iter, [], 0⟩] scope pos) (some (.Name y py)) spos.line env = pure true := by rfl)
    (hs : ∀ v, foldedSetIterable iter env v = pure v := by intro _; rfl) : wpAny (model pg w) A (exec (.Assign [.Name y py] (.ListComp elt [⟨.Name x px, iter, [], 0⟩] scope pos) spos) env) Q E s := by
  have hok' := hok
  simp only [compOk, Bool.and_eq_true, List.all_eq_true, bne_iff_ne, beq_iff_eq, Bool.or_eq_true] at hok'
  rw [exec_Assign_Name_used _ _ _ _ hsw]
  refine wpAny_bind (wpAny_standAt (wpAny_bind ?_))
  show wpAny _ A (do let _ ← comprehension (.ListComp elt [⟨.Name x px, iter, [], 0⟩] scope pos) scope env _ (newList []) false (eval iter env) (some (PySem.assign (.Name y py) env))) _ _ s
  refine wpAny_bind (wpAny_mono (wpAny_comprehension_free (use := some (PySem.assign (.Name y py) env)) (Q := fun _ s' => Q .next s') rfl hs hclos hok'.1.1.2 (fun y hy e => (hok'.1.2 y hy).resolve_left fun q => q e)
    (hsrc A s H _ E hA S.cx fun I fpI wr P St s₂ k₂ W st h1 h2 h3 h4 => ?_)) (fun _ s' hq => wpAny_pure (wpAny_pure hq)) fun _ _ e => e)
  refine comp_kj (RR := fun acc C => compPost (model pg w) A E (some (PySem.assign (.Name y py) env)) (fun _ s' => Q .next s') acc C) hA S.cx h9 h9B hok k₂ W st h1 h2 h3 h4 hlen hz ht hg hel ?_
  intro D C s' m' l fD fC hDC hn hpl hl hk hg' hos' ht'
  have kk : ∀ b o, b ≠ 909 → s.heap.get? b = some o → s'.heap.get? b = some o := fun b o h9 e => hk b o h9 (fun q => by rw [h1 b q] at e; cases e) (k₂.keep b o e)
  have fC₀ : s.heap.get? C = none := by
    cases e : s.heap.get? C with
    | none => rfl
    | some o => rw [k₂.keep _ _ e] at fC; cases fC
  have fD₀ : s.heap.get? D = none := by
    cases e : s.heap.get? D with
    | none => rfl
    | some o => rw [k₂.keep _ _ e] at fD; cases fD
  have aC : ∃ o, s'.heap.get? C = some o := let ⟨o, _, _, e, _⟩ := hn; ⟨o, e⟩
  have a9 : ∃ o, s'.heap.get? 909 = some o := let ⟨ps, a, _⟩ := ht'; ⟨_, a⟩
  have S₁ : Sr B env [] ([C] ++ H) s'.heap ⟨ρ, none⟩ := S.step h9 h9f h9B kk a9 (fun b hb => by rw [List.mem_singleton.mp hb]; exact fC₀) (fun b hb => by rw [List.mem_singleton.mp hb]; exact aC)
  have nH : C ∉ H := fun q => by obtain ⟨o, e⟩ := S.lt _ q; rw [fC₀] at e; cases e
  have nDH : D ∉ H := fun q => by obtain ⟨o, e⟩ := S.lt _ q; rw [fD₀] at e; cases e
  have nf : C ∉ fp env := fun q => nH (S.fpH _ q)
  have nB : B.get? C = none := by
    cases e : B.get? C with
    | none => rfl
    | some o => have := S.base _ _ e; rw [fC₀] at this; cases this
  have rD : Reads (hideAll s'.heap ([C] ++ H)) (.ref D) (.list (ls.map .str)) (D :: []) := by
    obtain ⟨c, hg⟩ := hpl
    refine .list (hideAll_get _ hg fun q => ?_) rfl rfl ?_
    · rcases List.mem_append.mp q with q | q
      · exact hDC (List.mem_singleton.mp q)
      · exact nDH q
    · rw [← hl]; exact strs_read l
  show wpAny _ A (PySem.assign (.Name y py) env (.ref D)) _ _ _
  refine wpAny_assign_Name (Sr.store (s := s') S₁ hy trivial rD fun s₃ S₃ m₃ hk₃ => ?_)
  have hn₃ : s₃.heap.Ns C m' := hn.at' fun o e => hk₃ _ o nf e
  refine ⟨m', hn₃, fun h'' hs'' => ?_⟩
  have S₄ := S₃.drop (h' := h'') (fun b o hb e => hs''.extBut b o hb e) nH nf nB hn₃ fun q => nomatch q
  obtain ⟨⟨h₃, t₃, rfl⟩, sb⟩ := m₃
  refine hq _ S₄ (fun b o hb e => ?_) hg' hos' (Tb.keep (Tb.keep ht' fun o e => hk₃ _ o h9f e) fun o e => hs''.extBut _ o (fun q => nH (q ▸ h9)) e)
  refine hs''.extBut b o (fun q => by rw [q, fC₀] at e; cases e) (hk₃ b o (fun q => hb (S.fpH _ q)) (kk b o (fun q => hb (q ▸ h9)) e))
set_option maxHeartbeats 1000000 in
theorem law_lines (HB : Bs w B) (h9B : B.get? 909 = none) {A : Around} {E : Value → Shared → Prop} {s : Shared} {L : Addr} {Q : Flow → Shared → Prop} (hA : AOK (k + 4) A) {rs : List (List (List Str))} {ls : List Str} (S : Sr B (lwE L) [] (909 :: fp (lwE L)) s.heap ⟨ρ, none⟩) (h9f : 909 ∉ fp (lwE L)) (ht : Tb s.heap) (hg : AllBare s.gens)
    (hρ : ρ.lookup ("rows" : Str) = some (dRows rs)) (hlen : ls.length = rs.length) (hz : rs.length ≤ 1000) (hrow : ∀ (i : Nat) r, rs[i]? = some r → ∃ Ws, RowOK r Ws ∧ ls[i]? = some (Txt.join " " (Ws.map qd)))
    (hq : ∀ s', Sr B (lwE L) [] (909 :: fp (lwE L)) s'.heap ⟨("lines", .list (ls.map .str)) :: ρ, none⟩ → (∀ b o, b ∉ 909 :: fp (lwE L) → s.heap.get? b = some o → s'.heap.get? b = some o) → AllBare s'.gens → s'.os = s.os → Tb s'.heap → Q .next s') :
    wpAny (model pg w) A (exec (lawS 4) (lwE L)) Q E s := by
  have hE : EnvOK (lwE L) := envOKC fd963 (by kernel_rfl)
  refine Es.kj [] hA S (.head _) h9B h9f (Src.list (Ev.name hρ)) rfl (by decide +kernel) (by rw [List.length_map]; exact hlen) (by rw [List.length_map]; omega) ht hg (.inl (by kernel_rfl)) (fun i d t hd hti C D s₃ Q E C₃ ht₃ hg₃ hq => ?_) hq
  rw [List.getElem?_map] at hd
  obtain ⟨r, hr, rfl⟩ := Option.map_eq_some_iff.mp hd
  obtain ⟨Ws, ok, hl⟩ := hrow i r hr
  rw [hti] at hl
  cases hl
  have hlw : Ws.length = r.length := by have := congrArg List.length ok.ws; simpa using this.symm
  refine wpAny_Call_NameR (Mine.glob HB ⟨rfl, hE.globals, rfl⟩ C₃.base (by kernel_rfl) (v := .ref 914) (by kernel_rfl) ?_ (by decide))
  refine callWith_def (o := ⟨.type "function", none, .func fd914, #[]⟩) (fd := fd914) rfl ?_ rfl
  refine args_cons (Ev.run (k := k + 4) (d := .list (Ws.map fun p => .str p.1)) (Ev.lc [] [] (Src.list (xs := r.map way) (Ev.name rfl)) rfl (by decide +kernel) trivial ?_ (by rw [List.length_map]; have := ok.len; omega)) hA C₃ fun v as s₄ k₄ r₄ => args_nil ⟨(C₃.keeps k₄).base _ _ (HB.K 914 _ (by kernel_rfl)), ?_⟩)
  · have e : (Ws.map fun p => PyData.str p.1) = (r.map (Txt.join "/")).map .str := by rw [ok.ws, List.map_map]; rfl
    rw [e]
    have hj := ok.jo
    clear hd hr hlw e hti
    revert hj
    generalize r = r
    intro hj
    clear ok
    induction r with
    | nil => exact LC.nil
    | cons x r ih => exact LC.keep (fun C => TsL.nil) (fun C => Ev.join Ev.cStr (Ev.name rfl) (hj x (.head _))) (ih fun y hy => hj y (.tail _ hy))
  · refine join_raw (k := k + 1) HB h9B hA (C₃.keeps k₄).base (C₃.keeps k₄).al (ht₃.keep fun o e => k₄.keep _ _ e) ?_ r₄ ok.q ok.j (by have := ok.len; omega) fun t s₅ kj => hq t s₅ (k₄.kj kj)
    rw [sm_gens k₄.sm]; exact hg₃
end
end Mine
end
section
open PySem PySem.W PySem.Calls PyProof.Rows PySem.Spec
namespace Mine
section
variable {w : World} {B : Heap} {k : Nat} {env : Env} {ρ ρf : Vars}
theorem iter_data {A : Around} {E : Value → Shared → Prop} {s : Shared} {H : List Addr} {v : Value} {xs : List PyData} {as : List Addr} {Q : Value → Shared → Prop} (hA : AOK k A) (hal : ∀ b ∈ H, ∃ o, s.heap.get? b = some o) (r : Reads (hideAll s.heap H) v (.list xs) as)
    (hq : ∀ I fpI wr P St s', Kp s s' → Walks pg w A I fpI wr xs.length P St → St 0 s'.heap → (∀ b ∈ wr, s.heap.get? b = none) → (∀ i h, St i h → ∀ b ∈ wr, ∃ o, h.get? b = some o ∧ ¬ dataC o) →
      (∀ b ∈ fpI, b ∉ H ∧ ∃ o, s'.heap.get? b = some o) → (∀ i v, i < xs.length → P i v → ∃ d as, xs[i]? = some d ∧ Reads (hideAll s'.heap H) v d as) → Q (.ref I) s') : wpAny (model pg w) A (pyIter v) Q E s := by
  cases r with
  | list h1 h2 h3 h4 =>
    rename_i a o vs n as'
    have ha := of_hideAll H h1
    have hl : s.heap.IsList a vs := ⟨o, ha, h2, n, h3⟩
    refine wpAny_pyIter_list hl ?_
    have hne : a ≠ s.heap.objs.size := Nat.ne_of_lt (Heap.lt_size ha)
    have k₂ : Kp s { s with heap := s.heap.push { cls := .type "list_iterator", data := .fields #[.ref a, .int 0 0] } } := Kp.to (t := s.toks) fun b o e => Heap.get?_push_of_some _ e
    have W := Walks.list (prog := pg) (w := w) hA.handled s.heap.objs.size a hne vs
    have hlen : vs.size = xs.length := by have := readsAll_length h4; simpa using this
    rw [hlen] at W
    have hnone := next_new s.heap
    refine hq _ _ _ _ _ _ k₂ W ⟨⟨_, Heap.get?_push_size _ rfl, rfl, rfl⟩, hl.push _⟩ (fun b hb => by rw [List.mem_singleton.mp hb]; exact hnone) (fun i h st b hb => ?_) (fun b hb => ?_) fun i v _ hv => ?_
    · rw [List.mem_singleton.mp hb]
      obtain ⟨⟨o, e, c, _⟩, _⟩ := st
      exact ⟨o, e, not_data_of c (by decide) (by decide) (by decide)⟩
    · rcases List.mem_cons.mp hb with rfl | hb
      · exact ⟨(fun q => by obtain ⟨o, e⟩ := hal _ q; rw [hnone] at e; cases e), _, Heap.get?_push_size _ rfl⟩
      · rw [List.mem_singleton.mp hb]
        exact ⟨not_hid h1, o, Heap.get?_push_of_some _ ha⟩
    · obtain ⟨d, bs, e, r⟩ := readsAll_get h4 i v (by simpa using hv)
      exact ⟨d, bs, e, Reads.keeps k₂.hide r⟩
theorem Ns.slots {h h' : Heap} {a : Addr} {m : Str → Option Value} (hn : h.Ns a m) (hk : ∀ o, h.get? a = some o → (∀ vs, o.data ≠ .fields vs) → ∃ sl, h'.get? a = some { o with slots := sl }) : h'.Ns a m := by
  obtain ⟨o, es, ep, ho, hd, r⟩ := hn
  obtain ⟨sl, e⟩ := hk o ho fun vs q => by rw [hd] at q; cases q
  exact ⟨_, es, ep, e, hd, r⟩
theorem Sr.slots {H : List Addr} {s s' : Shared} (S : Sr B env [] H s.heap ⟨ρ, none⟩) (hf : env.frame = some env.locals) (m : MvD [] (frs [env]) s s') : Sr B env [] H s'.heap ⟨ρ, none⟩ ∧ ∀ b o, b ∉ H → s.heap.get? b = some o → s'.heap.get? b = some o := by
  have hfr : frs [env] = [env.locals] := by unfold frs; rw [List.filterMap_cons, hf]; rfl
  have hLH : env.locals ∈ H := S.fpH _ (.head _)
  have kk : ∀ b o, b ≠ env.locals → s.heap.get? b = some o → s'.heap.get? b = some o := fun b o hb e => m.keep b o (fun h => nomatch h) (by rw [hfr]; simpa using hb) e
  have nL : ∀ b, b ∉ H → b ≠ env.locals := fun b hb q => hb (q ▸ hLH)
  obtain ⟨vs, F, hρ, ho⟩ := S.fr
  have F' : Fm B env s'.heap vs := by
    obtain ⟨m₀, hns, hm⟩ := F.loc
    refine ⟨F.kind, ⟨m₀, Ns.slots hns fun o e hn => m.fr _ o (fun h => nomatch h) e hn, hm⟩, fun x hx => ?_, F.apart, F.apartL, F.new⟩
    obtain ⟨c, hc, o, e1, e2⟩ := F.cel x hx
    exact ⟨c, hc, o, kk c o (F.apartL x c hc) e1, e2⟩
  refine ⟨⟨fun b o e => kk b o (fun q => by rw [q, F.new _ (.head _)] at e; cases e) (S.base b o e), ⟨vs, F', fun x d e => let ⟨hx, v, as, hv, r⟩ := hρ x d e; ⟨hx, v, as, hv, Reads.keeps (hide_sub fun b o hb e => kk b o (nL b hb) e) r⟩, fun x ds e => by cases e⟩, S.fpH, S.hc, fun b hb => ?_⟩, fun b o hb e => kk b o (nL b hb) e⟩
  by_cases q : b = env.locals
  · obtain ⟨m₀, ⟨o, _, _, e, _⟩, _⟩ := F'.loc; exact ⟨o, q ▸ e⟩
  · obtain ⟨o, e⟩ := S.lt b hb; exact ⟨o, kk b o q e⟩
set_option maxHeartbeats 1000000 in
theorem Es.spl (HB : Bs w B) {A : Around} {E : Value → Shared → Prop} {s : Shared} {H : List Addr} {Q : Flow → Shared → Prop} {x y : Str} {px py pos spos np cp : Pos} {elt e : Expr} {scope : Scope} {t : Str} {ws : List (Str × Bool)} {ys : List PyData} (cl : List (Str × Addr)) (hA : AOK (k + 10) A) (hfr : A.frames = some [env]) (hE : EnvOK env) (hfm : env.frame = some env.locals)
    (S : Sr B env [] H s.heap ⟨ρ, none⟩) (hx : env.kindOf "split" = some .globalImplicit) (he : Ev w B (k + 10) env ρ e (.str t)) (hw : ∀ p ∈ ws, wdOK p.1 p.2 = true) (hne : ws ≠ []) (hd : t.cps.toList = lineOf ws) (hz : t.length ≤ 100000) (hsz : ws.length ≤ 10000)
    (hclos : closureFor scope env = pure cl) (hok : compOk scope x = true) (hfv : FVok env scope cl ρ ρf)
    (hl : LC w B (k + 10) (fun C => compEnvC scope cl C env) ρf x [] elt (ws.map fun p => .str p.1) ys) (hy : isVar env y)
    (hq : ∀ s', Sr B env [] H s'.heap ⟨(y, .list ys) :: ρ, none⟩ → (∀ b o, b ∉ H → s.heap.get? b = some o → s'.heap.get? b = some o) → (∃ h' tk, s' = { s with heap := h', toks := tk }) → Q .next s')
    (hsw : swapsWith (.ListComp elt [⟨.Name x px, .Call (.Name "split" np) [e] [] cp, [], 0⟩] scope pos) (some (.Name y py)) spos.line env = pure false := by rfl)
    (hse : starEach (e :: []) env = (false, eval e env) :: starEach [] env := by rfl)
    (hs : ∀ v, foldedSetIterable (.Call (.Name "split" np) [e] [] cp) env v = pure v := by intro _; rfl) : wpAny (model pg w) A (exec (.Assign [.Name y py] (.ListComp elt [⟨.Name x px, .Call (.Name "split" np) [e] [] cp, [], 0⟩] scope pos) spos) env) Q E s := by
  have hok' := hok
  simp only [compOk, Bool.and_eq_true, List.all_eq_true, bne_iff_ne, beq_iff_eq, Bool.or_eq_true] at hok'
  refine wpAny_Assign_Name ?_ (hs := hsw)
  rw [eval_ListComp]
  refine wpAny_comprehension_free (use := none) rfl hs hclos hok'.1.1.2 (fun y hy e => (hok'.1.2 y hy).resolve_left fun q => q e) ?_
  -- split(e)
  refine wpAny_Call_NameR (Mine.glob HB hE S.base hx (v := .ref 907) (by kernel_rfl) ?_ (by decide))
  refine callWith_def (o := ⟨.type "function", none, .func fd907, #[]⟩) (fd := fd907) rfl ?_ hse
  refine args_cons (Ev.run he hA S.cx fun v as s₁ k₁ r₁ => args_nil ⟨(S.keeps k₁).base _ _ (HB.K 907 _ (by kernel_rfl)), ?_⟩) hse
  cases r₁
  have S₁ := S.keeps k₁
  obtain ⟨mL, hnsL, _⟩ : ∃ m, s₁.heap.Ns env.locals m ∧ True := by obtain ⟨_, F, _⟩ := S₁.fr; obtain ⟨m, a, _⟩ := F.loc; exact ⟨m, a, trivial⟩
  have hBL : B.get? env.locals = none := by obtain ⟨_, F, _⟩ := S₁.fr; exact F.new _ (.head _)
  have hff : s₁.heap.FunFrames B [env] := Heap.FunFrames.cons (by rw [hE.kind]; decide) hfm hnsL hBL trivial
  refine split_raw (k := k) HB hA hfr hff S₁.base hw hne hd hz hsz fun Sa c' l s₂ m₂ nSa aSa hl' => ?_
  obtain ⟨S₂, kp₂⟩ := S₁.slots hfm m₂
  have nSH : Sa ∉ H := fun z => by obtain ⟨o, e⟩ := S₁.lt _ z; rw [nSa] at e; cases e
  have rS : Reads (hideAll s₂.heap H) (.ref Sa) (.list (ws.map fun p => .str p.1)) (Sa :: []) := by
    refine .list (hideAll_get _ aSa nSH) rfl rfl ?_
    have : (ws.map fun p => PyData.str p.1) = (l.map (·.1)).map .str := by rw [hl', List.map_map]; rfl
    rw [this]
    exact strs_read l
  have same₂ : ∃ h' tk, s₂ = { s with heap := h', toks := tk } := by
    exact sm_trans k₁.sm m₂.same
  have kp : ∀ b o, b ∉ H → s.heap.get? b = some o → s₂.heap.get? b = some o := fun b o hb e => kp₂ b o hb (k₁.keep b o e)
  clear hff hnsL
  refine iter_data hA S₂.lt rS fun I fpI wr P St s₃ k₃ W st h1 h2 h3 h4 => ?_
  refine comp_core (k := k + 10) (RR := fun acc C => compPost (model pg w) A E none (fun v s₁ => wpAny (model pg w) A (storeName env y v) (fun _ s' => Q .next s') E s₁) acc C) hA S₂.cx hok hfv k₃ W st h1 h2 h3 h4 hl (by rw [List.length_map]; omega) ?_
  intro D C h' tk m' vs as fD fC hDC hn hpl hr hk
  refine ⟨m', hn, fun h'' hs'' => ?_⟩
  have hpl' : h''.PlainList D vs := hpl.extBut hs''.extBut hDC
  have hr' : ReadsAll (hideAll h'' (C :: D :: H)) vs.toList ys as := ReadsAll.keeps (hide_sub fun b o hb e => hs''.extBut b o (fun q => hb (q ▸ .head _)) e) hr
  have hk' : ∀ b o, b ∉ wr → s₃.heap.get? b = some o → h''.get? b = some o := fun b o hb e => hs''.extBut b o (fun q => by rw [q, fC] at e; cases e) (hk b o hb e)
  obtain ⟨kk, bs, r⟩ := lc_done (tk := tk) k₃ h1 S₂.lt fD hpl' hr' hk' hDC
  have r' : Reads (hideAll h'' H) (.ref D) (.list ys) bs := Reads.keeps (hide_more fun b hb => .tail _ hb) r
  refine Sr.store (s := { s₃ with heap := h'', toks := tk }) (S₂.keeps kk) hy trivial r' fun s₅ S₅ m₅ hk₅ => ?_
  refine hq _ S₅ (fun b o hb e => m₅.sub b o (.inr hb) (kk.keep b o (kp b o hb e))) ?_
  exact sm_trans same₂ (sm_trans (Kp.sm k₃ :) m₅.same)
end
end Mine
end
section
open PySem PySem.W PySem.Calls PyProof.Rows PySem.Spec
namespace Mine
theorem pick_map {α β : Type} (g : α → β) (fs : List α) (c : Nat) : pick (fs.map g) c = (pick fs c).map g := by
  unfold pick
  rw [List.length_map, List.map_filterMap]
  congr 1
  funext k
  split
  · rw [List.getElem?_map]
  · rfl
theorem pick_mem {α : Type} {fs : List α} {c : Nat} {x : α} (h : x ∈ pick fs c) : x ∈ fs := by
  unfold pick at h
  obtain ⟨k, _, e⟩ := List.mem_filterMap.mp h
  split at e
  · exact List.mem_of_getElem? e
  · cases e
theorem pick_len {α : Type} (fs : List α) (c : Nat) : (pick fs c).length ≤ fs.length := by
  unfold pick
  exact Nat.le_trans (List.length_filterMap_le _ _) (by simp)
theorem eqv_ints : ∀ cs : List Nat, PyData.eqvAll (cs.map fun (c : Nat) => .int (c : Int)) (cs.map fun (c : Nat) => .int (c : Int)) = true
  | [] => rfl
  | c :: cs => by
    show (PyData.eqv (.int (c : Int)) (.int (c : Int)) && _) = true
    rw [eqv_ints cs]
    show (((c : Int) == (c : Int)) && true) = true
    simp
theorem lay_ints : ∀ cs : List Nat, PyData.canLayAll0 (cs.map fun (c : Nat) => .int (c : Int)) = true
  | [] => rfl
  | c :: cs => by
    show (PyData.canLay0 (.int (c : Int)) && _) = true
    rw [lay_ints cs]; rfl
theorem depth_ints : ∀ cs : List Nat, PyData.depthAll (cs.map fun (c : Nat) => .int (c : Int)) = 0
  | [] => rfl
  | c :: cs => by
    show Nat.max (PyData.depth (.int (c : Int))) _ = 0
    rw [depth_ints cs]; rfl
theorem shaped_ints (cs : List Nat) : SeqAt.shaped (.list (cs.map fun (c : Nat) => .int (c : Int))) = true := by
  unfold SeqAt.shaped
  have e1 : PyData.canLay0 (.list (cs.map fun (c : Nat) => .int (c : Int))) = true := lay_ints cs
  have e2 : PyData.depth (.list (cs.map fun (c : Nat) => .int (c : Int))) ≤ 64 := by
    show PyData.depthAll _ + 1 ≤ 64
    rw [depth_ints]; decide
  rw [e1, decide_eq_true e2]; rfl
theorem shaped_strs {xs : List Str} (h : ∀ x ∈ xs, gd x = true) : SeqAt.shaped (.list (xs.map .str)) = true := by
  unfold SeqAt.shaped
  have e1 : PyData.canLay0 (.list (xs.map .str)) = true := lay_strs h
  have e2 : PyData.depth (.list (xs.map .str)) ≤ 64 := by
    show PyData.depthAll _ + 1 ≤ 64
    rw [depth_strs]; decide
  rw [e1, decide_eq_true e2]; rfl
theorem eqv_ways : ∀ xs : List (List Str), PyData.eqvAll (xs.map way) (xs.map way) = true
  | [] => rfl
  | x :: xs => by
    show (PyData.eqv (way x) (way x) && _) = true
    rw [eqv_ways xs, eqv_way]; simp
section
variable {w : World} {B : Heap} {k : Nat} {env : Env} {ρ ρf : Vars}
theorem Ev.last {v e : Expr} {pos : Pos} {xs : List PyData} {d : PyData} (hv : Ev w B k env ρ v (.list xs)) (he : Ev w B k env ρ e (.int (-1))) (hz : xs.length ≤ 1000000) (hd : xs.getLast? = some d)
    (hs' : ∀ a i t, subscripted e false (.ref a) (.int i t) = operate [.ref a, .int i t] (getItem (.ref a) (.int i t)) := by intro _ _ _; with_unfolding_all rfl)
    (hg : ∀ a r, letTemporaryGo v (.ref a) r = pure () := by intro _ _; with_unfolding_all rfl) : Ev w B k env ρ (.Subscript v e pos) d := fun A s H Q E hA C hq =>
  Subscript_ (hv A s H _ E hA C fun a as s₁ k₁ r₁ => he A s₁ H _ E hA (C.keeps k₁) fun u bs s₂ k₂ r₂ => by
    cases r₂
    have r₁' := Reads.keeps k₂.hide r₁
    cases r₁' with
    | list h1 h2 h3 h4 =>
      rename_i tk l o vs m as'
      have hlen := readsAll_length h4
      have hpos : 0 < xs.length := by
        cases xs with
        | nil => cases hd
        | cons => simp
      rw [List.getLast?_eq_getElem?] at hd
      have hv' : vs.toList[xs.length - 1]? = some (vs.toList[xs.length - 1]'(by rw [hlen]; omega)) := List.getElem?_eq_getElem _
      obtain ⟨d', cs, e', r⟩ := readsAll_get h4 _ _ hv'
      rw [hd] at e'
      cases e'
      have hsz : vs.size = xs.length := by simpa using hlen
      have hl : s₂.heap.IsList l vs := ⟨_, of_hideAll H h1, h2, _, h3⟩
      refine subscriptTail_builtin hl.typeIs slot_list_getitem.lookup (wpAny_getItem_list_neg hl (by decide) (by omega) (by decide) (x := vs.toList[xs.length - 1]'(by rw [hlen]; omega)) ?_ (hq _ _ _ (k₁.comp k₂) r)) (hs' _ _ _) (hg _)
      have : ((-1 : Int) + vs.size).toNat = xs.length - 1 := by omega
      rw [this]
      simpa using hv')
theorem lc_filter {E : Addr → Env} {x : Str} {ifs : List Expr} {elt : Expr} (p : Nat → Bool) : ∀ (cs : List Nat), (∀ c ∈ cs, (∀ C, TsL w B k (E C) ((x, .int (c : Int)) :: ρf) ifs (p c)) ∧ ∀ C, Ev w B k (E C) ((x, .int (c : Int)) :: ρf) elt (.int (c : Int))) →
    LC w B k E ρf x ifs elt (cs.map fun (c : Nat) => .int (c : Int)) ((cs.filter p).map fun (c : Nat) => .int (c : Int))
  | [], _ => LC.nil
  | c :: cs, h => by
    have e : ((c :: cs).filter p).map (fun (c : Nat) => PyData.int (c : Int)) = if p c = true then .int (c : Int) :: (cs.filter p).map (fun (c : Nat) => PyData.int (c : Int)) else (cs.filter p).map fun (c : Nat) => PyData.int (c : Int) := by
      rw [List.filter_cons]; split <;> rfl
    rw [e]
    exact LC.turn (h c (.head _)).1 (fun _ => (h c (.head _)).2) (lc_filter p cs fun c hc => h c (.tail _ hc))
theorem lc_map {α : Type} {E : Addr → Env} {x : Str} {elt : Expr} {f g : α → PyData} : ∀ (cs : List α), (∀ c ∈ cs, ∀ C, Ev w B k (E C) ((x, f c) :: ρf) elt (g c)) → LC w B k E ρf x [] elt (cs.map f) (cs.map g)
  | [], _ => LC.nil
  | c :: cs, h => LC.keep (fun C => TsL.nil) (h c (.head _)) (lc_map cs fun c hc => h c (.tail _ hc))
end
end Mine
end
section
open PySem PySem.W PySem.Calls PyProof.Rows PySem.Spec
namespace Mine
structure Rest (r1 r0 : List (List Str)) (gp kp : List (Str × Str)) (ps : List (Str × List Str)) (F : List Str) (Fr : List (List Str)) : Prop where
  ps1 : (gp ++ kp).map (·.1) = ps.map (·.1)
  ps2 : ∀ p ∈ ps, gd p.1 = true ∧ Chain (dirS p.1) p.2
  ps3 : (ps.flatMap (·.2)).length ≤ 1000
  eF : F = ((ps.flatMap (·.2)).foldl addNew []).take 5
  eFr : Fr = (((r1 ++ r0).flatMap frontsOf).foldl addNew []).take 5
  w1 : ∀ x ∈ r1, gdW x = true
  w0 : ∀ x ∈ r0, gdW x = true
  wn : ∀ x ∈ r1 ++ r0, x ≠ []
  wz : ((r1 ++ r0).flatMap frontsOf).length ≤ 1000
  len : r1.length + r0.length ≤ 900
  glen : gp.length + kp.length ≤ 900
  FFr : F = Fr.map (Txt.join "/")
  jF : ∀ x ∈ Fr, JoinOk "/" x = true
  gF : ∀ x ∈ F, gd x = true
  gFr : ∀ x ∈ Fr, gdW x = true
  nF : ∀ x ∈ F, npOk x = true
  g1 : ∀ p ∈ gp, p.1.length ≤ 1000
  g0 : ∀ p ∈ kp, p.1.length ≤ 1000
  nd : (("<string>" : Str) :: (gp.map (·.2) ++ kp.map (·.2))).Nodup
  same : ∀ c, c < 32 → doesB (pick F c) gp kp = fitsB (pick Fr c) r1 r0
  out : (gp ++ kp).map (fun p => [p.1, p.2]) = (r1 ++ r0).map fun x => [Txt.join "/" x, Txt.slice ((x.getLast?).getD "") none (some 1)]
  jW : ∀ x ∈ r1 ++ r0, JoinOk "/" x = true
  gO : ∀ p ∈ gp ++ kp, gdW [p.1, p.2] = true
theorem Rest.F5 {r1 r0 : List (List Str)} {gp kp : List (Str × Str)} {ps : List (Str × List Str)} {F : List Str} {Fr : List (List Str)} (X : Rest r1 r0 gp kp ps F Fr) : F.length ≤ 5 := by
  rw [X.eF, List.length_take]; omega
theorem Rest.FL {r1 r0 : List (List Str)} {gp kp : List (Str × Str)} {ps : List (Str × List Str)} {F : List Str} {Fr : List (List Str)} (X : Rest r1 r0 gp kp ps F Fr) : F.length = Fr.length := by
  rw [X.FFr, List.length_map]
theorem two_le {a b : PyData} : [a, b].length ≤ 1000000 := by show 2 ≤ 1000000; decide
theorem pow_int (n : Nat) : ((2 : Int) ^ ((n : Nat) : Int).toNat) = ((2 ^ n : Nat) : Int) := by
  rw [Int.toNat_natCast]
  exact (Int.natCast_pow 2 n).symm
theorem pow_le5 {n : Nat} (h : n ≤ 5) : 2 ^ n ≤ 32 := Nat.pow_le_pow_right (by decide) h
section
variable {w : World} {B : Heap} {k : Nat} {env : Env} {ρ : Vars}
set_option maxHeartbeats 4000000 in
theorem law_rest (HB : Bs w B) {L : Addr} {r1 r0 : List (List Str)} {gp kp : List (Str × Str)} {ps : List (Str × List Str)} {F : List Str} {Fr : List (List Str)} (X : Rest r1 r0 gp kp ps F Fr)
    (h1 : ρ.lookup ("gone" : Str) = some (.list (gp.map pr))) (h2 : ρ.lookup ("kept" : Str) = some (.list (kp.map pr))) (h3 : ρ.lookup ("rows" : Str) = some (dRows [r0, r1])) :
    Ex w B (k + 6) (lwE L) ⟨ρ, none⟩ ((bdS (stm 59)).drop 7) (fun o => o = .ret (.bool true)) := by
  have hE : EnvOK (lwE L) := envOKC fd963 (by kernel_rfl)
  have l1 := X.len
  have l2 := X.glen
  have f5 := X.F5
  have fl := X.FL
  have hz1 : (gp.map pr).length ≤ 1000000 := by rw [List.length_map]; omega
  have hz2 : (kp.map pr).length ≤ 1000000 := by rw [List.length_map]; omega
  have hz3 : (r1.map way).length ≤ 1000000 := by rw [List.length_map]; omega
  have hz4 : (r0.map way).length ≤ 1000000 := by rw [List.length_map]; omega
  -- folders
  refine Ex.cons (Es.assign (d := .list (F.map .str)) (Ev.fn 929 fd929 HB hE (by kernel_rfl) (ds := [.list (ps.map fun p => .str p.1)]) (EvAll.cons (Ev.lc (xs := gp.map pr ++ kp.map pr) [] [] (Src.list (Ev.addL (Ev.name h1) (Ev.name h2) hz1 hz2)) rfl (by decide +kernel) trivial ?_ (by rw [List.length_append]; simp only [List.length_map]; omega)) EvAll.nil) ?_) (.inr (by kernel_rfl)) trivial ?_)
  · have e1 : (ps.map fun p => PyData.str p.1) = (gp ++ kp).map fun p => .str p.1 := by
      have := congrArg (List.map PyData.str) X.ps1
      simpa [List.map_map, Function.comp_def] using this.symm
    rw [e1, ← List.map_append]
    exact lc_map _ fun p _ C => Ev.item (xs := [.str p.1, .str p.2]) (n := 0) (Ev.name (d := pr p) rfl) Ev.cInt two_le rfl
  · rw [X.eF]
    exact (Mine.climbed_ok (k := k) HB ps X.ps2 X.ps3).less (by omega)
  -- choices
  refine Ex.cons (Es.assignLC (xs := (List.range (2 ^ F.length)).map fun (c : Nat) => .int (c : Int)) (ys := ((List.range (2 ^ F.length)).filter fun c => doesB (pick F c) gp kp).map fun (c : Nat) => .int (c : Int)) _ [("folders", .list (F.map .str)), ("gone", .list (gp.map pr)), ("kept", .list (kp.map pr))] ?_ rfl (by decide +kernel) ⟨rfl, fun _ => rfl, h1, fun _ => rfl, h2, fun _ => rfl, trivial⟩ (lc_filter _ _ fun c hc => ⟨fun C => TsL.one ?_, fun C => Ev.name rfl⟩) (by rw [List.length_map, List.length_range]; have := pow_le5 f5; omega) (.inl (by kernel_rfl)) trivial ?_)
  · rw [← rng_up]
    exact Src.range1 (n := 2 ^ F.length) HB hE (by kernel_rfl) (Ev.eq (Ev.powI (a := 2) (n := (F.length : Nat)) Ev.cInt (Ev.eq (Ev.lenL (x := "len") (xs := F.map .str) HB hE (by kernel_rfl) (Ev.name rfl) (by rw [List.length_map]; omega)) (by rw [List.length_map])) (by omega) (by omega) (by decide)) (by rw [pow_int])) (by have := pow_le5 f5; omega)
  · have hc32 : c < 32 := by have := List.mem_range.mp hc; have := pow_le5 f5; omega
    refine Ts.plain (d := .bool (doesB (pick F c) gp kp)) (Ev.fn 948 fd948 HB ⟨hE.kind, hE.globals, hE.builtins⟩ (by kernel_rfl) (EvAll.cons (Ev.fn 941 fd941 (d := .list ((pick F c).map .str)) HB ⟨hE.kind, hE.globals, hE.builtins⟩ (by kernel_rfl) (EvAll.cons (Ev.name (d := .list (F.map .str)) rfl) (EvAll.cons (Ev.name (d := .int (c : Int)) rfl) EvAll.nil)) ?_) (EvAll.cons (Ev.name (d := .list (gp.map pr)) rfl) (EvAll.cons (Ev.name (d := .list (kp.map pr)) rfl) EvAll.nil))) ?_) trivial
    · rw [← pick_map]
      exact (Mine.chosen_ok (k := k) HB (F.map .str) c (by rw [List.length_map]; exact f5) hc32).less (by omega)
    · exact Mine.does_ok (k := k) HB (pick F c) gp kp (fun p hp => X.nF p (pick_mem hp)) (by have := pick_len F c; omega) X.g1 X.g0 l2 X.nd
  -- fronts
  refine Ex.cons (Es.assign (d := .list (Fr.map way)) (Ev.fn 936 fd936 HB hE (by kernel_rfl) (ds := [.list ((r1 ++ r0).map way)]) (EvAll.cons (Ev.eq (Ev.addL (xs := r1.map way) (ys := r0.map way) (Ev.item (xs := [dWays r0, dWays r1]) (n := 1) (Ev.name (d := dRows [r0, r1]) h3) Ev.cInt two_le rfl) (Ev.item (xs := [dWays r0, dWays r1]) (n := 0) (Ev.name (d := dRows [r0, r1]) h3) Ev.cInt two_le rfl) hz3 hz4) (by rw [List.map_append])) EvAll.nil) ?_) (.inr (by kernel_rfl)) trivial ?_)
  · rw [X.eFr]
    exact (Mine.fronts_ok (k := k) HB (r1 ++ r0) (fun x hx => ⟨(List.mem_append.mp hx).elim (X.w1 x) (X.w0 x), X.wn x hx⟩) X.wz).less (by omega)
  -- due
  refine Ex.cons (Es.assignLC (xs := (List.range (2 ^ Fr.length)).map fun (c : Nat) => .int (c : Int)) (ys := ((List.range (2 ^ F.length)).filter fun c => doesB (pick F c) gp kp).map fun (c : Nat) => .int (c : Int)) _ [("fronts", .list (Fr.map way)), ("rows", dRows [r0, r1])] ?_ rfl (by decide +kernel) ⟨rfl, fun _ => rfl, h3, fun _ => rfl, trivial⟩ ?_ (by rw [List.length_map, List.length_range]; have := pow_le5 f5; rw [← fl]; omega) (.inl (by kernel_rfl)) trivial ?_)
  · rw [← rng_up]
    exact Src.range1 (n := 2 ^ Fr.length) HB hE (by kernel_rfl) (Ev.eq (Ev.powI (a := 2) (n := (Fr.length : Nat)) Ev.cInt (Ev.eq (Ev.lenL (x := "len") (xs := Fr.map way) HB hE (by kernel_rfl) (Ev.name rfl) (by rw [List.length_map]; omega)) (by rw [List.length_map])) (by omega) (by omega) (by decide)) (by rw [pow_int])) (by have := pow_le5 (fl ▸ f5); omega)
  · have eF : (List.range (2 ^ F.length)).filter (fun c => doesB (pick F c) gp kp) = (List.range (2 ^ Fr.length)).filter fun c => fitsB (pick Fr c) r1 r0 := by
      rw [← fl]
      refine List.filter_congr fun c hc => ?_
      exact X.same c (by have := List.mem_range.mp hc; have := pow_le5 f5; omega)
    rw [eF]
    refine lc_filter _ _ fun c hc => ⟨fun C => TsL.one ?_, fun C => Ev.name rfl⟩
    have hc32 : c < 32 := by have := List.mem_range.mp hc; have := pow_le5 (fl ▸ f5); omega
    refine Ts.plain (d := .bool (fitsB (pick Fr c) r1 r0)) (Ev.fn 958 fd958 HB ⟨hE.kind, hE.globals, hE.builtins⟩ (by kernel_rfl) (EvAll.cons (Ev.fn 941 fd941 (d := .list ((pick Fr c).map way)) HB ⟨hE.kind, hE.globals, hE.builtins⟩ (by kernel_rfl) (EvAll.cons (Ev.name (d := .list (Fr.map way)) rfl) (EvAll.cons (Ev.name (d := .int (c : Int)) rfl) EvAll.nil)) ?_)
      (EvAll.cons (Ev.item (xs := [dWays r0, dWays r1]) (n := 1) (Ev.name (d := dRows [r0, r1]) rfl) Ev.cInt two_le rfl) (EvAll.cons (Ev.item (xs := [dWays r0, dWays r1]) (n := 0) (Ev.name (d := dRows [r0, r1]) rfl) Ev.cInt two_le rfl) EvAll.nil))) ?_) trivial
    · rw [← pick_map]
      exact (Mine.chosen_ok (k := k) HB (Fr.map way) c (by rw [List.length_map, ← fl]; exact f5) hc32).less (by omega)
    · exact (Mine.fits_ok (k := k) HB (pick Fr c) r1 r0 (fun x hx => X.gFr x (pick_mem hx)) (by have := pick_len Fr c; omega) X.w1 X.w0 (by omega)).less (by omega)
  -- if
  refine Ex.cons (Es.iff (c := false) (Ts.eq (Ts.or (c := false) (Ts.eq (Ts.cmp (a := .list (F.map .str)) (b := .list (F.map .str)) (Ev.name rfl) (Ev.lc (xs := Fr.map way) [] [] (Src.list (Ev.name rfl)) rfl (by decide +kernel) trivial ?_ (by rw [List.length_map]; omega)) (Cmp.ne (shaped_strs X.gF) (shaped_strs X.gF))) ?_) fun _ => Ts.or (c := false) (Ts.eq (Ts.cmp (Ev.name rfl) (Ev.name rfl) (Cmp.ne (shaped_ints _) (shaped_ints _))) ?_) fun _ => Ts.or0) rfl) (fun h => nomatch h) fun _ => Ex.nil ?_)
  · rw [X.FFr, List.map_map]
    exact lc_map _ fun x hx C => Ev.join Ev.cStr (Ev.name rfl) (X.jF x hx)
  · show (!PyData.eqvAll (F.map .str) (F.map .str)) = false
    rw [eqv_strs]; simp
  · show (!PyData.eqvAll _ _) = false
    rw [eqv_ints]; rfl
  -- return
  have eo : gp.map pr ++ kp.map pr = ((gp ++ kp).map fun p => [p.1, p.2]).map way := by rw [← List.map_append, List.map_map]; rfl
  have hgo : ∀ x ∈ (gp ++ kp).map (fun p => [p.1, p.2]), gdW x = true := fun x hx => by
    obtain ⟨p, hp, rfl⟩ := List.mem_map.mp hx
    exact X.gO p hp
  refine Ex.cons (Es.ret (d := .bool true) (Ev.cmp (a := .list (gp.map pr ++ kp.map pr)) (b := .list (((gp ++ kp).map fun p => [p.1, p.2]).map way)) (Ev.addL (Ev.name h1) (Ev.name h2) hz1 hz2) (Ev.lc (xs := (r1 ++ r0).map way) [] [] (Src.list (Ev.eq (Ev.addL (xs := r1.map way) (ys := r0.map way) (Ev.item (xs := [dWays r0, dWays r1]) (n := 1) (Ev.name (d := dRows [r0, r1]) h3) Ev.cInt two_le rfl) (Ev.item (xs := [dWays r0, dWays r1]) (n := 0) (Ev.name (d := dRows [r0, r1]) h3) Ev.cInt two_le rfl) hz3 hz4) (by rw [List.map_append]))) rfl (by decide +kernel) trivial ?_ (by rw [List.length_map, List.length_append]; omega)) (Cmp.eqv (Cmp.eq ?_ (shaped_ways hgo)) ?_)) rfl)
  · rw [X.out, List.map_map]
    refine lc_map _ fun x hx C => ?_
    have hx0 := X.wn x hx
    have hg : gdW x = true := (List.mem_append.mp hx).elim (X.w1 x) (X.w0 x)
    have hl : x.getLast? = some ((x.getLast?).getD "") := by
      cases x with
      | nil => exact absurd rfl hx0
      | cons a l => rw [List.getLast?_cons]; rfl
    have hll : gd ((x.getLast?).getD "") = true := by
      rw [List.getLast?_eq_getElem?] at hl ⊢
      exact List.all_eq_true.mp (Bool.and_eq_true_iff.mp hg).1 _ (List.mem_of_getElem? hl)
    refine Ev.disp (ds := [.str (Txt.join "/" x), .str (Txt.slice ((x.getLast?).getD "") none (some 1))]) (EvAll.cons (Ev.join Ev.cStr (Ev.name rfl) (X.jW x hx)) (EvAll.cons (Ev.sliceA (l := none) (u := some 1) (Ev.last (xs := x.map .str) (Ev.name rfl) (Ev.neg Ev.cInt) (by rw [List.length_map]; have := gdW_le hg; omega) ?_) trivial Ev.cInt (by have := gd_le hll; rw [sizeLine_eq]; omega)) EvAll.nil)) two_le
    rw [List.getLast?_map, hl]; rfl
  · rw [eo]; exact shaped_ways hgo
  · rw [eo]
    exact eqv_ways _
end
end Mine
end
section
open PySem PySem.W PySem.Calls PyProof.Rows PySem.Spec
namespace Mine
noncomputable def nsOf (xs : List Int) : List Nat := (xs.take 5).map (fun x => (x.fmod 32).toNat) ++ [19, 3, 4]
theorem nsOf_lt (xs : List Int) : ∀ n ∈ nsOf xs, n < 32 := by
  intro n hn
  rcases List.mem_append.mp hn with h | h
  · obtain ⟨x, _, rfl⟩ := List.mem_map.mp h
    have := Int.fmod_lt_of_pos x (show (0 : Int) < 32 by decide)
    have := Int.fmod_nonneg_of_pos x (show (0 : Int) < 32 by decide)
    omega
  · simp at h; omega
theorem nsOf_len (xs : List Int) : (nsOf xs).length ≤ 8 := by
  unfold nsOf
  simp only [List.length_append, List.length_map, List.length_take, List.length_cons, List.length_nil]
  omega
theorem nsOf_data (xs : List Int) : dNums (nsOf xs) = .list ((xs.take 5).map (fun x => .int (x.fmod 32)) ++ [.int 19, .int 3, .int 4]) := by
  unfold dNums nsOf
  rw [List.map_append, List.map_map]
  congr 2
  refine List.map_congr_left fun x _ => ?_
  show PyData.int (((x.fmod 32).toNat : Nat) : Int) = _
  rw [Int.toNat_of_nonneg (Int.fmod_nonneg_of_pos x (by decide))]
noncomputable def stemS (p : Str) : Str := Txt.slice (baseS p) none (some 1)
noncomputable def wsd (p : Str × Bool) : Str × Str := (p.1, stemS p.1)
theorem pr_wsd (Ws : List (Str × Bool)) : (Ws.map wsd).map pr = Ws.map fun p => .list [.str p.1, .str (stemS p.1)] := by
  rw [List.map_map]
  refine List.map_congr_left fun p _ => ?_
  rw [Function.comp_apply]
  dsimp only [pr, wsd]
structure ModOK (p : Str) : Prop where
  le : p.length ≤ 1000
  h1 : Txt.rfind (baseS p) "/" = -1
  h2 : Txt.rfind (baseS p) "." = 1
  h3 : (Txt.slice (baseS p) (some 0) (some 1) != ".") = true
structure LineOK (Ws : List (Str × Bool)) : Prop where
  wd : ∀ p ∈ Ws, wdOK p.1 p.2 = true
  ne : Ws ≠ []
  line : (Txt.join " " (Ws.map qd)).cps.toList = lineOf Ws
  le : (Txt.join " " (Ws.map qd)).length ≤ 100000
  len : Ws.length ≤ 10000
  mod : ∀ p ∈ Ws, ModOK p.1
noncomputable def Plain (ns : List Nat) : Prop := ∃ (W1 W0 : List (Str × Bool)) (ps : List (Str × List Str)) (F : List Str) (Fr : List (List Str)),
  RowOK (rowsTo ns 1 ns.length) W1 ∧ RowOK (rowsTo ns 0 ns.length) W0 ∧ LineOK W1 ∧ LineOK W0 ∧ Rest (rowsTo ns 1 ns.length) (rowsTo ns 0 ns.length) (W1.map wsd) (W0.map wsd) ps F Fr
section
variable {w : World} {B : Heap} {k : Nat} {env : Env} {ρ : Vars} {A : Around} {s : Shared}
theorem Es.run {E : Value → Shared → Prop} {H : List Addr} {st : Stmt} {ρ' : Vars} {Q : Flow → Shared → Prop} (h : Es w B k env ⟨ρ, none⟩ st (fun o => o = .next ⟨ρ', none⟩)) (hA : AOK k A) (S : Sr B env [] H s.heap ⟨ρ, none⟩)
    (hq : ∀ s', Sr B env [] H s'.heap ⟨ρ', none⟩ → (∀ b o, b ∉ H → s.heap.get? b = some o → s'.heap.get? b = some o) → (∃ h' tk, s' = { s with heap := h', toks := tk }) → Q .next s') : wpAny (model pg w) A (exec st env) Q E s :=
  h A s [] H Q E hA S fun o f s' hK ho => by
    subst hK
    obtain ⟨rfl, H', S', m, g⟩ := ho
    exact hq s' (S'.lessH g.1 S.fpH) (fun b o hb e => m.sub b o (.inr hb) e) m.same
theorem mod_ev {e : Expr} {np pos : Pos} {p : Str} (HB : Bs w B) (hE : EnvOK env) (hx : env.kindOf "_modname" = some .globalImplicit) (he : Ev w B (k + 4) env ρ e (.str p)) (m : ModOK p) (hse : starEach (e :: []) env = (false, eval e env) :: starEach [] env := by rfl) : Ev w B (k + 4) env ρ (.Call (.Name "_modname" np) [e] [] pos) (.str (stemS p)) :=
  Ev.fn 235 fd235 HB hE (by rw [hx]; kernel_rfl) (EvAll.cons he EvAll.nil hse) (modname_ok HB p m.le m.h1 m.h2 m.h3) hse
set_option maxHeartbeats 4000000 in
theorem law_call (HB : Bs w B) (h9B : B.get? 909 = none) {E : Value → Shared → Prop} {v : Value} {as : List Addr} {xs : List Int} {Q : Value → Shared → Prop} (hA : AOK 31 A) (hfr : A.frames = some []) (hB : B.StaysIn s.heap) (ht : Tb s.heap) (hg : AllBare s.gens) (r : Reads s.heap v (.list (xs.map .int)) as) (hz : xs.length ≤ 63) (PL : Plain (nsOf xs))
    (hq : ∀ s', (∀ b o, b ≠ 909 → s.heap.get? b = some o → s'.heap.get? b = some o) → AllBare s'.gens → s'.os = s.os → Tb s'.heap → Q (.bool true) s') : wpAny (model pg w) A (call (.ref 963) [v]) Q E s := by
  obtain ⟨W1, W0, ps, F, Fr, ok1, ok0, ln1, ln0, X⟩ := PL
  have hns := nsOf_lt xs
  have hnl := nsOf_len xs
  have hnd := nsOf_data xs
  generalize hN : nsOf xs = ns at *
  refine wpAny_call (enter (k := 30) (names := ["script"]) (es := [.list (xs.map .int)]) (H := []) HB (f := 963) (fd := fd963) (body := bdS (stm 59)) (by kernel_rfl) (by kernel_rfl) (by decide +kernel) rfl hA hB (fun b hb => nomatch hb) (fun Q E hQ => ?_) fun L s₀ k₀ S₀ nfp => ?_)
  · have eb : bindArgs fd963 ⟨[v], []⟩ = pure [(("script" : Str), v)] := by kernel_rfl
    rw [eb]; exact wpAny_pure (hQ [v] (as ++ []) s Kp.rfl' (.cons r .nil))
  have hA' : AOK 30 (A.deeper (lwE L)) := hA.deeper
  have hfr' : (A.deeper (lwE L)).frames = some [lwE L] := Around.frames_deeper hfr
  have hE : EnvOK (lwE L) := envOKC fd963 (by kernel_rfl)
  have h9a : ∃ o, s.heap.get? 909 = some o := let ⟨ps, a, _⟩ := ht; ⟨_, a⟩
  have h9f : 909 ∉ fp (lwE L) := fun z => by obtain ⟨o, e⟩ := h9a; rw [nfp _ z] at e; cases e
  have S₀ : Sr B (lwE L) [] (fp (lwE L)) s₀.heap ⟨[("script", .list (xs.map .int))], none⟩ := S₀.lessH (fun b hb => List.mem_append_left _ hb) fun b hb => hb
  have kp₀ : ∀ b o, b ∉ fp (lwE L) → s.heap.get? b = some o → s₀.heap.get? b = some o := fun b o _ e => k₀.keep b o e
  have same₀ : ∃ h' tk, s₀ = { s with heap := h', toks := tk } := k₀.sm
  show wpAny (model pg w) (A.deeper (lwE L)) (execs (bdS (stm 59)) (lwE L)) _ _ s₀
  have ebd : bdS (stm 59) = lawS 0 :: lawS 1 :: lawS 2 :: lawS 3 :: lawS 4 :: lawS 5 :: lawS 6 :: (bdS (stm 59)).drop 7 := by kernel_rfl
  rw [ebd]
  -- names
  refine wpAny_execs_cons (Es.run (ρ' := [("names", dNames), ("script", .list (xs.map .int))]) (Es.assign (Ev.disp (ds := nmL.map .str) (EvAll.cons Ev.cStr (EvAll.cons Ev.cStr (EvAll.cons Ev.cStr (EvAll.cons Ev.cStr EvAll.nil)))) (by decide)) (.inl (by kernel_rfl)) trivial rfl) hA' S₀ fun s₁ S₁ kp₁ same₁ => ?_)
  -- numbers
  refine wpAny_execs_cons (Es.run (ρ' := [("numbers", dNums ns), ("names", dNames), ("script", .list (xs.map .int))]) (Es.assign (Ev.eq (Ev.addL (xs := (xs.take 5).map (fun x => .int (x.fmod 32))) (ys := [.int 19, .int 3, .int 4]) (Ev.lc (xs := (xs.take 5).map .int) [] [] (Src.list (Ev.eq (Ev.sliceL (xs := xs.map .int) (n := 5) (Ev.name rfl) Ev.cInt (by rw [List.length_map]; omega)) (by rw [List.map_take]))) rfl (by decide +kernel) trivial (lc_map _ fun x _ C => Ev.modI (a := x) (b := 32) (Ev.name rfl) Ev.cInt (by decide)) (by simp only [List.length_map, List.length_take]; omega))
    (Ev.disp (ds := [.int 19, .int 3, .int 4]) (EvAll.cons Ev.cInt (EvAll.cons Ev.cInt (EvAll.cons Ev.cInt EvAll.nil))) (by decide)) (by simp only [List.length_map, List.length_take]; omega) (by decide)) hnd.symm) (.inl (by kernel_rfl)) trivial rfl) hA' S₁ fun s₂ S₂ kp₂ same₂ => ?_)
  have S₂ : SrO w B (lwE L) [] (fp (lwE L)) s₂.heap ⟨ρ0 ns, [], []⟩ := (S₂.toO (w := w)).sub (sub_of fun p hp => by
    simp only [List.mem_cons, List.not_mem_nil, or_false] at hp
    rcases hp with rfl | rfl <;> rfl) fun x v e => e
  -- rows = [[], []]
  refine wpAny_execs_cons (wpAny_Assign_Name (List_ (args_cons (List_ (args_nil (wpAny_newObj_type (data := .seq (#[] : Array Value)) ?_ (by show (#[] : Array Value).size ≤ sizeLine; decide)))))))
  refine args_cons (List_ (args_nil (wpAny_newObj_type (data := .seq (#[] : Array Value)) (args_nil (wpAny_newObj_type ?_ (by show 2 ≤ sizeLine; decide))) (by show (#[] : Array Value).size ≤ sizeLine; decide))))
  dsimp only
  generalize hH1 : s₂.heap.push ⟨.type "list", none, .seq #[] 0, #[]⟩ = H1
  generalize hH2 : H1.push ⟨.type "list", none, .seq #[] 0, #[]⟩ = H2
  have z1 : H1.objs.size = s₂.heap.objs.size + 1 := by rw [← hH1, Heap.size_push]
  have z2 : H2.objs.size = s₂.heap.objs.size + 2 := by rw [← hH2, Heap.size_push, z1]
  obtain ⟨rr, hr0, hr1⟩ : ∃ rr : Nat → Addr, s₂.heap.objs.size = rr 0 ∧ H1.objs.size = rr 1 := ⟨fun b => match b with | 0 => s₂.heap.objs.size | _ => H1.objs.size, rfl, rfl⟩
  have g0 : (H2.push ⟨.type "list", none, .seq #[.ref s₂.heap.objs.size, .ref H1.objs.size] 0, #[]⟩).get? s₂.heap.objs.size = some ⟨.type "list", none, .seq #[] 0, #[]⟩ := Heap.get?_push_of_some _ (hH2 ▸ Heap.get?_push_of_some _ (hH1 ▸ Heap.get?_push_size _ rfl))
  have g1 : (H2.push ⟨.type "list", none, .seq #[.ref s₂.heap.objs.size, .ref H1.objs.size] 0, #[]⟩).get? H1.objs.size = some ⟨.type "list", none, .seq #[] 0, #[]⟩ := Heap.get?_push_of_some _ (hH2 ▸ Heap.get?_push_size _ rfl)
  have gR : (H2.push ⟨.type "list", none, .seq #[.ref s₂.heap.objs.size, .ref H1.objs.size] 0, #[]⟩).get? H2.objs.size = some ⟨.type "list", none, .seq #[.ref s₂.heap.objs.size, .ref H1.objs.size] 0, #[]⟩ := Heap.get?_push_size _ rfl
  have kR : ∀ b o, s₂.heap.get? b = some o → (H2.push ⟨.type "list", none, .seq #[.ref s₂.heap.objs.size, .ref H1.objs.size] 0, #[]⟩).get? b = some o := fun b o e => Heap.get?_push_of_some _ (hH2 ▸ Heap.get?_push_of_some _ (hH1 ▸ Heap.get?_push_of_some _ e))
  have fr : ∀ a, s₂.heap.objs.size ≤ a → s₂.heap.get? a = none := fun a ha => by
    cases e : s₂.heap.get? a with
    | none => rfl
    | some o => exact absurd (Heap.lt_size e) (Nat.not_lt.mpr ha)
  have n0 := fr s₂.heap.objs.size (Nat.le_refl _)
  have n1 := fr H1.objs.size (by omega)
  have nR := fr H2.objs.size (by omega)
  have d01 : s₂.heap.objs.size ≠ H1.objs.size := by omega
  have d0R : H2.objs.size ≠ s₂.heap.objs.size := by omega
  have d1R : H2.objs.size ≠ H1.objs.size := by omega
  generalize H2.push ⟨.type "list", none, .seq #[.ref s₂.heap.objs.size, .ref H1.objs.size] 0, #[]⟩ = H3 at g0 g1 gR kR
  generalize H2.objs.size = R at *
  clear z1 z2 fr hH1 hH2
  rw [hr1] at g1 gR n1 d01 d1R
  rw [hr0] at g0 gR n0 d01 d0R
  have alN : ∀ b ∈ [R, rr 0, rr 1], s₂.heap.get? b = none := fun b hb => by
    simp only [List.mem_cons, List.not_mem_nil, or_false] at hb
    rcases hb with rfl | rfl | rfl
    · exact nR
    · exact n0
    · exact n1
  have nB : ∀ b ∈ [R, rr 0, rr 1], B.get? b = none := fun b hb => by
    cases e : B.get? b with
    | none => rfl
    | some o => have := S₂.base _ _ e; rw [alN b hb] at this; cases this
  have S₃ : SrO w B (lwE L) (HCr R rr) (HHr L R rr) H3 ⟨ρ0 ns, [], []⟩ := S₂.more (s' := { s₂ with heap := H3 }) (N := [R, rr 0, rr 1]) (Kp.to (t := s₂.toks) kR) alN fun b hb => by
    simp only [List.mem_cons, List.not_mem_nil, or_false] at hb
    rcases hb with rfl | rfl | rfl
    · exact ⟨_, gR⟩
    · exact ⟨_, g0⟩
    · exact ⟨_, g1⟩
  have X₃ : Rws B H3 (HHr L R rr) R rr (fun _ => []) := by
    refine ⟨⟨0, gR⟩, fun b hb => ?_, d01, fun b hb => ?_, nB R (.head _), fun b hb => ?_⟩
    · have : b = 0 ∨ b = 1 := by omega
      rcases this with rfl | rfl
      · exact ⟨#[], [], ⟨0, g0⟩, .nil⟩
      · exact ⟨#[], [], ⟨0, g1⟩, .nil⟩
    · have : b = 0 ∨ b = 1 := by omega
      rcases this with rfl | rfl
      · exact d0R
      · exact d1R
    · have : b = 0 ∨ b = 1 := by omega
      rcases this with rfl | rfl
      · exact nB _ (.tail _ (.head _))
      · exact nB _ (.tail _ (.tail _ (.head _)))
  refine SrO.storeRaw (s := { s₂ with heap := H3 }) S₃ (x := "rows") (.inr (by kernel_rfl)) fun s₄ S₄ m₄ hk₄ => ?_
  have S₄ : SrO w B (lwE L) (HCr R rr) (HHr L R rr) s₄.heap ⟨ρ0 ns, [("rows", .ref R)], []⟩ := S₄
  have X₄ : Rws B s₄.heap (HHr L R rr) R rr (fun _ => []) := X₃.keep (fun b o _ e => m₄.view Gr.rfl' b o e) (fun o e => m₄.sub R o (.inl (.head _)) e) fun b hb o e => m₄.sub _ o (.inl (mem_r hb)) e
  -- the loop
  refine wpAny_execs_cons (law_loop HB hA' S₄ hns (by omega) X₄ fun s₅ S₅ X₅ kp₅ same₅ => ?_)
  have S₆ := Rws.data S₅ X₅
  have nfp' : ∀ b o, s.heap.get? b = some o → b ∉ fp (lwE L) := fun b o e z => by rw [nfp b z] at e; cases e
  have K2 : ∀ b o, s.heap.get? b = some o → s₂.heap.get? b = some o := fun b o e => kp₂ b o (nfp' b o e) (kp₁ b o (nfp' b o e) (kp₀ b o (nfp' b o e) e))
  have nH : ∀ b o, s.heap.get? b = some o → b ∉ HHr L R rr := fun b o e z => by
    rcases List.mem_append.mp z with z | z
    · have := K2 b o e; rw [alN b z] at this; cases this
    · exact nfp' b o e z
  have K5 : ∀ b o, s.heap.get? b = some o → s₅.heap.get? b = some o := fun b o e => kp₅ b o (nH b o e) (m₄.sub b o (.inr (nH b o e)) (kR b o (K2 b o e)))
  have same : ∃ h' tk, s₅ = { s with heap := h', toks := tk } := by
    exact sm_trans same₀ (sm_trans same₁ (sm_trans same₂ (sm_trans m₄.same same₅)))
  have hg₅ : AllBare s₅.gens := by rw [sm_gens same]; exact hg
  have hos₅ : s₅.os = s.os := sm_os same
  have ht₅ : Tb s₅.heap := ht.keep fun o e => K5 _ o e
  clear kp₀ kp₁ kp₂ kp₅ same₀ same₁ same₂ same₅ X₄ X₃ S₄ S₃ hk₄ m₄ g0 g1 gR kR K2 alN nB nH same S₅ X₅
  have S₇ := S₆.hideN (b := 909) (let ⟨ps, a, _⟩ := ht₅; ⟨_, a, fun q => by rcases q with q | q | q <;> cases q⟩)
  -- lines
  refine wpAny_execs_cons (law_lines HB h9B hA' (rs := [rowsTo ns 0 ns.length, rowsTo ns 1 ns.length]) (ls := [Txt.join " " (W0.map qd), Txt.join " " (W1.map qd)]) S₇ h9f ht₅ hg₅ rfl rfl (by show 2 ≤ 1000; decide) (fun i r hi => ?_) fun s₆ S₈ kp₆ hg₆ hos₆ ht₆ => ?_)
  · match i, hi with
    | 0, hi => cases hi; exact ⟨W0, ok0, rfl⟩
    | 1, hi => cases hi; exact ⟨W1, ok1, rfl⟩
  have S₈ := S₈.lessH (H' := fp (lwE L)) (fun b hb => .tail _ hb) fun b hb => hb
  have K6 : ∀ b o, b ≠ 909 → s.heap.get? b = some o → s₆.heap.get? b = some o := fun b o hb e => kp₆ b o (fun z => (List.mem_cons.mp z).elim hb (nfp' b o e)) (K5 b o e)
  -- kept
  refine wpAny_execs_cons (Es.spl (k := 20) (ρf := []) (ys := (W0.map wsd).map pr) HB [] hA' hfr' hE rfl S₈ (by kernel_rfl) (Ev.item (xs := [.str (Txt.join " " (W0.map qd)), .str (Txt.join " " (W1.map qd))]) (n := 0) (Ev.name rfl) Ev.cInt two_le rfl) ln0.wd ln0.ne ln0.line ln0.le ln0.len rfl (by decide +kernel) trivial ?_ (.inr (by kernel_rfl)) fun s₇ S₉ kp₇ same₇ => ?_)
  · rw [pr_wsd]
    exact lc_map W0 fun p hp C => Ev.disp (ds := [.str p.1, .str (stemS p.1)]) (EvAll.cons (Ev.name rfl) (EvAll.cons (mod_ev (k := 26) HB ⟨hE.kind, hE.globals, hE.builtins⟩ (by kernel_rfl) (Ev.name rfl) (ln0.mod p hp)) EvAll.nil)) two_le
  -- gone
  refine wpAny_execs_cons (Es.spl (k := 20) (ρf := []) (ys := (W1.map wsd).map pr) HB [] hA' hfr' hE rfl S₉ (by kernel_rfl) (Ev.item (xs := [.str (Txt.join " " (W0.map qd)), .str (Txt.join " " (W1.map qd))]) (n := 1) (Ev.name rfl) Ev.cInt two_le rfl) ln1.wd ln1.ne ln1.line ln1.le ln1.len rfl (by decide +kernel) trivial ?_ (.inr (by kernel_rfl)) fun s₈ S₁₀ kp₈ same₈ => ?_)
  · rw [pr_wsd]
    exact lc_map W1 fun p hp C => Ev.disp (ds := [.str p.1, .str (stemS p.1)]) (EvAll.cons (Ev.name rfl) (EvAll.cons (mod_ev (k := 26) HB ⟨hE.kind, hE.globals, hE.builtins⟩ (by kernel_rfl) (Ev.name rfl) (ln1.mod p hp)) EvAll.nil)) two_le
  -- the rest
  refine Ex.run (law_rest (k := 24) HB X rfl rfl rfl) hA' S₁₀ fun o f s₉ hK ho => ?_
  subst hK
  obtain ⟨u, bs, rfl, ru, m₉⟩ := ho
  cases ru
  have K8 : ∀ b o, b ∉ fp (lwE L) → s₆.heap.get? b = some o → s₉.heap.get? b = some o := fun b o hb e => m₉.sub b o (.inr hb) (kp₈ b o hb (kp₇ b o hb e))
  have same : ∃ h' tk, s₉ = { s₆ with heap := h', toks := tk } := by
    exact sm_trans same₇ (sm_trans same₈ m₉.same)
  refine hq s₉ (fun b o hb e => K8 b o (nfp' b o e) (K6 b o hb e)) ?_ ?_ (ht₆.keep fun o e => K8 _ o h9f e)
  · rw [sm_gens same]; exact hg₆
  · exact (sm_os same).trans (hos₆.trans hos₅)
end
end Mine
end
section
open PySem PySem.W PySem.Calls PyProof.Rows PySem.Spec
namespace Mine
noncomputable def wordF (x : List Str) : Str := Txt.join "/" x
noncomputable def flag (x : List Str) : Bool := x.contains " "
noncomputable def FS : List (List Str) := nmL.map (fun a => [a]) ++ nmL.flatMap fun a => nmL.map fun b => [a, b]
noncomputable def chainB : Str → List Str → Bool
  | a, [] => a == ""
  | a, c :: cs => (a == c) && (a != "") && gd a && chainB (dirS a) cs
theorem chain_of : ∀ (cs : List Str) (a : Str), chainB a cs = true → Chain a cs
  | [], a, h => by
    have : a = "" := by simpa [chainB] using h
    subst this; exact .nil
  | c :: cs, a, h => by
    simp only [chainB, Bool.and_eq_true, beq_iff_eq] at h
    obtain ⟨⟨⟨rfl, h1⟩, h2⟩, h3⟩ := h
    exact .cons h1 h2 (chain_of cs _ h3)
noncomputable def fct (i m : Nat) : Bool :=
  let x := wayOf i m
  let p := wordF x
  decide (p.length ≤ 20) && (p.length != 0) && (srch p == some (flag x)) && (Builtin.Str.occurrences p "'" 0 p.length (p.length + 1)).isEmpty && JoinOk "/" x && wdOK p (flag x)
  && (Txt.rfind (baseS p) "/" == -1) && (Txt.rfind (baseS p) "." == 1) && (Txt.slice (baseS p) (some 0) (some 1) != ".") && gd p && gdW x && (x != []) && chainB (dirS p) ((frontsOf x).map wordF)
  && (stemS p == Txt.slice ((x.getLast?).getD "") none (some 1)) && (stemS p == ⟨#[97 + i]⟩) && gdW [p, stemS p] && (frontsOf x).all FS.contains && decide ((frontsOf x).length ≤ 2) && FS.all (fun f => Txt.startswith p (wordF f ++ "/") == (x.take f.length == f))
  && decide ((qd (p, flag x)).length ≤ 30) && ((qd (p, flag x)).cps.toList == codeOf p (flag x))
noncomputable def fctF (f : List Str) : Bool := npOk (wordF f) && gd (wordF f) && gdW f && JoinOk "/" f
end Mine
end
section
open PySem PySem.W PySem.Calls PyProof.Rows PySem.Spec
namespace Mine
theorem fct0 : ((List.range 16).all fun m => fct 0 m) = true := by decide +kernel
theorem fct1 : ((List.range 16).all fun m => fct 1 m) = true := by decide +kernel
theorem fct2 : ((List.range 16).all fun m => fct 2 m) = true := by decide +kernel
theorem fct3 : ((List.range 16).all fun m => fct 3 m) = true := by decide +kernel
theorem fct4 : ((List.range 16).all fun m => fct 4 m) = true := by decide +kernel
theorem fct5 : ((List.range 16).all fun m => fct 5 m) = true := by decide +kernel
theorem fct6 : ((List.range 16).all fun m => fct 6 m) = true := by decide +kernel
theorem fct7 : ((List.range 16).all fun m => fct 7 m) = true := by decide +kernel
theorem fctA (i m : Nat) (hi : i < 8) (hm : m < 16) : fct i m = true := by
  have g : ∀ {j : Nat}, ((List.range 16).all fun m => fct j m) = true → fct j m = true := fun h => List.all_eq_true.mp h m (List.mem_range.mpr hm)
  match i, hi with
  | 0, _ => exact g fct0
  | 1, _ => exact g fct1
  | 2, _ => exact g fct2
  | 3, _ => exact g fct3
  | 4, _ => exact g fct4
  | 5, _ => exact g fct5
  | 6, _ => exact g fct6
  | 7, _ => exact g fct7
theorem fsOK : FS.all fctF = true := by decide +kernel
theorem fsInj : (FS.all fun a => FS.all fun b => (wordF a == wordF b) == (a == b)) = true := by decide +kernel
end Mine
end
section
open PySem PySem.W PySem.Calls PyProof.Rows PySem.Spec
namespace Mine
structure WF (i : Nat) (x : List Str) : Prop where
  le : (wordF x).length ≤ 20
  ne : ((wordF x).length != 0) = true
  sr : srch (wordF x) = some (flag x)
  oc : (Builtin.Str.occurrences (wordF x) "'" 0 (wordF x).length ((wordF x).length + 1)).isEmpty = true
  jo : JoinOk "/" x = true
  wd : wdOK (wordF x) (flag x) = true
  b1 : Txt.rfind (baseS (wordF x)) "/" = -1
  b2 : Txt.rfind (baseS (wordF x)) "." = 1
  b3 : (Txt.slice (baseS (wordF x)) (some 0) (some 1) != ".") = true
  g : gd (wordF x) = true
  gW : gdW x = true
  nn : x ≠ []
  ch : Chain (dirS (wordF x)) ((frontsOf x).map wordF)
  s1 : stemS (wordF x) = Txt.slice ((x.getLast?).getD "") none (some 1)
  s2 : stemS (wordF x) = ⟨#[97 + i]⟩
  gO : gdW [wordF x, stemS (wordF x)] = true
  fs : ∀ f ∈ frontsOf x, f ∈ FS
  fl : (frontsOf x).length ≤ 2
  st : ∀ f ∈ FS, Txt.startswith (wordF x) (wordF f ++ "/") = (x.take f.length == f)
  ql : (qd (wordF x, flag x)).length ≤ 30
  qc : (qd (wordF x, flag x)).cps.toList = codeOf (wordF x) (flag x)
theorem wf (i m : Nat) (hi : i < 8) (hm : m < 16) : WF i (wayOf i m) := by
  have h := fctA i m hi hm
  unfold fct at h
  dsimp only at h
  generalize wayOf i m = x at h
  simp only [Bool.and_eq_true, decide_eq_true_eq, beq_iff_eq] at h
  obtain ⟨⟨⟨⟨⟨⟨⟨⟨⟨⟨⟨⟨⟨⟨⟨⟨⟨⟨⟨⟨a1, a2⟩, a3⟩, a4⟩, a5⟩, a6⟩, a7⟩, a8⟩, a9⟩, a10⟩, a11⟩, a12⟩, a13⟩, a14⟩, a15⟩, a16⟩, a17⟩, a18⟩, a19⟩, a20⟩, a21⟩ := h
  refine ⟨a1, a2, a3, a4, a5, a6, a7, a8, a9, a10, a11, bne_iff_ne.mp a12, chain_of _ _ a13, a14, a15, a16, fun f hf => ?_, a18, fun f hf => ?_, a20, a21⟩
  · exact List.contains_iff_mem.mp (List.all_eq_true.mp a17 f hf)
  · exact beq_iff_eq.mp (List.all_eq_true.mp a19 f hf)
theorem fs_ok {f : List Str} (h : f ∈ FS) : npOk (wordF f) = true ∧ gd (wordF f) = true ∧ gdW f = true ∧ JoinOk "/" f = true := by
  have := List.all_eq_true.mp fsOK f h
  simp only [fctF, Bool.and_eq_true] at this
  obtain ⟨⟨⟨a, b⟩, c⟩, d⟩ := this
  exact ⟨a, b, c, d⟩
theorem fs_inj {a b : List Str} (ha : a ∈ FS) (hb : b ∈ FS) : (wordF a == wordF b) = (a == b) := beq_iff_eq.mp (List.all_eq_true.mp (List.all_eq_true.mp fsInj a ha) b hb)
theorem foldl_map_addNew {α β : Type} [BEq α] [BEq β] (g : α → β) (P : α → Prop) (inj : ∀ a b, P a → P b → (g a == g b) = (a == b)) : ∀ (l acc : List α), (∀ x ∈ l, P x) → (∀ x ∈ acc, P x) → (l.map g).foldl addNew (acc.map g) = (l.foldl addNew acc).map g
  | [], acc, _, _ => rfl
  | a :: l, acc, h1, h2 => by
    have ha := h1 a (.head _)
    have hc : ∀ (acc : List α), (∀ x ∈ acc, P x) → (acc.map g).contains (g a) = acc.contains a := fun acc => by
      induction acc with
      | nil => intro _; rfl
      | cons b r ih =>
        intro h
        rw [List.map_cons, List.contains_cons, List.contains_cons, ih fun x hx => h x (.tail _ hx), inj a b ha (h b (.head _))]
    have e : addNew (acc.map g) (g a) = (addNew acc a).map g := by
      unfold addNew
      rw [hc acc h2]
      split
      · rfl
      · rw [List.map_append]; rfl
    rw [List.map_cons, List.foldl_cons, List.foldl_cons, e]
    refine foldl_map_addNew g P inj l (addNew acc a) (fun x hx => h1 x (.tail _ hx)) fun x hx => ?_
    rcases addNew_mem hx with q | q
    · exact h2 x q
    · exact q ▸ ha
/-! rows by indices -/
noncomputable def idx (ns : List Nat) (c j : Nat) : List Nat := (List.range j).filter fun i => c == (ns[i]?).getD 0 % 2
noncomputable def wayI (ns : List Nat) (i : Nat) : List Str := wayOf i ((ns[i]?).getD 0 / 2)
theorem rowsTo_idx (ns : List Nat) (c : Nat) : ∀ j, rowsTo ns c j = (idx ns c j).map (wayI ns)
  | 0 => rfl
  | j + 1 => by
    show (if c = (ns[j]?).getD 0 % 2 then rowsTo ns c j ++ [wayOf j ((ns[j]?).getD 0 / 2)] else rowsTo ns c j) = _
    unfold idx
    rw [List.range_succ, List.filter_append, List.map_append, rowsTo_idx ns c j]
    split
    · rename_i h
      rw [List.filter_cons, if_pos (by simpa using h)]; rfl
    · rename_i h
      rw [List.filter_cons, if_neg (by simpa using h)]
      simp [idx]
theorem idx_lt {ns : List Nat} {c j i : Nat} (h : i ∈ idx ns c j) : i < j := List.mem_range.mp (List.mem_filter.mp h).1
theorem idx_len (ns : List Nat) (c j : Nat) : (idx ns c j).length ≤ j := by
  have := List.length_filter_le (fun i => c == (ns[i]?).getD 0 % 2) (List.range j)
  simpa [idx] using this
theorem idx_nodup (ns : List Nat) (c j : Nat) : (idx ns c j).Nodup := List.nodup_range.filter _
theorem idx_apart {ns : List Nat} {j i : Nat} (h : i ∈ idx ns 1 j) (h' : i ∈ idx ns 0 j) : False := by
  have a := (List.mem_filter.mp h).2
  have b := (List.mem_filter.mp h').2
  simp at a b
  omega
theorem chi_inj {i j : Nat} (h : (⟨#[97 + i]⟩ : Str) = ⟨#[97 + j]⟩) : i = j := by
  injection h with h
  injection h with h
  injection h with h
  omega
/-! a line -/
theorem join_line : ∀ Ws : List (Str × Bool), (∀ p ∈ Ws, (qd p).cps.toList = codeOf p.1 p.2) → (Str.join " " (Ws.map qd)).cps.toList = lineOf Ws
  | [], _ => rfl
  | [p], h => h p (.head _)
  | p :: q :: Ws, h => by
    have ih := join_line (q :: Ws) fun x hx => h x (.tail _ hx)
    show (qd p ++ " " ++ Str.join " " ((q :: Ws).map qd)).cps.toList = codeOf p.1 p.2 ++ 32 :: lineOf (q :: Ws)
    rw [← ih, ← h p (.head _)]
    show ((qd p).cps ++ #[32] ++ _).toList = _
    rw [Array.toList_append, Array.toList_append, List.append_assoc]
    rfl
theorem sum_le {α : Type} {f : α → Nat} {k : Nat} : ∀ {l : List α}, (∀ x ∈ l, f x ≤ k) → (l.map f).sum ≤ l.length * k
  | [], _ => Nat.zero_le _
  | a :: l, h => by
    have := sum_le (l := l) fun x hx => h x (.tail _ hx)
    have := h a (.head _)
    simp only [List.map_cons, List.sum_cons, List.length_cons, Nat.succ_mul]
    omega
noncomputable def wq (x : List Str) : Str × Bool := (wordF x, flag x)
theorem wsd_wq (x : List Str) : wsd (wq x) = (wordF x, stemS (wordF x)) := by unfold wsd wq; rfl
theorem row_ok {r : List (List Str)} (h : ∀ x ∈ r, ∃ i, WF i x) (hl : r.length ≤ 8) : RowOK r (r.map wq) := by
  refine ⟨by rw [List.map_map]; rfl, fun x hx => let ⟨i, a⟩ := h x hx; a.jo, fun p hp => ?_, ?_, by omega⟩
  · obtain ⟨x, hx, rfl⟩ := List.mem_map.mp hp
    obtain ⟨i, a⟩ := h x hx
    exact ⟨Nat.le_trans a.le (by decide), a.ne, a.sr, a.oc⟩
  · unfold JoinOk
    rw [StrLaws.joinTotal]
    have h1 : (((r.map wq).map qd).map (·.length)).sum ≤ 8 * 30 := by
      rw [List.map_map, List.map_map]
      refine Nat.le_trans (sum_le (k := 30) fun x hx => ?_) (Nat.mul_le_mul_right _ hl)
      obtain ⟨i, a⟩ := h x hx
      exact a.ql
    have h2 : ((r.map wq).map qd).length * (" " : Str).length ≤ 8 * 1 := by
      rw [List.length_map, List.length_map]
      exact Nat.mul_le_mul hl (by decide)
    show (!decide (_ > sizeLine)) = true
    rw [decide_eq_false (by rw [sizeLine_eq]; omega)]
    rfl
theorem line_ok {r : List (List Str)} (h : ∀ x ∈ r, ∃ i, WF i x) (hl : r.length ≤ 8) (hne : r ≠ []) : LineOK (r.map wq) := by
  have hq : ∀ p ∈ r.map wq, (qd p).cps.toList = codeOf p.1 p.2 := fun p hp => by
    obtain ⟨x, hx, rfl⟩ := List.mem_map.mp hp
    obtain ⟨i, a⟩ := h x hx
    exact a.qc
  have hj : Txt.join " " ((r.map wq).map qd) = Str.join " " ((r.map wq).map qd) := StrLaws.glued_eq_join _ _
  refine ⟨fun p hp => ?_, fun q => hne (List.map_eq_nil_iff.mp q), by rw [hj]; exact join_line _ hq, ?_, by rw [List.length_map]; omega, fun p hp => ?_⟩
  · obtain ⟨x, hx, rfl⟩ := List.mem_map.mp hp
    obtain ⟨i, a⟩ := h x hx
    exact a.wd
  · rw [hj]
    refine Nat.le_trans (StrLaws.join_length_le _ _) ?_
    have h1 : (((r.map wq).map qd).map (·.length)).sum ≤ 8 * 30 := by
      rw [List.map_map, List.map_map]
      refine Nat.le_trans (sum_le (k := 30) fun x hx => ?_) (Nat.mul_le_mul_right _ hl)
      obtain ⟨i, a⟩ := h x hx
      exact a.ql
    have h2 : ((r.map wq).map qd).length * (" " : Str).length ≤ 8 * 1 := by
      rw [List.length_map, List.length_map]
      exact Nat.mul_le_mul hl (by decide)
    omega
  · obtain ⟨x, hx, rfl⟩ := List.mem_map.mp hp
    obtain ⟨i, a⟩ := h x hx
    exact ⟨Nat.le_trans a.le (by decide), a.b1, a.b2, a.b3⟩
theorem hit_held {fr : List (List Str)} {i : Nat} {x : List Str} (h : ∀ f ∈ fr, f ∈ FS) (a : WF i x) : hitB (fr.map wordF) (wordF x) = heldB fr x := by
  unfold hitB heldB
  rw [List.any_map]
  induction fr with
  | nil => rfl
  | cons f fr ih =>
    rw [List.any_cons, List.any_cons, ih fun g hg => h g (.tail _ hg)]
    congr 1
    exact a.st f (h f (.head _))
theorem does_fits {fr : List (List Str)} {r1 r0 : List (List Str)} (h : ∀ f ∈ fr, f ∈ FS) (h1 : ∀ x ∈ r1, ∃ i, WF i x) (h0 : ∀ x ∈ r0, ∃ i, WF i x) : doesB (fr.map wordF) ((r1.map wq).map wsd) ((r0.map wq).map wsd) = fitsB fr r1 r0 := by
  unfold doesB fitsB
  rw [List.map_map, List.map_map, List.all_map, List.all_map]
  congr 1
  · refine Bool.eq_iff_iff.mpr ?_
    simp only [List.all_eq_true]
    refine forall_congr' fun x => forall_congr' fun hx => ?_
    obtain ⟨i, a⟩ := h1 x hx
    show ((if hitB (fr.map wordF) (wordF x) = true then (1 : Int) else 0) == 1) = true ↔ _
    rw [hit_held h a]
    cases heldB fr x <;> decide
  · rw [List.not_any_eq_all_not]
    refine Bool.eq_iff_iff.mpr ?_
    simp only [List.all_eq_true]
    refine forall_congr' fun x => forall_congr' fun hx => ?_
    obtain ⟨i, a⟩ := h0 x hx
    show ((if hitB (fr.map wordF) (wordF x) = true then (1 : Int) else 0) == 0) = true ↔ _
    rw [hit_held h a]
    cases heldB fr x <;> decide
theorem flat_len {r : List (List Str)} (h : ∀ x ∈ r, ∃ i, WF i x) : (r.flatMap frontsOf).length ≤ r.length * 2 := by
  rw [List.length_flatMap]
  exact sum_le (f := fun x => (frontsOf x).length) fun x hx => let ⟨i, a⟩ := h x hx; a.fl
set_option maxHeartbeats 4000000 in
theorem plain_of {ns : List Nat} (hl : ns.length ≤ 8) (hn : ∀ n ∈ ns, n < 32) (h1 : idx ns 1 ns.length ≠ []) (h0 : idx ns 0 ns.length ≠ []) : Plain ns := by
  unfold Plain
  have wfI : ∀ c, ∀ i ∈ idx ns c ns.length, WF i (wayI ns i) := fun c i hi => by
    have hi := idx_lt hi
    have hm : (ns[i]?).getD 0 < 32 := by
      rw [List.getElem?_eq_getElem hi]; exact hn _ (List.getElem_mem hi)
    unfold wayI
    exact wf i _ (by omega) (by omega)
  have wfR : ∀ c, ∀ x ∈ rowsTo ns c ns.length, ∃ i, WF i x := fun c x hx => by
    rw [rowsTo_idx] at hx
    obtain ⟨i, hi, rfl⟩ := List.mem_map.mp hx
    exact ⟨i, wfI c i hi⟩
  have lenR : ∀ c, (rowsTo ns c ns.length).length ≤ 8 := fun c => Nat.le_trans (rowsTo_len _ _ _) hl
  have ne : ∀ c, idx ns c ns.length ≠ [] → rowsTo ns c ns.length ≠ [] := fun c h q => by
    rw [rowsTo_idx] at q; exact h (List.map_eq_nil_iff.mp q)
  have e2 : ∀ c, ((((rowsTo ns c ns.length).map wq).map wsd).map (·.2)) = (idx ns c ns.length).map fun i => (⟨#[97 + i]⟩ : Str) := fun c => by
    rw [rowsTo_idx, List.map_map, List.map_map, List.map_map]
    refine List.map_congr_left fun i hi => ?_
    rw [Function.comp_apply, Function.comp_apply, Function.comp_apply, wsd_wq]
    dsimp only
    exact (wfI c i hi).s2
  have w1 := wfR 1
  have w0 := wfR 0
  have l1 := lenR 1
  have l0 := lenR 0
  have n1 := ne 1 h1
  have n0 := ne 0 h0
  have s1 := e2 1
  have s0 := e2 0
  clear e2 ne lenR
  generalize rowsTo ns 1 ns.length = r1 at *
  generalize rowsTo ns 0 ns.length = r0 at *
  have wa : ∀ x ∈ r1 ++ r0, ∃ i, WF i x := fun x hx => (List.mem_append.mp hx).elim (w1 x) (w0 x)
  have hfl := flat_len wa
  have hla : (r1 ++ r0).length ≤ 16 := by rw [List.length_append]; omega
  have hFS : ∀ f ∈ (r1 ++ r0).flatMap frontsOf, f ∈ FS := fun f hf => by
    obtain ⟨x, hx, h⟩ := List.mem_flatMap.mp hf
    obtain ⟨i, a⟩ := wa x hx
    exact a.fs f h
  have ew : ((r1.map wq).map wsd ++ (r0.map wq).map wsd) = (r1 ++ r0).map fun x => (wordF x, stemS (wordF x)) := by
    rw [List.map_map, List.map_map, ← List.map_append]; rfl
  have efm : ((r1 ++ r0).map fun x => (wordF x, (frontsOf x).map wordF)).flatMap (·.2) = ((r1 ++ r0).flatMap frontsOf).map wordF := by
    rw [List.flatMap_map, List.map_flatMap]
  have eF : ((((r1 ++ r0).flatMap frontsOf).map wordF).foldl addNew []).take 5 = ((((r1 ++ r0).flatMap frontsOf).foldl addNew []).take 5).map wordF := by
    have := foldl_map_addNew wordF (· ∈ FS) (fun a b ha hb => fs_inj ha hb) ((r1 ++ r0).flatMap frontsOf) [] hFS (fun x hx => nomatch hx)
    rw [List.map_nil] at this
    rw [this, List.map_take]
  have hFr : ∀ f ∈ (((r1 ++ r0).flatMap frontsOf).foldl addNew []).take 5, f ∈ FS := fun f hf => foldl_mem (P := (· ∈ FS)) _ [] (fun x hx => nomatch hx) hFS f (List.mem_of_mem_take hf)
  refine ⟨r1.map wq, r0.map wq, (r1 ++ r0).map (fun x => (wordF x, (frontsOf x).map wordF)), _, _, row_ok w1 l1, row_ok w0 l0, line_ok w1 l1 n1, line_ok w0 l0 n0, ⟨?_, fun p hp => ?_, ?_, rfl, rfl, fun x hx => ?_, fun x hx => ?_, fun x hx => ?_, by omega, by omega, by simp only [List.length_map]; omega, ?_, fun x hx => ?_, fun x hx => ?_, fun x hx => ?_, fun x hx => ?_, fun p hp => ?_, fun p hp => ?_, ?_, fun c hc => ?_, ?_, fun x hx => ?_, fun p hp => ?_⟩⟩
  · rw [ew, List.map_map, List.map_map]; rfl
  · obtain ⟨x, hx, rfl⟩ := List.mem_map.mp hp
    obtain ⟨i, a⟩ := wa x hx
    dsimp only
    exact ⟨a.g, a.ch⟩
  · rw [efm, List.length_map]; omega
  · obtain ⟨i, a⟩ := w1 x hx; exact a.gW
  · obtain ⟨i, a⟩ := w0 x hx; exact a.gW
  · obtain ⟨i, a⟩ := wa x hx; exact a.nn
  · rw [efm, eF]; rfl
  · exact (fs_ok (hFr x hx)).2.2.2
  · rw [efm, eF] at hx
    obtain ⟨f, hf, rfl⟩ := List.mem_map.mp hx
    exact (fs_ok (hFr f hf)).2.1
  · exact (fs_ok (hFr x hx)).2.2.1
  · rw [efm, eF] at hx
    obtain ⟨f, hf, rfl⟩ := List.mem_map.mp hx
    exact (fs_ok (hFr f hf)).1
  · rw [List.map_map] at hp
    obtain ⟨x, hx, rfl⟩ := List.mem_map.mp hp
    obtain ⟨i, a⟩ := w1 x hx
    rw [Function.comp_apply, wsd_wq]
    exact Nat.le_trans a.le (by decide)
  · rw [List.map_map] at hp
    obtain ⟨x, hx, rfl⟩ := List.mem_map.mp hp
    obtain ⟨i, a⟩ := w0 x hx
    rw [Function.comp_apply, wsd_wq]
    exact Nat.le_trans a.le (by decide)
  · rw [s1, s0, ← List.map_append]
    refine List.nodup_cons.mpr ⟨fun q => ?_, ?_⟩
    · obtain ⟨i, _, e⟩ := List.mem_map.mp q
      have := congrArg Str.length e
      exact absurd this (by show (1 : Nat) ≠ ("<string>" : Str).length; decide)
    · refine List.pairwise_map.mpr ?_
      refine List.Pairwise.imp (R := (· ≠ ·)) (fun hab e => hab (chi_inj e)) ?_
      exact List.nodup_append.mpr ⟨idx_nodup _ _ _, idx_nodup _ _ _, fun a ha b hb e => idx_apart ha (e ▸ hb)⟩
  · rw [efm, eF, pick_map]
    exact does_fits (fun f hf => hFr f (pick_mem hf)) w1 w0
  · rw [ew, List.map_map]
    refine List.map_congr_left fun x hx => ?_
    obtain ⟨i, a⟩ := wa x hx
    rw [Function.comp_apply]
    dsimp only
    rw [a.s1]; rfl
  · obtain ⟨i, a⟩ := wa x hx; exact a.jo
  · rw [ew] at hp
    obtain ⟨x, hx, rfl⟩ := List.mem_map.mp hp
    obtain ⟨i, a⟩ := wa x hx
    dsimp only
    exact a.gO
theorem plain_law (xs : List Int) : Plain (nsOf xs) := by
  have hl := nsOf_len xs
  have mem : ∀ (c n : Nat) (j : Nat), (nsOf xs)[j]? = some n → n % 2 = c → idx (nsOf xs) c (nsOf xs).length ≠ [] := fun c n j hj hc q => by
    have hlt : j < (nsOf xs).length := (List.getElem?_eq_some_iff.mp hj).1
    have : j ∈ idx (nsOf xs) c (nsOf xs).length := List.mem_filter.mpr ⟨List.mem_range.mpr hlt, by rw [hj]; simp [hc]⟩
    rw [q] at this; cases this
  refine plain_of hl (nsOf_lt xs) (mem 1 19 (xs.take 5).length ?_ rfl) (mem 0 4 ((xs.take 5).length + 2) ?_ rfl)
  · unfold nsOf
    rw [List.getElem?_append_right (by rw [List.length_map]; exact Nat.le_refl _), List.length_map, Nat.sub_self]; rfl
  · unfold nsOf
    rw [List.getElem?_append_right (by rw [List.length_map]; omega), List.length_map, Nat.add_sub_cancel_left]; rfl
end Mine
end
section
open PySem PySem.W PySem.Calls PyProof.Rows PySem.Spec
namespace Mine
theorem ints_of : ∀ {xs : List WData}, WShape.hasItems [] xs .int = true → ∃ is : List Int, xs = ofPys (is.map .int)
  | [], _ => ⟨[], rfl⟩
  | d :: xs, h => by
    have hd := hasItemsW_at h d (.head _)
    obtain ⟨i, rfl⟩ := hasW_int hd
    have ht : WShape.hasItems [] xs .int = true := by
      rw [hasItems_all] at h ⊢
      exact (Bool.and_eq_true_iff.mp (by rw [List.all_cons] at h; exact h)).2
    obtain ⟨is, rfl⟩ := ints_of ht
    exact ⟨i :: is, rfl⟩
theorem len_of {xs : List WData} (h : WTm.holds [] lw.pre { args := [.list xs] } = true) : xs.length ≤ 63 := by
  have e : lw.pre = .and (.not (.lt (.lit (.int 63)) (.len (.arg 0)))) (.lit (.bool true)) := rfl
  rw [e] at h
  unfold WTm.holds at h
  have ev : WTm.value [] (.and (.not (.lt (.lit (.int 63)) (.len (.arg 0)))) (.lit (.bool true))) { args := [.list xs] } = some (.bool (!decide ((63 : Int) < (xs.length : Int)))) := by
    have el : W.less? (.int 63) (.int (xs.length : Int)) = some (decide ((63 : Int) < (xs.length : Int))) := rfl
    simp only [WTm.value, List.getElem?_cons_zero]
    rw [el]
    cases decide ((63 : Int) < (xs.length : Int)) <;> rfl
  rw [ev] at h
  cases hd : decide ((63 : Int) < (xs.length : Int)) with
  | true => rw [hd] at h; cases h
  | false => have := of_decide_eq_false hd; omega
theorem post_true (args ds : List WData) : lw.row.claim.post args (.bool true) ds = true := by
  show (WShape.has [] (.bool true) .bool && WTm.holds [] (.eq .res (.lit (.bool true))) { args := args, res := some (.bool true), after := ds }) = true
  have e1 : WShape.has [] (.bool true) .bool = true := by decide +kernel
  have e2 : W.same (.bool true) (.bool true) = true := by decide +kernel
  rw [e1]
  unfold WTm.holds
  simp only [WTm.value]
  rw [e2]
  rfl
theorem bs_of {w : World} {h : Heap} {mg mb : Str → Option Value} {loose : List Str} {mean : ExcName → Option Value} (T : Top qv loose mean mg mb h) (Y : Frag.In (KPX w.params) h) : Bs w (hideAll h [909]) := by
  have up : ∀ b o, b ≠ 909 → h.get? b = some o → (hideAll h [909]).get? b = some o := fun b o hb e => hideAll_get _ e (by simpa using hb)
  have nsu : ∀ {a m}, a ≠ 909 → h.Ns a m → (hideAll h [909]).Ns a m := fun ha hn => hn.at' fun o e => up _ o ha e
  have K : Frag.In (KP w.params) h := fun a o e => by
    refine Y a o ?_
    have n1 : a ≠ 909 := fun q => by
      have : List.lookup 909 (KP w.params) = none := by kernel_rfl
      rw [q, this] at e; cases e
    have n2 : a ≠ 2 := fun q => by
      have : List.lookup 2 (KP w.params) = none := by kernel_rfl
      rw [q, this] at e; cases e
    have n3 : a ≠ 555 := fun q => by
      have : List.lookup 555 (KP w.params) = none := by kernel_rfl
      rw [q, this] at e; cases e
    unfold KPX
    rw [List.lookup_cons, List.lookup_cons, List.lookup_cons, beq_eq_false_iff_ne.mpr n1, beq_eq_false_iff_ne.mpr n2, beq_eq_false_iff_ne.mpr n3]
    exact e
  have h9 : h.get? 909 = some ⟨.none, none, .fields #[], #[]⟩ := Y 909 _ (by kernel_rfl)
  refine ⟨fun a o e => up a o (fun q => ?_) (K a o e), ⟨mg, nsu (by decide) T.g⟩, ?_, ⟨mb, nsu (by decide) T.b, T.builtins⟩, ?_, ?_, up _ _ (by decide) (Y 2 _ (by kernel_rfl)), up _ _ (by decide) (Y 555 _ (by kernel_rfl))⟩
  · have : List.lookup 909 (KP w.params) = none := by kernel_rfl
    rw [q, this] at e; cases e
  · obtain ⟨bm, ob, M⟩ := bmod_of_top T
    refine ⟨mg, bm, ob, nsu (by decide) M.ns, M.name, M.ne, up _ _ (fun q => ?_) M.obj, M.cls, M.dict, M.data⟩
    have a := M.obj
    have b := M.cls
    rw [q, h9] at a
    cases a; cases b
  · obtain ⟨mc, a, b⟩ := T.nolimit
    exact ⟨mc, nsu (by decide) a, b⟩
  · obtain ⟨mc, a, b⟩ := T.nodigits
    exact ⟨mc, nsu (by decide) a, b⟩
set_option maxHeartbeats 1000000 in
theorem walk_law : WalkLaw := by
  intro w s₀ s₁ mg mb G Y fa o pm cd doc dV kV ho hd hcd hD hmg hg args vals as hpre hlay hrd hwl hlo
  have KX : Frag.In (KPX w.params) s₁.heap := kIn_of Y
  have T := G.T
  have HB := bs_of T KX
  have h9 : s₁.heap.get? 909 = some ⟨.none, none, .fields #[], #[]⟩ := KX 909 _ (by kernel_rfl)
  have efa : fa = 963 := by
    have a : mg "law" = some (.ref 963) := by
      obtain ⟨mg', hg'⟩ := HB.g
      have e1 := mg_of HB.K (hg'.keeps fun _ _ e => e) (n := "law") (v := .ref 963) (by kernel_rfl)
      obtain ⟨o1, es1, ep1, a1, b1, _, c1⟩ := hg'
      obtain ⟨o2, es2, ep2, a2, b2, _, c2⟩ := T.g
      rw [of_hideAll _ a1] at a2; cases a2
      rw [b1] at b2; cases b2
      rw [← c2, c1]; exact e1
    have hmg : mg "law" = some (.ref fa) := hmg
    rw [a] at hmg; cases hmg; rfl
  subst efa
  obtain ⟨hsh, hcond⟩ := pre_splitW hpre
  obtain ⟨d, r', rfl, hd1, hd2⟩ := hasAllW_cons hsh
  obtain rfl := hasAllW_nil hd2
  obtain ⟨xs, rfl, hi⟩ := hasW_list hd1
  have hlen := len_of hcond
  obtain ⟨is, rfl⟩ := ints_of hi
  have hlen : is.length ≤ 63 := by rw [ofPys_eq, List.length_map, List.length_map] at hlen; exact hlen
  cases hrd with
  | cons hr hn =>
    cases hn
    rename_i v as'
    have r : Reads s₁.heap v (.list (is.map .int)) as' := reads_of_readsW _ hr
    have hos : Tb s₁.heap := ⟨#[], h9, .inl rfl⟩
    refine law_call HB (hideAll_none _ (by simp)) (A := callerA) ⟨rfl, by decide, by decide⟩ rfl (fun b o e => of_hideAll _ e) hos (AllBare.of_eq hg) r hlen (plain_law is) fun s' hk hg' hos' ht' => ?_
    refine ⟨.inl ⟨.bool true, .bool true, [], rfl, fun cls => rfl, .bool true, post_true _ _, fun _ => ⟨.nil, fun a ha => nomatch ha⟩⟩, ⟨fun b o e => ?_, fun b o e => ?_⟩, hos', hg'⟩
    · by_cases q : b = 909
      · subst q
        rw [h9] at e
        cases e
        obtain ⟨ps, a, _⟩ := ht'
        refine .inr (.inl ⟨⟨913, code913, _, KX 913 _ (by kernel_rfl), rfl, rfl, rfl⟩, rfl, #[], ps, rfl, ?_⟩)
        rw [a, Array.empty_append]
      · exact .inl (hk b o q e)
    · by_cases q : b = 909
      · obtain ⟨ps, a, _⟩ := ht'; exact ⟨_, q ▸ a⟩
      · exact ⟨o, hk b o q e⟩
end Mine
theorem PySem.Challenge.cw_ny0373_01_holds : PySem.Challenge.rw_ny0373_01.Holds :=
  Mine.hd Mine.walk_law
end
