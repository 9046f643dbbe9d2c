import PyProof.Rows.All
import Wide.All
import OpenK.AllK
import Wide.FinOn
import KE.KDictIter
import PyProof.CollectIter
import Flt.Gen
import Lean
import PySem.Challenge.RW_oy0341_03
set_option Elab.async false
set_option compiler.extract_closed false
set_option linter.all false
set_option bootstrap.genMatcherCode false
section -- Hd03
set_option maxRecDepth 100000
/-! A head of our own: the whole top (its opening too) run over a tree of objects, in one look of the kernel. -/
namespace Mine
open PySem PySem.W

theorem insOk : ∀ (t : BT) (n : Nat) (o : Obj), (∀ i, i < n → (t.get i).isSome = true) → ((t.ins n o).get n).isSome = true
  | .nil, n, o, h => by
    cases n with
    | zero => rfl
    | succ n => have := h 0 (Nat.succ_pos _); cases this
  | .node v l r, n, o, h => by
    rw [BT.ins_node]
    by_cases h0 : n = 0
    · subst h0; rw [if_pos rfl, BT.get_node, if_pos rfl]; rfl
    · rw [if_neg h0]
      by_cases h1 : n % 2 = 1
      · rw [if_pos h1, BT.get_node, if_neg h0, if_pos h1]
        refine insOk l (n / 2) o fun i hi => ?_
        have := h (2 * i + 1) (by lia)
        rw [BT.get_node, if_neg (by lia), if_pos (by lia)] at this
        rwa [show (2 * i + 1) / 2 = i by lia] at this
      · rw [if_neg h1, BT.get_node, if_neg h0, if_neg h1]
        refine insOk r (n / 2 - 1) o fun i hi => ?_
        have := h (2 * i + 2) (by lia)
        rw [BT.get_node, if_neg (by lia), if_neg (by lia)] at this
        rwa [show (2 * i + 2) / 2 - 1 = i by lia] at this

noncomputable def fillT : List Obj → Nat → BT → BT
  | [], _, t => t
  | o :: r, n, t => fillT r (n + 1) (t.ins n o)

theorem fillT_get : ∀ (l : List Obj) (n : Nat) (t : BT), (∀ i, i < n → (t.get i).isSome = true) →
    (∀ i, i < n → (fillT l n t).get i = t.get i) ∧ ∀ i (h : i < l.length), (fillT l n t).get (n + i) = some l[i]
  | [], n, t, _ => ⟨fun _ _ => rfl, fun i h => absurd h (Nat.not_lt_zero _)⟩
  | o :: r, n, t, h => by
    have hk := insOk t n o h
    have hg := BT.get_ins o t n hk
    have h' : ∀ i, i < n + 1 → ((t.ins n o).get i).isSome = true := fun i hi => by
      rw [hg]
      by_cases e : i = n
      · rw [if_pos e]; rfl
      · rw [if_neg e]; exact h i (by lia)
    obtain ⟨a, b⟩ := fillT_get r (n + 1) (t.ins n o) h'
    refine ⟨fun i hi => ?_, fun i hi => ?_⟩
    · show (fillT r (n + 1) (t.ins n o)).get i = _
      rw [a i (by lia), hg, if_neg (by lia)]
    · show (fillT r (n + 1) (t.ins n o)).get (n + i) = _
      cases i with
      | zero => exact (a n (by lia)).trans (by rw [hg, if_pos rfl]; rfl)
      | succ i =>
        have := b i (by simpa using hi)
        rw [show n + (i + 1) = n + 1 + i by lia, this]; rfl

noncomputable def treeOf (s : Shared) : SharedT := ⟨fillT s.heap.objs.toList 0 .nil, s.heap.objs.size, s.heap.life, s.gens, s.drawn, s.toks, s.os⟩
theorem treeOf_abs (s : Shared) : (treeOf s).abs = s := by
  obtain ⟨⟨objs, life⟩, gens, drawn, toks, os⟩ := s
  have := (fillT_get objs.toList 0 .nil (fun i hi => absurd hi (Nat.not_lt_zero _))).2
  have e : absHeap (fillT objs.toList 0 .nil) objs.size life = ⟨objs, life⟩ := by
    have q : (absHeap (fillT objs.toList 0 .nil) objs.size life).objs = objs := by
      apply Array.ext_getElem?
      intro i
      rw [absHeap_at]
      by_cases h : i < objs.size
      · rw [if_pos h]
        have := this i (by simpa using h)
        rw [Nat.zero_add] at this
        rw [this]
        simp [h]
      · rw [if_neg h]; simp [h]
    show Heap.mk _ _ = Heap.mk _ _
    exact congrArg (Heap.mk · life) q
  exact congrArg (fun x => (⟨x, gens, drawn, toks, os⟩ : Shared)) e

noncomputable def impEndsT (tb : String → Option Builtin) (p : Program) (w : World) : Nat → SharedT → Thread → Option SharedT
  | 0, _, _ => none
  | n + 1, s, t => match t.atExitBegin with
    | some l => match l with
      | [] => some s
      | _ :: _ => none
    | none => match stepT (denote tb) p w s t with
      | some (s', t') => impEndsT tb p w n s' t'
      | none => none
theorem impEndsT_of {tb : String → Option Builtin} {p : Program} {w : World} : ∀ {n : Nat} {s s' : SharedT} {t : Thread}, impEndsT tb p w n s t = some s' → importEnds tb p w n s.abs t = some s'.abs
  | 0, _, _, _, h => by cases h
  | n + 1, s, s', t, h => by
    unfold impEndsT at h
    unfold importEnds
    cases he : t.atExitBegin with
    | some l => rw [he] at h; cases l with
      | nil => cases h; rfl
      | cons a l => cases h
    | none =>
      rw [he] at h
      cases hs : stepT (denote tb) p w s t with
      | none => rw [hs] at h; cases h
      | some r => obtain ⟨s₂, t₂⟩ := r; rw [hs] at h; dsimp only; rw [stepT_spec hs]; exact impEndsT_of h

noncomputable def topRunT (tb : String → Option Builtin) (p : Program) (w : World) (n₀ : Nat) (ann : Option Value) : Nat → SharedT → Thread → Option SharedT
  | 0, _, _ => none
  | n + 1, s, t => match through t with
    | true => some s
    | false => match stepOk n₀ ann t with
      | false => none
      | true => match stepT (denote tb) p w s t with
        | some (s', t') => topRunT tb p w n₀ ann n s' t'
        | none => none
theorem topRunT_of {tb : String → Option Builtin} {p : Program} {w : World} {n₀ : Nat} {ann : Option Value} : ∀ {n : Nat} {s s' : SharedT} {t : Thread}, topRunT tb p w n₀ ann n s t = some s' → topRun tb p w n₀ ann n s.abs t = some s'.abs
  | 0, _, _, _, h => by cases h
  | n + 1, s, s', t, h => by
    unfold topRunT at h
    unfold topRun
    cases he : through t with
    | true => rw [he] at h; cases h; rfl
    | false =>
      rw [he] at h
      cases hk : stepOk n₀ ann t with
      | false => rw [hk] at h; cases h
      | true =>
        rw [hk] at h
        cases hs : stepT (denote tb) p w s t with
        | none => rw [hs] at h; cases h
        | some r => obtain ⟨s₂, t₂⟩ := r; rw [hs] at h; dsimp only; rw [stepT_spec hs]; exact topRunT_of h

noncomputable def headT (tb : String → Option Builtin) (p : Program) (w : World) (N : Nat) : Option SharedT :=
  match impEndsT tb (opening p) w N ⟨.nil, 0, {}, #[], {}, 1, (start (opening p)).1.os⟩ (start (opening p)).2 with
  | none => none
  | some s => match fenceModules? p s.abs with
    | none => none
    | some s₀ => match s₀.heap.isNs mainGlobals && s₀.gens.size == 0 with
      | false => none
      | true => match topRunT tb p w s₀.heap.objs.size (s₀.heap.nsMap mainGlobals "__annotations__") N (treeOf s₀) (topStub p) with
        | none => none
        | some s₁ => match staticsOk (importedModules p.main.body) s₀.heap s₁.abs.heap && namesBound p s₁.abs.heap && gensDone s₁.abs && laidKept s₀.heap s₁.abs.heap with
          | true => some s₁
          | false => none

theorem headT_of {tb : String → Option Builtin} {p : Program} {w : World} {N : Nat} {s : SharedT} (h : headT tb p w N = some s) : openEnds tb p w N = some s.abs := by
  unfold headT at h
  split at h
  · cases h
  · rename_i s₁ h1
    split at h
    · cases h
    · rename_i s₀ h2
      split at h
      · cases h
      · rename_i h3
        split at h
        · cases h
        · rename_i s₂ h4
          split at h
          · rename_i h5
            cases h
            have a := impEndsT_of h1
            have e0 : (⟨.nil, 0, {}, #[], {}, 1, (start (opening p)).1.os⟩ : SharedT).abs = (start (opening p)).1 := rfl
            rw [e0] at a
            have b := topRunT_of h4
            rw [treeOf_abs] at b
            unfold openEnds fencedOpening
            rw [a]
            show (fenceModules? p s₁.abs).bind _ = _
            rw [h2]
            show topFrom tb p w N s₀ = _
            unfold topFrom
            rw [h3]
            dsimp only
            rw [b]
            dsimp only [Option.bind]
            rw [h5]
          · cases h

theorem leftO_of {p q : Program} {loose : List Str} {Xt : Shared → Bool} {α : Type} {Yf : Shared → α} {Ya : World → α} {N : Nat} {g0 : Bool}
    (h : ∀ w, (headT treeTable p w N).map (fun s => (openSeen q loose (importedModules p.main.body) Xt g0 s.abs, Yf s.abs)) = some (openGood q loose, Ya w)) : LeftO p q loose Xt Yf Ya N g0 := fun w => by
  obtain ⟨s, h1, h2⟩ := Option.map_eq_some_iff.mp (h w)
  rw [headT_of h1]
  exact congrArg some h2

noncomputable abbrev pw : Program := PySem.Challenge.pw_oy0341_03
noncomputable def qOf (p : Program) : Program := view p [0, 1, 42]
noncomputable def q : Program := qOf PySem.Challenge.pw_oy0341_03
noncomputable def looseOf (p : Program) : List Str := (p.main.scope.names.filterMap fun x => if x.2 == .local then some x.1 else none).filter fun x => !(["_sre", "deque", "law"] : List Str).contains x
noncomputable def loose : List Str := looseOf PySem.Challenge.pw_oy0341_03
noncomputable def bodyAt : List Stmt → Nat → List Stmt
  | .FunctionDef _ _ body _ _ _ _ _ _ _ :: _, 0 => body
  | _ :: r, n + 1 => bodyAt r n
  | _, _ => []
noncomputable def scopeAt : List Stmt → Nat → Scope
  | .FunctionDef _ _ _ _ _ _ sc _ _ _ :: _, 0 => sc
  | _ :: r, n + 1 => scopeAt r n
  | _, _ => { kind := .function, names := [], isGenerator := false, isCoroutine := false }
noncomputable def paramsAt : List Stmt → Nat → Arguments
  | .FunctionDef _ ps _ _ _ _ _ _ _ _ :: _, 0 => ps
  | _ :: r, n + 1 => paramsAt r n
  | _, _ => ⟨[], [], none, [], [], none, []⟩
noncomputable def clsBody : List Stmt → Nat → List Stmt
  | .ClassDef _ _ _ body _ _ _ _ _ _ _ :: _, 0 => body
  | _ :: r, n + 1 => clsBody r n
  | _, _ => []
noncomputable abbrev pb : List Stmt := PySem.Challenge.pw_oy0341_03.main.body
noncomputable def fnF (name qual : String) (b : List Stmt) (i : Nat) (dV pm cd : Value) : FuncData :=
  { name := Str.ofString name, qualname := Str.ofString qual, params := paramsAt b i, body := .stmts (bodyAt b i), scope := scopeAt b i, globals := 3, closure := [], defaults := dV, kwdefaults := .none, doc := .none, pyModule := pm, annotations := none, code := cd, closureTuple := .none, builtins := 0 }
noncomputable def fnO (name qual : String) (b : List Stmt) (i : Nat) (dV pm cd : Value) : Obj := ⟨.type "function", none, .func (fnF name qual b i dV pm cd), #[]⟩
noncomputable def de (P : Params) (x : String) (t : Nat) (v : Value) : DictEntry := ⟨PyData.keyHash P (Str.ofString x), .str (Str.ofString x) t, v⟩
noncomputable def K (P : Params) : Frag := [
  (2, ⟨.none, none, .dict #[de P "\x69mport.loaded._sre" 183 (.bool true), de P "class._frozen_importlib.BuiltinImporter" 185 (.ref 14), de P "watched.\x69mport" 206 (.ref 18), de P "class._frozen_importlib.ModuleSpec" 216 (.ref 22), de P "sys.modules.booked-epoch" 245 (.int (4) 0), de P "\x69mport.later-laid._sre" 270 (.bool true), de P "watched.library" 272 (.ref 27), de P "watched.library-objects" 0 (.str "\x0c\x1e" 0), de P "watched.library-deep._sre" 273 (.str "\x04\x00\x00\x0b\x04\x00\x00\x0b\x04\x00\x00\x03\x04\x00\x00\x0b\x08\x04dict\x02" 0), de P "\x69mport.loaded._collections" 280 (.bool true), de P "sys.modules.landed._collections" 294 (.bool true), de P "\x69mport.later-laid._collections" 309 (.bool true), de P "watched.library-deep._collections" 311 (.str "\x04\x00\x00\x1d\x04\x00\x00\x1d\x04\x00\x00\x03\x04\x00\x00\x1d\x08\x04dict\x02" 0), de P "type.__subclasses__.OSError.0" 462 (.int (108) 0), de P "type.__subclasses__.OSError.n" 463 (.int (1) 0)] 15, #[]⟩),
  (3, ⟨(.type "dict"), none, .dict #[de P "__name__" 165 (.str "law_oy0341_03" 1300), de P "__doc__" 166 .none, de P "__package__" 167 .none, de P "__loader__" 168 (.builtin "__main__.__loader__#opaque"), de P "__spec__" 169 .none, de P "__annotations__" 170 (.ref 6), de P "__builtins__" 171 (.ref 4), de P "__file__" 173 (.str "/claim/cut.py" 172), de P "__cached__" 174 .none, de P "_sre" 275 (.ref 12), de P "deque" 317 (.type "collections.deque"), de P "_wall" 330 (.ref 44), de P "heappush" 340 (.ref 51), de P "heappop" 349 (.ref 58), de P "_siftdown" 361 (.ref 65), de P "_siftup" 374 (.ref 72), de P "_parse_varint" 385 (.ref 79), de P "_twin_re_1" 425 (.ref 84), de P "_whence" 435 (.ref 91), de P "_index" 443 (.ref 98), de P "UnsupportedOperation" 465 (.ref 108), de P "IOBase" 497 (.ref 128), de P "BufferedIOBase" 515 (.ref 143), de P "TextIOBase" 533 (.ref 155), de P "BytesIO" 795 (.ref 385), de P "StringIO" 1082 (.ref 632), de P "_kind" 1093 (.ref 641), de P "_fspath" 1102 (.ref 648), de P "_check_arg_types" 1112 (.ref 655), de P "isabs" 1119 (.ref 662), de P "join" 1130 (.ref 778), de P "join_path" 1131 (.ref 669), de P "dirname" 1141 (.ref 676), de P "shlex" 1282 (.ref 767), de P "join_shlex" 1290 (.ref 778), de P "_find_unsafe" 1292 (.ref 779), de P "quote" 1299 (.ref 786), de P "_law_octets" 1309 (.ref 793), de P "_law_ballot" 1318 (.ref 800), de P "_law_read" 1324 (.ref 805), de P "_law_lead" 1330 (.ref 810), de P "_law_ways" 1336 (.ref 815), de P "_law_table" 1342 (.ref 820), de P "_law_sound" 1348 (.ref 825), de P "law" 1354 (.ref 830)] 45, #[]⟩),
  (4, ⟨(.type "module"), (some 0), .plain, #[]⟩),
  (50, ⟨(.type "code"), none, .fields #[(.str "heappush" 333), (.str "heappush" 334), (.str "/claim/cut.py" 335), (.int (7) 0), (.int (2) 0), (.int (0) 0), (.int (0) 0), (.int (3) 0), (.ref 45), (.bool true), (.int (318) 0), (.ref 46), .none, (.ref 47), (.ref 48), (.ref 49), (.int (338) 0), (.int (7) 0), (.str "/claim/cut.py" 339)], #[]⟩),
  (51, fnO "heappush" "heappush" pb 4 .none (.str "cpy313.heapq" 331) (.ref 50)),
  (57, ⟨(.type "code"), none, .fields #[(.str "heappop" 341), (.str "heappop" 342), (.str "/claim/cut.py" 343), (.int (10) 0), (.int (1) 0), (.int (0) 0), (.int (0) 0), (.int (3) 0), (.ref 52), (.bool true), (.int (318) 0), (.ref 53), .none, (.ref 54), (.ref 55), (.ref 56), (.int (347) 0), (.int (10) 0), (.str "/claim/cut.py" 348)], #[]⟩),
  (58, fnO "heappop" "heappop" pb 5 .none (.str "cpy313.heapq" 331) (.ref 57)),
  (64, ⟨(.type "code"), none, .fields #[(.str "_siftdown" 350), (.str "_siftdown" 351), (.str "/claim/cut.py" 352), (.int (18) 0), (.int (3) 0), (.int (0) 0), (.int (0) 0), (.int (3) 0), (.ref 59), (.bool true), (.int (318) 0), (.ref 60), .none, (.ref 61), (.ref 62), (.ref 63), (.int (359) 0), (.int (18) 0), (.str "/claim/cut.py" 360)], #[]⟩),
  (65, fnO "_siftdown" "_siftdown" pb 6 .none (.str "cpy313.heapq" 331) (.ref 64)),
  (71, ⟨(.type "code"), none, .fields #[(.str "_siftup" 362), (.str "_siftup" 363), (.str "/claim/cut.py" 364), (.int (29) 0), (.int (2) 0), (.int (0) 0), (.int (0) 0), (.int (3) 0), (.ref 66), (.bool true), (.int (318) 0), (.ref 67), .none, (.ref 68), (.ref 69), (.ref 70), (.int (372) 0), (.int (29) 0), (.str "/claim/cut.py" 373)], #[]⟩),
  (72, fnO "_siftup" "_siftup" pb 7 .none (.str "cpy313.heapq" 331) (.ref 71)),
  (78, ⟨(.type "code"), none, .fields #[(.str "_parse_varint" 377), (.str "_parse_varint" 378), (.str "/claim/cut.py" 379), (.int (44) 0), (.int (1) 0), (.int (0) 0), (.int (0) 0), (.int (3) 0), (.ref 73), (.bool true), (.int (318) 0), (.ref 74), .none, (.ref 75), (.ref 76), (.ref 77), (.int (383) 0), (.int (44) 0), (.str "/claim/cut.py" 384)], #[]⟩),
  (79, fnO "_parse_varint" "_parse_varint" pb 9 .none (.str "cpy313.dis" 375) (.ref 78)),
  (83, ⟨(.type "tuple"), none, .seq #[(.int (14) 0), (.int (17) 0), (.int (4) 0), (.int (1) 0), (.int (1) 0), (.int (21) 0), (.int (9) 0), (.int (0) 0), (.int (604043296) 0), (.int (1) 0), (.int (0) 0), (.int (0) 0), (.int (0) 0), (.int (0) 0), (.int (0) 0), (.int (8) 0), (.int (4) 0), (.int (0) 0), (.int (13) 0), (.int (14) 0), (.int (21) 0), (.int (9) 0), (.int (0) 0), (.int (604043296) 0), (.int (1) 0), (.int (0) 0), (.int (0) 0), (.int (0) 0), (.int (0) 0), (.int (0) 0), (.int (8) 0), (.int (4) 0), (.int (0) 0), (.int (1) 0)] 0, #[]⟩),
  (84, ⟨(.type "re.Pattern"), none, .fields #[(.str "[^\\w@%+=:,./-]" 387), (.int (256) 424), (.int (0) 0), .none, .none, (.ref 83), (.int (0) 0)], #[]⟩),
  (97, ⟨(.type "code"), none, .fields #[(.str "_index" 436), (.str "_index" 437), (.str "/claim/cut.py" 438), (.int (59) 0), (.int (2) 0), (.int (0) 0), (.int (0) 0), (.int (3) 0), (.ref 92), (.bool true), (.int (318) 0), (.ref 93), .none, (.ref 94), (.ref 95), (.ref 96), (.int (441) 0), (.int (59) 0), (.str "/claim/cut.py" 442)], #[]⟩),
  (98, fnO "_index" "_index" pb 13 .none (.str "io" 426) (.ref 97)),
  (124, ⟨(.type "code"), none, .fields #[(.str "__new__" 480), (.str "IOBase.__new__" 481), (.str "/claim/cut.py" 482), (.int (71) 0), (.int (1) 0), (.int (1) 0), (.int (0) 0), (.int (15) 0), (.ref 119), (.bool true), (.int (318) 0), (.ref 120), .none, (.ref 121), (.ref 122), (.ref 123), (.int (486) 0), (.int (71) 0), (.str "/claim/cut.py" 487)], #[]⟩),
  (125, fnO "__new__" "IOBase.__new__" (clsBody pb 15) 1 .none (.str "io" 426) (.ref 124)),
  (127, ⟨(.type "dict"), none, .dict #[de P "__module__" 473 (.str "io" 478), de P "__firstlineno__" 477 (.int (68) 476), de P "__new__" 488 (.ref 129), de P "__static_attributes__" 489 (.ref 126), de P "__dict__" 492 (.ref 130), de P "__weakref__" 494 (.ref 131), de P "__doc__" 495 .none] 4, #[]⟩),
  (128, ⟨(.type "type"), none, .cls { name := "IOBase", bases := [(.type "object")], mro := [(.ref 128), (.type "object")], ns := 127, qualname := "IOBase", hasDict := true, slotNames := [], subclasses := [(.ref 143), (.ref 155)], abstract := false, collection := none, hasDel := false }, #[none, none, some (.str "IOBase" 466), some (.str "IOBase" 474), some .none, some (.bool true)]⟩),
  (129, ⟨(.type "staticmethod"), none, .fields #[(.ref 125)], #[]⟩),
  (154, ⟨(.type "dict"), none, .dict #[de P "__module__" 523 (.str "io" 528), de P "__firstlineno__" 527 (.int (77) 526), de P "__static_attributes__" 530 (.ref 153), de P "__doc__" 531 .none] 2, #[]⟩),
  (155, ⟨(.type "type"), none, .cls { name := "TextIOBase", bases := [(.ref 128)], mro := [(.ref 155), (.ref 128), (.type "object")], ns := 154, qualname := "TextIOBase", hasDict := true, slotNames := [], subclasses := [(.ref 632)], abstract := false, collection := none, hasDel := false }, #[some (.ref 146), none, some (.str "TextIOBase" 516), some (.str "TextIOBase" 524), some .none, some (.bool true)]⟩),
  (384, ⟨(.type "dict"), none, .dict #[de P "__module__" 541 (.str "_io" 546), de P "__firstlineno__" 545 (.int (79) 544), de P "__init__" 555 (.ref 172), de P "_BytesIO__check" 562 (.ref 179), de P "_BytesIO__line" 573 (.ref 186), de P "closed" 581 (.ref 194), de P "close" 588 (.ref 201), de P "__enter__" 595 (.ref 208), de P "__exit__" 603 (.ref 215), de P "readable" 610 (.ref 222), de P "writable" 617 (.ref 229), de P "seekable" 624 (.ref 236), de P "isatty" 631 (.ref 243), de P "flush" 638 (.ref 250), de P "fileno" 645 (.ref 257), de P "detach" 652 (.ref 264), de P "getvalue" 659 (.ref 271), de P "getbuffer" 666 (.ref 278), de P "tell" 673 (.ref 285), de P "seek" 683 (.ref 293), de P "truncate" 691 (.ref 301), de P "read" 703 (.ref 309), de P "read1" 713 (.ref 317), de P "readinto" 723 (.ref 324), de P "readinto1" 731 (.ref 331), de P "readline" 741 (.ref 339), de P "readlines" 749 (.ref 347), de P "__iter__" 756 (.ref 354), de P "__next__" 764 (.ref 361), de P "write" 774 (.ref 368), de P "writelines" 782 (.ref 375), de P "__repr__" 789 (.ref 382), de P "__static_attributes__" 792 (.ref 383), de P "__doc__" 793 .none] 2, #[]⟩),
  (385, ⟨(.type "type"), none, .cls { name := "BytesIO", bases := [(.ref 143)], mro := [(.ref 385), (.ref 143), (.ref 128), (.type "object")], ns := 384, qualname := "BytesIO", hasDict := true, slotNames := [], subclasses := [], abstract := false, collection := none, hasDel := false }, #[some (.ref 158), none, some (.str "BytesIO" 534), some (.str "BytesIO" 542), some .none, some (.bool true)]⟩),
  (395, ⟨(.type "tuple"), none, .seq #[(.str "" 810), (.str "\n" 811)] 0, #[]⟩),
  (401, ⟨(.type "code"), none, .fields #[(.str "__init__" 812), (.str "StringIO.__init__" 813), (.str "/claim/cut.py" 814), (.int (252) 0), (.int (3) 0), (.int (0) 0), (.int (0) 0), (.int (3) 0), (.ref 396), (.bool true), (.int (318) 0), (.ref 397), .none, (.ref 398), (.ref 399), (.ref 400), (.int (818) 0), (.int (252) 0), (.str "/claim/cut.py" 819)], #[]⟩),
  (402, fnO "__init__" "StringIO.__init__" (clsBody pb 19) 1 (.ref 395) (.str "io" 426) (.ref 401)),
  (408, ⟨(.type "code"), none, .fields #[(.str "__translated" 821), (.str "StringIO.__translated" 822), (.str "/claim/cut.py" 823), (.int (265) 0), (.int (2) 0), (.int (0) 0), (.int (0) 0), (.int (3) 0), (.ref 403), (.bool true), (.int (318) 0), (.ref 404), .none, (.ref 405), (.ref 406), (.ref 407), (.int (827) 0), (.int (265) 0), (.str "/claim/cut.py" 828)], #[]⟩),
  (409, fnO "__translated" "StringIO.__translated" (clsBody pb 19) 2 .none (.str "io" 426) (.ref 408)),
  (415, ⟨(.type "code"), none, .fields #[(.str "__check" 830), (.str "StringIO.__check" 831), (.str "/claim/cut.py" 832), (.int (273) 0), (.int (1) 0), (.int (0) 0), (.int (0) 0), (.int (3) 0), (.ref 410), (.bool true), (.int (318) 0), (.ref 411), .none, (.ref 412), (.ref 413), (.ref 414), (.int (834) 0), (.int (273) 0), (.str "/claim/cut.py" 835)], #[]⟩),
  (416, fnO "__check" "StringIO.__check" (clsBody pb 19) 3 .none (.str "io" 426) (.ref 415)),
  (571, ⟨(.type "tuple"), none, .seq #[(.int (-1) 1003)] 0, #[]⟩),
  (577, ⟨(.type "code"), none, .fields #[(.str "read" 1004), (.str "StringIO.read" 1005), (.str "/claim/cut.py" 1006), (.int (395) 0), (.int (2) 0), (.int (2) 0), (.int (0) 0), (.int (3) 0), (.ref 572), (.bool true), (.int (318) 0), (.ref 573), .none, (.ref 574), (.ref 575), (.ref 576), (.int (1011) 0), (.int (395) 0), (.str "/claim/cut.py" 1012)], #[]⟩),
  (578, fnO "read" "StringIO.read" (clsBody pb 19) 25 (.ref 571) (.str "io" 426) (.ref 577)),
  (631, ⟨(.type "dict"), none, .dict #[de P "__module__" 803 (.str "_io" 808), de P "__firstlineno__" 807 (.int (249) 806), de P "__init__" 820 (.ref 402), de P "_StringIO__translated" 829 (.ref 409), de P "_StringIO__check" 836 (.ref 416), de P "_StringIO__check_dot" 843 (.ref 423), de P "_StringIO__line" 858 (.ref 430), de P "closed" 866 (.ref 438), de P "line_buffering" 874 (.ref 446), de P "newlines" 882 (.ref 454), de P "encoding" 890 (.ref 462), de P "errors" 898 (.ref 470), de P "close" 905 (.ref 477), de P "__enter__" 912 (.ref 484), de P "__exit__" 920 (.ref 491), de P "readable" 927 (.ref 498), de P "writable" 934 (.ref 505), de P "seekable" 941 (.ref 512), de P "isatty" 948 (.ref 519), de P "flush" 955 (.ref 526), de P "fileno" 962 (.ref 533), de P "detach" 969 (.ref 540), de P "getvalue" 976 (.ref 547), de P "tell" 983 (.ref 554), de P "seek" 993 (.ref 562), de P "truncate" 1001 (.ref 570), de P "read" 1013 (.ref 578), de P "readline" 1023 (.ref 586), de P "readlines" 1033 (.ref 594), de P "__iter__" 1040 (.ref 601), de P "__next__" 1048 (.ref 608), de P "write" 1060 (.ref 615), de P "writelines" 1068 (.ref 622), de P "__repr__" 1075 (.ref 629), de P "__static_attributes__" 1079 (.ref 630), de P "__doc__" 1080 .none] 2, #[]⟩),
  (632, ⟨(.type "type"), none, .cls { name := "StringIO", bases := [(.ref 155)], mro := [(.ref 632), (.ref 155), (.ref 128), (.type "object")], ns := 631, qualname := "StringIO", hasDict := true, slotNames := [], subclasses := [], abstract := false, collection := none, hasDel := false }, #[some (.ref 388), none, some (.str "StringIO" 796), some (.str "StringIO" 804), some .none, some (.bool true)]⟩),
  (684, ⟨(.type "tuple"), none, .seq #[.none, .none, (.bool false), (.bool false)] 0, #[]⟩),
  (690, ⟨(.type "code"), none, .fields #[(.str "__init__" 1156), (.str "shlex.__init__" 1157), (.str "/claim/cut.py" 1158), (.int (521) 0), (.int (5) 0), (.int (0) 0), (.int (0) 0), (.int (3) 0), (.ref 685), (.bool true), (.int (318) 0), (.ref 686), .none, (.ref 687), (.ref 688), (.ref 689), (.int (1165) 0), (.int (521) 0), (.str "/claim/cut.py" 1166)], #[]⟩),
  (691, fnO "__init__" "shlex.__init__" (clsBody pb 29) 0 (.ref 684) (.str "cpy313.shlex" 1142) (.ref 690)),
  (697, ⟨(.type "code"), none, .fields #[(.str "punctuation_chars" 1168), (.str "shlex.punctuation_chars" 1169), (.str "/claim/cut.py" 1170), (.int (562) 0), (.int (1) 0), (.int (0) 0), (.int (0) 0), (.int (3) 0), (.ref 692), (.bool true), (.int (318) 0), (.ref 693), .none, (.ref 694), (.ref 695), (.ref 696), (.int (1172) 0), (.int (562) 0), (.str "/claim/cut.py" 1173)], #[]⟩),
  (698, fnO "punctuation_chars" "shlex.punctuation_chars" (clsBody pb 29) 1 .none (.str "cpy313.shlex" 1142) (.ref 697)),
  (699, ⟨(.type "property"), none, .fields #[(.ref 698), .none, .none, .none, (.str "punctuation_chars" 1175), (.bool false)], #[]⟩),
  (727, ⟨(.type "code"), none, .fields #[(.str "get_token" 1200), (.str "shlex.get_token" 1201), (.str "/claim/cut.py" 1202), (.int (589) 0), (.int (1) 0), (.int (0) 0), (.int (0) 0), (.int (3) 0), (.ref 722), (.bool true), (.int (318) 0), (.ref 723), .none, (.ref 724), (.ref 725), (.ref 726), (.int (1209) 0), (.int (589) 0), (.str "/claim/cut.py" 1210)], #[]⟩),
  (728, fnO "get_token" "shlex.get_token" (clsBody pb 29) 5 .none (.str "cpy313.shlex" 1142) (.ref 727)),
  (734, ⟨(.type "code"), none, .fields #[(.str "read_token" 1212), (.str "shlex.read_token" 1213), (.str "/claim/cut.py" 1214), (.int (616) 0), (.int (1) 0), (.int (0) 0), (.int (0) 0), (.int (3) 0), (.ref 729), (.bool true), (.int (318) 0), (.ref 730), .none, (.ref 731), (.ref 732), (.ref 733), (.int (1220) 0), (.int (616) 0), (.str "/claim/cut.py" 1221)], #[]⟩),
  (735, fnO "read_token" "shlex.read_token" (clsBody pb 29) 6 .none (.str "cpy313.shlex" 1142) (.ref 734)),
  (766, ⟨(.type "dict"), none, .dict #[de P "__module__" 1151 (.str "cpy313.shlex" 1142), de P "__firstlineno__" 1155 (.int (519) 1154), de P "__init__" 1167 (.ref 691), de P "punctuation_chars" 1175 (.ref 699), de P "push_token" 1183 (.ref 706), de P "push_source" 1192 (.ref 714), de P "pop_source" 1199 (.ref 721), de P "get_token" 1211 (.ref 728), de P "read_token" 1222 (.ref 735), de P "sourcehook" 1230 (.ref 742), de P "error_leader" 1239 (.ref 750), de P "__iter__" 1246 (.ref 757), de P "__next__" 1254 (.ref 764), de P "__static_attributes__" 1275 (.ref 765), de P "__dict__" 1277 (.ref 768), de P "__weakref__" 1279 (.ref 769), de P "__doc__" 1280 .none] 4, #[]⟩),
  (767, ⟨(.type "type"), none, .cls { name := "shlex", bases := [(.type "object")], mro := [(.ref 767), (.type "object")], ns := 766, qualname := "shlex", hasDict := true, slotNames := [], subclasses := [], abstract := false, collection := none, hasDel := false }, #[none, none, some (.str "shlex" 1144), some (.str "shlex" 1152), some (.builtin "object.__new__"), some (.bool true)]⟩),
  (777, ⟨(.type "code"), none, .fields #[(.str "join" 1283), (.str "join" 1284), (.str "/claim/cut.py" 1285), (.int (771) 0), (.int (1) 0), (.int (0) 0), (.int (0) 0), (.int (3) 0), (.ref 772), (.bool true), (.int (318) 0), (.ref 773), .none, (.ref 774), (.ref 775), (.ref 776), (.int (1287) 0), (.int (771) 0), (.str "/claim/cut.py" 1288)], #[]⟩),
  (778, fnO "join" "join" pb 30 .none (.str "cpy313.shlex" 1142) (.ref 777)),
  (779, ⟨(.type "builtin_function_or_method"), none, .fields #[(.builtin "re.Pattern.search"), (.ref 84)], #[]⟩),
  (785, ⟨(.type "code"), none, .fields #[(.str "quote" 1293), (.str "quote" 1294), (.str "/claim/cut.py" 1295), (.int (775) 0), (.int (1) 0), (.int (0) 0), (.int (0) 0), (.int (3) 0), (.ref 780), (.bool true), (.int (318) 0), (.ref 781), .none, (.ref 782), (.ref 783), (.ref 784), (.int (1297) 0), (.int (775) 0), (.str "/claim/cut.py" 1298)], #[]⟩),
  (786, fnO "quote" "quote" pb 33 .none (.str "cpy313.shlex" 1142) (.ref 785)),
  (792, ⟨(.type "code"), none, .fields #[(.str "_law_octets" 1302), (.str "_law_octets" 1303), (.str "/claim/cut.py" 1304), (.int (782) 0), (.int (1) 0), (.int (0) 0), (.int (0) 0), (.int (3) 0), (.ref 787), (.bool true), (.int (318) 0), (.ref 788), .none, (.ref 789), (.ref 790), (.ref 791), (.int (1307) 0), (.int (782) 0), (.str "/claim/cut.py" 1308)], #[]⟩),
  (793, fnO "_law_octets" "_law_octets" pb 35 .none (.str "law_oy0341_03" 1300) (.ref 792)),
  (799, ⟨(.type "code"), none, .fields #[(.str "_law_ballot" 1310), (.str "_law_ballot" 1311), (.str "/claim/cut.py" 1312), (.int (788) 0), (.int (1) 0), (.int (0) 0), (.int (0) 0), (.int (3) 0), (.ref 794), (.bool true), (.int (318) 0), (.ref 795), .none, (.ref 796), (.ref 797), (.ref 798), (.int (1316) 0), (.int (788) 0), (.str "/claim/cut.py" 1317)], #[]⟩),
  (800, fnO "_law_ballot" "_law_ballot" pb 36 .none (.str "law_oy0341_03" 1300) (.ref 799)),
  (804, ⟨(.type "code"), none, .fields #[(.str "_law_read" 1319), (.str "_law_read" 1320), (.str "/claim/cut.py" 1321), (.int (796) 0), (.int (3) 0), (.int (0) 0), (.int (0) 0), (.int (3) 0), (.ref 801), (.bool true), (.int (318) 0), (.ref 802), .none, .none, .none, (.ref 803), (.int (1322) 0), (.int (796) 0), (.str "/claim/cut.py" 1323)], #[]⟩),
  (805, fnO "_law_read" "_law_read" pb 37 .none (.str "law_oy0341_03" 1300) (.ref 804)),
  (809, ⟨(.type "code"), none, .fields #[(.str "_law_lead" 1325), (.str "_law_lead" 1326), (.str "/claim/cut.py" 1327), (.int (805) 0), (.int (3) 0), (.int (0) 0), (.int (0) 0), (.int (3) 0), (.ref 806), (.bool true), (.int (318) 0), (.ref 807), .none, .none, .none, (.ref 808), (.int (1328) 0), (.int (805) 0), (.str "/claim/cut.py" 1329)], #[]⟩),
  (810, fnO "_law_lead" "_law_lead" pb 38 .none (.str "law_oy0341_03" 1300) (.ref 809)),
  (814, ⟨(.type "code"), none, .fields #[(.str "_law_ways" 1331), (.str "_law_ways" 1332), (.str "/claim/cut.py" 1333), (.int (807) 0), (.int (2) 0), (.int (0) 0), (.int (0) 0), (.int (3) 0), (.ref 811), (.bool true), (.int (318) 0), (.ref 812), .none, .none, .none, (.ref 813), (.int (1334) 0), (.int (807) 0), (.str "/claim/cut.py" 1335)], #[]⟩),
  (815, fnO "_law_ways" "_law_ways" pb 39 .none (.str "law_oy0341_03" 1300) (.ref 814)),
  (819, ⟨(.type "code"), none, .fields #[(.str "_law_table" 1337), (.str "_law_table" 1338), (.str "/claim/cut.py" 1339), (.int (821) 0), (.int (1) 0), (.int (0) 0), (.int (0) 0), (.int (3) 0), (.ref 816), (.bool true), (.int (318) 0), (.ref 817), .none, .none, .none, (.ref 818), (.int (1340) 0), (.int (821) 0), (.str "/claim/cut.py" 1341)], #[]⟩),
  (820, fnO "_law_table" "_law_table" pb 40 .none (.str "law_oy0341_03" 1300) (.ref 819)),
  (824, ⟨(.type "code"), none, .fields #[(.str "_law_sound" 1343), (.str "_law_sound" 1344), (.str "/claim/cut.py" 1345), (.int (826) 0), (.int (2) 0), (.int (0) 0), (.int (0) 0), (.int (3) 0), (.ref 821), (.bool true), (.int (318) 0), (.ref 822), .none, .none, .none, (.ref 823), (.int (1346) 0), (.int (826) 0), (.str "/claim/cut.py" 1347)], #[]⟩),
  (825, fnO "_law_sound" "_law_sound" pb 41 .none (.str "law_oy0341_03" 1300) (.ref 824)),
  (829, ⟨(.type "code"), none, .fields #[(.str "law" 1349), (.str "law" 1350), (.str "/claim/cut.py" 1351), (.int (838) 0), (.int (1) 0), (.int (0) 0), (.int (0) 0), (.int (3) 0), (.ref 826), (.bool true), (.int (318) 0), (.ref 827), .none, .none, .none, (.ref 828), (.int (1352) 0), (.int (838) 0), (.str "/claim/cut.py" 1353)], #[]⟩),
  (830, fnO "law" "law" pb 42 .none (.str "law_oy0341_03" 1300) (.ref 829))]
noncomputable def Kx (P : Params) : Frag := K P ++ [(773, ⟨.none, none, .fields #[], #[]⟩),
  (1, ⟨(.type "dict"), none, .dict #[de P "builtins" 162 (.ref 4), de P "__main__" 163 (.ref 5), de P "_sre" 244 (.ref 12), de P "_collections" 292 (.ref 30)] 4, #[]⟩)]
noncomputable def obsA : List Addr := [2, 3, 4, 50, 51, 57, 58, 64, 65, 71, 72, 78, 79, 83, 84, 97, 98, 124, 125, 127, 128, 129, 154, 155, 384, 385, 395, 401, 402, 408, 409, 415, 416, 571, 577, 578, 631, 632, 684, 690, 691, 697, 698, 699, 727, 728, 734, 735, 766, 767, 777, 778, 779, 785, 786, 792, 793, 799, 800, 804, 805, 809, 810, 814, 815, 819, 820, 824, 825, 829, 830, 773, 1]
noncomputable def obs (s : Shared) : List (Option Obj) := obsA.map s.heap.get?
noncomputable def lhs (p : Program) (w : World) := (headT treeTable p w 6000).map fun s => (openSeen (qOf p) (looseOf p) (importedModules p.main.body) (fun s => xlAt (qOf p) [] s && recOk [] s) true s.abs, obs s.abs)
noncomputable def rhs (p : Program) (k : Params → Frag) (w : World) := some (openGood (qOf p) (looseOf p), (k w.params).map fun p => some p.2)
noncomputable def kp {α : Type _} (_ : α) : Bool := true
theorem twins : kp (lhs, rhs) = true := by k_qdec
theorem look (w : World) : lhs PySem.Challenge.pw_oy0341_03 w = rhs PySem.Challenge.pw_oy0341_03 Kx w :=
  (congrFun (congrFun PySem.W.Fast.te14720033549999066060 PySem.Challenge.pw_oy0341_03) w).trans ((by kernel_rfl : PySem.W.Fast.tw14720033549999066060 PySem.Challenge.pw_oy0341_03 w = PySem.W.Fast.tw1938990355778164159 PySem.Challenge.pw_oy0341_03 Kx w).trans (congrFun (congrFun (congrFun PySem.W.Fast.te1938990355778164159 PySem.Challenge.pw_oy0341_03) Kx) w).symm)
end Mine
end
section -- Hd03b
open PySem PySem.W PyProof.Rows
set_option maxRecDepth 100000
set_option maxHeartbeats 400000
namespace Mine
noncomputable def kwd0 : List (Str × Expr) := []
noncomputable def theLaw : DefRec := match defOf q "law" with | some d => d.1 | none => ⟨"", ⟨[], [], none, [], [], none, []⟩, [], { kind := .function, names := [], isGenerator := false, isCoroutine := false }, ⟨0,0,0,0⟩⟩
set_option maxHeartbeats 4000000 in
theorem left : LeftO PySem.Challenge.rw_oy0341_03.row.prog q loose (fun s => xlAt q [] s && recOk (RowW.records PySem.Challenge.rw_oy0341_03.row.toRowW) s) (fun s => obs s) (fun w => (Kx w.params).map fun p => some p.2) 6000 :=
  leftO_of look
theorem hp : PySem.Challenge.rw_oy0341_03.row.prog.theDef PySem.Challenge.rw_oy0341_03.row.name = some (theLaw.params, theLaw.body, theLaw.scope) := by kernel_rfl
theorem hdef : defOf q PySem.Challenge.rw_oy0341_03.row.name = some (theLaw, kwd0) := by kernel_rfl
theorem hk : kwWritten? theLaw.params.kwonlyargs theLaw.params.kw_defaults = some kwd0 := by kernel_rfl
theorem okk : (chainsOk q && opensWell PySem.Challenge.rw_oy0341_03.row.prog && (frees PySem.Challenge.rw_oy0341_03.row.toRowW && PySem.Challenge.rw_oy0341_03.row.within.isEmpty)) = true := by kernel_rfl
theorem hbare : PySem.Challenge.rw_oy0341_03.row.prog.bare := ⟨by kernel_rfl, by kernel_rfl, by kernel_rfl, by kernel_rfl, by kernel_rfl, by decide +kernel⟩
theorem obsK (P : Params) : obsA = (Kx P).map (·.1) := rfl

abbrev rr : OpenRow := PySem.Challenge.rw_oy0341_03.row
theorem head1 (hw : rr.toRowW.promised) (said : rr.wellSaid = true)
    (call : WalkO q loose (XL q []) (InK Kx) rr.toRowW theLaw kwd0 fun f vs => PySem.call f vs) : rr.Holds := by
  have h1 := @holds_open rr q loose (fun s => xlAt q [] s && recOk (RowW.records PySem.Challenge.rw_oy0341_03.row.toRowW) s) (XL q []) _ (fun s => obs s) (fun w => (Kx w.params).map fun p => some p.2) (InK Kx) theLaw kwd0 6000
  have h2 := h1 left (fun w s e => InK.of obsK w s e) InK.keeps (fun s e => xl_of s (Bool.and_eq_true_iff.mp e).1) XL.keeps
  have h3 := h2 hdef hp hk (fun s e => recFacts_of (Bool.and_eq_true_iff.mp e).2)
  have h4 := h3 (by kernel_rfl) said okk hbare hw call
  exact h4
end Mine
end
section -- MCore
set_option maxRecDepth 100000
/-! A logic of our own: abstract values, an abstract heap of objects by number, judgements over the kit's wpAny. -/
namespace Mine
open PySem PySem.W PyProof.Rows

inductive V where
  | none
  | bool (b : Bool)
  | int (i : Int)
  | str (s : Str)
  | tup (l : List V)
  | lst (l : List V)
  | rng (lo hi : Int)
  | obj (n : Nat)
  | inst (c : Addr) (n : Nat)
  | deq
  | ref
  | val (v : Value)

noncomputable def IsDeq (o : Obj) : Prop := o.cls = .type "collections.deque" ∧ o.data = .fields #[.none, .int 0 0] ∧ o.dict = none
noncomputable abbrev PH := Addr → Option Obj
noncomputable def PH.le (Z Z' : PH) : Prop := ∀ a o, Z a = some o → Z' a = some o
theorem PH.le.refl (Z : PH) : PH.le Z Z := fun _ _ h => h
theorem PH.le.trans {Z Z' Z'' : PH} (h : PH.le Z Z') (k : PH.le Z' Z'') : PH.le Z Z'' := fun a o e => k a o (h a o e)
noncomputable def PH.put (Z : PH) (a : Addr) (o : Obj) : PH := fun b => if b = a then some o else Z b
theorem PH.put_self (Z : PH) (a : Addr) (o : Obj) : Z.put a o a = some o := if_pos rfl
theorem PH.put_ne (Z : PH) {a b : Addr} (o : Obj) (h : b ≠ a) : Z.put a o b = Z b := if_neg h
theorem PH.le_put {Z : PH} {a : Addr} {o : Obj} (h : Z a = none) : PH.le Z (Z.put a o) := fun b o' e => by
  by_cases q : b = a
  · subst q; rw [h] at e; cases e
  · rw [PH.put_ne _ _ q]; exact e

noncomputable def Ext (ρ ρ' : List Addr) : Prop := ∀ (n : Nat) (a : Addr), ρ[n]? = some a → ρ'[n]? = some a
theorem Ext.refl (ρ : List Addr) : Ext ρ ρ := fun _ _ h => h
theorem Ext.trans {a b c : List Addr} (h : Ext a b) (k : Ext b c) : Ext a c := fun n x e => k n x (h n x e)
theorem Ext.snoc (ρ : List Addr) (a : Addr) : Ext ρ (ρ ++ [a]) := fun n x e => by
  rw [List.getElem?_append_left (List.getElem?_eq_some_iff.mp e).1]; exact e

mutual
inductive VR (Z : PH) (ρ : List Addr) : V → Value → Prop
  | none : VR Z ρ .none .none
  | bool (b : Bool) : VR Z ρ (.bool b) (.bool b)
  | int (i : Int) (t : Tok) : VR Z ρ (.int i) (.int i t)
  | str (x : Str) (t : Tok) : VR Z ρ (.str x) (.str x t)
  | tup {a : Addr} {ws : Array Value} {n : Nat} {vs : List V} : Z a = some { cls := .type "tuple", data := .seq ws n } → VRs Z ρ vs ws.toList → VR Z ρ (.tup vs) (.ref a)
  | lst {a : Addr} {ws : Array Value} {n : Nat} {vs : List V} : Z a = some { cls := .type "list", data := .seq ws n } → VRs Z ρ vs ws.toList → VR Z ρ (.lst vs) (.ref a)
  | rng {a : Addr} {lo hi : Int} {t1 t2 t3 : Tok} : (∀ h : Heap, (∀ o, Z a = some o → h.get? a = some o) → IsRange h a lo hi 1 t1 t2 t3) → VR Z ρ (.rng lo hi) (.ref a)
  | obj {n : Nat} {a : Addr} : ρ[n]? = some a → VR Z ρ (.obj n) (.ref a)
  | inst {x dx c : Addr} {n : Nat} : Z x = some (instObj c dx) → ρ[n]? = some dx → VR Z ρ (.inst c n) (.ref x)
  | deq {x : Addr} {o : Obj} : Z x = some o → IsDeq o → VR Z ρ .deq (.ref x)
  | ref (x : Addr) : VR Z ρ .ref (.ref x)
  | val (v : Value) : VR Z ρ (.val v) v
inductive VRs (Z : PH) (ρ : List Addr) : List V → List Value → Prop
  | nil : VRs Z ρ [] []
  | cons {v : V} {w : Value} {vs : List V} {ws : List Value} : VR Z ρ v w → VRs Z ρ vs ws → VRs Z ρ (v :: vs) (w :: ws)
end

theorem VR.both {Z : PH} {ρ : List Addr} {P : V → Value → Prop} {Q : List V → List Value → Prop} (a1 : P .none .none) (a2 : ∀ b, P (.bool b) (.bool b)) (a3 : ∀ i t, P (.int i) (.int i t)) (a4 : ∀ x t, P (.str x) (.str x t))
    (a5 : ∀ {a ws n vs}, Z a = some { cls := .type "tuple", data := .seq ws n } → VRs Z ρ vs ws.toList → Q vs ws.toList → P (.tup vs) (.ref a)) (a6 : ∀ {a ws n vs}, Z a = some { cls := .type "list", data := .seq ws n } → VRs Z ρ vs ws.toList → Q vs ws.toList → P (.lst vs) (.ref a))
    (a7 : ∀ {a lo hi t1 t2 t3}, (∀ h : Heap, (∀ o, Z a = some o → h.get? a = some o) → IsRange h a lo hi 1 t1 t2 t3) → P (.rng lo hi) (.ref a)) (a8 : ∀ {n a}, ρ[n]? = some a → P (.obj n) (.ref a)) (a9 : ∀ {x dx c n}, Z x = some (instObj c dx) → ρ[n]? = some dx → P (.inst c n) (.ref x))
    (a10 : ∀ {x o}, Z x = some o → IsDeq o → P .deq (.ref x)) (a11 : ∀ x, P .ref (.ref x)) (a12 : ∀ v, P (.val v) v) (b1 : Q [] []) (b2 : ∀ {v w vs ws}, VR Z ρ v w → VRs Z ρ vs ws → P v w → Q vs ws → Q (v :: vs) (w :: ws)) :
    (∀ {v w}, VR Z ρ v w → P v w) ∧ ∀ {vs ws}, VRs Z ρ vs ws → Q vs ws :=
  ⟨fun h => VR.rec (motive_1 := fun v w _ => P v w) (motive_2 := fun v w _ => Q v w) a1 a2 a3 a4 a5 a6 a7 a8 a9 a10 a11 a12 b1 b2 h,
   fun h => VRs.rec (motive_1 := fun v w _ => P v w) (motive_2 := fun v w _ => Q v w) a1 a2 a3 a4 a5 a6 a7 a8 a9 a10 a11 a12 b1 b2 h⟩
theorem VRs.ind {Z : PH} {ρ : List Addr} {Q : List V → List Value → Prop} (b1 : Q [] []) (b2 : ∀ {v w vs ws}, VR Z ρ v w → VRs Z ρ vs ws → Q vs ws → Q (v :: vs) (w :: ws)) {vs : List V} {ws : List Value} (h : VRs Z ρ vs ws) : Q vs ws :=
  (VR.both (P := fun _ _ => True) trivial (fun _ => trivial) (fun _ _ => trivial) (fun _ _ => trivial) (fun _ _ _ => trivial) (fun _ _ _ => trivial) (fun _ => trivial) (fun _ => trivial) (fun _ _ => trivial) (fun _ _ => trivial) (fun _ => trivial) (fun _ => trivial) b1 fun h t _ ih => b2 h t ih).2 h
theorem VR.mono2 {Z Z' : PH} {ρ ρ' : List Addr} (hz : PH.le Z Z') (hr : Ext ρ ρ') : (∀ {v w}, VR Z ρ v w → VR Z' ρ' v w) ∧ ∀ {vs ws}, VRs Z ρ vs ws → VRs Z' ρ' vs ws :=
  VR.both .none .bool .int .str (fun h1 _ ih => .tup (hz _ _ h1) ih) (fun h1 _ ih => .lst (hz _ _ h1) ih) (fun h => .rng fun hh k => h hh fun o e => k o (hz _ _ e)) (fun h => .obj (hr _ _ h)) (fun h k => .inst (hz _ _ h) (hr _ _ k)) (fun h k => .deq (hz _ _ h) k) .ref .val .nil fun _ _ h t => .cons h t
theorem VR.mono {Z Z' : PH} {ρ ρ' : List Addr} (hz : PH.le Z Z') (hr : Ext ρ ρ') {v : V} {w : Value} (h : VR Z ρ v w) : VR Z' ρ' v w := (VR.mono2 hz hr).1 h
theorem VRs.mono {Z Z' : PH} {ρ ρ' : List Addr} (hz : PH.le Z Z') (hr : Ext ρ ρ') {v : List V} {w : List Value} (h : VRs Z ρ v w) : VRs Z' ρ' v w := (VR.mono2 hz hr).2 h

theorem VRs.length {Z : PH} {ρ : List Addr} {v : List V} {w : List Value} (h : VRs Z ρ v w) : v.length = w.length := VRs.ind (Q := fun v w => v.length = w.length) rfl (fun _ _ ih => congrArg Nat.succ ih) h
theorem VRs.append {Z : PH} {ρ : List Addr} {v v' : List V} {w w' : List Value} (h : VRs Z ρ v w) (k : VRs Z ρ v' w') : VRs Z ρ (v ++ v') (w ++ w') := VRs.ind (Q := fun v w => VRs Z ρ (v ++ v') (w ++ w')) k (fun h _ ih => .cons h ih) h
theorem VRs.get {Z : PH} {ρ : List Addr} {v : List V} {w : List Value} (h : VRs Z ρ v w) : ∀ (i : Nat) (x : V), v[i]? = some x → ∃ y, w[i]? = some y ∧ VR Z ρ x y :=
  VRs.ind (Q := fun v w => ∀ (i : Nat) (x : V), v[i]? = some x → ∃ y, w[i]? = some y ∧ VR Z ρ x y) (fun i x h => nomatch h) (fun hv _ ih i x h => by
    cases i with
    | zero => exact ⟨_, rfl, Option.some.inj h ▸ hv⟩
    | succ i => exact ih i x h) h
theorem VRs.set {Z : PH} {ρ : List Addr} {x : V} {y : Value} (r : VR Z ρ x y) {v : List V} {w : List Value} (h : VRs Z ρ v w) : ∀ (i : Nat), VRs Z ρ (v.set i x) (w.set i y) :=
  VRs.ind (Q := fun v w => ∀ (i : Nat), VRs Z ρ (v.set i x) (w.set i y)) (fun _ => .nil) (fun hv t ih i => Nat.casesOn (motive := fun i => VRs Z ρ (List.set _ i x) (List.set _ i y)) i (.cons r t) fun i => .cons hv (ih i)) h
theorem VRs.take {Z : PH} {ρ : List Addr} {v : List V} {w : List Value} (h : VRs Z ρ v w) : ∀ (i : Nat), VRs Z ρ (v.take i) (w.take i) :=
  VRs.ind (Q := fun v w => ∀ (i : Nat), VRs Z ρ (v.take i) (w.take i)) (fun i => by rw [List.take_nil, List.take_nil]; exact .nil) (fun hv t ih i => Nat.casesOn (motive := fun i => VRs Z ρ (List.take i _) (List.take i _)) i .nil fun i => .cons hv (ih i)) h
theorem VRs.drop {Z : PH} {ρ : List Addr} {v : List V} {w : List Value} (h : VRs Z ρ v w) : ∀ (i : Nat), VRs Z ρ (v.drop i) (w.drop i) :=
  VRs.ind (Q := fun v w => ∀ (i : Nat), VRs Z ρ (v.drop i) (w.drop i)) (fun i => by rw [List.drop_nil, List.drop_nil]; exact .nil) (fun hv t ih i => Nat.casesOn (motive := fun i => VRs Z ρ (List.drop i _) (List.drop i _)) i (.cons hv t) fun i => ih i) h

inductive AO where
  | list (xs : List V)
  | dict (es : List (Int × V))
  | iter (xs : List V) (i : Nat)
  | ns (fs : List (Str × V))
  | codes

inductive NsR (Z : PH) (ρ : List Addr) : List (Str × V) → List DictEntry → Prop
  | nil : NsR Z ρ [] []
  | cons {x : Str} {v : V} {e : DictEntry} {fs : List (Str × V)} {es : List DictEntry} : VR Z ρ v e.val → (∃ t, e.key = .str x t) → NsR Z ρ fs es → NsR Z ρ ((x, v) :: fs) (e :: es)
theorem NsR.mono {Z Z' : PH} {ρ ρ' : List Addr} (hz : PH.le Z Z') (hr : Ext ρ ρ') : ∀ {fs : List (Str × V)} {es : List DictEntry}, NsR Z ρ fs es → NsR Z' ρ' fs es
  | _, _, .nil => .nil
  | _, _, .cons h k t => .cons (h.mono hz hr) k (t.mono hz hr)

inductive KR (Z : PH) (ρ : List Addr) : List (Int × V) → List (Int × Value) → Prop
  | nil : KR Z ρ [] []
  | cons {k : Int} {v : V} {w : Value} {es : List (Int × V)} {kvs : List (Int × Value)} : VR Z ρ v w → KR Z ρ es kvs → KR Z ρ ((k, v) :: es) ((k, w) :: kvs)
theorem KR.mono {Z Z' : PH} {ρ ρ' : List Addr} (hz : PH.le Z Z') (hr : Ext ρ ρ') : ∀ {es : List (Int × V)} {kvs : List (Int × Value)}, KR Z ρ es kvs → KR Z' ρ' es kvs
  | _, _, .nil => .nil
  | _, _, .cons h t => .cons (h.mono hz hr) (t.mono hz hr)
inductive DE : List (Int × Value) → List DictEntry → Prop
  | nil : DE [] []
  | cons {k : Int} {v : Value} {t : Tok} {kvs : List (Int × Value)} {es : List DictEntry} : DE kvs es → DE ((k, v) :: kvs) (⟨hashInt k, .int k t, v⟩ :: es)
noncomputable def IsD (o : Obj) (kvs : List (Int × Value)) : Prop := ∃ es ep, o.ExactDict ∧ o.data = .dict es ep ∧ DE kvs es.toList ∧ (kvs.map (·.1)).Nodup

inductive OR (P : Params) (Z : PH) (ρ : List Addr) : AO → Obj → Prop
  | list {ws : Array Value} {n : Nat} {xs : List V} : VRs Z ρ xs ws.toList → OR P Z ρ (.list xs) { cls := .type "list", data := .seq ws n }
  | iter {l : Addr} {i : Nat} {o : Obj} {xs : List V} : VR Z ρ (.lst xs) (.ref l) → i ≤ xs.length → o.cls = .type "list_iterator" → o.data = .fields #[.ref l, .int i 0] → OR P Z ρ (.iter xs i) o
  | ns {es : List DictEntry} {n : Nat} {fs : List (Str × V)} : NsR Z ρ fs es → OR P Z ρ (.ns fs) (dictOf es n)
  | dict {o : Obj} {es : List (Int × V)} {kvs : List (Int × Value)} : IsD o kvs → KR Z ρ es kvs → OR P Z ρ (.dict es) o
  | codes {o : Obj} {ps : Array Value} : o = { cls := .none, data := .fields ps } → TriplesOk ps.toList → OR P Z ρ .codes o
theorem OR.mono {P : Params} {Z Z' : PH} {ρ ρ' : List Addr} (hz : PH.le Z Z') (hr : Ext ρ ρ') {ao : AO} {o : Obj} (h : OR P Z ρ ao o) : OR P Z' ρ' ao o := by
  cases h with
  | list h => exact .list (h.mono hz hr)
  | iter h h1 h2 h3 => exact .iter (h.mono hz hr) h1 h2 h3
  | ns h => exact .ns (h.mono hz hr)
  | dict h k => exact .dict h (k.mono hz hr)
  | codes h k => exact .codes h k

structure St where
  vars : List (Str × V)
  heap : Nat → Option AO
  nx : Nat

inductive Tag where
  | free | z | r | fl
  | fc (x : Str)
  | ob (n : Nat)

noncomputable def Tag.k : Tag → Nat
  | .free => 0 | .z => 1 | .r => 2 | .fl => 3 | .fc _ => 4 | .ob _ => 5
theorem tne {t a b : Tag} (e : t = a) (h : Nat.beq a.k b.k = false := by rfl) : t ≠ b := fun q => Nat.ne_of_beq_eq_false h (congrArg Tag.k (e.symm.trans q))
structure Fx where
  prog : Program
  w : World
  os : OsState
  base : PH
  d : Nat
  u : Nat
  sc : Scope
  gp : Array GenState → Drawn → Prop
  pin : Option Addr
noncomputable def Fx.A (C : Fx) : Around := { handled := none, depth := C.d, frames := none, guards := none, units := C.u }
noncomputable abbrev Fx.M (C : Fx) : Model := model C.prog C.w

structure SRT (C : Fx) (env : Env) (Z R : PH) (ρ : List Addr) (st : St) (s : Shared) (T : Addr → Tag) : Prop where
  base : PH.le C.base Z
  z : ∀ a o, Z a = some o → T a = .z ∧ s.heap.get? a = some o
  r : ∀ a o, R a = some o → T a = .r ∧ s.heap.get? a = some o
  nx : ρ.length = st.nx
  objs : ∀ n ao, st.heap n = some ao → ∃ a, ρ[n]? = some a ∧ T a = .ob n ∧ ∃ o, s.heap.get? a = some o ∧ OR C.w.params Z ρ ao o
  scope : env.scope = C.sc
  kind : C.sc.kind = .function
  globals : env.globals = mainGlobals
  builtins : env.builtins = builtinsNs
  loc : T env.locals = .fl ∧ ∃ m, s.heap.Ns env.locals m ∧ ∀ x v, st.vars.lookup x = some v → C.sc.names.lookup x = some .local → ∃ w, m x = some w ∧ VR Z ρ v w
  cell : ∀ x k, C.sc.names.lookup x = some k → k = .cell ∨ k = .free → ∃ c o, env.cells.lookup x = some c ∧ T c = .fc x ∧ s.heap.IsCell c o ∧ ∀ v, st.vars.lookup x = some v → ∃ w, o = some w ∧ VR Z ρ v w
  os : s.os = C.os
  gens : C.gp s.gens s.drawn
  pin : ∀ a, C.pin = some a → ρ[0]? = some a
noncomputable def SR (C : Fx) (env : Env) (Z R : PH) (ρ : List Addr) (st : St) (s : Shared) : Prop := ∃ T, SRT C env Z R ρ st s T

inductive Post (C : Fx) (env : Env) (Z R : PH) (ρ : List Addr) {α β : Type} (rel : PH → List Addr → β → α → Prop) (Q : β → St → Prop) (a : α) (s' : Shared) : Prop
  | mk (b : β) (st' : St) (Z' : PH) (ρ' : List Addr) (hz : PH.le Z Z') (hr : Ext ρ ρ') (hv : rel Z' ρ' b a) (hs : SR C env Z' R ρ' st' s') (hq : Q b st')
theorem Post.up {C : Fx} {env : Env} {Z Z₁ R : PH} {ρ ρ₁ : List Addr} {α β : Type} {rel : PH → List Addr → β → α → Prop} {Q : β → St → Prop} {a : α} {s' : Shared} (hz : PH.le Z Z₁) (hr : Ext ρ ρ₁)
    (h : Post C env Z₁ R ρ₁ rel Q a s') : Post C env Z R ρ rel Q a s' :=
  let ⟨b, st', Z', ρ', h1, h2, h3, h4, h5⟩ := h; ⟨b, st', Z', ρ', hz.trans h1, hr.trans h2, h3, h4, h5⟩
theorem Post.ex {C : Fx} {env : Env} {Z R : PH} {ρ : List Addr} {α β : Type} {rel : PH → List Addr → β → α → Prop} {Q : β → St → Prop} {a : α} {s' : Shared} {P : Prop} (h : Post C env Z R ρ rel Q a s')
    (k : ∀ b st' Z' ρ', PH.le Z Z' → Ext ρ ρ' → rel Z' ρ' b a → SR C env Z' R ρ' st' s' → Q b st' → P) : P :=
  let ⟨b, st', Z', ρ', h1, h2, h3, h4, h5⟩ := h; k b st' Z' ρ' h1 h2 h3 h4 h5

noncomputable abbrev noE : Value → Shared → Prop := fun _ _ => False
theorem wp_use {C : Fx} {env : Env} {Z R : PH} {ρ : List Addr} {α β : Type} {rel : PH → List Addr → β → α → Prop} {Q : β → St → Prop} {t : Sem α} {s : Shared} (h : wpAny C.M C.A t (Post C env Z R ρ rel Q) noE s) {P : α → Shared → Prop} {E : Value → Shared → Prop}
    (k : ∀ a s' b st' Z' ρ', PH.le Z Z' → Ext ρ ρ' → rel Z' ρ' b a → SR C env Z' R ρ' st' s' → Q b st' → P a s') : wpAny C.M C.A t P E s :=
  wpAny_mono h (fun a s' pp => pp.ex fun b st' Z' ρ' h1 h2 h3 h4 h5 => k a s' b st' Z' ρ' h1 h2 h3 h4 h5) fun _ _ e => e.elim
theorem wp_up {C : Fx} {env : Env} {Z R Z₁ : PH} {ρ ρ₁ : List Addr} {α β : Type} {rel : PH → List Addr → β → α → Prop} {Q : β → St → Prop} {t : Sem α} {s : Shared} (hz : PH.le Z Z₁) (hr : Ext ρ ρ₁) (h : wpAny C.M C.A t (Post C env Z₁ R ρ₁ rel Q) noE s) : wpAny C.M C.A t (Post C env Z R ρ rel Q) noE s :=
  wpAny_mono h (fun _ _ p => p.up hz hr) fun _ _ e => e
theorem wp_gen {α : Type} {M : Model} {A : Around} {t : Sem α} {P₀ : α → Shared → Prop} {E : Value → Shared → Prop} {s : Shared} (h : ∀ P : α → Shared → Prop, (∀ a s', P₀ a s' → P a s') → wpAny M A t P E s) : wpAny M A t P₀ E s := h P₀ fun _ _ x => x
noncomputable def J (C : Fx) {α β : Type} (rel : PH → List Addr → β → α → Prop) (m : Env → Sem α) (st : St) (Q : β → St → Prop) : Prop :=
  ∀ env Z R ρ s, SR C env Z R ρ st s → wpAny C.M C.A (m env) (Post C env Z R ρ rel Q) noE s
noncomputable def JV (C : Fx) {α β : Type} (rel : PH → List Addr → β → α → Prop) (vs : List V) (f : List Value → Sem α) (st : St) (Q : β → St → Prop) : Prop :=
  ∀ env Z R ρ s ws, SR C env Z R ρ st s → VRs Z ρ vs ws → wpAny C.M C.A (f ws) (Post C env Z R ρ rel Q) noE s

noncomputable def rBool (_ : PH) (_ : List Addr) (b a : Bool) : Prop := a = b
noncomputable def rUnit (_ : PH) (_ : List Addr) (_ : Unit) (_ : Unit) : Prop := True

inductive FlowA where
  | next | brk | cont
  | ret (v : V)
inductive rFlow (Z : PH) (ρ : List Addr) : FlowA → Flow → Prop
  | next : rFlow Z ρ .next .next
  | brk : rFlow Z ρ .brk .brk
  | cont : rFlow Z ρ .cont .cont
  | ret {v : V} {w : Value} : VR Z ρ v w → rFlow Z ρ (.ret v) (.ret w)
theorem rFlow.mono {Z Z' : PH} {ρ ρ' : List Addr} (hz : PH.le Z Z') (hr : Ext ρ ρ') {f : FlowA} {g : Flow} (h : rFlow Z ρ f g) : rFlow Z' ρ' f g := by
  cases h with
  | next => exact .next
  | brk => exact .brk
  | cont => exact .cont
  | ret h => exact .ret (h.mono hz hr)

theorem J.mono {C : Fx} {α β : Type} {rel : PH → List Addr → β → α → Prop} {m : Env → Sem α} {st : St} {Q Q' : β → St → Prop} (h : J C rel m st Q) (k : ∀ b st', Q b st' → Q' b st') : J C rel m st Q' :=
  fun env Z R ρ s hs => wpAny_mono (h env Z R ρ s hs) (fun _ _ ⟨b, st', Z', ρ', h1, h2, h3, h4, h5⟩ => ⟨b, st', Z', ρ', h1, h2, h3, h4, k _ _ h5⟩) fun _ _ e => e
end Mine
end
section -- MOps
set_option maxRecDepth 100000
namespace Mine
open PySem PySem.W PyProof.Rows

noncomputable def upd {α : Type} (H : Nat → Option α) (n : Nat) (x : α) : Nat → Option α := fun k => if k = n then some x else H k
theorem upd_self {α : Type} (H : Nat → Option α) (n : Nat) (x : α) : upd H n x n = some x := if_pos rfl
theorem upd_ne {α : Type} (H : Nat → Option α) {n k : Nat} (x : α) (h : k ≠ n) : upd H n x k = H k := if_neg h

section
variable {C : Fx} {env : Env} {Z R : PH} {ρ : List Addr} {st : St} {s : Shared} {T : Addr → Tag}

theorem SRT.keep {s' : Shared} (h : SRT C env Z R ρ st s T) (hk : ∀ b o, s.heap.get? b = some o → s'.heap.get? b = some o) (hos : s'.os = s.os) (hg : C.gp s'.gens s'.drawn) : SRT C env Z R ρ st s' T where
  base := h.base
  z := fun a o e => ⟨(h.z a o e).1, hk _ _ (h.z a o e).2⟩
  r := fun a o e => ⟨(h.r a o e).1, hk _ _ (h.r a o e).2⟩
  nx := h.nx
  objs := fun n ao e => let ⟨a, h1, h2, o, h3, h4⟩ := h.objs n ao e; ⟨a, h1, h2, o, hk _ _ h3, h4⟩
  scope := h.scope
  kind := h.kind
  globals := h.globals
  builtins := h.builtins
  loc := let ⟨h1, m, h2, h3⟩ := h.loc; ⟨h1, m, h2.keeps hk, h3⟩
  cell := fun x k h1 h2 => let ⟨c, o, h3, h4, h5, h6⟩ := h.cell x k h1 h2; ⟨c, o, h3, h4, h5.keeps hk, h6⟩
  os := hos.trans h.os
  gens := hg
  pin := h.pin

theorem SRT.retag (h : SRT C env Z R ρ st s T) {a : Addr} (ha : s.heap.get? a = none) (t : Tag) : SRT C env Z R ρ st s (fun b => if b = a then t else T b) := by
  have ne : ∀ b o, s.heap.get? b = some o → b ≠ a := fun b o e q => by subst q; rw [ha] at e; cases e
  exact {
    base := h.base
    z := fun b o e => ⟨by rw [if_neg (ne b o (h.z b o e).2)]; exact (h.z b o e).1, (h.z b o e).2⟩
    r := fun b o e => ⟨by rw [if_neg (ne b o (h.r b o e).2)]; exact (h.r b o e).1, (h.r b o e).2⟩
    nx := h.nx
    objs := fun n ao e => let ⟨b, h1, h2, o, h3, h4⟩ := h.objs n ao e; ⟨b, h1, by rw [if_neg (ne b o h3)]; exact h2, o, h3, h4⟩
    scope := h.scope
    kind := h.kind
    globals := h.globals
    builtins := h.builtins
    loc := let ⟨h1, m, h2, h3⟩ := h.loc; ⟨by obtain ⟨o, es, ep, ho, _⟩ := h2; rw [if_neg (ne _ _ ho)]; exact h1, m, h2, h3⟩
    cell := fun x k h1 h2 => let ⟨c, o, h3, h4, h5, h6⟩ := h.cell x k h1 h2; ⟨c, o, h3, by obtain ⟨ob, ho, _⟩ := h5; rw [if_neg (ne _ _ ho)]; exact h4, h5, h6⟩
    os := h.os
    gens := h.gens
    pin := h.pin }

theorem fresh_none (h : Heap) : h.get? h.objs.size = none := by
  cases e : h.get? h.objs.size with
  | none => rfl
  | some o => exact absurd (Heap.lt_size e) (Nat.lt_irrefl _)
theorem SRT.znone (h : SRT C env Z R ρ st s T) {a : Addr} (ha : s.heap.get? a = none) : Z a = none := by
  cases e : Z a with
  | none => rfl
  | some o => have := (h.z a o e).2; rw [ha] at this; cases this

theorem SR.allocZ (h : SR C env Z R ρ st s) (o : Obj) (tk : Nat) (hf : o.isFreed = false := by rfl) :
    PH.le Z (Z.put s.heap.objs.size o) ∧ SR C env (Z.put s.heap.objs.size o) R ρ st { s with heap := s.heap.push o, toks := tk } := by
  obtain ⟨T, h⟩ := h
  have hn := fresh_none s.heap
  have hz := h.znone hn
  have le := PH.le_put (o := o) hz
  refine ⟨le, fun b => if b = s.heap.objs.size then .z else T b, ?_⟩
  have k := ((h.retag hn .z).keep (s' := { s with heap := s.heap.push o, toks := tk }) (fun b o' e => Heap.get?_push_of_some _ e) rfl h.gens)
  exact { k with
    base := k.base.trans le
    z := fun b o' e => by
      by_cases q : b = s.heap.objs.size
      · subst q; rw [PH.put_self] at e; cases e
        exact ⟨if_pos rfl, Heap.get?_push_size _ hf⟩
      · rw [PH.put_ne _ _ q] at e; exact k.z b o' e
    objs := fun n ao e => let ⟨b, h1, h2, o', h3, h4⟩ := k.objs n ao e; ⟨b, h1, h2, o', h3, h4.mono le (Ext.refl _)⟩
    loc := let ⟨h1, m, h2, h3⟩ := k.loc; ⟨h1, m, h2, fun x v e1 e2 => let ⟨w, e3, e4⟩ := h3 x v e1 e2; ⟨w, e3, e4.mono le (Ext.refl _)⟩⟩
    cell := fun x kk h1 h2 => let ⟨c, o', h3, h4, h5, h6⟩ := k.cell x kk h1 h2; ⟨c, o', h3, h4, h5, fun v e => let ⟨w, e3, e4⟩ := h6 v e; ⟨w, e3, e4.mono le (Ext.refl _)⟩⟩ }

theorem SR.allocO (h : SR C env Z R ρ st s) (o : Obj) (ao : AO) (tk : Nat) (hr : OR C.w.params Z ρ ao o) (hf : o.isFreed = false := by rfl) :
    SR C env Z R (ρ ++ [s.heap.objs.size]) { st with heap := upd st.heap st.nx ao, nx := st.nx + 1 } { s with heap := s.heap.push o, toks := tk } := by
  obtain ⟨T, h⟩ := h
  have hn := fresh_none s.heap
  have ex := Ext.snoc ρ s.heap.objs.size
  refine ⟨fun b => if b = s.heap.objs.size then .ob st.nx else T b, ?_⟩
  have k := ((h.retag hn (.ob st.nx)).keep (s' := { s with heap := s.heap.push o, toks := tk }) (fun b o' e => Heap.get?_push_of_some _ e) rfl h.gens)
  exact { k with
    nx := by rw [List.length_append, h.nx]; rfl
    pin := fun a e => ex _ _ (k.pin a e)
    objs := fun n ao' e => by
      by_cases q : n = st.nx
      · subst q
        dsimp only at e
        rw [upd_self] at e; cases e
        exact ⟨s.heap.objs.size, by rw [List.getElem?_append_right (by rw [h.nx]; exact Nat.le_refl _), h.nx, Nat.sub_self]; rfl, if_pos rfl, o, Heap.get?_push_size _ hf, hr.mono (PH.le.refl _) ex⟩
      · dsimp only at e
        rw [upd_ne _ _ q] at e
        obtain ⟨b, h1, h2, o', h3, h4⟩ := k.objs n ao' e
        exact ⟨b, ex _ _ h1, h2, o', h3, h4.mono (PH.le.refl _) ex⟩
    loc := let ⟨h1, m, h2, h3⟩ := k.loc; ⟨h1, m, h2, fun x v e1 e2 => let ⟨w, e3, e4⟩ := h3 x v e1 e2; ⟨w, e3, e4.mono (PH.le.refl _) ex⟩⟩
    cell := fun x kk h1 h2 => let ⟨c, o', h3, h4, h5, h6⟩ := k.cell x kk h1 h2; ⟨c, o', h3, h4, h5, fun v e => let ⟨w, e3, e4⟩ := h6 v e; ⟨w, e3, e4.mono (PH.le.refl _) ex⟩⟩ }

theorem SR.keep {s' : Shared} (h : SR C env Z R ρ st s) (hk : ∀ b o, s.heap.get? b = some o → s'.heap.get? b = some o) (hos : s'.os = s.os := by rfl) (hg : s'.gens = s.gens := by rfl) (hdr : s'.drawn = s.drawn := by rfl) : SR C env Z R ρ st s' := by
  obtain ⟨T, h⟩ := h
  exact ⟨T, h.keep hk hos (by rw [hg, hdr]; exact h.gens)⟩
theorem SR.tok (h : SR C env Z R ρ st s) (tk : Nat) : SR C env Z R ρ st { s with toks := tk } := h.keep fun _ _ e => e

theorem SR.obj (h : SR C env Z R ρ st s) {n : Nat} {ao : AO} (e : st.heap n = some ao) : ∃ a o, ρ[n]? = some a ∧ s.heap.get? a = some o ∧ OR C.w.params Z ρ ao o := by
  obtain ⟨T, h⟩ := h
  obtain ⟨a, h1, _, o, h2, h3⟩ := h.objs n ao e
  exact ⟨a, o, h1, h2, h3⟩

theorem SR.extO {s' : Shared} (h : SR C env Z R ρ st s) {n : Nat} {ao ao' : AO} {a : Addr} {o' : Obj} (e : st.heap n = some ao) (ea : ρ[n]? = some a)
    (hk : ∀ b o, b ≠ a → s.heap.get? b = some o → s'.heap.get? b = some o) (ho : s'.heap.get? a = some o') (hr : OR C.w.params Z ρ ao' o') (hos : s'.os = s.os) (hg : C.gp s'.gens s'.drawn) : SR C env Z R ρ { st with heap := upd st.heap n ao' } s' := by
  obtain ⟨T, h⟩ := h
  obtain ⟨a', h1, ht, _⟩ := h.objs n ao e
  rw [ea] at h1; cases h1
  have kp : ∀ b o, T b ≠ .ob n → s.heap.get? b = some o → s'.heap.get? b = some o := fun b o q => hk b o (fun z => by subst z; exact q ht)
  refine ⟨T, ?_⟩
  exact {
    base := h.base
    z := fun b o e => ⟨(h.z b o e).1, kp b o (tne (h.z b o e).1) (h.z b o e).2⟩
    r := fun b o e => ⟨(h.r b o e).1, kp b o (tne (h.r b o e).1) (h.r b o e).2⟩
    nx := h.nx
    objs := fun k ao'' e' => by
      by_cases q : k = n
      · subst q
        dsimp only at e'
        rw [upd_self] at e'; cases e'
        exact ⟨a, ea, ht, o', ho, hr⟩
      · dsimp only at e'
        rw [upd_ne _ _ q] at e'
        obtain ⟨b, h1, h2, o'', h3, h4⟩ := h.objs k ao'' e'
        exact ⟨b, h1, h2, o'', kp b o'' (by rw [h2]; intro z; cases z; exact q rfl) h3, h4⟩
    scope := h.scope
    kind := h.kind
    globals := h.globals
    builtins := h.builtins
    loc := let ⟨h1, m, h2, h3⟩ := h.loc; ⟨h1, m, h2.at' fun o e => kp _ o (tne h1) e, h3⟩
    cell := fun x kk h1 h2 => let ⟨c, o', h3, h4, h5, h6⟩ := h.cell x kk h1 h2; ⟨c, o', h3, h4, let ⟨ob, q1, q2⟩ := h5; ⟨ob, kp c ob (tne h4) q1, q2⟩, h6⟩
    os := hos.trans h.os
    gens := hg
    pin := h.pin }

theorem SR.updO (h : SR C env Z R ρ st s) {n : Nat} {ao ao' : AO} {a : Addr} {o' : Obj} {h' : Heap} {tk : Nat} (e : st.heap n = some ao) (ea : ρ[n]? = some a) (hs : Heap.SameBut a s.heap h')
    (ho : h'.get? a = some o') (hr : OR C.w.params Z ρ ao' o') : SR C env Z R ρ { st with heap := upd st.heap n ao' } { s with heap := h', toks := tk } :=
  h.extO e ea (fun b o q e => (hs.2 b q).trans e) ho hr rfl (let ⟨_, k⟩ := h; k.gens)
end
end Mine
end
section -- MRules
set_option maxRecDepth 100000
namespace Mine
open PySem PySem.W PyProof.Rows

noncomputable def one {α : Type} (f : Value → Sem α) : List Value → Sem α
  | [x] => f x
  | _ => unsupported ""
noncomputable def two {α : Type} (f : Value → Value → Sem α) : List Value → Sem α
  | [x, y] => f x y
  | _ => unsupported ""
noncomputable def three {α : Type} (f : Value → Value → Value → Sem α) : List Value → Sem α
  | [x, y, z] => f x y z
  | _ => unsupported ""
section
variable {C : Fx} {st : St}

theorem SR.scope_ {env : Env} {Z R : PH} {ρ : List Addr} {s : Shared} (h : SR C env Z R ρ st s) : env.scope = C.sc := let ⟨_, h⟩ := h; h.scope
theorem SR.kind_ {env : Env} {Z R : PH} {ρ : List Addr} {s : Shared} (h : SR C env Z R ρ st s) : env.scope.kind = .function := let ⟨_, h⟩ := h; h.scope ▸ h.kind
theorem SR.kindOf_ {env : Env} {Z R : PH} {ρ : List Addr} {s : Shared} (h : SR C env Z R ρ st s) (x : Str) : env.kindOf x = C.sc.names.lookup x := by unfold Env.kindOf; rw [h.scope_]
theorem SR.z_ {env : Env} {Z R : PH} {ρ : List Addr} {s : Shared} (h : SR C env Z R ρ st s) {a : Addr} {o : Obj} (e : Z a = some o) : s.heap.get? a = some o := let ⟨_, h⟩ := h; (h.z a o e).2
theorem SR.base_ {env : Env} {Z R : PH} {ρ : List Addr} {s : Shared} (h : SR C env Z R ρ st s) {a : Addr} {o : Obj} (e : C.base a = some o) : s.heap.get? a = some o := let ⟨_, k⟩ := h; h.z_ (k.base a o e)
theorem SR.post {env : Env} {Z R : PH} {ρ : List Addr} {s : Shared} {α β : Type} {rel : PH → List Addr → β → α → Prop} {Q : β → St → Prop} {b : β} {a : α} (h : SR C env Z R ρ st s) (r : rel Z ρ b a) (q : Q b st) : Post C env Z R ρ rel Q a s :=
  ⟨b, st, Z, ρ, PH.le.refl _, Ext.refl _, r, h, q⟩

noncomputable def Knows (B : PH) (P : Heap → Prop) : Prop := ∀ h : Heap, (∀ a o, B a = some o → h.get? a = some o) → P h
theorem SR.knows {env : Env} {Z R : PH} {ρ : List Addr} {s : Shared} (h : SR C env Z R ρ st s) {P : Heap → Prop} (k : Knows C.base P) : P s.heap := k _ fun _ _ e => h.base_ e

noncomputable def Glo (B : PH) (x : Str) (v : Value) : Prop := Knows B fun h => ∃ mg, h.Ns mainGlobals mg ∧ mg x = some v
noncomputable def Blt (B : PH) (x : Str) (v : Value) : Prop := Knows B fun h => ∃ mg mb, h.Ns mainGlobals mg ∧ mg x = none ∧ h.Ns builtinsNs mb ∧ mb x = some v

theorem ev_Const_int {i : Int} {k : Nat} {pos : Pos} {Q : V → St → Prop} (h : Q (.int i) st) : J C VR (eval (.Constant (.int i) k pos)) st Q :=
  fun env Z R ρ s hs => wpAny_Constant_int (SR.post (hs.tok _) (.int i _) h)
theorem ev_Const_str {x : Str} {k : Nat} {pos : Pos} {Q : V → St → Prop} (h : Q (.str x) st) : J C VR (eval (.Constant (.str x) k pos)) st Q :=
  fun env Z R ρ s hs => wpAny_Constant_str (SR.post (hs.tok _) (.str x _) h)
theorem ev_Const_none {k : Nat} {pos : Pos} {Q : V → St → Prop} (h : Q .none st) : J C VR (eval (.Constant .none k pos)) st Q :=
  fun env Z R ρ s hs => wpAny_Constant_none (SR.post hs .none h)
theorem ev_Const_bool {b : Bool} {k : Nat} {pos : Pos} {Q : V → St → Prop} (h : Q (.bool b) st) : J C VR (eval (.Constant (.bool b) k pos)) st Q :=
  fun env Z R ρ s hs => wpAny_Constant_bool (SR.post hs (.bool b) h)

theorem ld_Name {x : Str} {v : V} {k : NameKind} {Q : V → St → Prop} (hv : st.vars.lookup x = some v) (hk : C.sc.names.lookup x = some k) (h : Q v st)
    (hkk : k = .local ∨ k = .cell ∨ k = .free := by decide) (hc : (x == ("__classdict__" : Str)) = false := by decide) : J C VR (fun env => loadName env x) st Q :=
  fun env Z R ρ s hs => by
    obtain ⟨T, hT⟩ := id hs
    have e := (hs.kindOf_ x).trans hk
    rcases hkk with rfl | rfl | rfl
    · obtain ⟨_, m, hn, hm⟩ := hT.loc
      obtain ⟨w, hw, r⟩ := hm x v hv hk
      exact wpAny_loadName_local hs.kind_ e hn hw (SR.post hs r h)
    · obtain ⟨c, o, h1, _, h2, h3⟩ := hT.cell x _ hk (.inl rfl)
      obtain ⟨w, rfl, r⟩ := h3 v hv
      exact wpAny_loadName_cell hs.kind_ e h1 h2 (SR.post hs r h)
    · obtain ⟨c, o, h1, _, h2, h3⟩ := hT.cell x _ hk (.inr rfl)
      obtain ⟨w, rfl, r⟩ := h3 v hv
      exact wpAny_loadName_free hs.kind_ e h1 h2 (SR.post hs r h) hc
theorem ev_Name {x : Str} {pos : Pos} {v : V} {k : NameKind} {Q : V → St → Prop} (hv : st.vars.lookup x = some v) (hk : C.sc.names.lookup x = some k) (h : Q v st)
    (hkk : k = .local ∨ k = .cell ∨ k = .free := by decide) (hc : (x == ("__classdict__" : Str)) = false := by decide) (hd : (x == ("__debug__" : Str)) = false := by decide) : J C VR (eval (.Name x pos)) st Q :=
  fun env Z R ρ s hs => wpAny_Name (ld_Name hv hk h hkk hc env Z R ρ s hs) hd
theorem ev_Glo {x : Str} {pos : Pos} {v : Value} {Q : V → St → Prop} (hg : Glo C.base x v) (hk : C.sc.names.lookup x = some .globalImplicit) (h : Q (.val v) st) (hd : (x == ("__debug__" : Str)) = false := by decide) : J C VR (eval (.Name x pos)) st Q :=
  fun env Z R ρ s hs => by
    obtain ⟨mg, h1, h2⟩ := hs.knows hg
    obtain ⟨T, hT⟩ := id hs
    exact Calls.Name_function_global hs.kind_ ((hs.kindOf_ x).trans hk) (Calls.loadGlobal_global (by rw [hT.globals]; exact h1) h2 (SR.post hs (.val v) h)) hd
theorem ev_Blt {x : Str} {pos : Pos} {v : Value} {Q : V → St → Prop} (hg : Blt C.base x v) (hk : C.sc.names.lookup x = some .globalImplicit) (h : Q (.val v) st) (hd : (x == ("__debug__" : Str)) = false := by decide) : J C VR (eval (.Name x pos)) st Q :=
  fun env Z R ρ s hs => by
    obtain ⟨mg, mb, h1, h2, h3, h4⟩ := hs.knows hg
    obtain ⟨T, hT⟩ := id hs
    exact Calls.Name_function_global hs.kind_ ((hs.kindOf_ x).trans hk) (Calls.loadGlobal_builtin (by rw [hT.globals]; exact h1) h2 (by rw [hT.builtins]; exact h3) h4 (SR.post hs (.val v) h)) hd

theorem ev_BinOp {l r : Expr} {op : Operator} {pos : Pos} {Q : V → St → Prop}
    (h : J C VR (eval l) st fun a st₁ => J C VR (eval r) st₁ fun b st₂ => JV C VR [a, b] (two (binaryOp op)) st₂ Q) : J C VR (eval (.BinOp l op r pos)) st Q :=
  fun env Z R ρ s hs => wpAny_BinOp (wp_use (h env Z R ρ s hs) (fun a s₁ va st₁ Z₁ ρ₁ hz hr ra hs₁ h₁ =>
    wp_use (h₁ env Z₁ R ρ₁ s₁ hs₁) (fun b s₂ vb st₂ Z₂ ρ₂ hz2 hr2 rb hs₂ h₂ =>
      wp_up (hz.trans hz2) (hr.trans hr2) (h₂ env Z₂ R ρ₂ s₂ [a, b] hs₂ (.cons (ra.mono hz2 hr2) (.cons rb .nil))))))
theorem ev_UnaryOp {x : Expr} {op : UnaryOp} {pos : Pos} {Q : V → St → Prop} (h : J C VR (eval x) st fun a st₁ => JV C VR [a] (one (unaryOp op)) st₁ Q) : J C VR (eval (.UnaryOp op x pos)) st Q :=
  fun env Z R ρ s hs => wpAny_UnaryOp (wp_use (h env Z R ρ s hs) (fun a s₁ va st₁ Z₁ ρ₁ hz hr ra hs₁ h₁ =>
    wp_up hz hr (h₁ env Z₁ R ρ₁ s₁ [a] hs₁ (.cons ra .nil))))

noncomputable abbrev JT (C : Fx) (e : Expr) (st : St) (Q : Bool → St → Prop) : Prop := J C rBool (fun env => isTrue e env (eval e env)) st Q
theorem Post.bool {env : Env} {Z R : PH} {ρ : List Addr} {Q : Bool → St → Prop} {a : Bool} {s' : Shared} (p : Post C env Z R ρ rBool Q a s') : ∃ st' Z' ρ', PH.le Z Z' ∧ Ext ρ ρ' ∧ SR C env Z' R ρ' st' s' ∧ Q a st' :=
  p.ex fun b st' Z' ρ' h1 h2 e h3 h4 => ⟨st', Z', ρ', h1, h2, h3, (show a = b from e) ▸ h4⟩
theorem wp_ite {env : Env} {Z R : PH} {ρ : List Addr} {A B : St → Prop} {t : Sem Bool} {s : Shared} (h : wpAny C.M C.A t (Post C env Z R ρ rBool fun c st => (c = true → A st) ∧ (c = false → B st)) noE s) {X Y : Shared → Prop} {E : Value → Shared → Prop}
    (k1 : ∀ s' st' Z' ρ', PH.le Z Z' → Ext ρ ρ' → SR C env Z' R ρ' st' s' → A st' → X s') (k2 : ∀ s' st' Z' ρ', PH.le Z Z' → Ext ρ ρ' → SR C env Z' R ρ' st' s' → B st' → Y s') : wpAny C.M C.A t (fun c s' => if c = true then X s' else Y s') E s :=
  wp_use h fun a s' b st' Z' ρ' h1 h2 h3 h4 h5 => by
    cases show a = b from h3
    cases a with
    | true => exact k1 s' st' Z' ρ' h1 h2 h4 (h5.1 rfl)
    | false => exact k2 s' st' Z' ρ' h1 h2 h4 (h5.2 rfl)

theorem ev_IfExp {t b o : Expr} {pos : Pos} {Q : V → St → Prop} (h : JT C t st fun c st₁ => (c = true → J C VR (eval b) st₁ Q) ∧ (c = false → J C VR (eval o) st₁ Q)) : J C VR (eval (.IfExp t b o pos)) st Q :=
  fun env Z R ρ s hs => wpAny_IfExp (wp_ite (h env Z R ρ s hs) (fun s₁ _ Z₁ ρ₁ hz hr hs₁ h1 => wp_up hz hr (h1 env Z₁ R ρ₁ s₁ hs₁)) fun s₁ _ Z₁ ρ₁ hz hr hs₁ h1 => wp_up hz hr (h1 env Z₁ R ρ₁ s₁ hs₁))

theorem tt_Compare {l r : Expr} {op : CmpOp} {pos : Pos} {Q : Bool → St → Prop}
    (h : J C VR (eval l) st fun a st₁ => J C VR (eval r) st₁ fun b st₂ => JV C VR [a, b] (two (compareOp op)) st₂ fun c st₃ => JV C rBool [c] (one truthy) st₃ Q) (hm : behindInMarks op r = false := by with_unfolding_all rfl) : JT C (.Compare l [op] [r] pos) st Q :=
  fun env Z R ρ s hs => wpAny_isTrue_Compare1 (wp_use (h env Z R ρ s hs) (fun a s₁ va st₁ Z₁ ρ₁ hz hr ra hs₁ h₁ =>
    wp_use (h₁ env Z₁ R ρ₁ s₁ hs₁) (fun b s₂ vb st₂ Z₂ ρ₂ hz2 hr2 rb hs₂ h₂ =>
      wp_use (h₂ env Z₂ R ρ₂ s₂ [a, b] hs₂ (.cons (ra.mono hz2 hr2) (.cons rb .nil))) (fun c s₃ vc st₃ Z₃ ρ₃ hz3 hr3 rc hs₃ h₃ =>
        wp_up ((hz.trans hz2).trans hz3) ((hr.trans hr2).trans hr3) (h₃ env Z₃ R ρ₃ s₃ [c] hs₃ (.cons rc .nil)))))) hm
theorem tt_Not {x : Expr} {pos : Pos} {Q : Bool → St → Prop} (h : JT C x st fun b st₁ => Q (!b) st₁) : JT C (.UnaryOp .Not x pos) st Q :=
  fun env Z R ρ s hs => wpAny_isTrue_Not (wpAny_mono (h env Z R ρ s hs) (fun a s₁ p => by
    obtain ⟨st₁, Z₁, ρ₁, hz, hr, hs₁, h1⟩ := p.bool
    exact ⟨_, st₁, Z₁, ρ₁, hz, hr, rfl, hs₁, h1⟩) fun _ _ e => e)
theorem tt_value {e : Expr} {Q : Bool → St → Prop} (h : J C VR (eval e) st fun a st₁ => JV C rBool [a] (one truthy) st₁ Q)
    (he : ∀ env, isTrue e env (eval e env) = (do let v ← eval e env; standAt e.pos; holding [v] (truthy v)) := by intro _; rfl) : JT C e st Q :=
  fun env Z R ρ s hs => wpAny_isTrue_value (wp_use (h env Z R ρ s hs) (fun a s₁ va st₁ Z₁ ρ₁ hz hr ra hs₁ h₁ =>
    wp_up hz hr (h₁ env Z₁ R ρ₁ s₁ [a] hs₁ (.cons ra .nil)))) (he env)
theorem tt_And2 {x y : Expr} {pos : Pos} {Q : Bool → St → Prop} (h : JT C x st fun b st₁ => (b = true → JT C y st₁ Q) ∧ (b = false → Q false st₁)) : JT C (.BoolOp .And [x, y] pos) st Q :=
  fun env Z R ρ s hs => wpAny_isTrue_BoolOp (wpAny_allTrue_And_cons (wp_ite (h env Z R ρ s hs) (fun s₁ st₁ Z₁ ρ₁ hz hr hs₁ h1 => wpAny_allTrue_And_cons (wp_use (h1 env Z₁ R ρ₁ s₁ hs₁) fun a s₂ b st₂ Z₂ ρ₂ hz2 hr2 e hs₂ h3 => by
      cases show a = b from e
      cases a with
      | false => exact ⟨false, st₂, Z₂, ρ₂, hz.trans hz2, hr.trans hr2, rfl, hs₂, h3⟩
      | true => exact wpAny_allTrue_And_nil ⟨true, st₂, Z₂, ρ₂, hz.trans hz2, hr.trans hr2, rfl, hs₂, h3⟩)) fun s₁ st₁ Z₁ ρ₁ hz hr hs₁ h2 => ⟨false, st₁, Z₁, ρ₁, hz, hr, rfl, hs₁, h2⟩))
end

section
variable {C : Fx} {st : St}
theorem inv_int {Z : PH} {ρ : List Addr} {i : Int} {w : Value} (h : VR Z ρ (.int i) w) : ∃ t, w = .int i t := by cases h; exact ⟨_, rfl⟩
theorem inv_bool {Z : PH} {ρ : List Addr} {i : Bool} {w : Value} (h : VR Z ρ (.bool i) w) : w = .bool i := by cases h; rfl
theorem inv_str {Z : PH} {ρ : List Addr} {i : Str} {w : Value} (h : VR Z ρ (.str i) w) : ∃ t, w = .str i t := by cases h; exact ⟨_, rfl⟩
theorem inv_none {Z : PH} {ρ : List Addr} {w : Value} (h : VR Z ρ .none w) : w = .none := by cases h; rfl
theorem inv1 {Z : PH} {ρ : List Addr} {a : V} {ws : List Value} (h : VRs Z ρ [a] ws) : ∃ x, ws = [x] ∧ VR Z ρ a x := by
  cases h with | cons h t => cases t; exact ⟨_, rfl, h⟩
theorem inv2 {Z : PH} {ρ : List Addr} {a b : V} {ws : List Value} (h : VRs Z ρ [a, b] ws) : ∃ x y, ws = [x, y] ∧ VR Z ρ a x ∧ VR Z ρ b y := by
  cases h with | cons h t => cases t with | cons h' t => cases t; exact ⟨_, _, rfl, h, h'⟩
theorem inv_ii {Z : PH} {ρ : List Addr} {a b : Int} {ws : List Value} (h : VRs Z ρ [.int a, .int b] ws) : ∃ t u, ws = [.int a t, .int b u] := by
  obtain ⟨x, y, rfl, h1, h2⟩ := inv2 h
  obtain ⟨t, rfl⟩ := inv_int h1
  obtain ⟨u, rfl⟩ := inv_int h2
  exact ⟨t, u, rfl⟩

theorem op_int {α β : Type} {rel : PH → List Addr → β → α → Prop} {a b : Int} {f : Value → Value → Sem α} {Q : β → St → Prop}
    (h : ∀ env Z R ρ s t u, SR C env Z R ρ st s → wpAny C.M C.A (f (.int a t) (.int b u)) (Post C env Z R ρ rel Q) noE s) : JV C rel [.int a, .int b] (two f) st Q :=
  fun env Z R ρ s ws hs hw => by
    obtain ⟨t, u, rfl⟩ := inv_ii hw
    exact h env Z R ρ s t u hs

theorem op_add {a b : Int} {Q : V → St → Prop} (h : Q (.int (a + b)) st) : JV C VR [.int a, .int b] (two (binaryOp .Add)) st Q :=
  op_int fun env Z R ρ s t u hs => wpAny_add_int (SR.post (hs.tok _) (.int _ _) h)
theorem op_sub {a b : Int} {Q : V → St → Prop} (h : Q (.int (a - b)) st) : JV C VR [.int a, .int b] (two (binaryOp .Sub)) st Q :=
  op_int fun env Z R ρ s t u hs => P.sub_int (SR.post (hs.tok _) (.int _ _) h)
theorem op_mul {a b : Int} {Q : V → St → Prop} (h : Q (.int (a * b)) st) (hm : IntMulOk a b) : JV C VR [.int a, .int b] (two (binaryOp .Mult)) st Q :=
  op_int fun env Z R ρ s t u hs => P.mul_int (SR.post (hs.tok _) (.int _ _) h) hm
theorem op_rshift1 {a : Int} {Q : V → St → Prop} (h0 : 0 ≤ a) (h : Q (.int (a / 2)) st) : JV C VR [.int a, .int 1] (two (binaryOp .RShift)) st Q :=
  op_int fun env Z R ρ s t u hs => wpAny_rshift1_int h0 (SR.post (hs.tok _) (.int _ _) h)
theorem op_lt {a b : Int} {Q : V → St → Prop} (h : Q (.bool (decide (a < b))) st) : JV C VR [.int a, .int b] (two (compareOp .Lt)) st Q :=
  op_int fun env Z R ρ s t u hs => wpAny_lt_int (SR.post hs (.bool _) h)
theorem op_gt {a b : Int} {Q : V → St → Prop} (h : Q (.bool (decide (a > b))) st) : JV C VR [.int a, .int b] (two (compareOp .Gt)) st Q :=
  op_int fun env Z R ρ s t u hs => P.gt_int (SR.post hs (.bool _) h)
theorem op_neg {a : Int} {Q : V → St → Prop} (h : Q (.int (-a)) st) : JV C VR [.int a] (one (unaryOp .USub)) st Q :=
  fun env Z R ρ s ws hs hw => by
    obtain ⟨x, rfl, h1⟩ := inv1 hw
    obtain ⟨t, rfl⟩ := inv_int h1
    exact P.neg_int (SR.post (hs.tok _) (.int _ _) h)
theorem tr_bool {b : Bool} {Q : Bool → St → Prop} (h : Q b st) : JV C rBool [.bool b] (one truthy) st Q :=
  fun env Z R ρ s ws hs hw => by
    obtain ⟨x, rfl, h1⟩ := inv1 hw
    obtain rfl := inv_bool h1
    exact wpAny_truthy_bool (SR.post hs rfl h)
theorem tr_int {a : Int} {Q : Bool → St → Prop} (h : Q (a != 0) st) : JV C rBool [.int a] (one truthy) st Q :=
  fun env Z R ρ s ws hs hw => by
    obtain ⟨x, rfl, h1⟩ := inv1 hw
    obtain ⟨t, rfl⟩ := inv_int h1
    exact P.truthy_int (SR.post hs rfl h)
end
end Mine
end
section -- MLists
set_option maxRecDepth 100000
namespace Mine
open PySem PySem.W PyProof.Rows

noncomputable abbrev lobj (ws : Array Value) (n : Nat) : Obj := { cls := .type "list", data := .seq ws n }
noncomputable abbrev tobj (ws : Array Value) (n : Nat) : Obj := { cls := .type "tuple", data := .seq ws n }
theorem mapSeq_lobj (f : Array Value → Array Value) (ws : Array Value) (n : Nat) : ∃ n', Obj.mapSeq f (lobj ws n) = lobj (f ws) n' := ⟨_, rfl⟩

section
variable {C : Fx} {st : St}

theorem OR.list_inv {P : Params} {Z : PH} {ρ : List Addr} {xs : List V} {o : Obj} (h : OR P Z ρ (.list xs) o) : ∃ ws n, o = lobj ws n ∧ VRs Z ρ xs ws.toList := by
  cases h with | list h => exact ⟨_, _, rfl, h⟩

theorem SR.list {env : Env} {Z R : PH} {ρ : List Addr} {s : Shared} {n : Nat} {xs : List V} {w : Value} (hs : SR C env Z R ρ st s) (e : st.heap n = some (.list xs)) (r : VR Z ρ (.obj n) w) :
    ∃ a ws k, w = .ref a ∧ ρ[n]? = some a ∧ s.heap.get? a = some (lobj ws k) ∧ VRs Z ρ xs ws.toList := by
  cases r with
  | obj ea =>
    obtain ⟨a', o, h1, h2, h3⟩ := hs.obj e
    rw [ea] at h1; cases h1
    obtain ⟨ws, k, rfl, h4⟩ := h3.list_inv
    exact ⟨_, ws, k, rfl, ea, h2, h4⟩
theorem SR.list_turn {env : Env} {Z R : PH} {ρ : List Addr} {s : Shared} {n : Nat} {xs ys : List V} {a : Addr} {ws : Array Value} {k tk : Nat} (hs : SR C env Z R ρ st s) (e : st.heap n = some (.list xs)) (ea : ρ[n]? = some a)
    (ho : s.heap.get? a = some (lobj ws k)) (f : Array Value → Array Value) (r : VRs Z ρ ys (f ws).toList) : SR C env Z R ρ { st with heap := upd st.heap n (.list ys) } { s with heap := s.heap.update a (Obj.mapSeq f), toks := tk } := by
  obtain ⟨k', hk'⟩ := mapSeq_lobj f ws k
  exact hs.updO e ea (Heap.SameBut.update ..) (o' := lobj (f ws) k') (by rw [← hk']; exact Heap.get?_update_self _ ho (by rw [hk']; rfl)) (.list r)

theorem setItem_lobj {prog : Program} {w : World} {A : Around} {E : Value → Shared → Prop} {s : Shared} {l : Addr} {items : Array Value} {n : Nat} {k : Int} {t : Tok} {v : Value} {Q : Unit → Shared → Prop} (ho : s.heap.get? l = some (lobj items n))
    (h0 : 0 ≤ k) (hfit : k < 2 ^ 63) (hn : k < items.size) (hQ : Q () { s with heap := s.heap.update l (Obj.mapSeq (·.setIfInBounds k.toNat v)) }) : wpAny (model prog w) A (setItem (.ref l) (.int k t) v) Q E s := by
  have hT : s.TypeIs (.ref l) "list" := ⟨_, ho, rfl⟩
  unfold setItem
  refine wpAny_holding (wpAny_bind (wpAny_sequenceKey hT (by decide) ?_))
  refine wpAny_bind (wpAny_callSpecial?_slot (name := Str.ofString "__setitem__") hT slot_list_setitem (wpAny_call_entry slot_list_setitem hT entry_list_setitem ?_ (args_list_setitem _ _ _)))
  show wpAny _ _ (Builtin.List.listSubscript? (.int k t) >>= _) _ _ s
  refine wpAny_bind (wpAny_listSubscript_int (fitsIndex_of h0 hfit) ?_)
  clear hfit
  obtain ⟨j, rfl⟩ := Int.eq_ofNat_of_zero_le h0
  have hj : j < items.size := by lia
  show wpAny _ _ ((seqItemAt l j >>= fun r => pure (r.map (j, ·))) >>= _) _ _ s
  refine wpAny_bind (wpAny_bind (wpAny_seqItemAt ho rfl (wpAny_pure ?_)))
  rw [Array.getElem?_eq_getElem hj]
  show wpAny _ _ (setSeqItemAt l j v >>= _) _ _ s
  exact wpAny_bind (wpAny_setSeqItemAt ho rfl (wpAny_pure ⟨.none, rfl, wpAny_pure hQ⟩))

theorem inv3 {Z : PH} {ρ : List Addr} {a b c : V} {ws : List Value} (h : VRs Z ρ [a, b, c] ws) : ∃ x y z, ws = [x, y, z] ∧ VR Z ρ a x ∧ VR Z ρ b y ∧ VR Z ρ c z := by
  cases h with | cons h t => cases t with | cons h' t => cases t with | cons h'' t => cases t; exact ⟨_, _, _, rfl, h, h', h''⟩
theorem VRs.toArr {Z : PH} {ρ : List Addr} {xs : List V} {ws : Array Value} (h : VRs Z ρ xs ws.toList) : xs.length = ws.size := by rw [h.length]; simp

theorem set_obj {n : Nat} {xs : List V} {k : Int} {v : V} {Q : Unit → St → Prop} (e : st.heap n = some (.list xs)) (h0 : 0 ≤ k) (hn : k < (xs.length : Int)) (hfit : k < 2 ^ 63)
    (h : Q () { st with heap := upd st.heap n (.list (xs.set k.toNat v)) }) : JV C rUnit [.obj n, .int k, v] (three setItem) st Q :=
  fun env Z R ρ s ws hs hw => by
    obtain ⟨x, y, z, rfl, r1, r2, r3⟩ := inv3 hw
    obtain ⟨t, rfl⟩ := inv_int r2
    obtain ⟨a, its, m, rfl, ea, ho, ri⟩ := hs.list e r1
    have hl := ri.toArr
    refine setItem_lobj ho h0 hfit (by lia) (SR.post (hs.list_turn (tk := s.toks) e ea ho _ ?_) trivial h)
    rw [Array.toList_setIfInBounds]
    exact ri.set r3 _

theorem sub_obj {value slice : Expr} {n : Nat} {xs : List V} {k : Int} {x : V} {Q : V → St → Prop} (e : st.heap n = some (.list xs)) (h0 : 0 ≤ k) (hx : xs[k.toNat]? = some x) (hfit : k < 2 ^ 63) (h : Q x st)
    (hs : ∀ a t, subscripted slice false (.ref a) (.int k t) = operate [.ref a, .int k t] (getItem (.ref a) (.int k t)) := by intros; with_unfolding_all rfl) : JV C VR [.obj n, .int k] (two (subscriptTail value slice)) st Q :=
  fun env Z R ρ s ws hsr hw => by
    obtain ⟨u, v, rfl, r1, r2⟩ := inv2 hw
    obtain ⟨t, rfl⟩ := inv_int r2
    obtain ⟨a, its, m, rfl, ea, ho, ri⟩ := hsr.list e r1
    obtain ⟨y, hy, ry⟩ := ri.get _ _ hx
    have hl : s.heap.IsList a its := ⟨_, ho, rfl, _, rfl⟩
    exact tail_any hl.typeIs slot_list_getitem.lookup (wpAny_getItem_list hl h0 hfit (by simpa using hy) (SR.post hsr ry h)) (hs _ _)
theorem VR.lst_inv {Z : PH} {ρ : List Addr} {xs : List V} {w : Value} (h : VR Z ρ (.lst xs) w) : ∃ a ws n, w = .ref a ∧ Z a = some (lobj ws n) ∧ VRs Z ρ xs ws.toList := by
  cases h with | lst h1 h4 => exact ⟨_, _, _, rfl, h1, h4⟩
theorem VR.tup_inv {Z : PH} {ρ : List Addr} {xs : List V} {w : Value} (h : VR Z ρ (.tup xs) w) : ∃ a ws n, w = .ref a ∧ Z a = some (tobj ws n) ∧ VRs Z ρ xs ws.toList := by
  cases h with | tup h1 h4 => exact ⟨_, _, _, rfl, h1, h4⟩
theorem sub_lst {value slice : Expr} {xs : List V} {k : Int} {x : V} {Q : V → St → Prop} (h0 : 0 ≤ k) (hx : xs[k.toNat]? = some x) (hfit : k < 2 ^ 63) (h : Q x st)
    (hs : ∀ a t, subscripted slice false (.ref a) (.int k t) = operate [.ref a, .int k t] (getItem (.ref a) (.int k t)) := by intros; with_unfolding_all rfl) : JV C VR [.lst xs, .int k] (two (subscriptTail value slice)) st Q :=
  fun env Z R ρ s ws hsr hw => by
    obtain ⟨u, v, rfl, r1, r2⟩ := inv2 hw
    obtain ⟨t, rfl⟩ := inv_int r2
    obtain ⟨a, its, m, rfl, hz, ri⟩ := r1.lst_inv
    obtain ⟨y, hy, ry⟩ := ri.get _ _ hx
    have hl : s.heap.IsList a its := ⟨_, hsr.z_ hz, rfl, m, rfl⟩
    exact tail_any hl.typeIs slot_list_getitem.lookup (wpAny_getItem_list hl h0 hfit (by simpa using hy) (SR.post hsr ry h)) (hs _ _)
theorem m_append {n : Nat} {xs : List V} {v : V} {Q : V → St → Prop} (e : st.heap n = some (.list xs)) (hsz : xs.length ≤ sizeLine) (h : Q .none { st with heap := upd st.heap n (.list (xs ++ [v])) }) :
    JV C VR [.obj n, v] (fun ws => call (.builtin "list.append") ws) st Q :=
  fun env Z R ρ s ws hs hw => by
    obtain ⟨x, y, rfl, r1, r2⟩ := inv2 hw
    obtain ⟨a, its, m, rfl, ea, ho, ri⟩ := hs.list e r1
    have hl := ri.toArr
    refine call_meets PySem.F.slot_list_append ⟨_, ho, rfl⟩ PySem.F.entry_list_append (args_list_append _ _) (PySem.AutoListH.list_append_list_val_0 a its m y (by lia)) ⟨ho, ?_⟩
    refine SR.post (hs.list_turn (tk := s.toks) e ea ho _ ?_) .none h
    rw [Array.toList_push]
    exact ri.append (.cons r2 .nil)
theorem m_pop {n : Nat} {xs : List V} {v : V} {Q : V → St → Prop} (e : st.heap n = some (.list (xs ++ [v]))) (hsz : xs.length < sizeLine) (h : Q v { st with heap := upd st.heap n (.list xs) }) :
    JV C VR [.obj n] (fun ws => call (.builtin "list.pop") ws) st Q :=
  fun env Z R ρ s ws hs hw => by
    obtain ⟨x, rfl, r1⟩ := inv1 hw
    obtain ⟨a, its, m, rfl, ea, ho, ri⟩ := hs.list e r1
    have hl := ri.toArr
    rw [List.length_append, List.length_singleton] at hl
    obtain ⟨y, hy, ry⟩ := ri.get xs.length v (by rw [List.getElem?_append_right (Nat.le_refl _), Nat.sub_self]; rfl)
    refine call_meets PySem.F.slot_list_pop ⟨_, ho, rfl⟩ PySem.F.entry_list_pop (PySem.F.args_list_pop_1 _) (PySem.MeetsSeq.list_pop_last a its m y (by rw [← hl]; simpa using hy) (by lia)) ⟨ho, ?_⟩
    refine SR.post (hs.list_turn (tk := s.toks) e ea ho _ ?_) ry h
    have hd := ri.take xs.length
    rw [List.take_left] at hd
    have e1 : (its.eraseIdxIfInBounds (its.size - 1)).toList = its.toList.take xs.length := by
      rw [← hl, Array.eraseIdxIfInBounds, dif_pos (by lia), Array.toList_eraseIdx]
      rw [List.eraseIdx_eq_take_drop_succ, List.drop_eq_nil_of_le (by simp; lia), List.append_nil]
      simp
    rw [e1]; exact hd
end
end Mine
end
section -- MStmt
set_option maxRecDepth 100000
namespace Mine
open PySem PySem.W PyProof.Rows

noncomputable def setv (x : Str) (v : V) : List (Str × V) → List (Str × V)
  | [] => [(x, v)]
  | (y, u) :: r => if y == x then (y, v) :: r else (y, u) :: setv x v r
theorem setv_lookup (x : Str) (v : V) (z : Str) : ∀ l : List (Str × V), (setv x v l).lookup z = if z = x then some v else l.lookup z
  | [] => by
    by_cases h : z = x
    · subst h; simp [setv, List.lookup_cons]
    · have : (z == x) = false := by simpa using h
      simp [setv, List.lookup_cons, this, h]
  | (y, u) :: r => by
    unfold setv
    by_cases hy : (y == x) = true
    · rw [if_pos hy]
      have := beq_iff_eq.mp hy; subst this
      by_cases h : z = y
      · subst h; simp [List.lookup_cons]
      · have : (z == y) = false := by simpa using h
        simp [List.lookup_cons, this, h]
    · rw [if_neg hy, List.lookup_cons, List.lookup_cons, setv_lookup x v z r]
      by_cases h : z = y
      · subst h
        have : ¬ z = x := fun e => hy (by rw [e]; simp)
        simp [this]
      · have : (z == y) = false := by simpa using h
        simp [this]

section
variable {C : Fx} {st : St}

theorem SRT.turnF {env : Env} {Z R : PH} {ρ : List Addr} {s : Shared} {T : Addr → Tag} (h : SRT C env Z R ρ st s T) {vs : List (Str × V)} {h' : Heap} {tk : Nat} (t : Tag) (hk : t.k = 3 ∨ t.k = 4) (kp : ∀ b, T b ≠ t → h'.get? b = s.heap.get? b)
    (loc : ∃ m, h'.Ns env.locals m ∧ ∀ x v, vs.lookup x = some v → C.sc.names.lookup x = some .local → ∃ w, m x = some w ∧ VR Z ρ v w)
    (cell : ∀ x c o, C.sc.names.lookup x = some .cell ∨ C.sc.names.lookup x = some .free → env.cells.lookup x = some c → T c = .fc x → s.heap.IsCell c o → (∀ v, st.vars.lookup x = some v → ∃ w, o = some w ∧ VR Z ρ v w) → ∃ o, h'.IsCell c o ∧ ∀ v, vs.lookup x = some v → ∃ w, o = some w ∧ VR Z ρ v w) :
    SRT C env Z R ρ { st with vars := vs } { s with heap := h', toks := tk } T :=
  have ne : ∀ {u : Tag}, u.k < 3 ∨ 4 < u.k → u ≠ t := fun {u} q e => by subst e; omega
  { base := h.base
    z := fun b o e => ⟨(h.z b o e).1, (kp b (by rw [(h.z b o e).1]; exact ne (.inl (by decide)))).trans (h.z b o e).2⟩
    r := fun b o e => ⟨(h.r b o e).1, (kp b (by rw [(h.r b o e).1]; exact ne (.inl (by decide)))).trans (h.r b o e).2⟩
    nx := h.nx
    objs := fun k ao e => (h.objs k ao e).elim fun b q => q.2.2.elim fun o q' => ⟨b, q.1, q.2.1, o, (kp b (by rw [q.2.1]; exact ne (.inr (Nat.le_refl 5)))).trans q'.1, q'.2⟩
    scope := h.scope
    kind := h.kind
    globals := h.globals
    builtins := h.builtins
    loc := ⟨h.loc.1, loc⟩
    cell := fun x k h1 h2 => (h.cell x k h1 h2).elim fun c q => q.elim fun o q => (cell x c o (by rcases h2 with rfl | rfl; exact .inl h1; exact .inr h1) q.1 q.2.1 q.2.2.1 q.2.2.2).elim fun o' q' => ⟨c, o', q.1, q.2.1, q'.1, q'.2⟩
    os := h.os
    gens := h.gens
    pin := h.pin }
theorem SR.store_local {env : Env} {Z R : PH} {ρ : List Addr} {s : Shared} (hs : SR C env Z R ρ st s) {x : Str} {v : V} {w : Value} (hk : C.sc.names.lookup x = some .local) (r : VR Z ρ v w) :
    ∃ m, s.heap.Ns env.locals m ∧ ∀ h' tk, h'.Ns env.locals (fun y => if y = x then some w else m y) → Heap.SameBut env.locals s.heap h' → SR C env Z R ρ { st with vars := setv x v st.vars } { s with heap := h', toks := tk } := by
  obtain ⟨T, h⟩ := hs
  obtain ⟨hl, m, hn, hm⟩ := h.loc
  refine ⟨m, hn, fun h' tk hn' hsb => ⟨T, h.turnF .fl (.inl rfl) (fun b q => hsb.2 b (fun e => by subst e; exact q hl)) ⟨_, hn', fun y u e1 e2 => ?_⟩ fun y c o h1 h2 h3 h4 h5 => ⟨o, ?_, fun u e => ?_⟩⟩⟩
  · rw [setv_lookup] at e1
    by_cases q : y = x
    · subst q
      rw [if_pos rfl] at e1
      exact ⟨w, if_pos rfl, Option.some.inj e1 ▸ r⟩
    · rw [if_neg q] at e1
      exact (hm y u e1 e2).elim fun w' h => ⟨w', (if_neg q).trans h.1, h.2⟩
  · exact h4.elim fun ob q => ⟨ob, (hsb.2 c fun e => by subst e; exact tne h3 rfl hl).trans q.1, q.2⟩
  · rw [setv_lookup, if_neg fun q => by subst q; rw [hk] at h1; rcases h1 with q | q <;> cases q] at e
    exact h5 u e

theorem SR.store_cell {env : Env} {Z R : PH} {ρ : List Addr} {s : Shared} (hs : SR C env Z R ρ st s) {x : Str} {v : V} {w : Value} (hk : C.sc.names.lookup x = some .cell) (r : VR Z ρ v w) :
    ∃ c o, env.cells.lookup x = some c ∧ s.heap.IsCell c o ∧ ∀ h' tk, h'.IsCell c (some w) → Heap.SameBut c s.heap h' → SR C env Z R ρ { st with vars := setv x v st.vars } { s with heap := h', toks := tk } := by
  obtain ⟨T, h⟩ := hs
  obtain ⟨c, oc, hc, ht, hi, hv⟩ := h.cell x _ hk (.inl rfl)
  obtain ⟨hl, m, hn, hm⟩ := h.loc
  have kp : ∀ b, T b ≠ .fc x → ∀ {h' : Heap}, Heap.SameBut c s.heap h' → h'.get? b = s.heap.get? b := fun b q _ hsb => hsb.2 b (fun e => by subst e; exact q ht)
  refine ⟨c, oc, hc, hi, fun h' tk hn' hsb => ⟨T, h.turnF (.fc x) (.inr rfl) (fun b q => kp b q hsb) ⟨m, hn.at' (fun o e => (kp _ (tne hl) hsb).trans e), fun y u e1 e2 => ?_⟩ fun y c' o h1 h2 h3 h4 h5 => ?_⟩⟩
  · rw [setv_lookup, if_neg fun q => by subst q; rw [hk] at e2; cases e2] at e1
    exact hm y u e1 e2
  · by_cases q : y = x
    · subst q
      rw [hc] at h2; cases h2
      refine ⟨some w, hn', fun u e => ?_⟩
      rw [setv_lookup, if_pos rfl] at e
      exact ⟨w, rfl, Option.some.inj e ▸ r⟩
    · refine ⟨o, h4.elim fun ob q1 => ⟨ob, (kp c' (by rw [h3]; intro z; cases z; exact q rfl) hsb).trans q1.1, q1.2⟩, fun u e => ?_⟩
      rw [setv_lookup, if_neg q] at e
      exact h5 u e

theorem store_ {x : Str} {v : V} {k : NameKind} {Q : Unit → St → Prop} (hk : C.sc.names.lookup x = some k) (h : Q () { st with vars := setv x v st.vars }) (hkk : k = .local ∨ k = .cell := by decide)
    {env : Env} {Z R : PH} {ρ : List Addr} {s : Shared} {w : Value} (hs : SR C env Z R ρ st s) (r : VR Z ρ v w) : wpAny C.M C.A (storeName env x w) (Post C env Z R ρ rUnit Q) noE s := by
  have e := (hs.kindOf_ x).trans hk
  rcases hkk with rfl | rfl
  · obtain ⟨m, hn, hh⟩ := hs.store_local hk r
    exact wpAny_storeName_local e hn (fun h' h1 h2 => SR.post (hh h' _ h1 h2) trivial h) (by rw [hs.kind_]; rfl)
  · obtain ⟨c, o, h1, h2, hh⟩ := hs.store_cell hk r
    exact wpAny_storeName_cell hs.kind_ e h1 h2 fun h' h3 h4 => SR.post (hh h' s.toks h3 h4) trivial h

noncomputable abbrev JX (C : Fx) (b : List Stmt) (st : St) (Q : FlowA → St → Prop) : Prop := J C rFlow (execs b) st Q
noncomputable abbrev JX1 (C : Fx) (b : Stmt) (st : St) (Q : FlowA → St → Prop) : Prop := J C rFlow (exec b) st Q

theorem x_nil {Q : FlowA → St → Prop} (h : Q .next st) : JX C [] st Q := fun env Z R ρ s hs => wpAny_execs_nil (SR.post hs .next h)
theorem x_cons {b : Stmt} {r : List Stmt} {Q : FlowA → St → Prop} (h : JX1 C b st fun f st₁ => match f with | .next => JX C r st₁ Q | f => Q f st₁) : JX C (b :: r) st Q :=
  fun env Z R ρ s hs => wpAny_execs_cons (wp_use (h env Z R ρ s hs) (fun f s₁ g st₁ Z₁ ρ₁ hz hr rf hs₁ h₁ => by
    cases rf with
    | next => exact wp_up hz hr (h₁ env Z₁ R ρ₁ s₁ hs₁)
    | brk => exact ⟨_, st₁, Z₁, ρ₁, hz, hr, .brk, hs₁, h₁⟩
    | cont => exact ⟨_, st₁, Z₁, ρ₁, hz, hr, .cont, hs₁, h₁⟩
    | ret rv => exact ⟨_, st₁, Z₁, ρ₁, hz, hr, .ret rv, hs₁, h₁⟩))

theorem x_Assign {x : Str} {px pos : Pos} {value : Expr} {k : NameKind} {Q : FlowA → St → Prop} (h : J C VR (eval value) st fun v st₁ => Q .next { st₁ with vars := setv x v st₁.vars }) (hk : C.sc.names.lookup x = some k)
    (hkk : k = .local ∨ k = .cell := by decide) (hsw : ∀ env, swapsWith value (some (.Name x px)) pos.line env = pure false := by intro _; rfl) : JX1 C (.Assign [.Name x px] value pos) st Q :=
  fun env Z R ρ s hs => wpAny_Assign_Name (wp_use (h env Z R ρ s hs) (fun w s₁ v st₁ Z₁ ρ₁ hz hr rv hs₁ h₁ =>
    wp_use (store_ (Q := fun _ st' => Q .next st') hk h₁ hkk hs₁ rv) (fun _ _ _ st₂ Z₂ ρ₂ hz2 hr2 _ hs₂ h₂ => ⟨_, st₂, Z₂, ρ₂, hz.trans hz2, hr.trans hr2, .next, hs₂, h₂⟩))) (hsw env)
theorem x_AugAssign {x : Str} {px pos : Pos} {op : Operator} {value : Expr} {v₀ : V} {k : NameKind} {Q : FlowA → St → Prop} (hv : st.vars.lookup x = some v₀) (hk : C.sc.names.lookup x = some k)
    (h : J C VR (eval value) st fun v st₁ => JV C VR [v₀, v] (two (inplaceOp op)) st₁ fun r st₂ => Q .next { st₂ with vars := setv x r st₂.vars })
    (hkk : k = .local ∨ k = .cell := by decide) (hc : (x == ("__classdict__" : Str)) = false := by decide) : JX1 C (.AugAssign (.Name x px) op value pos) st Q :=
  fun env Z R ρ s hs => wpAny_AugAssign_Name (wp_use (ld_Name (Q := fun v st' => v = v₀ ∧ st' = st) hv hk ⟨rfl, rfl⟩ (hkk.imp id .inl) hc env Z R ρ s hs) (fun w₀ s₀ _ _ Z₀ ρ₀ hz0 hr0 r0 hs0 ⟨e1, e2⟩ => by
    subst e1; subst e2
    exact wp_use (h env Z₀ R ρ₀ s₀ hs0) (fun w s₁ v st₁ Z₁ ρ₁ hz hr rv hs₁ h₁ =>
      wp_use (h₁ env Z₁ R ρ₁ s₁ [w₀, w] hs₁ (.cons (r0.mono hz hr) (.cons rv .nil))) (fun u s₂ y st₂ Z₂ ρ₂ hz2 hr2 ry hs₂ h₂ =>
        wp_use (store_ (Q := fun _ st' => Q .next st') hk h₂ hkk hs₂ ry) (fun _ _ _ st₃ Z₃ ρ₃ hz3 hr3 _ hs₃ h₃ => ⟨_, st₃, Z₃, ρ₃, ((hz0.trans hz).trans hz2).trans hz3, ((hr0.trans hr).trans hr2).trans hr3, .next, hs₃, h₃⟩)))))
theorem x_SetItem {o i : Expr} {tp pos : Pos} {value : Expr} {Q : FlowA → St → Prop}
    (h : J C VR (eval value) st fun v st₁ => J C VR (eval o) st₁ fun ov st₂ => J C VR (eval i) st₂ fun iv st₃ => JV C rUnit [ov, iv, v] (three setItem) st₃ fun _ st₄ => Q .next st₄)
    (hsw : ∀ env, swapsWith value (some (.Subscript o i tp)) pos.line env = pure false := by intro _; rfl) : JX1 C (.Assign [.Subscript o i tp] value pos) st Q :=
  fun env Z R ρ s hs => wpAny_Assign_Subscript (wp_use (h env Z R ρ s hs) (fun w s₁ v st₁ Z₁ ρ₁ hz hr rv hs₁ h₁ =>
    wp_use (h₁ env Z₁ R ρ₁ s₁ hs₁) (fun w2 s₂ v2 st₂ Z₂ ρ₂ hz2 hr2 rv2 hs₂ h₂ =>
      wp_use (h₂ env Z₂ R ρ₂ s₂ hs₂) (fun w3 s₃ v3 st₃ Z₃ ρ₃ hz3 hr3 rv3 hs₃ h₃ =>
        wp_use (h₃ env Z₃ R ρ₃ s₃ [w2, w3, w] hs₃ (.cons (rv2.mono hz3 hr3) (.cons rv3 (.cons (rv.mono (hz2.trans hz3) (hr2.trans hr3)) .nil)))) (fun _ _ _ st₄ Z₄ ρ₄ hz4 hr4 _ hs₄ h₄ =>
          ⟨_, st₄, Z₄, ρ₄, ((hz.trans hz2).trans hz3).trans hz4, ((hr.trans hr2).trans hr3).trans hr4, .next, hs₄, h₄⟩))))) (hsw env)
theorem x_If {t : Expr} {b o : List Stmt} {pos : Pos} {Q : FlowA → St → Prop} (h : JT C t st fun c st₁ => (c = true → JX C b st₁ Q) ∧ (c = false → JX C o st₁ Q)) : JX1 C (.If t b o pos) st Q :=
  fun env Z R ρ s hs => wpAny_If (wp_ite (h env Z R ρ s hs) (fun s₁ _ Z₁ ρ₁ hz hr hs₁ h1 => wp_up hz hr (h1 env Z₁ R ρ₁ s₁ hs₁)) fun s₁ _ Z₁ ρ₁ hz hr hs₁ h1 => wp_up hz hr (h1 env Z₁ R ρ₁ s₁ hs₁))
theorem x_Return {e : Expr} {pos : Pos} {Q : FlowA → St → Prop} (h : J C VR (eval e) st fun v st₁ => Q (.ret v) st₁) : JX1 C (.Return (some e) pos) st Q :=
  fun env Z R ρ s hs => wpAny_Return_some (wp_use (h env Z R ρ s hs) (fun w s₁ v st₁ Z₁ ρ₁ hz hr rv hs₁ h₁ => ⟨_, st₁, Z₁, ρ₁, hz, hr, .ret rv, hs₁, h₁⟩))
theorem x_Break {pos : Pos} {Q : FlowA → St → Prop} (h : Q .brk st) : JX1 C (.Break pos) st Q := fun env Z R ρ s hs => wpAny_Break (SR.post hs .brk h)
theorem x_Continue {pos : Pos} {Q : FlowA → St → Prop} (h : Q .cont st) : JX1 C (.Continue pos) st Q := fun env Z R ρ s hs => wpAny_Continue (SR.post hs .cont h)
theorem x_Expr {e : Expr} {pos : Pos} {Q : FlowA → St → Prop} (h : J C VR (eval e) st fun v st₁ => v = .none ∧ Q .next st₁) (hsw : ∀ env, swapsWith e none pos.line env = pure false := by intro _; rfl) : JX1 C (.Expr e pos) st Q :=
  fun env Z R ρ s hs => wpAny_Expr (wp_use (h env Z R ρ s hs) (fun w s₁ v st₁ Z₁ ρ₁ hz hr rv hs₁ ⟨e, h₁⟩ => by
    subst e
    obtain rfl := inv_none rv
    exact ⟨_, st₁, Z₁, ρ₁, hz, hr, .next, hs₁, h₁⟩)) (by unfold interactive; rw [hs.kind_]; rfl) (hsw env)

inductive WhI (C : Fx) (env : Env) (Z R : PH) (ρ : List Addr) (I : Nat → St → Prop) (n : Nat) (s' : Shared) : Prop
  | mk (Z' : PH) (ρ' : List Addr) (st' : St) (hz : PH.le Z Z') (hr : Ext ρ ρ') (hs : SR C env Z' R ρ' st' s') (hI : I n st')
theorem x_While {t : Expr} {b o : List Stmt} {pos : Pos} {Q : FlowA → St → Prop} (I : Nat → St → Prop) (n : Nat) (h : I n st)
    (turn : ∀ n st, I n st → JT C t st fun c st₁ => (c = true → JX C b st₁ fun f st₂ => match f with
        | .next | .cont => ∃ m, m < n ∧ I m st₂
        | .brk => Q .next st₂
        | .ret v => Q (.ret v) st₂) ∧ (c = false → JX C o st₁ Q)) : JX1 C (.While t b o pos) st Q :=
  fun env Z R ρ s hs => by
    refine wp_gen fun P hP => ?_
    refine wpAny_While (codeAny_whileLoop (WhI C env Z R ρ I) ?_ n ⟨Z, ρ, st, PH.le.refl _, Ext.refl _, hs, h⟩)
    intro n s ii
    refine ii.rec fun Z ρ st hz0 hr0 hs hI => ?_
    refine wp_ite (turn n st hI env Z R ρ s hs) (fun s₁ st₁ Z₁ ρ₁ hz hr hs₁ h1 => ?_) fun s₁ st₁ Z₁ ρ₁ hz hr hs₁ h2 => ?_
    · refine wp_use (h1 env Z₁ R ρ₁ s₁ hs₁) fun f s₂ g st₂ Z₂ ρ₂ hz2 hr2 rf hs₂ h₂ => ?_
      have hz' := (hz0.trans hz).trans hz2
      have hr' := (hr0.trans hr).trans hr2
      cases rf with
      | next => exact h₂.elim fun m hm => ⟨m, hm.1, Z₂, ρ₂, st₂, hz', hr', hs₂, hm.2⟩
      | cont => exact h₂.elim fun m hm => ⟨m, hm.1, Z₂, ρ₂, st₂, hz', hr', hs₂, hm.2⟩
      | brk => exact hP _ _ ⟨_, st₂, Z₂, ρ₂, hz', hr', .next, hs₂, h₂⟩
      | ret rv => exact hP _ _ ⟨_, st₂, Z₂, ρ₂, hz', hr', .ret rv, hs₂, h₂⟩
    · exact wp_use (h2 env Z₁ R ρ₁ s₁ hs₁) fun _ _ _ _ _ _ hz2 hr2 r hs₂ h₂ => hP _ _ ⟨_, _, _, _, (hz0.trans hz).trans hz2, (hr0.trans hr).trans hr2, r, hs₂, h₂⟩

theorem ev_Subscript {value slice : Expr} {pos : Pos} {Q : V → St → Prop} (h : J C VR (eval value) st fun a st₁ => J C VR (eval slice) st₁ fun b st₂ => JV C VR [a, b] (two (subscriptTail value slice)) st₂ Q) : J C VR (eval (.Subscript value slice pos)) st Q :=
  fun env Z R ρ s hs => Subscript_ (wp_use (h env Z R ρ s hs) (fun a s₁ va st₁ Z₁ ρ₁ hz hr ra hs₁ h₁ =>
    wp_use (h₁ env Z₁ R ρ₁ s₁ hs₁) (fun b s₂ vb st₂ Z₂ ρ₂ hz2 hr2 rb hs₂ h₂ =>
      wp_up (hz.trans hz2) (hr.trans hr2) (h₂ env Z₂ R ρ₂ s₂ [a, b] hs₂ (.cons (ra.mono hz2 hr2) (.cons rb .nil))))))

noncomputable abbrev JL (C : Fx) (pos : Pos) (es : List Expr) (st : St) (Q : List V → St → Prop) : Prop := J C VRs (fun env => spliced (backTo pos (starEach es env))) st Q
theorem l_nil {pos : Pos} {Q : List V → St → Prop} (h : Q [] st) : JL C pos [] st Q := fun env Z R ρ s hs => wpAny_items_nil (SR.post hs .nil h)
theorem l_cons {pos : Pos} {e : Expr} {r : List Expr} {Q : List V → St → Prop} (h : J C VR (eval e) st fun v st₁ => JL C pos r st₁ fun vs st₂ => Q (v :: vs) st₂)
    (he : ∀ env, starEach (e :: r) env = (false, eval e env) :: starEach r env := by intro _; rfl) : JL C pos (e :: r) st Q :=
  fun env Z R ρ s hs => wpAny_items_cons (wp_use (h env Z R ρ s hs) (fun a s₁ va st₁ Z₁ ρ₁ hz hr ra hs₁ h₁ =>
    wp_use (h₁ env Z₁ R ρ₁ s₁ hs₁) (fun b s₂ vb st₂ Z₂ ρ₂ hz2 hr2 rb hs₂ h₂ => ⟨_, st₂, Z₂, ρ₂, hz.trans hz2, hr.trans hr2, .cons (ra.mono hz2 hr2) rb, hs₂, h₂⟩))) (he env)

theorem ev_Tuple {es : List Expr} {k : Nat} {pos : Pos} {Q : V → St → Prop} (h : JL C pos es st fun vs st₁ => vs.length ≤ sizeLine ∧ Q (.tup vs) st₁) : J C VR (eval (.Tuple es k pos)) st Q :=
  fun env Z R ρ s hs => wpAny_Tuple (wp_use (h env Z R ρ s hs) (fun ws s₁ vs st₁ Z₁ ρ₁ hz hr rv hs₁ ⟨hl, h₁⟩ => by
    have hl' := rv.length
    obtain ⟨le, hs2⟩ := hs₁.allocZ { cls := .type "tuple", data := .seq ws.toArray } s₁.toks
    exact ⟨by lia, _, st₁, _, ρ₁, hz.trans le, hr, .tup (PH.put_self ..) (by simpa using rv.mono le (Ext.refl _)), hs2, h₁⟩))
theorem ev_List {es : List Expr} {pos : Pos} {Q : V → St → Prop} (h : JL C pos es st fun vs st₁ => vs.length ≤ sizeLine ∧ Q (.lst vs) st₁) : J C VR (eval (.List es pos)) st Q :=
  fun env Z R ρ s hs => wpAny_List (wp_use (h env Z R ρ s hs) (fun ws s₁ vs st₁ Z₁ ρ₁ hz hr rv hs₁ ⟨hl, h₁⟩ => by
    have hl' := rv.length
    obtain ⟨le, hs2⟩ := hs₁.allocZ { cls := .type "list", data := .seq ws.toArray } s₁.toks
    exact ⟨by lia, _, st₁, _, ρ₁, hz.trans le, hr, .lst (PH.put_self ..) (by simpa using rv.mono le (Ext.refl _)), hs2, h₁⟩))
theorem ev_ListO {es : List Expr} {pos : Pos} {Q : V → St → Prop} (h : JL C pos es st fun vs st₁ => vs.length ≤ sizeLine ∧ Q (.obj st₁.nx) { st₁ with heap := upd st₁.heap st₁.nx (.list vs), nx := st₁.nx + 1 }) : J C VR (eval (.List es pos)) st Q :=
  fun env Z R ρ s hs => wpAny_List (wp_use (h env Z R ρ s hs) (fun ws s₁ vs st₁ Z₁ ρ₁ hz hr rv hs₁ ⟨hl, h₁⟩ => by
    have hl' := rv.length
    have hs2 := hs₁.allocO (lobj ws.toArray 0) (.list vs) s₁.toks (.list (by simpa using rv))
    obtain ⟨T, hT⟩ := hs₁
    exact ⟨by lia, _, _, Z₁, _, hz, hr.trans (Ext.snoc _ _), .obj (by rw [List.getElem?_append_right (by rw [hT.nx]; exact Nat.le_refl _), hT.nx, Nat.sub_self]; rfl), hs2, h₁⟩))
end
end Mine
end
section -- MCall
set_option maxRecDepth 100000
namespace Mine
open PySem PySem.W PyProof.Rows

inductive BR (Z : PH) (ρ : List Addr) : List (Str × V) → List (Str × Value) → Prop
  | nil : BR Z ρ [] []
  | cons {x : Str} {v : V} {w : Value} {l : List (Str × V)} {r : List (Str × Value)} : VR Z ρ v w → BR Z ρ l r → BR Z ρ ((x, v) :: l) ((x, w) :: r)
theorem BR.lookup {Z : PH} {ρ : List Addr} : ∀ {l : List (Str × V)} {r : List (Str × Value)}, BR Z ρ l r → ∀ (x : Str) (v : V), l.lookup x = some v → ∃ w, r.lookup x = some w ∧ VR Z ρ v w
  | _, _, .nil, x, v, h => by cases h
  | _, _, .cons (x := y) hv t, x, v, h => by
    rw [List.lookup_cons] at h ⊢
    cases q : x == y with
    | true => rw [q] at h; cases h; exact ⟨_, rfl, hv⟩
    | false => rw [q] at h; exact t.lookup x v h
theorem BR.zip {Z : PH} {ρ : List Addr} : ∀ (ps : List Str) {vs : List V} {ws : List Value}, VRs Z ρ vs ws → BR Z ρ (ps.zip vs) (ps.zip ws)
  | [], _, _, _ => .nil
  | _ :: _, _, _, .nil => .nil
  | p :: ps, _, _, .cons h t => .cons h (BR.zip ps t)

theorem bindL_lookup (K : Str → Option NameKind) : ∀ (binds : List (Str × Value)) (m : Str → Option Value) (x : Str) (w : Value), (binds.map (·.1)).Nodup → binds.lookup x = some w → K x = some .local → bindL K binds m x = some w
  | [], m, x, w, _, h, _ => by cases h
  | (y, u) :: r, m, x, w, hd, h, hk => by
    unfold bindL
    rw [List.map_cons, List.nodup_cons] at hd
    rw [List.lookup_cons] at h
    cases q : x == y with
    | true =>
      rw [q] at h; cases h
      have e := beq_iff_eq.mp q; subst e
      rw [if_pos hk]
      have none : r.lookup x = none := by
        cases z : r.lookup x with
        | none => rfl
        | some z' => exact absurd (List.mem_map.mpr ⟨_, mem_of_lookup z, rfl⟩) hd.1
      exact bindL_none K r _ x none ▸ (by simp)
    | false => rw [q] at h; exact bindL_lookup K r _ x w hd.2 h hk
where
  bindL_none (K : Str → Option NameKind) : ∀ (binds : List (Str × Value)) (m : Str → Option Value) (x : Str), binds.lookup x = none → bindL K binds m x = m x
    | [], m, x, _ => rfl
    | (y, u) :: r, m, x, h => by
      unfold bindL
      rw [List.lookup_cons] at h
      cases q : x == y with
      | true => rw [q] at h; cases h
      | false =>
        rw [q] at h
        rw [bindL_none K r _ x h]
        have : ¬ x = y := by simpa using q
        split <;> simp [this]
theorem bindC_lookup (K : Str → Option NameKind) : ∀ (binds : List (Str × Value)) (m : Str → Option Value) (x : Str) (w : Value), (binds.map (·.1)).Nodup → binds.lookup x = some w → ¬ K x = some .local → bindC K binds m x = some w
  | [], m, x, w, _, h, _ => by cases h
  | (y, u) :: r, m, x, w, hd, h, hk => by
    unfold bindC
    rw [List.map_cons, List.nodup_cons] at hd
    rw [List.lookup_cons] at h
    cases q : x == y with
    | true =>
      rw [q] at h; cases h
      have e := beq_iff_eq.mp q; subst e
      rw [if_neg hk]
      have none : r.lookup x = none := by
        cases z : r.lookup x with
        | none => rfl
        | some z' => exact absurd (List.mem_map.mpr ⟨_, mem_of_lookup z, rfl⟩) hd.1
      exact bindC_none K r _ x none ▸ (by simp)
    | false => rw [q] at h; exact bindC_lookup K r _ x w hd.2 h hk
where
  bindC_none (K : Str → Option NameKind) : ∀ (binds : List (Str × Value)) (m : Str → Option Value) (x : Str), binds.lookup x = none → bindC K binds m x = m x
    | [], m, x, _ => rfl
    | (y, u) :: r, m, x, h => by
      unfold bindC
      rw [List.lookup_cons] at h
      cases q : x == y with
      | true => rw [q] at h; cases h
      | false =>
        rw [q] at h
        rw [bindC_none K r _ x h]
        have : ¬ x = y := by simpa using q
        split <;> simp [this]

noncomputable def FS (C : Fx) (env : Env) (b : Addr) : Prop := b = env.locals ∨ ∃ x k, C.sc.names.lookup x = some k ∧ (k = .cell ∨ k = .free) ∧ env.cells.lookup x = some b
open Classical in
noncomputable def framed (C : Fx) (env : Env) (R : PH) (h : Heap) : PH := fun b => if FS C env b then h.get? b else R b

theorem enter {C C' : Fx} {env env' : Env} {Z R : PH} {ρ : List Addr} {st : St} {s s₁ : Shared} {binds : List (Str × Value)} {vars : List (Str × V)} {a : Addr} {q : Str} {cd : Value}
    (hs : SR C env Z R ρ st s) (hp : C'.base = C.base) (ho : C'.os = C.os) (hw : C'.w = C.w) (hgp : C'.gp = C.gp) (hpin : C'.pin = C.pin) (hk : C'.sc.kind = .function)
    (he : env' = newEnv C'.sc s.heap.objs.size mainGlobals (cellsFrom (s.heap.objs.size + 1) C'.sc.names []) q (some a) cd none builtinsNs)
    (x : InCallC s env'.locals (bindL env'.kindOf binds fun _ => none) env'.cells (bindC env'.kindOf binds fun _ => none) s₁)
    (hb : BR Z ρ vars binds) (hd : (binds.map (·.1)).Nodup) (hf : ∀ y, C'.sc.names.lookup y ≠ some .free) :
    SR C' env' Z (framed C env R s.heap) ρ { st with vars := vars } s₁ ∧
    ∀ Z' ρ' st' s', PH.le Z Z' → Ext ρ ρ' → SR C' env' Z' (framed C env R s.heap) ρ' st' s' → SR C env Z' R ρ' { st' with vars := st.vars } s' := by
  classical
  obtain ⟨T, h⟩ := hs
  have hL : env'.locals = s.heap.objs.size := congrArg Env.locals he
  have hsc : env'.scope = C'.sc := congrArg Env.scope he
  have hko : ∀ y, env'.kindOf y = C'.sc.names.lookup y := fun y => by unfold Env.kindOf; rw [hsc]
  have hcs : env'.cells = cellsFrom (s.heap.objs.size + 1) C'.sc.names [] := congrArg Env.cells he
  obtain ⟨hl, m, hn, hm⟩ := h.loc
  have fsSome : ∀ b, FS C env b → ∃ o, s.heap.get? b = some o := fun b q => by
    rcases q with rfl | ⟨y, k, e1, e2, e3⟩
    · obtain ⟨o, _, _, ho, _⟩ := hn; exact ⟨o, ho⟩
    · obtain ⟨c, o, h1, _, ⟨ob, h2, _⟩, _⟩ := h.cell y k e1 e2
      rw [e3] at h1; cases h1; exact ⟨ob, h2⟩
  have fsTag : ∀ b, FS C env b → T b = .fl ∨ ∃ y, T b = .fc y := fun b q => by
    rcases q with rfl | ⟨y, k, e1, e2, e3⟩
    · exact .inl hl
    · obtain ⟨c, o, h1, h2, _⟩ := h.cell y k e1 e2
      rw [e3] at h1; cases h1; exact .inr ⟨y, h2⟩
  have old : ∀ b o, s.heap.get? b = some o → b ≠ env'.locals ∧ env'.cells.find? (fun p => p.2 == b) = none := fun b o e => by
    have lt := Heap.lt_size e
    refine ⟨fun z => by rw [z, hL] at lt; exact Nat.lt_irrefl _ lt, ?_⟩
    rw [List.find?_eq_none]
    intro p hp hpb
    have e := beq_iff_eq.mp hpb
    have := x.above p.1 p.2 hp
    rw [e, hL] at this
    exact Nat.lt_asymm lt this
  obtain ⟨h1', tk, hs1⟩ := x.toInCall.same
  let T' : Addr → Tag := fun b => if b = env'.locals then .fl else match env'.cells.find? (fun p => p.2 == b) with
    | some p => .fc p.1
    | none => if FS C env b then .r else T b
  have T'old : ∀ b o, s.heap.get? b = some o → T' b = if FS C env b then .r else T b := fun b o e => by
    show (if b = env'.locals then Tag.fl else _) = _
    rw [if_neg (old b o e).1, (old b o e).2]
  refine ⟨⟨T', ?_⟩, fun Z' ρ' st' s' hz hr ⟨T2, k⟩ => ?_⟩
  · exact {
      base := by rw [hp]; exact h.base
      z := fun b o e => by
        have e1 := h.z b o e
        refine ⟨?_, x.toInCall.keep _ _ e1.2⟩
        rw [T'old b o e1.2, if_neg fun q => ?_]
        · exact e1.1
        · rcases fsTag b q with z | ⟨y, z⟩ <;> rw [e1.1] at z <;> cases z
      r := fun b o e => by
        unfold framed at e
        by_cases q : FS C env b
        · rw [if_pos q] at e
          exact ⟨by rw [T'old b o e, if_pos q], x.toInCall.keep _ _ e⟩
        · rw [if_neg q] at e
          have e1 := h.r b o e
          exact ⟨by rw [T'old b o e1.2, if_neg q]; exact e1.1, x.toInCall.keep _ _ e1.2⟩
      nx := h.nx
      objs := fun n ao e => by
        obtain ⟨b, h1, h2, o, h3, h4⟩ := h.objs n ao e
        refine ⟨b, h1, ?_, o, x.toInCall.keep _ _ h3, by rw [hw]; exact h4⟩
        rw [T'old b o h3, if_neg fun q => ?_]
        · exact h2
        · rcases fsTag b q with z | ⟨y, z⟩ <;> rw [h2] at z <;> cases z
      scope := hsc
      kind := hk
      globals := congrArg Env.globals he
      builtins := congrArg Env.builtins he
      loc := ⟨if_pos rfl, _, x.toInCall.ns, fun y v e1 e2 => by
        obtain ⟨w, hw1, hw2⟩ := hb.lookup y v e1
        exact ⟨w, bindL_lookup _ _ _ _ _ hd hw1 ((hko y).trans e2), hw2⟩⟩
      cell := fun y kk e1 e2 => by
        rcases e2 with rfl | rfl
        · have : ((cellsFrom (s.heap.objs.size + 1) C'.sc.names []).lookup y).isSome := cellsFrom_some _ _ _ (.inl e1)
          obtain ⟨c, hc⟩ := Option.isSome_iff_exists.mp this
          rw [← hcs] at hc
          have hmem := mem_of_lookup hc
          have hne : c ≠ env'.locals := fun z => by have := x.above y c hmem; rw [z] at this; exact Nat.lt_irrefl _ this
          refine ⟨c, _, hc, ?_, x.cell y c hc, fun v e => ?_⟩
          · show (if c = env'.locals then Tag.fl else _) = _
            rw [if_neg hne]
            have : (env'.cells.find? fun p => p.2 == c).isSome := List.find?_isSome.mpr ⟨(y, c), hmem, by simp⟩
            obtain ⟨p, hp⟩ := Option.isSome_iff_exists.mp this
            rw [hp]
            have pm := List.mem_of_find?_eq_some hp
            have pe : p.2 = c := beq_iff_eq.mp (List.find?_some (p := fun (p : Str × Addr) => p.2 == c) hp)
            have : p.1 = y := name_of_addr x.apart (c := c) (by rw [← pe]; exact pm) hmem
            exact congrArg Tag.fc this
          · obtain ⟨w, hw1, hw2⟩ := hb.lookup y v e
            exact ⟨w, bindC_lookup _ _ _ _ _ hd hw1 (by rw [hko y, e1]; simp), hw2⟩
        · exact absurd e1 (hf y)
      os := by rw [hs1, ho]; exact h.os
      gens := by rw [hs1, hgp]; exact h.gens
      pin := by rw [hpin]; exact h.pin }
  · have fsIn : ∀ b o, FS C env b → s.heap.get? b = some o → T2 b = .r ∧ s'.heap.get? b = some o := fun b o q e => k.r b o (by unfold framed; rw [if_pos q]; exact e)
    have rIn : ∀ b o, R b = some o → ¬ FS C env b := fun b o e q => by
      rcases fsTag b q with z | ⟨y, z⟩ <;> rw [(h.r b o e).1] at z <;> cases z
    have rOut : ∀ b o, R b = some o → T2 b = .r ∧ s'.heap.get? b = some o := fun b o e => k.r b o (by unfold framed; rw [if_neg (rIn b o e)]; exact e)
    refine ⟨fun b => if FS C env b then T b else if (R b).isSome then .r else match T2 b with | .z => .z | .ob n => .ob n | _ => .free, ?_⟩
    have tz : ∀ b, T2 b ≠ .r → ¬ FS C env b ∧ R b = none := fun b q => by
      refine ⟨fun z => ?_, ?_⟩
      · obtain ⟨o, e⟩ := fsSome b z; exact q (fsIn b o z e).1
      · cases e : R b with
        | none => rfl
        | some o => exact absurd (rOut b o e).1 q
    exact {
      base := by rw [← hp]; exact k.base
      z := fun b o e => by
        have e1 := k.z b o e
        obtain ⟨q1, q2⟩ := tz b (tne e1.1)
        refine ⟨?_, e1.2⟩
        rw [if_neg q1, q2, if_neg (by simp), e1.1]
      r := fun b o e => ⟨by rw [if_neg (rIn b o e), e]; rfl, (rOut b o e).2⟩
      nx := k.nx
      objs := fun n ao e => by
        obtain ⟨b, h1, h2, o, h3, h4⟩ := k.objs n ao e
        obtain ⟨q1, q2⟩ := tz b (tne h2)
        refine ⟨b, h1, ?_, o, h3, by rw [← hw]; exact h4⟩
        rw [if_neg q1, q2, if_neg (by simp), h2]
      scope := h.scope
      kind := h.kind
      globals := h.globals
      builtins := h.builtins
      loc := by
        refine ⟨by rw [if_pos (.inl rfl)]; exact hl, m, hn.at' fun o e => (fsIn _ o (.inl rfl) e).2, fun y v e1 e2 => ?_⟩
        obtain ⟨w, a1, a2⟩ := hm y v e1 e2
        exact ⟨w, a1, a2.mono hz hr⟩
      cell := fun y kk e1 e2 => by
        obtain ⟨c, o, a1, a2, ⟨ob, a3, a3'⟩, a4⟩ := h.cell y kk e1 e2
        have fs : FS C env c := .inr ⟨y, kk, e1, e2, a1⟩
        refine ⟨c, o, a1, by rw [if_pos fs]; exact a2, ⟨ob, (fsIn c ob fs a3).2, a3'⟩, fun v e => ?_⟩
        obtain ⟨w, b1, b2⟩ := a4 v e
        exact ⟨w, b1, b2.mono hz hr⟩
      os := by rw [← ho]; exact k.os
      gens := by rw [← hgp]; exact k.gens
      pin := by rw [← hpin]; exact k.pin }
end Mine
end
section -- MCall2
set_option maxRecDepth 100000
namespace Mine
open PySem PySem.W PyProof.Rows

noncomputable def retV : FlowA → V
  | .ret v => v
  | _ => .none

structure Fn (B : PH) (a : Addr) (fd : FuncData) (body : List Stmt) (ps : List Str) : Prop where
  at_ : ∃ o, B a = some o ∧ o.data = .func fd
  get : Knows B fun h => h.CodeRec fd.code fd.qualname ∧ h.NoLimit
  body : fd.body = .stmts body
  clo : fd.closure = []
  glob : fd.globals = mainGlobals
  blt : fd.builtins = builtinsNs
  kind : fd.scope.kind = .function
  co : fd.scope.isCoroutine = false
  gen : fd.scope.isGenerator = false
  binds : ∀ ws : List Value, ws.length = ps.length → bindArgs fd ⟨ws, []⟩ = pure (ps.zip ws)
  nd : ps.Nodup
  param : ∀ p ∈ ps, fd.scope.names.lookup p = some .local ∨ fd.scope.names.lookup p = some .cell
  free : ∀ y, fd.scope.names.lookup y ≠ some .free

noncomputable def Fx.into (C : Fx) (sc : Scope) : Fx := { C with d := C.d + 1, u := C.u + 3, sc := sc }

theorem zip_keys {α : Type} : ∀ (ps : List Str) (ws : List α), ws.length = ps.length → (ps.zip ws).map (·.1) = ps
  | [], _, _ => by simp
  | p :: ps, [], h => by simp at h
  | p :: ps, w :: ws, h => by simp at h; simp [zip_keys ps ws h]

section
variable {C : Fx} {st : St}

theorem call_fn {a : Addr} {fd : FuncData} {body : List Stmt} {ps : List Str} {vs : List V} {Q : V → St → Prop} (F : Fn C.base a fd body ps) (hd : C.d < 1000) (hl : vs.length = ps.length)
    (h : JX (C.into fd.scope) body { st with vars := ps.zip vs } fun f st' => Q (retV f) { st' with vars := st.vars }) : JV C VR vs (fun ws => call (.ref a) ws) st Q :=
  fun env Z R ρ s ws hs hw => by
    obtain ⟨hcd, hlim⟩ := hs.knows F.get
    obtain ⟨o, ho, hdata⟩ := F.at_
    replace ho := hs.base_ ho
    have hwl : ws.length = ps.length := by rw [← hw.length]; exact hl
    have keys := zip_keys ps ws hwl
    refine wpAny_call (codeAny_call_cells (fd := fd) (body := body) (binds := ps.zip ws) (show C.A.depth < recursionLimit from hd) ho hdata hlim hcd F.body (F.binds ws hwl) F.clo (fun x hx => ?_) (fun s₁ x => ?_) F.co F.gen F.kind)
    · have : x.1 ∈ ps := by rw [← keys]; exact List.mem_map_of_mem hx
      rcases F.param x.1 this with q | q
      · exact .inl q
      · exact .inr ⟨q, cellsFrom_some _ _ _ (.inl q)⟩
    · have he : callEnvC fd s.heap.objs.size a = newEnv (C.into fd.scope).sc s.heap.objs.size mainGlobals (cellsFrom (s.heap.objs.size + 1) (C.into fd.scope).sc.names []) (fd.qualname ++ ".<locals>.") (some a) fd.code none builtinsNs := by
        unfold callEnvC; rw [F.glob, F.blt]; rfl
      obtain ⟨k1, k2⟩ := enter (C' := C.into fd.scope) hs rfl rfl rfl rfl rfl F.kind he x (BR.zip ps hw) (by rw [keys]; exact F.nd) F.free
      refine wp_use (h _ Z _ ρ s₁ k1) (fun f s' g st' Z' ρ' hz hr rf hs' hq => ?_)
      have hs2 := k2 Z' ρ' st' s' hz hr hs'
      cases rf with
      | next => exact ⟨_, _, Z', ρ', hz, hr, .none, hs2, hq⟩
      | brk => exact ⟨_, _, Z', ρ', hz, hr, .none, hs2, hq⟩
      | cont => exact ⟨_, _, Z', ρ', hz, hr, .none, hs2, hq⟩
      | ret rv => exact ⟨_, _, Z', ρ', hz, hr, rv, hs2, hq⟩

theorem evalArgs_any {M : Model} {A : Around} {E : Value → Shared → Prop} {s : Shared} {f : Value} {Q : Args → Shared → Prop} : ∀ trees : List (Bool × Sem Value), trees.any (·.1) = false →
    wpAny M A (spliced trees) (fun vs s' => Q ⟨vs, []⟩ s') E s → wpAny M A (evalArgs f true trees []) Q E s
  | [], _, h => by
    unfold evalArgs
    show wpAny M A (spliced [] >>= _) Q E s
    refine wpAny_bind (wpAny_mono h (fun vs s' h' => ?_) fun _ _ x => x)
    refine wpAny_bind (wpAny_pure (wpAny_holding ?_))
    exact wpAny_bind (wpAny_pure (wpAny_bind (wpAny_pure (wpAny_pure h'))))
  | (true, x) :: r, hb, h => by simp at hb
  | (false, x) :: r, _, h => Calls.evalArgs_plain h
theorem args_ {pos : Pos} {es : List Expr} {Q : List V → St → Prop} (h : JL C pos es st Q) (he : ∀ env, (backTo pos (starEach es env)).any (·.1) = false) {env : Env} {Z R : PH} {ρ : List Addr} {s : Shared} (hs : SR C env Z R ρ st s) (f : Value) :
    wpAny C.M C.A (evalArgs f true (backTo pos (starEach es env)) []) (fun a s' => a.kw = [] ∧ Post C env Z R ρ VRs Q a.pos s') noE s :=
  evalArgs_any _ (he env) (wpAny_mono (h env Z R ρ s hs) (fun _ _ p => ⟨rfl, p⟩) fun _ _ e => e)

theorem ev_CallFn {f : Str} {p pos : Pos} {es : List Expr} {a : Addr} {fd : FuncData} {body : List Stmt} {ps : List Str} {Q : V → St → Prop} (hg : Glo C.base f (.ref a)) (F : Fn C.base a fd body ps) (hk : C.sc.names.lookup f = some .globalImplicit)
    (h : JL C pos es st fun vs st₁ => JV C VR vs (fun ws => call (.ref a) ws) st₁ Q)
    (he : ∀ env, (backTo pos (starEach es env)).any (·.1) = false := by intro _; rfl) (hd : (f == ("__debug__" : Str)) = false := by decide) : J C VR (eval (.Call (.Name f p) es [] pos)) st Q :=
  fun env Z R ρ s hs => by
    refine wpAny_Call_NameR (wp_use (ev_Glo (Q := fun v st' => v = .val (.ref a) ∧ st' = st) hg hk ⟨rfl, rfl⟩ hd env Z R ρ s hs) (fun w s₁ v st₁ Z₁ ρ₁ hz hr rv hs₁ ⟨e1, e2⟩ => ?_))
    subst e1; subst e2
    cases rv
    obtain ⟨o, ho, hdata⟩ := F.at_
    refine Calls.callWith_function (o := o) (fd := fd) (wpAny_mono (args_ h he hs₁ (.ref a)) (fun ar s₂ ⟨hkw, pp⟩ => pp.ex fun vs st₂ Z₂ ρ₂ hz2 hr2 rvs hs₂ h₂ => ⟨⟨hs₂.base_ ho, hdata⟩, ?_⟩) fun _ _ e => e)
    · rw [hkw]
      exact wp_up (hz.trans hz2) (hr.trans hr2) (h₂ env Z₂ R ρ₂ s₂ ar.pos hs₂ rvs)

theorem ev_CallB {f : Str} {p pos : Pos} {es : List Expr} {id : String} {Q : V → St → Prop} (hg : Blt C.base f (.builtin id)) (hk : C.sc.names.lookup f = some .globalImplicit)
    (h : JL C pos es st fun vs st₁ => JV C VR vs (fun ws => call (.builtin id) ws) st₁ Q)
    (he : ∀ env, (backTo pos (starEach es env)).any (·.1) = false := by intro _; rfl) (hd : (f == ("__debug__" : Str)) = false := by decide) : J C VR (eval (.Call (.Name f p) es [] pos)) st Q :=
  fun env Z R ρ s hs => by
    refine wpAny_Call_NameR (wp_use (ev_Blt (Q := fun v st' => v = .val (.builtin id) ∧ st' = st) hg hk ⟨rfl, rfl⟩ hd env Z R ρ s hs) (fun w s₁ v st₁ Z₁ ρ₁ hz hr rv hs₁ ⟨e1, e2⟩ => ?_))
    subst e1; subst e2
    cases rv
    refine Calls.callWith_builtin (he env) (wpAny_mono (args_ h he hs₁ (.builtin id)) (fun ar s₂ ⟨hkw, pp⟩ => pp.ex fun vs st₂ Z₂ ρ₂ hz2 hr2 rvs hs₂ h₂ => ?_) fun _ _ e => e)
    rw [hkw]
    exact wp_up (hz.trans hz2) (hr.trans hr2) (h₂ env Z₂ R ρ₂ s₂ ar.pos hs₂ rvs)
theorem ev_CallT {f : Str} {p pos : Pos} {es : List Expr} {id : String} {Q : V → St → Prop} (hg : Blt C.base f (.type id)) (hk : C.sc.names.lookup f = some .globalImplicit)
    (h : JL C pos es st fun vs st₁ => JV C VR vs (fun ws => call (.type id) ws) st₁ Q)
    (he : ∀ env, (backTo pos (starEach es env)).any (·.1) = false := by intro _; rfl) (hd : (f == ("__debug__" : Str)) = false := by decide) : J C VR (eval (.Call (.Name f p) es [] pos)) st Q :=
  fun env Z R ρ s hs => by
    refine wpAny_Call_NameR (wp_use (ev_Blt (Q := fun v st' => v = .val (.type id) ∧ st' = st) hg hk ⟨rfl, rfl⟩ hd env Z R ρ s hs) (fun w s₁ v st₁ Z₁ ρ₁ hz hr rv hs₁ ⟨e1, e2⟩ => ?_))
    subst e1; subst e2
    cases rv
    refine PyProof.Rows.callWith_type (he env) (wpAny_mono (args_ h he hs₁ (.type id)) (fun ar s₂ ⟨hkw, pp⟩ => pp.ex fun vs st₂ Z₂ ρ₂ hz2 hr2 rvs hs₂ h₂ => ?_) fun _ _ e => e)
    rw [hkw]
    exact wp_up (hz.trans hz2) (hr.trans hr2) (h₂ env Z₂ R ρ₂ s₂ ar.pos hs₂ rvs)

theorem ev_MethO {o : Expr} {name : Str} {apos pos : Pos} {es : List Expr} {id : String} {Q : V → St → Prop} (slot : Slot "list" name id) (hty : typeOf (.builtin id) = pure (.type "method_descriptor"))
    (h : J C VR (eval o) st fun ov st₁ => (∃ n xs, ov = .obj n ∧ st₁.heap n = some (.list xs)) ∧ JL C pos es st₁ fun vs st₂ => JV C VR (ov :: vs) (fun ws => call (.builtin id) ws) st₂ Q)
    (hbase : ∀ env, attributeBase o name env (eval o env) = eval o env := by intro _; rfl) (hline : (apos.endLine == pos.line) = true := by rfl)
    (he : ∀ env, (backTo pos (starEach es env)).any (·.1) = false := by intro _; rfl)
    (hfew : ∀ env, ((backTo pos (starEach es env)).all (fun x => !x.1) && (backToKw pos (keywordEach [] env)).all (fun x => x.1.isSome) && decide (es.length + ([] : List Keyword).length + (if ([] : List Keyword).isEmpty then 0 else 1) < 30)) = true := by intro _; rfl) :
    J C VR (eval (.Call (.Attribute o name apos) es [] pos)) st Q :=
  fun env Z R ρ s hs => by
    refine wpAny_Call_method (hbase env) (hfew env) hline PySem.F.plainAttrs_list slot hty (wpAny_mono (h env Z R ρ s hs) (fun w s₁ ⟨v, st₁, Z₁, ρ₁, hz, hr, rv, hs₁, ⟨n, xs, e1, e2⟩, h₁⟩ => ?_) fun _ _ e => e)
    subst e1
    obtain ⟨a, its, m, rfl, ea, ho, ri⟩ := hs₁.list e2 rv
    refine ⟨⟨_, ho, rfl⟩, fun b e => by cases e; exact ⟨_, ho, rfl⟩, ?_⟩
    refine Calls.callWith_builtin (he env) (wpAny_mono (args_ h₁ he hs₁ (.builtin id)) (fun ar s₂ ⟨hkw, pp⟩ => pp.ex fun vs st₂ Z₂ ρ₂ hz2 hr2 rvs hs₂ h₂ => ?_) fun _ _ e => e)
    rw [hkw]
    exact wp_up (hz.trans hz2) (hr.trans hr2) (h₂ env Z₂ R ρ₂ s₂ (.ref a :: ar.pos) hs₂ (.cons (rv.mono hz2 hr2) rvs))
theorem ev_MethL {o : Expr} {name : Str} {apos pos : Pos} {es : List Expr} {id : String} {Q : V → St → Prop} (slot : Slot "list" name id) (hty : typeOf (.builtin id) = pure (.type "method_descriptor"))
    (h : J C VR (eval o) st fun ov st₁ => (∃ xs, ov = .lst xs) ∧ JL C pos es st₁ fun vs st₂ => JV C VR (ov :: vs) (fun ws => call (.builtin id) ws) st₂ Q)
    (hbase : ∀ env, attributeBase o name env (eval o env) = eval o env := by intro _; rfl) (hline : (apos.endLine == pos.line) = true := by rfl)
    (he : ∀ env, (backTo pos (starEach es env)).any (·.1) = false := by intro _; rfl)
    (hfew : ∀ env, ((backTo pos (starEach es env)).all (fun x => !x.1) && (backToKw pos (keywordEach [] env)).all (fun x => x.1.isSome) && decide (es.length + ([] : List Keyword).length + (if ([] : List Keyword).isEmpty then 0 else 1) < 30)) = true := by intro _; rfl) :
    J C VR (eval (.Call (.Attribute o name apos) es [] pos)) st Q :=
  fun env Z R ρ s hs => by
    refine wpAny_Call_method (hbase env) (hfew env) hline PySem.F.plainAttrs_list slot hty (wpAny_mono (h env Z R ρ s hs) (fun w s₁ ⟨v, st₁, Z₁, ρ₁, hz, hr, rv, hs₁, ⟨xs, e1⟩, h₁⟩ => ?_) fun _ _ e => e)
    subst e1
    obtain ⟨a, its, m, rfl, hzo, ri⟩ := rv.lst_inv
    have ho := hs₁.z_ hzo
    refine ⟨⟨_, ho, rfl⟩, fun b e => by cases e; exact ⟨_, ho, rfl⟩, ?_⟩
    refine Calls.callWith_builtin (he env) (wpAny_mono (args_ h₁ he hs₁ (.builtin id)) (fun ar s₂ ⟨hkw, pp⟩ => pp.ex fun vs st₂ Z₂ ρ₂ hz2 hr2 rvs hs₂ h₂ => ?_) fun _ _ e => e)
    rw [hkw]
    exact wp_up (hz.trans hz2) (hr.trans hr2) (h₂ env Z₂ R ρ₂ s₂ (.ref a :: ar.pos) hs₂ (.cons (rv.mono hz2 hr2) rvs))
end
end Mine
end
section -- MIter
set_option maxRecDepth 100000
namespace Mine
open PySem PySem.W PyProof.Rows

section
variable {C : Fx} {env : Env} {Z R : PH} {ρ : List Addr} {st : St} {s : Shared}

theorem SR.r_ (h : SR C env Z R ρ st s) {a : Addr} {o : Obj} (e : R a = some o) : s.heap.get? a = some o := let ⟨_, k⟩ := h; (k.r a o e).2
theorem SR.weaken (h : SR C env Z R ρ st s) {R' : PH} (hr : PH.le R' R) : SR C env Z R' ρ st s := let ⟨T, k⟩ := h; ⟨T, { k with r := fun a o e => k.r a o (hr a o e) }⟩
theorem SR.rfresh (h : SR C env Z R ρ st s) {a : Addr} (ha : s.heap.get? a = none) : R a = none := by
  cases e : R a with
  | none => rfl
  | some o => have := h.r_ e; rw [ha] at this; cases this

theorem SR.allocR (h : SR C env Z R ρ st s) (o : Obj) (tk : Nat) (hf : o.isFreed = false := by rfl) :
    PH.le R (R.put s.heap.objs.size o) ∧ SR C env Z (R.put s.heap.objs.size o) ρ st { s with heap := s.heap.push o, toks := tk } := by
  have hn := fresh_none s.heap
  have hrn := h.rfresh hn
  obtain ⟨T, h⟩ := h
  refine ⟨PH.le_put hrn, fun b => if b = s.heap.objs.size then .r else T b, ?_⟩
  have k := ((h.retag hn .r).keep (s' := { s with heap := s.heap.push o, toks := tk }) (fun b o' e => Heap.get?_push_of_some _ e) rfl h.gens)
  exact { k with
    r := fun b o' e => by
      by_cases q : b = s.heap.objs.size
      · subst q; rw [PH.put_self] at e; cases e
        exact ⟨if_pos rfl, Heap.get?_push_size _ hf⟩
      · rw [PH.put_ne _ _ q] at e; exact k.r b o' e }

theorem SR.updR (h : SR C env Z R ρ st s) {a : Addr} {o o' : Obj} (e : R a = some o) {h' : Heap} {tk : Nat} (hs : ∀ b o, b ≠ a → s.heap.get? b = some o → h'.get? b = some o) (ho : h'.get? a = some o') :
    SR C env Z (R.put a o') ρ st { s with heap := h', toks := tk } := by
  obtain ⟨T, h⟩ := h
  have ta := (h.r a o e).1
  have kp : ∀ b o, T b ≠ .r → s.heap.get? b = some o → h'.get? b = some o := fun b o q => hs b o (fun z => by subst z; exact q ta)
  refine ⟨T, ?_⟩
  exact {
    base := h.base
    z := fun b o e => ⟨(h.z b o e).1, kp b o (tne (h.z b o e).1) (h.z b o e).2⟩
    r := fun b o1 e1 => by
      by_cases q : b = a
      · subst q; rw [PH.put_self] at e1; cases e1; exact ⟨ta, ho⟩
      · rw [PH.put_ne _ _ q] at e1
        exact ⟨(h.r b o1 e1).1, hs b o1 q (h.r b o1 e1).2⟩
    nx := h.nx
    objs := fun k ao' e' => let ⟨b, h1, h2, o'', h3, h4⟩ := h.objs k ao' e'; ⟨b, h1, h2, o'', kp b o'' (tne h2) h3, h4⟩
    scope := h.scope
    kind := h.kind
    globals := h.globals
    builtins := h.builtins
    loc := let ⟨h1, m, h2, h3⟩ := h.loc; ⟨h1, m, h2.at' fun o e => kp _ o (tne h1) e, h3⟩
    cell := fun x kk h1 h2 => let ⟨c, o, h3, h4, ⟨ob, q1, q2⟩, h6⟩ := h.cell x kk h1 h2; ⟨c, o, h3, h4, ⟨ob, kp c ob (tne h4) q1, q2⟩, h6⟩
    os := h.os
    gens := h.gens
    pin := h.pin }

theorem SR.lose {R' : PH} {a : Addr} {o : Obj} (h : SR C env Z R' ρ st s) (wk : PH.le R R') (ra : R' a = some o) (rn : R a = none) {h' : Heap} (keep : ∀ b o, b ≠ a → s.heap.get? b = some o → h'.get? b = some o) :
    SR C env Z R ρ st { s with heap := h' } := by
  obtain ⟨T, hT⟩ := h
  have ta : T a = .r := (hT.r _ _ ra).1
  have kp : ∀ b o, T b ≠ .r → s.heap.get? b = some o → h'.get? b = some o := fun b o q => keep b o (fun z => by subst z; exact q ta)
  exact ⟨T, {
    base := hT.base
    z := fun b o e => ⟨(hT.z b o e).1, kp b o (tne (hT.z b o e).1) (hT.z b o e).2⟩
    r := fun b o1 e1 => by
      have q : b ≠ a := fun z => by subst z; rw [rn] at e1; cases e1
      have := hT.r b o1 (wk b o1 e1)
      exact ⟨this.1, keep b o1 q this.2⟩
    nx := hT.nx
    objs := fun k ao' e' => let ⟨b, h1, h2, o'', h3, h4⟩ := hT.objs k ao' e'; ⟨b, h1, h2, o'', kp b o'' (tne h2) h3, h4⟩
    scope := hT.scope
    kind := hT.kind
    globals := hT.globals
    builtins := hT.builtins
    loc := let ⟨h1, m, h2, h3⟩ := hT.loc; ⟨h1, m, h2.at' fun o e => kp _ o (tne h1) e, h3⟩
    cell := fun x kk h1 h2 => let ⟨c, o, h3, h4, ⟨ob, q1, q2⟩, h6⟩ := hT.cell x kk h1 h2; ⟨c, o, h3, h4, ⟨ob, kp c ob (tne h4) q1, q2⟩, h6⟩
    os := hT.os
    gens := hT.gens
    pin := hT.pin }⟩

theorem SR.toZ {a : Addr} {o : Obj} (h : SR C env Z (R.put a o) ρ st s) (hr : R a = none) : PH.le Z (Z.put a o) ∧ SR C env (Z.put a o) R ρ st s := by
  obtain ⟨T, h⟩ := h
  have ra := h.r a o (PH.put_self ..)
  have hz : Z a = none := by
    cases e : Z a with
    | none => rfl
    | some o' => have := (h.z a o' e).1; rw [ra.1] at this; cases this
  have le := PH.le_put (o := o) hz
  have ne : ∀ b, T b ≠ .r → b ≠ a := fun b q z => by subst z; exact q ra.1
  refine ⟨le, fun b => if b = a then .z else T b, ?_⟩
  exact {
    base := h.base.trans le
    z := fun b o1 e => by
      by_cases q : b = a
      · subst q; rw [PH.put_self] at e; cases e; exact ⟨if_pos rfl, ra.2⟩
      · rw [PH.put_ne _ _ q] at e; rw [if_neg q]; exact h.z b o1 e
    r := fun b o1 e => by
      have q : b ≠ a := fun z => by subst z; rw [hr] at e; cases e
      rw [if_neg q]; exact h.r b o1 (by rw [PH.put_ne _ _ q]; exact e)
    nx := h.nx
    objs := fun n ao e => let ⟨b, h1, h2, o', h3, h4⟩ := h.objs n ao e; ⟨b, h1, by rw [if_neg (ne b (tne h2))]; exact h2, o', h3, h4.mono le (Ext.refl _)⟩
    scope := h.scope
    kind := h.kind
    globals := h.globals
    builtins := h.builtins
    loc := let ⟨h1, m, h2, h3⟩ := h.loc; ⟨by rw [if_neg (ne _ (tne h1))]; exact h1, m, h2, fun x v e1 e2 => let ⟨w, e3, e4⟩ := h3 x v e1 e2; ⟨w, e3, e4.mono le (Ext.refl _)⟩⟩
    cell := fun x kk h1 h2 => let ⟨c, o', h3, h4, h5, h6⟩ := h.cell x kk h1 h2; ⟨c, o', h3, by rw [if_neg (ne c (tne h4))]; exact h4, h5, fun v e => let ⟨w, e3, e4⟩ := h6 v e; ⟨w, e3, e4.mono le (Ext.refl _)⟩⟩
    os := h.os
    gens := h.gens
    pin := h.pin }

noncomputable def del {α : Type} (H : Nat → Option α) (n : Nat) : Nat → Option α := fun k => if k = n then none else H k
theorem del_ne {α : Type} (H : Nat → Option α) {n k : Nat} (h : k ≠ n) : del H n k = H k := if_neg h

theorem SR.freeze (h : SR C env Z R ρ st s) {n : Nat} {xs : List V} (e : st.heap n = some (.list xs)) {w : Value} (r : VR Z ρ (.obj n) w) :
    ∃ Z', PH.le Z Z' ∧ VR Z' ρ (.lst xs) w ∧ SR C env Z' R ρ { st with heap := del st.heap n } s := by
  obtain ⟨a, ws, k, rfl, ea, ho, rs⟩ := h.list e r
  obtain ⟨T, h⟩ := h
  obtain ⟨a', h1, ht, o, h2, _⟩ := h.objs n _ e
  rw [ea] at h1; cases h1
  have hz : Z a = none := by
    cases e : Z a with
    | none => rfl
    | some o' => have := (h.z a o' e).1; rw [ht] at this; cases this
  have le := PH.le_put (o := lobj ws k) hz
  have ne : ∀ b, T b ≠ .ob n → b ≠ a := fun b q z => by subst z; exact q ht
  refine ⟨_, le, .lst (PH.put_self ..) (rs.mono le (Ext.refl _)), fun b => if b = a then .z else T b, ?_⟩
  exact {
    base := h.base.trans le
    z := fun b o1 e => by
      by_cases q : b = a
      · subst q; rw [PH.put_self] at e; cases e; exact ⟨if_pos rfl, ho⟩
      · rw [PH.put_ne _ _ q] at e; rw [if_neg q]; exact h.z b o1 e
    r := fun b o1 e => by
      have q : b ≠ a := ne b (tne (h.r b o1 e).1)
      rw [if_neg q]; exact h.r b o1 e
    nx := h.nx
    objs := fun m ao e' => by
      dsimp only at e'
      by_cases q : m = n
      · subst q; unfold del at e'; rw [if_pos rfl] at e'; cases e'
      · rw [del_ne _ q] at e'
        obtain ⟨b, h1, h2, o', h3, h4⟩ := h.objs m ao e'
        exact ⟨b, h1, by rw [if_neg (ne b (by rw [h2]; intro z; cases z; exact q rfl))]; exact h2, o', h3, h4.mono le (Ext.refl _)⟩
    scope := h.scope
    kind := h.kind
    globals := h.globals
    builtins := h.builtins
    loc := let ⟨h1, m, h2, h3⟩ := h.loc; ⟨by rw [if_neg (ne _ (tne h1))]; exact h1, m, h2, fun x v e1 e2 => let ⟨w, e3, e4⟩ := h3 x v e1 e2; ⟨w, e3, e4.mono le (Ext.refl _)⟩⟩
    cell := fun x kk h1 h2 => let ⟨c, o', h3, h4, h5, h6⟩ := h.cell x kk h1 h2; ⟨c, o', h3, by rw [if_neg (ne c (tne h4))]; exact h4, h5, fun v e => let ⟨w, e3, e4⟩ := h6 v e; ⟨w, e3, e4.mono le (Ext.refl _)⟩⟩
    os := h.os
    gens := h.gens
    pin := h.pin }
theorem j_freeze {m : Env → Sem Value} {Q : V → St → Prop} (h : J C VR m st fun v st' => ∃ n xs, v = .obj n ∧ st'.heap n = some (.list xs) ∧ Q (.lst xs) { st' with heap := del st'.heap n }) : J C VR m st Q :=
  fun env Z R ρ s hs => wp_use (h env Z R ρ s hs) (fun w s' v st' Z' ρ' hz hr rv hs' ⟨n, xs, e1, e2, hq⟩ => by
    subst e1
    obtain ⟨Z'', le, r2, k⟩ := hs'.freeze e2 rv
    exact ⟨_, _, Z'', ρ', hz.trans le, hr, r2, k, hq⟩)
end

noncomputable def Itb (st : St) (v : V) (xs : List V) : Prop :=
  match v with
  | .lst l | .tup l => xs = l
  | .rng lo hi => xs = (List.range (hi - lo).toNat).map (fun i => V.int (lo + (i : Nat))) ∧ -(2 ^ 61) < lo ∧ lo < 2 ^ 61 ∧ -(2 ^ 61) < hi ∧ hi < 2 ^ 61
  | .obj n => st.heap n = some (.list xs)
  | _ => False

inductive IterAt (h : Heap) (I : Addr) : V → Value → Nat → Prop
  | lst {l : List V} {a : Addr} {i : Nat} : h.IsListIter I a i → a ≠ I → IterAt h I (.lst l) (.ref a) i
  | obj {n : Nat} {a : Addr} {i : Nat} : h.IsListIter I a i → a ≠ I → IterAt h I (.obj n) (.ref a) i
  | tup {l : List V} {a : Addr} {i : Nat} : h.IsTupleIter I a i → a ≠ I → IterAt h I (.tup l) (.ref a) i
  | rng {lo hi : Int} {a : Addr} {i : Nat} : IsRangeIter h I (lo + (i : Int)) (((hi - lo).toNat : Int) - (i : Int)) 1 → IterAt h I (.rng lo hi) (.ref a) i
theorem IterAt.at_ {h h' : Heap} {I : Addr} {v : V} {a : Value} {i : Nat} (x : IterAt h I v a i) (k : ∀ o, h.get? I = some o → h'.get? I = some o) : IterAt h' I v a i := by
  cases x with
  | lst x q => exact .lst (x.at k) q
  | obj x q => exact .obj (x.at k) q
  | tup x q => exact .tup (x.at k) q
  | rng x => exact .rng (k _ x)
theorem IterAt.has {h : Heap} {I : Addr} {v : V} {a : Value} {i : Nat} (x : IterAt h I v a i) : ∃ o T, h.get? I = some o ∧ o.cls = .type T ∧ ["enumerate", "zip", "dict_itemiterator", "dict_reverseitemiterator", "odict_iterator", "itertools.zip_longest", "itertools.pairwise"].contains T = false := by
  cases x with
  | lst x q => obtain ⟨o, h1, h2, h3⟩ := x; exact ⟨o, _, h1, h2, by decide⟩
  | obj x q => obtain ⟨o, h1, h2, h3⟩ := x; exact ⟨o, _, h1, h2, by decide⟩
  | tup x q => obtain ⟨o, h1, h2, h3⟩ := x; exact ⟨o, _, h1, h2, by decide⟩
  | rng x => exact ⟨_, _, x, rfl, by decide⟩

theorem letGo_any {M : Model} {A : Around} {E : Value → Shared → Prop} {s : Shared} {target : Expr} {I : Addr} {v : Value} {o : Obj} {T : String} {Q : Unit → Shared → Prop} (ho : s.heap.get? I = some o) (hT : o.cls = .type T)
    (hn : ["enumerate", "zip", "dict_itemiterator", "dict_reverseitemiterator", "odict_iterator", "itertools.zip_longest", "itertools.pairwise"].contains T = false) (h : Q () s) : wpAny M A (letOwnedTupleGo target (.ref I) v) Q E s := by
  have key : ∀ a : Addr, wpAny M A (do
      let o ← load I
      match o.cls, o.data with
      | .type n, .fields vs =>
        if ["enumerate", "zip", "dict_itemiterator", "dict_reverseitemiterator", "odict_iterator", "itertools.zip_longest", "itertools.pairwise"].contains n && vs[0]? == some (rawInt a) then
          rule "for.unpacks-the-owned-tuple"
          updateField I 0 .none
      | _, _ => pure () : Sem Unit) Q E s := fun a => by
    refine wpAny_bind (wpAny_load ho ?_)
    rw [hT]
    cases hd : o.data with
    | fields vs =>
      dsimp only
      rw [hn, Bool.false_and]
      exact wpAny_pure h
    | _ => exact wpAny_pure h
  unfold letOwnedTupleGo
  cases target with
  | Tuple _ _ _ => cases v with
    | ref a => exact key a
    | _ => exact wpAny_pure h
  | List _ _ => cases v with
    | ref a => exact key a
    | _ => exact wpAny_pure h
  | _ => exact wpAny_pure h

section
variable {C : Fx} {env : Env} {Z R : PH} {ρ : List Addr} {st : St} {s : Shared}

theorem size_rng (lo hi : Int) : Builtin.Range.rangeSize lo hi 1 = ((hi - lo).toNat : Int) := by
  unfold Builtin.Range.rangeSize
  simp
  lia
theorem small_rng (lo hi : Int) (h1 : -(2 ^ 61) < lo) (h2 : lo < 2 ^ 61) (h3 : -(2 ^ 61) < hi) (h4 : hi < 2 ^ 61) : Builtin.Range.small lo hi 1 = true := by
  unfold Builtin.Range.small
  rw [size_rng]
  unfold Builtin.Range.rangeFitsLong
  simp
  lia

theorem it_start {v : V} {a : Value} {xs : List V} {Q : Value → Shared → Prop} {E : Value → Shared → Prop} (hs : SR C env Z R ρ st s) (r : VR Z ρ v a) (hi : Itb st v xs)
    (h : ∀ o, o.isFreed = false → (IterAt (s.heap.push o) s.heap.objs.size v a 0) → Q (.ref s.heap.objs.size) { s with heap := s.heap.push o }) : wpAny C.M C.A (pyIter a) Q E s := by
  cases v with
  | lst l =>
    cases r with | lst h1 h2 => 
    have hl := hs.z_ h1
    exact wpAny_pyIter_list ⟨_, hl, rfl, _, rfl⟩ (h _ rfl (.lst ⟨_, Heap.get?_push_size _ rfl, rfl, rfl⟩ (Nat.ne_of_lt (Heap.lt_size hl))))
  | tup l =>
    cases r with | tup h1 h2 => 
    have hl := hs.z_ h1
    exact wpAny_pyIter_tuple ⟨_, hl, rfl, _, rfl⟩ (h _ rfl (.tup ⟨_, Heap.get?_push_size _ rfl, rfl, rfl⟩ (Nat.ne_of_lt (Heap.lt_size hl))))
  | obj n =>
    obtain ⟨a, ws, k, rfl, ea, hl, rs⟩ := hs.list hi r
    exact wpAny_pyIter_list ⟨_, hl, rfl, _, rfl⟩ (h _ rfl (.obj ⟨_, Heap.get?_push_size _ rfl, rfl, rfl⟩ (Nat.ne_of_lt (Heap.lt_size hl))))
  | rng lo up =>
    cases r with | rng h1 =>
    refine wpAny_pyIter_range (h1 _ fun o e => hs.z_ e) (small_rng lo up hi.2.1 hi.2.2.1 hi.2.2.2.1 hi.2.2.2.2) (h _ rfl (.rng ?_))
    rw [size_rng]
    have := Heap.get?_push_size s.heap (o := { cls := .type "range_iterator", data := .fields #[rawInt lo, rawInt ((up - lo).toNat : Int), rawInt 1] }) rfl
    simpa using this
  | _ => exact hi.elim

theorem it_next {v : V} {a : Value} {xs : List V} {I : Addr} {i : Nat} {x : V} {Q : Option Value → Shared → Prop} {E : Value → Shared → Prop} (hs : SR C env Z R ρ st s) (r : VR Z ρ v a) (hi : Itb st v xs) (hI : IterAt s.heap I v a i) (hx : xs[i]? = some x)
    (h : ∀ w h' tk, VR Z ρ x w → IterAt h' I v a (i + 1) → (∀ b o, b ≠ I → s.heap.get? b = some o → h'.get? b = some o) → Q (some w) { s with heap := h', toks := tk }) : wpAny C.M C.A (pyNext (.ref I)) Q E s := by
  cases hI with
  | lst q1 q2 =>
    obtain rfl : xs = _ := hi
    cases r with | lst h1 h2 => 
    obtain ⟨w, hw, rw⟩ := h2.get i x hx
    exact wpAny_pyNext_list_item q1 ⟨_, hs.z_ h1, rfl, _, rfl⟩ (by simpa using hw) fun h' k1 k2 => h w h' _ rw (.lst k1 q2) k2.extBut
  | obj q1 q2 =>
    obtain ⟨a', ws, k, e, ea, hl, rs⟩ := hs.list hi r
    cases e
    obtain ⟨w, hw, rw⟩ := rs.get i x hx
    exact wpAny_pyNext_list_item q1 ⟨_, hl, rfl, _, rfl⟩ (by simpa using hw) fun h' k1 k2 => h w h' _ rw (.obj k1 q2) k2.extBut
  | tup q1 q2 =>
    obtain rfl : xs = _ := hi
    cases r with | tup h1 h2 => 
    obtain ⟨w, hw, rw⟩ := h2.get i x hx
    exact wpAny_pyNext_tuple_item q1 ⟨_, hs.z_ h1, rfl, _, rfl⟩ (by simpa using hw) fun h' k1 k2 => h w h' _ rw (.tup k1 q2) k2.extBut
  | @rng lo up _ _ q1 =>
    obtain ⟨rfl, hb⟩ := hi
    have hlt : i < _ := (List.getElem?_eq_some_iff.mp hx).1
    simp at hlt
    have hxe : x = V.int (lo + (i : Nat)) := by
      rw [List.getElem?_map, List.getElem?_range (by lia)] at hx
      exact (Option.some.inj hx).symm
    subst hxe
    refine wpAny_pyNext_range_item q1 (by lia) fun h' k1 k2 => h _ h' _ (.int _ _) (.rng ?_) k2.extBut
    have e2 : ((up - lo).toNat : Int) - ((i + 1 : Nat) : Int) = ((up - lo).toNat : Int) - (i : Int) - 1 := by push_cast; lia
    have e1 : lo + (((i + 1 : Nat) : Int)) = lo + (i : Int) + 1 := by push_cast; lia
    rw [e2, e1]; exact k1

theorem it_end {v : V} {a : Value} {xs : List V} {I : Addr} {Q : Option Value → Shared → Prop} {E : Value → Shared → Prop} (hs : SR C env Z R ρ st s) (r : VR Z ρ v a) (hi : Itb st v xs) (hI : IterAt s.heap I v a xs.length)
    (h : ∀ h', (∀ b o, b ≠ I → s.heap.get? b = some o → h'.get? b = some o) → Q none { s with heap := h' }) : wpAny C.M C.A (pyNext (.ref I)) Q E s := by
  cases hI with
  | lst q1 q2 =>
    obtain rfl : xs = _ := hi
    cases r with | lst h1 h2 => 
    have := h2.toArr
    exact wpAny_pyNext_list_end rfl q1 ⟨_, hs.z_ h1, rfl, _, rfl⟩ (by simp; lia) fun h' k => h h' k
  | obj q1 q2 =>
    obtain ⟨a', ws, k, e, ea, hl, rs⟩ := hs.list hi r
    cases e
    have := rs.toArr
    exact wpAny_pyNext_list_end rfl q1 ⟨_, hl, rfl, _, rfl⟩ (by simp; lia) fun h' k => h h' k
  | tup q1 q2 =>
    obtain rfl : xs = _ := hi
    cases r with | tup h1 h2 => 
    have := h2.toArr
    exact wpAny_pyNext_tuple_end rfl q1 ⟨_, hs.z_ h1, rfl, _, rfl⟩ (by simp; lia) fun h' k => h h' k
  | rng q1 =>
    obtain ⟨rfl, hb⟩ := hi
    exact wpAny_pyNext_range_end rfl q1 (by simp) fun h' k => h h' k
end

noncomputable def JA (C : Fx) (t : Expr) (x : V) (st : St) (Q : St → Prop) : Prop := ∀ env Z R ρ s w, SR C env Z R ρ st s → VR Z ρ x w → wpAny C.M C.A (assign t env w) (Post C env Z R ρ rUnit fun _ => Q) noE s

section
variable {C : Fx} {st : St}
theorem a_Name {x : Str} {px : Pos} {v : V} {k : NameKind} {Q : St → Prop} (h : Q { st with vars := setv x v st.vars }) (hk : C.sc.names.lookup x = some k) (hkk : k = .local ∨ k = .cell := by decide) : JA C (.Name x px) v st Q :=
  fun env Z R ρ s w hs r => wpAny_assign_Name (store_ (Q := fun _ => Q) hk h hkk hs r)

inductive ForI (C : Fx) (env : Env) (Z R : PH) (ρ : List Addr) (Ia : Addr) (v : V) (a : Value) (xs : List V) (I : Nat → St → Prop) (n : Nat) (s' : Shared) : Prop
  | mk (i : Nat) (st' : St) (Z' : PH) (ρ' : List Addr) (o' : Obj) (e : n = xs.length + 1 - i) (hle : i ≤ xs.length) (hz : PH.le Z Z') (hr : Ext ρ ρ') (hs : SR C env Z' (R.put Ia o') ρ' st' s') (at_ : IterAt s'.heap Ia v a i) (hI : I i st')
noncomputable abbrev WhyI (C : Fx) (env : Env) (Z R : PH) (ρ : List Addr) (Ia : Addr) (v : V) (a : Value) (xs : List V) (I : Nat → St → Prop) (n : Nat) (s' : Shared) (X : Prop) : Prop := X → ∃ m, m < n ∧ ForI C env Z R ρ Ia v a xs I m s'
theorem PH.put_two (R : PH) (a : Addr) (o o' : Obj) : (R.put a o).put a o' = R.put a o' := by funext b; unfold PH.put; split <;> rfl
inductive ForP (C : Fx) (target : Expr) (body orelse : List Stmt) (Q : FlowA → St → Prop) (v : V) (st₁ : St) : Prop
  | mk (xs : List V) (I : Nat → St → Prop) (i0 : I 0 st₁) (itb : ∀ i st, I i st → Itb st v xs)
    (turn : ∀ i x st, xs[i]? = some x → I i st → JA C target x st fun st₂ => JX C body st₂ fun f st₃ => match f with | .next | .cont => I (i + 1) st₃ | .brk => Q .next st₃ | .ret v => Q (.ret v) st₃)
    (fin : ∀ st, I xs.length st → JX C orelse st Q)
theorem x_For {target iter : Expr} {body orelse : List Stmt} {pos : Pos} {Q : FlowA → St → Prop}
    (h : J C VR (eval iter) st (ForP C target body orelse Q))
    (hs : ∀ env x, foldedSetIterable iter env x = pure x := by intro _ _; rfl) : JX1 C (.For target iter body orelse pos) st Q :=
  fun env Z R ρ s hs' => wp_gen fun P hP => wpAny_For (wp_use (h env Z R ρ s hs') (fun a s₁ v st₁ Z₁ ρ₁ hz₁ hr₁ rv hs₁ hF => hF.rec fun xs I i0 itb turn fin => by
    refine it_start hs₁ rv (itb 0 st₁ i0) fun o hf hit => ?_
    have rn := hs₁.rfresh (fresh_none s₁.heap)
    obtain ⟨le, hs₂⟩ := hs₁.allocR o s₁.toks hf
    refine codeAny_forLoop_any (ForI C env Z₁ R ρ₁ s₁.heap.objs.size v a xs I) ?_ _
      ⟨0, st₁, Z₁, ρ₁, o, rfl, Nat.zero_le _, PH.le.refl _, Ext.refl _, hs₂, hit, i0⟩
    clear le hs₂ hit i0
    generalize s₁.heap.objs.size = Ia at rn
    intro n s' ii
    refine ii.rec fun i st' Z' ρ' o' en hle hz hr k at_ hI => ?_
    have hz1 := hz₁.trans hz
    have hr1 := hr₁.trans hr
    by_cases hlt : i < xs.length
    · refine it_next k (rv.mono hz hr) (itb i st' hI) at_ (List.getElem?_eq_getElem hlt) fun w h' tk rw at' keep => ?_
      refine at'.has.elim fun o2 q => q.elim fun T q => ?_
      have k2 := k.updR (tk := tk) (PH.put_self ..) keep q.1
      rw [PH.put_two] at k2
      refine letGo_any q.1 q.2.1 q.2.2 ?_
      refine wp_use (turn i _ st' (List.getElem?_eq_getElem hlt) hI env Z' _ ρ' _ w k2 rw) (fun _ s₃ _ st₃ Z₃ ρ₃ hz₃ hr₃ _ hs₃ jx => ?_)
      refine wp_use (jx env Z₃ _ ρ₃ s₃ hs₃) (fun f s₄ g st₄ Z₄ ρ₄ hz₄ hr₄ rf hs₄ hq => ?_)
      have hz' := hz₃.trans hz₄
      have hr' := hr₃.trans hr₄
      have back := hs₄.weaken (PH.le_put rn)
      have at4 : WhyI C env Z₁ R ρ₁ Ia v a xs I n s₄ (I (i + 1) st₄) := fun hq => ⟨xs.length + 1 - (i + 1), by rw [en]; lia, i + 1, st₄, Z₄, ρ₄, o2, rfl, hlt, hz.trans hz', hr.trans hr', hs₄, at'.at_ fun oo e => by rw [q.1] at e; cases e; exact hs₄.r_ (PH.put_self ..), hq⟩
      cases rf with
      | next => exact at4 hq
      | cont => exact at4 hq
      | brk => exact hP _ _ ⟨_, st₄, Z₄, ρ₄, hz1.trans hz', hr1.trans hr', .next, back, hq⟩
      | ret rv => exact hP _ _ ⟨_, st₄, Z₄, ρ₄, hz1.trans hz', hr1.trans hr', .ret rv, back, hq⟩
    · obtain rfl : i = xs.length := by lia
      refine it_end k (rv.mono hz hr) (itb _ st' hI) at_ fun h' keep => ?_
      exact wp_use (fin st' hI env Z' R ρ' _ (k.lose (PH.le_put rn) (PH.put_self ..) rn keep)) fun _ _ _ _ _ _ hz2 hr2 r hs₂ h₂ => hP _ _ ⟨_, _, _, _, hz1.trans hz2, hr1.trans hr2, r, hs₂, h₂⟩)) (hs env)
end
end Mine
end
section -- MComp
set_option maxRecDepth 100000
namespace Mine
open PySem PySem.W PyProof.Rows

noncomputable def relab (sc scope : Scope) : Scope :=
  { scope with names := scope.names.map fun (n, k) => if (k == .free && sc.kind == .function && sc.names.lookup n == some .cell) then (n, .cell) else (n, k) }
noncomputable def Fx.comp (C : Fx) (scope : Scope) : Fx := { C with sc := relab C.sc scope }
noncomputable def inner (scope : Scope) (vars : List (Str × V)) : List (Str × V) := vars.filter fun p => scope.names.lookup p.1 == some .free

theorem relab_eq {C : Fx} {env : Env} {Z R : PH} {ρ : List Addr} {st : St} {s : Shared} (hs : SR C env Z R ρ st s) (scope : Scope) : relabel scope env = relab C.sc scope := by
  unfold relabel relab
  congr 1
  refine List.map_congr_left fun p _ => ?_
  rw [hs.scope_]
  simp only [hs.kindOf_]

theorem lookup_relab (sc : Scope) (x : Str) : ∀ (names : List (Str × NameKind)),
    (names.map fun (n, k) => if (k == NameKind.free && sc.kind == .function && sc.names.lookup n == some .cell) then (n, NameKind.cell) else (n, k)).lookup x =
      (names.lookup x).map fun k => if (k == NameKind.free && sc.kind == .function && sc.names.lookup x == some .cell) then .cell else k
  | [] => rfl
  | (n, k) :: r => by
    have ih := lookup_relab sc x r
    show List.lookup x ((if (k == NameKind.free && sc.kind == .function && sc.names.lookup n == some .cell) = true then (n, NameKind.cell) else (n, k)) :: _) = _
    cases hx : x == n with
    | true =>
      have e := beq_iff_eq.mp hx; subst e
      by_cases q : (k == NameKind.free && sc.kind == .function && sc.names.lookup x == some .cell) = true
      · rw [if_pos q, List.lookup_cons, List.lookup_cons, hx]; exact (congrArg some (if_pos q)).symm
      · rw [if_neg q, List.lookup_cons, List.lookup_cons, hx]; exact (congrArg some (if_neg q)).symm
    | false =>
      by_cases q : (k == NameKind.free && sc.kind == .function && sc.names.lookup n == some .cell) = true
      · rw [if_pos q, List.lookup_cons, List.lookup_cons, hx]; exact ih
      · rw [if_neg q, List.lookup_cons, List.lookup_cons, hx]; exact ih

theorem inner_lookup {scope : Scope} {x : Str} {v : V} : ∀ {vars : List (Str × V)}, (inner scope vars).lookup x = some v → scope.names.lookup x = some .free ∧ vars.lookup x = some v
  | [], h => by cases h
  | (y, u) :: r, h => by
    unfold inner at h
    rw [List.filter_cons] at h
    cases hx : x == y with
    | true =>
      have e := beq_iff_eq.mp hx; subst e
      split at h
      · rename_i q
        rw [List.lookup_cons, hx] at h
        exact ⟨by simpa using q, by rw [List.lookup_cons, hx]; exact h⟩
      · rename_i q
        have := (inner_lookup (vars := r) h).1
        exact absurd this (by simpa using q)
    | false =>
      split at h
      · rw [List.lookup_cons, hx] at h
        have := inner_lookup (vars := r) h
        exact ⟨this.1, by rw [List.lookup_cons, hx]; exact this.2⟩
      · have := inner_lookup (vars := r) h
        exact ⟨this.1, by rw [List.lookup_cons, hx]; exact this.2⟩

theorem closure_some {env : Env} : ∀ (names : List (Str × NameKind)) (acc : List (Str × Addr)), (∀ p ∈ names, p.2 = .free → ∃ c, env.cells.lookup p.1 = some c) → (names.map (·.1)).Nodup → (∀ p ∈ names, acc.lookup p.1 = none) →
    ∃ cl, (forIn names acc fun p cs => (if (p.2 == NameKind.free) = true then (do let a ← cellOf env p.1; pure (ForInStep.yield ((p.1, a) :: cs))) else pure (ForInStep.yield cs) : Sem _)) = pure cl ∧
      (∀ x, names.lookup x = some .free → cl.lookup x = env.cells.lookup x) ∧ (∀ x, names.lookup x ≠ some .free → cl.lookup x = acc.lookup x)
  | [], acc, _, _, _ => ⟨acc, rfl, fun _ h => by simp at h, fun _ _ => rfl⟩
  | (n, k) :: r, acc, h, nd, ha => by
    rw [List.map_cons, List.nodup_cons] at nd
    have hn : r.lookup n = none := by
      cases z : r.lookup n with
      | none => rfl
      | some z' => exact absurd (List.mem_map.mpr ⟨_, PySem.mem_of_lookup z, rfl⟩) nd.1
    rw [List.forIn_cons]
    by_cases hk : k = .free
    · subst hk
      obtain ⟨c, hc⟩ := h _ List.mem_cons_self rfl
      obtain ⟨cl, h1, h2, h3⟩ := closure_some r ((n, c) :: acc) (fun p hp => h p (List.mem_cons_of_mem _ hp)) nd.2 fun p hp => by
        rw [List.lookup_cons]
        have : (p.1 == n) = false := beq_eq_false_iff_ne.mpr fun e => nd.1 (by rw [← e]; exact List.mem_map_of_mem (f := (·.1)) hp)
        rw [this]; exact ha p (List.mem_cons_of_mem _ hp)
      have hc' : cellOf env n = pure c := by unfold cellOf; rw [show env.cells.lookup n = some c from hc]
      refine ⟨cl, ?_, fun x hx => ?_, fun x hx => ?_⟩
      · simp only [beq_self_eq_true, if_true, hc', pure_bind]
        exact h1
      · rw [List.lookup_cons] at hx
        cases q : x == n with
        | true =>
          have e := beq_iff_eq.mp q; subst e
          rw [h3 x (by rw [hn]; simp), List.lookup_cons, q, hc]
        | false => rw [q] at hx; exact h2 x hx
      · rw [List.lookup_cons] at hx
        cases q : x == n with
        | true => rw [q] at hx; exact absurd rfl hx
        | false =>
          rw [q] at hx
          rw [h3 x hx, List.lookup_cons, q]
    · obtain ⟨cl, h1, h2, h3⟩ := closure_some r acc (fun p hp => h p (List.mem_cons_of_mem _ hp)) nd.2 fun p hp => ha p (List.mem_cons_of_mem _ hp)
      have hk' : (k == NameKind.free) = false := by simpa using hk
      refine ⟨cl, ?_, fun x hx => ?_, fun x hx => ?_⟩
      · simp only [hk', Bool.false_eq_true, if_false, pure_bind]
        exact h1
      · rw [List.lookup_cons] at hx
        cases q : x == n with
        | true => rw [q] at hx; cases hx; exact absurd rfl hk
        | false => rw [q] at hx; exact h2 x hx
      · rw [List.lookup_cons] at hx
        cases q : x == n with
        | true =>
          have e := beq_iff_eq.mp q; subst e
          exact h3 x (by rw [hn]; simp)
        | false => rw [q] at hx; exact h3 x hx

theorem cellsFrom_acc : ∀ (names : List (Str × NameKind)) (n : Nat) (acc : List (Str × Addr)) (x : Str), names.lookup x ≠ some .cell → (names.map (·.1)).Nodup → (cellsFrom n names acc).lookup x = acc.lookup x
  | [], _, _, _, _, _ => rfl
  | (y, k) :: r, n, acc, x, h, nd => by
    rw [List.map_cons, List.nodup_cons] at nd
    rw [List.lookup_cons] at h
    unfold cellsFrom
    cases q : x == y with
    | true =>
      have e := beq_iff_eq.mp q; subst e
      rw [q] at h
      have hn : r.lookup x ≠ some .cell := fun z => nd.1 (List.mem_map.mpr ⟨_, PySem.mem_of_lookup z, rfl⟩)
      have hk : (k == NameKind.cell) = false := by
        cases k <;> first | rfl | exact absurd rfl h
      rw [hk]
      exact cellsFrom_acc r n acc x hn nd.2
    | false =>
      rw [q] at h
      split
      · rw [cellsFrom_acc r _ _ x h nd.2, List.lookup_cons, q]
      · exact cellsFrom_acc r _ _ x h nd.2

theorem cellsFrom_new : ∀ (names : List (Str × NameKind)) (n : Nat) (acc : List (Str × Addr)) (x : Str), names.lookup x = some .cell → (names.map (·.1)).Nodup → ∃ c, (cellsFrom n names acc).lookup x = some c ∧ (x, c) ∈ cellsFrom n names [] 
  | [], _, _, _, h, _ => by cases h
  | (y, k) :: r, n, acc, x, h, nd => by
    rw [List.map_cons, List.nodup_cons] at nd
    rw [List.lookup_cons] at h
    unfold cellsFrom
    cases q : x == y with
    | true =>
      have e := beq_iff_eq.mp q; subst e
      rw [q] at h; cases h
      have hn : r.lookup x ≠ some .cell := fun z => nd.1 (List.mem_map.mpr ⟨_, PySem.mem_of_lookup z, rfl⟩)
      refine ⟨n, ?_, ?_⟩
      · simp only [beq_self_eq_true, if_true]
        rw [cellsFrom_acc r _ _ x hn nd.2, List.lookup_cons, q]
      · simp only [beq_self_eq_true, if_true]
        apply PySem.mem_of_lookup
        rw [cellsFrom_acc r _ _ x hn nd.2, List.lookup_cons, q]
    | false =>
      rw [q] at h
      split
      · obtain ⟨c, h1, h2⟩ := cellsFrom_new r (n + 1) ((y, n) :: acc) x h nd.2
        refine ⟨c, h1, ?_⟩
        exact mono r (n + 1) [] _ (by simp) _ h2
      · exact cellsFrom_new r n acc x h nd.2
where
  mono : ∀ (names : List (Str × NameKind)) (n : Nat) (acc acc' : List (Str × Addr)), (∀ p ∈ acc, p ∈ acc') → ∀ p, p ∈ cellsFrom n names acc → p ∈ cellsFrom n names acc'
  | [], _, _, _, h, p, hp => h p hp
  | (y, k) :: r, n, acc, acc', h, p, hp => by
    unfold cellsFrom at hp ⊢
    split
    · rename_i q; rw [if_pos q] at hp
      exact mono r (n + 1) _ _ (fun z hz => by
        rcases List.mem_cons.mp hz with e | hz
        · rw [e]; exact List.mem_cons_self
        · exact List.mem_cons_of_mem _ (h z hz)) p hp
    · rename_i q; rw [if_neg q] at hp
      exact mono r n _ _ h p hp

noncomputable def FSc (C : Fx) (env : Env) (scope : Scope) (b : Addr) : Prop := b = env.locals ∨ ∃ x k, C.sc.names.lookup x = some k ∧ (k = .cell ∨ k = .free) ∧ env.cells.lookup x = some b ∧ scope.names.lookup x ≠ some .free
open Classical in
noncomputable def framedC (C : Fx) (env : Env) (scope : Scope) (R : PH) (h : Heap) : PH := fun b => if FSc C env scope b then h.get? b else R b
theorem framedC_put {C : Fx} {env : Env} {scope : Scope} {R : PH} {h : Heap} {a : Addr} {o : Obj} (ha : ¬ FSc C env scope a) : (framedC C env scope R h).put a o = framedC C env scope (R.put a o) h := by
  classical
  funext b
  unfold framedC PH.put
  by_cases q : b = a
  · subst q; rw [if_pos rfl, if_neg ha, if_pos rfl]
  · rw [if_neg q]
    by_cases z : FSc C env scope b
    · simp only [if_pos z]
    · simp only [if_neg z, if_neg q]

theorem enterC {C : Fx} {env env' : Env} {Z R : PH} {ρ : List Addr} {st : St} {s s₁ : Shared} {cl : List (Str × Addr)} {scope : Scope} {tk : Nat}
    (hs : SR C env Z R ρ st s) (hk : scope.kind = .function) (nd : (scope.names.map (·.1)).Nodup) (hcl : ∀ x, scope.names.lookup x = some .free → cl.lookup x = env.cells.lookup x)
    (hfree : ∀ x, scope.names.lookup x = some .free → C.sc.names.lookup x = some .cell ∨ C.sc.names.lookup x = some .free)
    (he : env' = { scope := relab C.sc scope, locals := s.heap.objs.size, globals := env.globals, cells := cellsFrom (s.heap.objs.size + 1) scope.names cl, qual := env.qual, func := none, code := env.code, frame := env.frame, builtins := env.builtins })
    (hh : s₁ = { s with heap := pushCells (s.heap.push { cls := .type "dict", data := .dict #[] }) scope.names, toks := tk }) :
    SR (C.comp scope) env' Z (framedC C env scope R s.heap) ρ { st with vars := inner scope st.vars } s₁ ∧ (∀ b o, R b = some o → ¬ FS C env b) ∧
    (∀ b o, s.heap.get? b = some o → s₁.heap.get? b = some o) ∧
    ∀ Z' R' ρ' st' s', PH.le Z Z' → Ext ρ ρ' → (∀ b o, R' b = some o → ¬ FS C env b) → SR (C.comp scope) env' Z' (framedC C env scope R' s.heap) ρ' st' s' →
      (∀ x v, scope.names.lookup x = some .free → st.vars.lookup x = some v → st'.vars.lookup x = some v) → ∀ oL, s'.heap.get? env'.locals = some oL → SR C env Z' (R'.put env'.locals oL) ρ' { st' with vars := st.vars } s' := by
  classical
  obtain ⟨T, h⟩ := hs
  have hkeep : ∀ b o, s.heap.get? b = some o → s₁.heap.get? b = some o := fun b o e => by rw [hh]; exact pushCells_keeps _ _ b o (Heap.get?_push_of_some _ e)
  have hL : env'.locals = s.heap.objs.size := congrArg Env.locals he
  have hcs : env'.cells = cellsFrom (s.heap.objs.size + 1) scope.names cl := congrArg Env.cells he
  have hlook : ∀ x, (C.comp scope).sc.names.lookup x = (scope.names.lookup x).map fun k => if (k == NameKind.free && C.sc.kind == .function && C.sc.names.lookup x == some .cell) then .cell else k := fun x => lookup_relab C.sc x scope.names
  have ok := cellsFrom_ok scope.names (s.heap.push { cls := .type "dict", data := .dict #[] }) (s.heap.objs.size + 1) [] ⟨fun _ _ hm => (nomatch hm), List.Pairwise.nil⟩ (by rw [Heap.size_push]; exact Nat.le_refl _)
  rw [Heap.size_push] at ok
  obtain ⟨hl, m, hn, hm⟩ := h.loc
  have fsSome : ∀ b, FS C env b → ∃ o, s.heap.get? b = some o := fun b q => by
    rcases q with rfl | ⟨y, k, e1, e2, e3⟩
    · obtain ⟨o, _, _, ho, _⟩ := hn; exact ⟨o, ho⟩
    · obtain ⟨c, o, h1, _, ⟨ob, h2, _⟩, _⟩ := h.cell y k e1 e2
      rw [e3] at h1; cases h1; exact ⟨ob, h2⟩
  have fsTag : ∀ b, FS C env b → T b = .fl ∨ ∃ y k, T b = .fc y ∧ C.sc.names.lookup y = some k ∧ (k = .cell ∨ k = .free) ∧ env.cells.lookup y = some b := fun b q => by
    rcases q with rfl | ⟨y, k, e1, e2, e3⟩
    · exact .inl hl
    · obtain ⟨c, o, h1, h2, _⟩ := h.cell y k e1 e2
      rw [e3] at h1; cases h1; exact .inr ⟨y, k, h2, e1, e2, e3⟩
  have sub : ∀ b, FSc C env scope b → FS C env b := fun b q => by
    rcases q with rfl | ⟨y, k, e1, e2, e3, _⟩
    · exact .inl rfl
    · exact .inr ⟨y, k, e1, e2, e3⟩
  have notTaken : ∀ b x k, FSc C env scope b → C.sc.names.lookup x = some k → (k = .cell ∨ k = .free) → env.cells.lookup x = some b → scope.names.lookup x ≠ some .free := fun b x k q e1 e2 e3 => by
    obtain ⟨c, o, h1, h2, _⟩ := h.cell x k e1 e2
    rw [e3] at h1; cases h1
    rcases q with rfl | ⟨y, k', f1, f2, f3, f4⟩
    · rw [hl] at h2; cases h2
    · obtain ⟨c', o', g1, g2, _⟩ := h.cell y k' f1 f2
      rw [f3] at g1; cases g1
      rw [h2] at g2; cases g2; exact f4
  have old : ∀ b o, s.heap.get? b = some o → b ≠ s.heap.objs.size ∧ (cellsFrom (s.heap.objs.size + 1) scope.names []).find? (fun p => p.2 == b) = none := fun b o e => by
    have lt := Heap.lt_size e
    refine ⟨Nat.ne_of_lt lt, ?_⟩
    rw [List.find?_eq_none]
    intro p hp hpb
    have e := beq_iff_eq.mp hpb
    have := (ok.empty p.1 p.2 hp).2
    rw [e] at this
    exact Nat.lt_irrefl _ (Nat.lt_of_lt_of_le lt (Nat.le_of_succ_le this))
  have rIn : ∀ b o, R b = some o → ¬ FS C env b := fun b o e q => by
    rcases fsTag b q with z | ⟨y, k, z, _⟩ <;> rw [(h.r b o e).1] at z <;> cases z
  let T' : Addr → Tag := fun b => if b = s.heap.objs.size then .fl else match (cellsFrom (s.heap.objs.size + 1) scope.names []).find? (fun p => p.2 == b) with
    | some p => .fc p.1
    | none => if FSc C env scope b then .r else T b
  have T'old : ∀ b o, s.heap.get? b = some o → T' b = if FSc C env scope b then .r else T b := fun b o e => by
    show (if b = s.heap.objs.size then Tag.fl else _) = _
    rw [if_neg (old b o e).1, (old b o e).2]
  have hos : s₁.os = s.os := (congrArg (fun x : Shared => x.os) hh : _)
  have hgens : s₁.gens = s.gens := (congrArg (fun x : Shared => x.gens) hh : _)
  have hdrawn : s₁.drawn = s.drawn := (congrArg (fun x : Shared => x.drawn) hh : _)
  refine ⟨⟨T', ?_⟩, rIn, hkeep, fun Z' R' ρ' st' s' hz hr hR' ⟨T2, k⟩ hvars oL hoL => ?_⟩
  · exact {
      base := h.base
      z := fun b o e => by
        have e1 := h.z b o e
        refine ⟨?_, hkeep _ _ e1.2⟩
        rw [T'old b o e1.2, if_neg fun q => ?_]
        · exact e1.1
        · rcases fsTag b (sub b q) with z | ⟨y, k, z, _⟩ <;> rw [e1.1] at z <;> cases z
      r := fun b o e => by
        unfold framedC at e
        by_cases q : FSc C env scope b
        · rw [if_pos q] at e
          exact ⟨by rw [T'old b o e, if_pos q], hkeep _ _ e⟩
        · rw [if_neg q] at e
          have e1 := h.r b o e
          exact ⟨by rw [T'old b o e1.2, if_neg q]; exact e1.1, hkeep _ _ e1.2⟩
      nx := h.nx
      objs := fun n ao e => by
        obtain ⟨b, h1, h2, o, h3, h4⟩ := h.objs n ao e
        refine ⟨b, h1, ?_, o, hkeep _ _ h3, h4⟩
        rw [T'old b o h3, if_neg fun q => ?_]
        · exact h2
        · rcases fsTag b (sub b q) with z | ⟨y, k, z, _⟩ <;> rw [h2] at z <;> cases z
      scope := congrArg Env.scope he
      kind := hk
      globals := (congrArg Env.globals he).trans h.globals
      builtins := (congrArg Env.builtins he).trans h.builtins
      loc := by
        refine ⟨by rw [hL]; exact if_pos rfl, fun _ => none, ?_, fun y v e1 e2 => ?_⟩
        · rw [hL, hh]
          exact (Heap.Ns.new s.heap (.type "dict")).keeps (pushCells_keeps _ _)
        · have := (inner_lookup e1).1
          rw [hlook, this] at e2
          simp at e2
          split at e2 <;> cases e2
      cell := fun y kk e1 e2 => by
        rw [hlook] at e1
        cases q : scope.names.lookup y with
        | none => rw [q] at e1; cases e1
        | some k0 =>
          rw [q] at e1
          by_cases qf : k0 = .free
          · subst qf
            have hcc : env'.cells.lookup y = env.cells.lookup y := by
              rw [hcs, cellsFrom_acc _ _ _ _ (by rw [q]; simp) nd]; exact hcl y q
            obtain ⟨c, o, h1, h2, ⟨ob, h3, h3'⟩, h4⟩ : ∃ c o, env.cells.lookup y = some c ∧ T c = .fc y ∧ s.heap.IsCell c o ∧ ∀ v, st.vars.lookup y = some v → ∃ w, o = some w ∧ VR Z ρ v w := by
              rcases hfree y q with f | f
              · exact h.cell y _ f (.inl rfl)
              · exact h.cell y _ f (.inr rfl)
            refine ⟨c, o, hcc.trans h1, ?_, ⟨ob, hkeep _ _ h3, h3'⟩, fun v e => h4 v (inner_lookup e).2⟩
            rw [T'old c ob h3, if_neg fun z => ?_]
            · exact h2
            · rcases hfree y q with f | f
              · exact notTaken c y _ z f (.inl rfl) h1 q
              · exact notTaken c y _ z f (.inr rfl) h1 q
          · have hkc : k0 = .cell := by
              simp at e1
              rw [if_neg (by intro z; exact qf z.1.1)] at e1
              subst e1
              rcases e2 with e | e
              · exact e
              · exact absurd e qf
            subst hkc
            obtain ⟨c, h1, h2⟩ := cellsFrom_new scope.names (s.heap.objs.size + 1) cl y q nd
            have emp := ok.empty y c h2
            refine ⟨c, none, by rw [hcs]; exact h1, ?_, by rw [hh]; exact emp.1, fun v e => ?_⟩
            · show (if c = s.heap.objs.size then Tag.fl else _) = _
              rw [if_neg (fun z => by have := emp.2; rw [z] at this; exact Nat.lt_irrefl _ this)]
              have : ((cellsFrom (s.heap.objs.size + 1) scope.names []).find? fun p => p.2 == c).isSome := List.find?_isSome.mpr ⟨(y, c), h2, by simp⟩
              obtain ⟨p, hp⟩ := Option.isSome_iff_exists.mp this
              rw [hp]
              have pm := List.mem_of_find?_eq_some hp
              have pe : p.2 = c := beq_iff_eq.mp (List.find?_some (p := fun (p : Str × Addr) => p.2 == c) hp)
              have : p.1 = y := name_of_addr ok.apart (c := c) (by rw [← pe]; exact pm) h2
              exact congrArg Tag.fc this
            · have := (inner_lookup e).1
              rw [q] at this; cases this
      os := hos.trans h.os
      gens := by rw [hgens, hdrawn]; exact h.gens
      pin := h.pin }
  · have fsIn : ∀ b o, FSc C env scope b → s.heap.get? b = some o → T2 b = .r ∧ s'.heap.get? b = some o := fun b o q e => k.r b o (by unfold framedC; rw [if_pos q]; exact e)
    have rOut : ∀ b o, R' b = some o → T2 b = .r ∧ s'.heap.get? b = some o := fun b o e => k.r b o (by unfold framedC; rw [if_neg fun q => hR' b o e (sub b q)]; exact e)
    -- a taken cell
    have taken : ∀ x kk, C.sc.names.lookup x = some kk → (kk = .cell ∨ kk = .free) → scope.names.lookup x = some .free → ∀ c, env.cells.lookup x = some c → T2 c = .fc x ∧ ∃ o, s'.heap.IsCell c o ∧ ∀ v, st'.vars.lookup x = some v → ∃ w, o = some w ∧ VR Z' ρ' v w := fun x kk e1 e2 e3 c e4 => by
      obtain ⟨c', o, h1, h2, h3, h4⟩ := k.cell x (if (NameKind.free == NameKind.free && C.sc.kind == .function && C.sc.names.lookup x == some .cell) then .cell else .free) (by rw [hlook, e3]; rfl) (by split <;> simp)
      have hcc : env'.cells.lookup x = env.cells.lookup x := by
        rw [hcs, cellsFrom_acc _ _ _ _ (by rw [e3]; simp) nd]; exact hcl x e3
      rw [hcc, e4] at h1; cases h1
      exact ⟨h2, o, h3, h4⟩
    have tagFS : ∀ b, FS C env b → T2 b = .r ∨ ∃ y, T2 b = .fc y := fun b q => by
      rcases q with rfl | ⟨x, kk, e1, e2, e3⟩
      · obtain ⟨o, e⟩ := fsSome _ (.inl rfl); exact .inl (fsIn _ o (.inl rfl) e).1
      · by_cases f : scope.names.lookup x = some .free
        · exact .inr ⟨x, (taken x kk e1 e2 f b e3).1⟩
        · obtain ⟨o, e⟩ := fsSome b (.inr ⟨x, kk, e1, e2, e3⟩); exact .inl (fsIn b o (.inr ⟨x, kk, e1, e2, e3, f⟩) e).1
    have tL : T2 env'.locals = .fl := k.loc.1
    have nFS : ¬ FS C env env'.locals := fun q => by
      obtain ⟨o, e⟩ := fsSome _ q
      rw [hL, fresh_none] at e; cases e
    refine ⟨fun b => if FS C env b then T b else if b = env'.locals then .r else if (R' b).isSome then .r else match T2 b with | .z => .z | .ob n => .ob n | _ => .free, ?_⟩
    have tz : ∀ b, (T2 b = .z ∨ ∃ n, T2 b = .ob n) → ¬ FS C env b ∧ R' b = none ∧ b ≠ env'.locals := fun b q => by
      refine ⟨fun z => ?_, ?_, fun z => by subst z; rcases q with q | ⟨n, q⟩ <;> rw [tL] at q <;> cases q⟩
      · rcases tagFS b z with e | ⟨y, e⟩ <;> rcases q with q | ⟨n, q⟩ <;> rw [q] at e <;> cases e
      · cases e : R' b with
        | none => rfl
        | some o => have := (rOut b o e).1; rcases q with q | ⟨n, q⟩ <;> rw [q] at this <;> cases this
    exact {
      base := k.base
      z := fun b o e => by
        have e1 := k.z b o e
        obtain ⟨q1, q2, q3⟩ := tz b (.inl e1.1)
        refine ⟨?_, e1.2⟩
        rw [if_neg q1, if_neg q3, q2, if_neg (by simp), e1.1]
      r := fun b o e => by
        by_cases q : b = env'.locals
        · subst q; rw [PH.put_self] at e; cases e
          exact ⟨by rw [if_neg nFS, if_pos rfl], hoL⟩
        · rw [PH.put_ne _ _ q] at e
          exact ⟨by rw [if_neg (hR' b o e), if_neg q, e]; rfl, (rOut b o e).2⟩
      nx := k.nx
      objs := fun n ao e => by
        obtain ⟨b, h1, h2, o, h3, h4⟩ := k.objs n ao e
        obtain ⟨q1, q2, q3⟩ := tz b (.inr ⟨n, h2⟩)
        refine ⟨b, h1, ?_, o, h3, h4⟩
        rw [if_neg q1, if_neg q3, q2, if_neg (by simp), h2]
      scope := h.scope
      kind := h.kind
      globals := h.globals
      builtins := h.builtins
      loc := by
        refine ⟨by rw [if_pos (.inl rfl)]; exact hl, m, hn.at' fun o e => (fsIn _ o (.inl rfl) e).2, fun y v e1 e2 => ?_⟩
        obtain ⟨w, a1, a2⟩ := hm y v e1 e2
        exact ⟨w, a1, a2.mono hz hr⟩
      cell := fun y kk e1 e2 => by
        obtain ⟨c, o, a1, a2, ⟨ob, a3, a3'⟩, a4⟩ := h.cell y kk e1 e2
        have fs : FS C env c := .inr ⟨y, kk, e1, e2, a1⟩
        by_cases f : scope.names.lookup y = some .free
        · obtain ⟨_, o', b2, b3⟩ := taken y kk e1 e2 f c a1
          exact ⟨c, o', a1, by rw [if_pos fs]; exact a2, b2, fun v e => b3 v (hvars y v f e)⟩
        · refine ⟨c, o, a1, by rw [if_pos fs]; exact a2, ⟨ob, (fsIn c ob (.inr ⟨y, kk, e1, e2, a1, f⟩) a3).2, a3'⟩, fun v e => ?_⟩
          obtain ⟨w, b1, b2⟩ := a4 v e
          exact ⟨w, b1, b2.mono hz hr⟩
      os := k.os
      gens := k.gens
      pin := k.pin }
end Mine
end
section -- MComp2
set_option maxRecDepth 100000
namespace Mine
open PySem PySem.W PyProof.Rows

theorem PH.put_put (R : PH) (a : Addr) (o o' : Obj) : (R.put a o).put a o' = R.put a o' := by funext b; unfold PH.put; split <;> rfl
theorem PH.put_mid (R : PH) {a b : Addr} (h : b ≠ a) (o o' p : Obj) : ((R.put a o).put b p).put a o' = (R.put a o').put b p := by
  funext c; unfold PH.put
  by_cases q : c = a
  · subst q; rw [if_pos rfl, if_neg (Ne.symm h), if_pos rfl]
  · rw [if_neg q, if_neg q, if_neg q]

noncomputable def turnG (p : Pos) (target : Expr) (ifs : List Expr) (body : Env → Value → Sem Unit) (e : Expr) (d : Nat) (it acc : Value) (env : Env) : Sem Fin := do
  standAt p
  match ← pyNext it with
  | none => pure (.done .next)
  | some v =>
    letOwnedTupleGo target it v
    assign target env v
    let mut ok := true
    for c in ifs do
      if ok then ok ← isTrue c env (eval c env)
    if ok then body env acc
    again (.compLoop e d it acc env)

noncomputable abbrev tests (ifs : List Expr) (env : Env) : Sem Bool := forIn ifs true fun c r => if r = true then do let ok ← isTrue c env (eval c env); pure (ForInStep.yield ok) else pure (ForInStep.yield r)
noncomputable abbrev JTs (C : Fx) (ifs : List Expr) (st : St) (Q : Bool → St → Prop) : Prop := J C rBool (tests ifs) st Q

inductive PostL (C : Fx) (env : Env) (Z R : PH) (ρ : List Addr) (D : Addr) (Q : List V → St → Prop) (s' : Shared) : Prop
  | mk (ys' : List V) (st' : St) (Z' : PH) (ρ' : List Addr) (ws' : Array Value) (k' : Nat) (hz : PH.le Z Z') (hr : Ext ρ ρ') (hs : SR C env Z' (R.put D (lobj ws' k')) ρ' st' s') (hy : VRs Z' ρ' ys' ws'.toList) (hq : Q ys' st')
noncomputable def JE (C : Fx) (m : Env → Value → Sem Unit) (ys : List V) (st : St) (Q : List V → St → Prop) : Prop :=
  ∀ (env : Env) (Z R : PH) (ρ : List Addr) (s : Shared) (D : Addr) (ws : Array Value) (k : Nat), SR C env Z (R.put D (lobj ws k)) ρ st s → R D = none → VRs Z ρ ys ws.toList →
    wpAny C.M C.A (m env (.ref D)) (fun _ s' => PostL C env Z R ρ D Q s') noE s

theorem loop_turn {prog : Program} {w : World} {A : Around} {R : Result → Shared → Prop} {s : Shared} {elt : Expr} {gens : List Comprehension} {scope : Scope} {pos : Pos} {d : Nat} {p : Pos} {target : Expr} {ifs : List Expr} {body : Env → Value → Sem Unit} {it acc : Value} {env : Env} (heq : compTurn (.ListComp elt gens scope pos) d it acc env = turnG p target ifs body (.ListComp elt gens scope pos) d it acc env)
    (I : Nat → Shared → Prop) (turn : ∀ n s, I n s → wpAny (model prog w) A (turnG p target ifs body (.ListComp elt gens scope pos) d it acc env) (fun fin s' => match fin with | .done f => R (.ok f) s' | .again c' => c' = .compLoop (.ListComp elt gens scope pos) d it acc env ∧ ∃ m, m < n ∧ I m s') (notedBy (model prog w) A env fun e s' => R (.error e) s') s) (n : Nat) (h : I n s) :
    codeAny (model prog w) A (.compLoop (.ListComp elt gens scope pos) d it acc env) R s := by
  refine codeAny_loop rfl I (fun n s hI => ?_) n h
  show wpAny _ A ((compTurn (.ListComp elt gens scope pos) d it acc env).onRaise (fun x => do noteFrame x env; theTreesLotGoes x)) _ _ s
  refine wpAny_noted ?_
  rw [heq]
  exact turn n s hI

section
variable {C : Fx} {st : St}

theorem ts_nil {Q : Bool → St → Prop} (h : Q true st) : JTs C [] st Q := fun env Z R ρ s hs => wpAny_tests_nil (SR.post hs rfl h)
theorem ts_one {c : Expr} {Q : Bool → St → Prop} (h : JT C c st Q) : JTs C [c] st Q := fun env Z R ρ s hs => wpAny_tests_one (h env Z R ρ s hs)

theorem e_emit {elt : Expr} {ys : List V} {Q : List V → St → Prop} (h : J C VR (eval elt) st fun v st' => ys.length ≤ sizeLine ∧ Q (ys ++ [v]) st') :
    JE C (fun env acc => do let _ ← call (.builtin "list.append") [acc, ← eval elt env]) ys st Q :=
  fun env Z R ρ s D ws k hs hD hy => by
    refine wpAny_bind (wp_use (h env Z _ ρ s hs) (fun x s' v st' Z' ρ' hz hr rv hs' ⟨hsz, hq⟩ => ?_))
    have ho := hs'.r_ (PH.put_self ..)
    have hl := hy.toArr
    refine wpAny_bind (call_meets PySem.F.slot_list_append ⟨_, ho, rfl⟩ PySem.F.entry_list_append (args_list_append _ _) (PySem.AutoListH.list_append_list_val_0 D ws k x (by omega)) ⟨ho, wpAny_pure ?_⟩)
    obtain ⟨k', hk'⟩ := mapSeq_lobj (·.push x) ws k
    have k2 := hs'.updR (tk := s'.toks) (h' := s'.heap.update D (Obj.mapSeq (·.push x))) (o' := lobj (ws.push x) k') (PH.put_self ..) (fun b o hb e => (Heap.SameBut.update ..).extBut b o hb e) (by rw [← hk']; exact Heap.get?_update_self _ ho (by rw [hk']; rfl))
    rw [PH.put_put] at k2
    refine ⟨_, st', Z', ρ', _, k', hz, hr, k2, ?_, hq⟩
    rw [Array.toList_push]
    exact (hy.mono hz hr).append (.cons rv .nil)

inductive LoopI (C : Fx) (env : Env) (Z R : PH) (ρ : List Addr) (Ia D : Addr) (v : V) (a : Value) (xs : List V) (I : Nat → List V → St → Prop) (n : Nat) (s' : Shared) : Prop
  | mk (i : Nat) (ys' : List V) (st' : St) (Z' : PH) (ρ' : List Addr) (o' : Obj) (ws' : Array Value) (k' : Nat) (e : n = xs.length + 1 - i) (hle : i ≤ xs.length) (hz : PH.le Z Z') (hr : Ext ρ ρ') (hs : SR C env Z' ((R.put Ia o').put D (lobj ws' k')) ρ' st' s') (hy : VRs Z' ρ' ys' ws'.toList) (at_ : IterAt s'.heap Ia v a i) (hI : I i ys' st')
theorem comp_loop {elt : Expr} {gens : List Comprehension} {scope : Scope} {pos : Pos} {d : Nat} {p : Pos} {target : Expr} {ifs : List Expr} {body : Env → Value → Sem Unit} (heq : ∀ it acc env, compTurn (.ListComp elt gens scope pos) d it acc env = turnG p target ifs body (.ListComp elt gens scope pos) d it acc env)
    {v : V} {xs : List V} (I : Nat → List V → St → Prop) (itb : ∀ i ys st, I i ys st → Itb st v xs)
    (turn : ∀ i ys x st, xs[i]? = some x → I i ys st → JA C target x st fun st₂ => JTs C ifs st₂ fun ok st₃ => (ok = true → JE C body ys st₃ (I (i + 1))) ∧ (ok = false → I (i + 1) ys st₃))
    {env : Env} {Z R : PH} {ρ : List Addr} {s : Shared} {a : Value} {Ia D : Addr} {o : Obj} {ws : Array Value} {k : Nat} {ys : List V} (hs : SR C env Z ((R.put Ia o).put D (lobj ws k)) ρ st s) (hIR : R Ia = none) (hDR : R D = none) (hne : D ≠ Ia)
    (hv : VR Z ρ v a) (hat : IterAt s.heap Ia v a 0) (hys : VRs Z ρ ys ws.toList) (i0 : I 0 ys st) :
    codeAny C.M C.A (.compLoop (.ListComp elt gens scope pos) d (.ref Ia) (.ref D) env) (fun r s' => r = .ok .next ∧ PostL C env Z R ρ D (I xs.length) s') s := by
  refine loop_turn (heq _ _ _) (LoopI C env Z R ρ Ia D v a xs I) ?_ _
    ⟨0, ys, st, Z, ρ, o, ws, k, rfl, Nat.zero_le _, PH.le.refl _, Ext.refl _, hs, hys, hat, i0⟩
  intro n s' ii
  refine ii.rec fun i ys' st' Z' ρ' o' ws' k' en hle hz hr hs' hy' at_ hI => ?_
  unfold turnG
  refine wpAny_bind (wpAny_standAt (wpAny_bind ?_))
  have rI : ∀ (d o : Obj), ((R.put Ia o).put D d) Ia = some o := fun d o => by rw [PH.put_ne _ _ (Ne.symm hne), PH.put_self]
  by_cases hlt : i < xs.length
  · refine it_next hs' (hv.mono hz hr) (itb i ys' st' hI) at_ (List.getElem?_eq_getElem hlt) fun w h' tk rw' at' keep => ?_
    refine at'.has.elim fun o2 q => q.elim fun T q => ?_
    have k2 := hs'.updR (tk := tk) (rI _ _) keep q.1
    rw [PH.put_mid _ hne] at k2
    refine wpAny_bind (letGo_any q.1 q.2.1 q.2.2 ?_)
    refine wpAny_bind (wp_use (turn i ys' _ st' (List.getElem?_eq_getElem hlt) hI env Z' _ ρ' _ w k2 rw') fun _ s₃ _ st₃ Z₃ ρ₃ hz₃ hr₃ _ hs₃ jt => ?_)
    have re : ∀ {ys : List V} {st' : St} {Z' : PH} {ρ' : List Addr} {ws : Array Value} {k : Nat} {s' : Shared}, PH.le Z Z' → Ext ρ ρ' → SR C env Z' ((R.put Ia o2).put D (lobj ws k)) ρ' st' s' → VRs Z' ρ' ys ws.toList → I (i + 1) ys st' → ∃ m, m < n ∧ LoopI C env Z R ρ Ia D v a xs I m s' :=
      fun hz hr hs hy hI => ⟨xs.length + 1 - (i + 1), by rw [en]; lia, i + 1, _, _, _, _, o2, _, _, rfl, hlt, hz, hr, hs, hy, at'.at_ fun oo e => by rw [q.1] at e; cases e; exact hs.r_ (rI _ _), hI⟩
    refine wpAny_bind (wp_use (jt env Z₃ _ ρ₃ s₃ hs₃) fun ok s₄ ok' st₄ Z₄ ρ₄ hz₄ hr₄ e hs₄ hq => ?_)
    cases show ok = ok' from e
    have hz' := (hz.trans hz₃).trans hz₄
    have hr' := (hr.trans hr₃).trans hr₄
    have hy4 := hy'.mono (hz₃.trans hz₄) (hr₃.trans hr₄)
    cases ok with
    | false => exact wpAny_pure ⟨rfl, re hz' hr' hs₄ hy4 (hq.2 rfl)⟩
    | true => exact wpAny_bind (wpAny_mono (hq.1 rfl env Z₄ (R.put Ia o2) ρ₄ s₄ D ws' k' hs₄ (by rw [PH.put_ne _ _ hne]; exact hDR) hy4) (fun _ s₅ pp => pp.rec fun ys₅ st₅ Z₅ ρ₅ ws₅ k₅ hz₅ hr₅ hs₅ hy₅ hq => wpAny_pure ⟨rfl, re (hz'.trans hz₅) (hr'.trans hr₅) hs₅ hy₅ hq⟩) fun _ _ e => e.elim)
  · obtain rfl : i = xs.length := by lia
    refine it_end hs' (hv.mono hz hr) (itb _ ys' st' hI) at_ fun h' keep => ?_
    exact wpAny_pure ⟨rfl, ys', st', Z', ρ', ws', k', hz, hr, hs'.lose (fun b q e => by
      by_cases z : b = D
      · subst z; rw [PH.put_self] at e ⊢; exact e
      · rw [PH.put_ne _ _ z] at e ⊢; exact PH.le_put hIR b q e) (rI _ _) (by rw [PH.put_ne _ _ (Ne.symm hne)]; exact hIR) keep, hy', hI⟩

theorem it_self {s : Shared} {v : V} {a : Value} {I : Addr} {i : Nat} {Q : Value → Shared → Prop} {E : Value → Shared → Prop} (hI : IterAt s.heap I v a i) (h : Q (.ref I) s) : wpAny C.M C.A (pyIter (.ref I)) Q E s := by
  cases hI with
  | lst q1 q2 => exact wpAny_pyIter_listiter q1 h
  | obj q1 q2 => exact wpAny_pyIter_listiter q1 h
  | tup q1 q2 => exact wpAny_pyIter_tupleiter q1 h
  | rng q1 => exact wpAny_pyIter_rangeiter q1 h

theorem compStart_1 {R : Result → Shared → Prop} {s : Shared} {elt target iter : Expr} {g1 : Comprehension} {ifs rest scope pos it acc env}
    (h0 : codeAny C.M C.A (.compLoop (.ListComp elt (g1 :: ⟨target, iter, ifs, 0⟩ :: rest) scope pos) 1 it acc env) R s)
    (h : wpAny C.M C.A (pyIter it) (fun it' s' => codeAny C.M C.A (.compLoop (.ListComp elt (g1 :: ⟨target, iter, ifs, 0⟩ :: rest) scope pos) 1 it' acc env) R s')
      (notedBy C.M C.A env fun x s' => R (.error x) s') s) :
    codeAny C.M C.A (.compStart (.ListComp elt (g1 :: ⟨target, iter, ifs, 0⟩ :: rest) scope pos) 1 it acc env) R s := by
  refine codeAny_of_tree ?_
  show wpAny _ _ ((compStart (.ListComp elt (g1 :: ⟨target, iter, ifs, 0⟩ :: rest) scope pos) 1 it acc env).onRaise (fun x => do noteFrame x env; standAt theWindowsPlace)) _ _ s
  refine wpAny_notedAt ?_
  unfold compStart
  show wpAny _ _ (ask >>= _) _ _ s
  refine wpAny_bind (wpAny_askSetting (wpAny_ite ?_))
  split
  · first
      | exact wpAny_bind (wpAny_pure (wpAny_pure (And.intro rfl h0)))
      | exact wpAny_pure (And.intro rfl h0)
  · first
      | exact wpAny_bind (wpAny_rule (wpAny_bind (wpAny_standAt (wpAny_bind (wpAny_mono h (fun it' s' h' => wpAny_pure (And.intro rfl h')) fun _ _ x => x)))))
      | (refine wpAny_bind (wpAny_rule ?_); show wpAny _ _ (standAt iter.pos >>= _) _ _ s; exact wpAny_bind (wpAny_standAt (wpAny_bind (wpAny_mono h (fun it' s' h' => wpAny_pure (And.intro rfl h')) fun _ _ x => x))))

noncomputable def body1 (elt : Expr) : Env → Value → Sem Unit := fun env acc => do let _ ← call (.builtin "list.append") [acc, ← eval elt env]
noncomputable def body2 (e : Expr) (iter : Expr) : Env → Value → Sem Unit := fun env acc => do
  let x ← eval iter env
  standAt iter.pos
  let x ← foldedSetIterable iter env x
  let _ ← runOwn (.compStart e 1 (← holding [x] (pyIter x)) acc env) env

theorem turn_1 (elt target iter : Expr) (ifs : List Expr) (scope : Scope) (pos : Pos) (it acc : Value) (env : Env) :
    compTurn (.ListComp elt [⟨target, iter, ifs, 0⟩] scope pos) 0 it acc env = turnG iter.pos target ifs (body1 elt) (.ListComp elt [⟨target, iter, ifs, 0⟩] scope pos) 0 it acc env := by rfl
theorem turn_20 (elt target iter target' iter' : Expr) (ifs ifs' : List Expr) (scope : Scope) (pos : Pos) (it acc : Value) (env : Env) :
    compTurn (.ListComp elt [⟨target, iter, ifs, 0⟩, ⟨target', iter', ifs', 0⟩] scope pos) 0 it acc env =
      turnG iter.pos target ifs (body2 (.ListComp elt [⟨target, iter, ifs, 0⟩, ⟨target', iter', ifs', 0⟩] scope pos) iter') (.ListComp elt [⟨target, iter, ifs, 0⟩, ⟨target', iter', ifs', 0⟩] scope pos) 0 it acc env := by
  unfold turnG body2
  simp only [bind_assoc, pure_bind]
  rfl
theorem turn_21 (elt target iter target' iter' : Expr) (ifs ifs' : List Expr) (scope : Scope) (pos : Pos) (it acc : Value) (env : Env) :
    compTurn (.ListComp elt [⟨target, iter, ifs, 0⟩, ⟨target', iter', ifs', 0⟩] scope pos) 1 it acc env =
      turnG iter'.pos target' ifs' (body1 elt) (.ListComp elt [⟨target, iter, ifs, 0⟩, ⟨target', iter', ifs', 0⟩] scope pos) 1 it acc env := by rfl
end
end Mine
end
section -- MComp3
set_option maxRecDepth 100000
namespace Mine
open PySem PySem.W PyProof.Rows

theorem wpAny_newEnvComp {M : Model} {A : Around} {E : Value → Shared → Prop} {s : Shared} {scope : Scope} {globals : Addr} {cl : List (Str × Addr)} {qual : Str} {env : Env} {b : Addr} {Q : Env → Shared → Prop}
    (h : Q { scope, locals := s.heap.objs.size, globals, cells := cellsFrom (s.heap.objs.size + 1) scope.names cl, qual, func := none, code := env.code, frame := env.frame, builtins := env.builtins } { s with heap := pushCells (s.heap.push { cls := .type "dict", data := .dict #[] }) scope.names }) :
    wpAny M A (newFunctionEnv scope globals cl [] qual none .none (some env) b) Q E s := by
  simp only [newFunctionEnv, Option.isSome_some, if_true]
  refine wpAny_bind (wpAny_alloc ?_)
  refine wpAny_bind (wpAny_layCells _ (fun name kind cells => by cases hkc : kind == NameKind.cell <;> simp [hkc]) _ _ _ _ ?_)
  rw [show ({ s with heap := s.heap.push { cls := .type "dict", data := .dict #[] } } : Shared).heap.objs.size = s.heap.objs.size + 1 from Heap.size_push ..]
  simp only [List.forIn_nil]
  exact wpAny_bind (wpAny_pure (wpAny_pure h))

noncomputable def compOk (sc scope : Scope) : Bool :=
  scope.kind == .function && decide (scope.names.map (·.1)).Nodup && scope.names.all fun p => if p.2 == .free then (sc.names.lookup p.1 == some .cell || sc.names.lookup p.1 == some .free) else true
theorem mem_lookup {α : Type} : ∀ {l : List (Str × α)} {p : Str × α}, (l.map (·.1)).Nodup → p ∈ l → l.lookup p.1 = some p.2
  | [], _, _, h => by cases h
  | (k, v) :: r, p, nd, h => by
    rw [List.map_cons, List.nodup_cons] at nd
    rcases List.mem_cons.mp h with e | h
    · subst e; simp [List.lookup_cons]
    · have : (p.1 == k) = false := beq_eq_false_iff_ne.mpr fun e => nd.1 (by rw [← e]; exact List.mem_map_of_mem (f := (·.1)) h)
      rw [List.lookup_cons, this]
      exact mem_lookup nd.2 h
theorem compOk_spec {sc scope : Scope} (h : compOk sc scope = true) : scope.kind = .function ∧ (scope.names.map (·.1)).Nodup ∧ (∀ x, scope.names.lookup x = some .free → sc.names.lookup x = some .cell ∨ sc.names.lookup x = some .free) ∧
    (∀ x ∈ scope.names, x.2 = .local → scope.names.lookup x.1 = some .local) := by
  unfold compOk at h
  simp only [Bool.and_eq_true, beq_iff_eq, decide_eq_true_eq, List.all_eq_true] at h
  refine ⟨h.1.1, h.1.2, fun x hx => ?_, fun p hp he => by rw [mem_lookup h.1.2 hp, he]⟩
  have := h.2 _ (PySem.mem_of_lookup hx)
  simpa using this

theorem closureFor_ok {C : Fx} {env : Env} {Z R : PH} {ρ : List Addr} {st : St} {s : Shared} {scope : Scope} (hs : SR C env Z R ρ st s) (nd : (scope.names.map (·.1)).Nodup)
    (hfree : ∀ x, scope.names.lookup x = some .free → C.sc.names.lookup x = some .cell ∨ C.sc.names.lookup x = some .free) : ∃ cl, closureFor scope env = pure cl ∧ ∀ x, scope.names.lookup x = some .free → cl.lookup x = env.cells.lookup x := by
  obtain ⟨T, h⟩ := hs
  obtain ⟨cl, h1, h2, _⟩ := closure_some (env := env) scope.names [] (fun p hp hk => by
    have hl := mem_lookup nd hp
    rw [hk] at hl
    rcases hfree _ hl with f | f
    · obtain ⟨c, _, h1, _⟩ := h.cell _ _ f (.inl rfl); exact ⟨c, h1⟩
    · obtain ⟨c, _, h1, _⟩ := h.cell _ _ f (.inr rfl); exact ⟨c, h1⟩) nd (fun _ _ => rfl)
  refine ⟨cl, ?_, h2⟩
  rw [← h1]
  unfold closureFor
  simp only [bind_pure]

section
variable {C : Fx} {st : St}

structure CompIn (C : Fx) (scope : Scope) (elt : Expr) (gens : List Comprehension) (pos : Pos) (st : St) (v : V) (Qi : List V → St → Prop) : Prop where
  run : ∃ xs, Itb st v xs ∧ ∀ (env : Env) (Z R : PH) (ρ : List Addr) (s : Shared) (a : Value) (Ia D : Addr) (o : Obj) (k : Nat), SR (C.comp scope) env Z ((R.put Ia o).put D (lobj #[] k)) ρ { st with vars := inner scope st.vars } s → R Ia = none → R D = none → D ≠ Ia →
    VR Z ρ v a → IterAt s.heap Ia v a 0 → codeAny C.M C.A (.compLoop (.ListComp elt gens scope pos) 0 (.ref Ia) (.ref D) env)
      (fun r s' => r = .ok .next ∧ PostL (C.comp scope) env Z R ρ D (fun ys' st' => (∀ x v, scope.names.lookup x = some .free → st.vars.lookup x = some v → st'.vars.lookup x = some v) ∧ Qi ys' { st' with vars := st.vars }) s') s

theorem comp_block {scope : Scope} {elt target iter : Expr} {ifs : List Expr} {rest : List Comprehension} {pos : Pos} {v : V} {Qi : List V → St → Prop} (ok : compOk C.sc scope = true) (hin : CompIn C scope elt (⟨target, iter, ifs, 0⟩ :: rest) pos st v Qi)
    {env : Env} {Z R : PH} {ρ : List Addr} {s : Shared} {a : Value} {cl : List (Str × Addr)} (hs : SR C env Z R ρ st s) (hv : VR Z ρ v a) (hcl : ∀ x, scope.names.lookup x = some .free → cl.lookup x = env.cells.lookup x)
    {W : Value → Addr → Result → Shared → Prop} {E : Value → Shared → Prop}
    (h : ∀ (D L : Addr) (oL : Obj) (m : Str → Option Value) (ys : List V) (st' : St) (Z' : PH) (ρ' : List Addr) (ws : Array Value) (k : Nat) (s' : Shared), PH.le Z Z' → Ext ρ ρ' → SR C env Z' ((R.put D (lobj ws k)).put L oL) ρ' { st' with vars := st.vars } s' → R D = none → R L = none → L ≠ D → s'.heap.Ns L m →
      VRs Z' ρ' ys ws.toList → Qi ys { st' with vars := st.vars } → W (.ref D) L (.ok .next) s') :
    wpAny C.M C.A (pyIter a) (fun it s₂ => wpAny C.M C.A (newList []) (fun acc s₃ => wpAny C.M C.A (newFunctionEnv scope env.globals cl [] env.qual none .none (some env)) (fun cenv s₄ =>
      codeAny C.M C.A (.compStart (.ListComp elt (⟨target, iter, ifs, 0⟩ :: rest) scope pos) 0 it acc { cenv with scope := relabel scope env }) (W acc cenv.locals) s₄) E s₃) E s₂) E s := by
  obtain ⟨hk, nd, hfree, hnames⟩ := compOk_spec ok
  obtain ⟨xs, hitb, hrun⟩ := hin.run
  have hn := fresh_none s.heap
  have rI := hs.rfresh hn
  refine it_start hs hv hitb fun o hf hat => ?_
  obtain ⟨le1, hs₂⟩ := hs.allocR o s.toks hf
  refine wpAny_newList ?_
  have hsz : (s.heap.push o).objs.size = s.heap.objs.size + 1 := Heap.size_push ..
  have hn2 := fresh_none (s.heap.push o)
  have rD2 := hs₂.rfresh hn2
  have rD : R (s.heap.push o).objs.size = none := by
    cases e : R (s.heap.push o).objs.size with
    | none => rfl
    | some o' => have := le1 _ _ e; rw [rD2] at this; cases this
  have hne : (s.heap.push o).objs.size ≠ s.heap.objs.size := by rw [hsz]; exact Nat.succ_ne_self _
  obtain ⟨le2, hs₃⟩ := hs₂.allocR (lobj #[] 0) s.toks rfl
  refine wpAny_newEnvComp ?_
  have hrel := relab_eq hs scope
  have henter := enterC (cl := cl) (tk := s.toks) hs₃ hk nd hcl hfree rfl rfl
  obtain ⟨k1, k2, k3, k4⟩ := henter
  have nI : ¬ FSc C env scope s.heap.objs.size := fun q => by
    refine k2 _ o (by rw [PH.put_ne _ _ (Ne.symm hne), PH.put_self]) ?_
    rcases q with e | ⟨x, k, e1, e2, e3, _⟩
    · exact .inl e
    · exact .inr ⟨x, k, e1, e2, e3⟩
  have nD : ¬ FSc C env scope (s.heap.push o).objs.size := fun q => by
    refine k2 _ _ (PH.put_self ..) ?_
    rcases q with e | ⟨x, k, e1, e2, e3, _⟩
    · exact .inl e
    · exact .inr ⟨x, k, e1, e2, e3⟩
  have nFSD : ¬ FS C env (s.heap.push o).objs.size := k2 _ _ (PH.put_self ..)
  rw [← framedC_put nD, ← framedC_put nI] at k1
  have hrel' : ∀ (e : Env), ({ e with scope := relabel scope env } : Env) = { e with scope := relab C.sc scope } := fun e => by rw [hrel]
  have fI : framedC C env scope R ((s.heap.push o).push (lobj #[] 0)) s.heap.objs.size = none := by unfold framedC; rw [if_neg nI]; exact rI
  have fD : framedC C env scope R ((s.heap.push o).push (lobj #[] 0)) (s.heap.push o).objs.size = none := by unfold framedC; rw [if_neg nD]; exact rD
  have hat' := hat.at_ (h' := (pushCells (((s.heap.push o).push (lobj #[] 0)).push { cls := .type "dict", data := .dict #[] }) scope.names)) fun oo e => k3 _ _ (Heap.get?_push_of_some _ e)
  have loop := hrun _ Z _ ρ _ a s.heap.objs.size _ o 0 k1 fI fD hne hv hat'
  rw [hrel']
  have fin := codeAny_mono loop (R' := W (.ref (s.heap.push o).objs.size) ((s.heap.push o).push (lobj #[] 0)).objs.size) fun r s' p => by
    obtain ⟨rfl, ys, st', Z', ρ', ws, k, hz, hr, hs', hy, hvars, hq⟩ := p
    have hL3 := fresh_none ((s.heap.push o).push (lobj #[] 0))
    have rL3 := hs₃.rfresh hL3
    have hLD : ((s.heap.push o).push (lobj #[] 0)).objs.size ≠ (s.heap.push o).objs.size := by rw [Heap.size_push]; exact Nat.succ_ne_self _
    have rL : R ((s.heap.push o).push (lobj #[] 0)).objs.size = none := by
      cases e : R ((s.heap.push o).push (lobj #[] 0)).objs.size with
      | none => rfl
      | some o' => have := le2 _ _ (le1 _ _ e); rw [rL3] at this; cases this
    obtain ⟨T, hT⟩ := id hs'
    obtain ⟨_, m, hnm, _⟩ := hT.loc
    obtain ⟨oL, es, ep, hoL, hrest⟩ := id hnm
    rw [framedC_put nD] at hs'
    have out := k4 Z' (R.put (s.heap.push o).objs.size (lobj ws k)) ρ' st' s' hz hr (fun b ob e => by
      by_cases q : b = (s.heap.push o).objs.size
      · subst q; exact nFSD
      · rw [PH.put_ne _ _ q] at e
        exact k2 b ob (le2 _ _ (le1 _ _ e))) hs' hvars oL hoL
    exact h _ _ oL m ys st' Z' ρ' ws k s' hz hr out rD rL hLD hnm hy hq
  exact codeAny_compStart_list fin (it_self hat' fin)

theorem ev_ListComp {scope : Scope} {elt target iter : Expr} {ifs : List Expr} {rest : List Comprehension} {pos : Pos} {Q : V → St → Prop} (ok : compOk C.sc scope = true)
    (h : J C VR (eval iter) st fun v st₁ => CompIn C scope elt (⟨target, iter, ifs, 0⟩ :: rest) pos st₁ v fun ys st' => Q (.lst ys) st')
    (hs : ∀ env x, foldedSetIterable iter env x = pure x := by intro _ _; rfl) : J C VR (eval (.ListComp elt (⟨target, iter, ifs, 0⟩ :: rest) scope pos)) st Q :=
  fun env Z R ρ s hs' => by
    obtain ⟨hk, nd, hfree, hnames⟩ := compOk_spec ok
    obtain ⟨cl, hclos, hcl⟩ := closureFor_ok hs' nd hfree
    rw [eval_ListComp]
    refine wpAny_comprehension_free (use := none) rfl (hs env) hclos hk hnames (wp_use (h env Z R ρ s hs') (fun a s₁ v st₁ Z₁ ρ₁ hz₁ hr₁ rv hs₁ hin => ?_))
    refine comp_block ok hin hs₁ rv hcl (W := fun acc L => compPost C.M C.A noE none (Post C env Z R ρ VR Q) acc L) ?_
    intro D L oL m ys st' Z' ρ' ws k s' hz hr hs2 rD rL hne hn hy hq
    refine ⟨m, hn, fun h' hsb => ?_⟩
    have wk : PH.le (R.put D (lobj ws k)) ((R.put D (lobj ws k)).put L oL) := PH.le_put (by rw [PH.put_ne _ _ hne]; exact rL)
    have k1 := hs2.lose wk (PH.put_self ..) (by rw [PH.put_ne _ _ hne]; exact rL) (fun b o hb e => hsb.extBut b o hb e)
    obtain ⟨le, k2⟩ := k1.toZ rD
    exact ⟨_, _, _, ρ', (hz₁.trans hz).trans le, hr₁.trans hr, .lst (PH.put_self ..) (hy.mono le (Ext.refl _)), k2, hq⟩

theorem comp_1 {scope : Scope} {elt target iter : Expr} {ifs : List Expr} {pos : Pos} {v : V} {Qi : List V → St → Prop} (xs : List V) (I : Nat → List V → St → Prop) (hv : Itb st v xs) (i0 : I 0 [] { st with vars := inner scope st.vars })
    (itb : ∀ i ys st', I i ys st' → Itb st' v xs)
    (turn : ∀ i ys x st', xs[i]? = some x → I i ys st' → JA (C.comp scope) target x st' fun st₂ => JTs (C.comp scope) ifs st₂ fun ok st₃ => (ok = true → JE (C.comp scope) (body1 elt) ys st₃ (I (i + 1))) ∧ (ok = false → I (i + 1) ys st₃))
    (fin : ∀ ys st', I xs.length ys st' → (∀ x v, scope.names.lookup x = some .free → st.vars.lookup x = some v → st'.vars.lookup x = some v) ∧ Qi ys { st' with vars := st.vars }) : CompIn C scope elt [⟨target, iter, ifs, 0⟩] pos st v Qi where
  run := ⟨xs, hv, fun env Z R ρ s a Ia D o k hs rI rD hne rv hat => codeAny_mono (comp_loop (turn_1 elt target iter ifs scope pos) I itb turn hs rI rD hne rv hat .nil i0) fun r s' ⟨e, ys', st', Z', ρ', ws', k', h1, h2, h3, h4, h5⟩ =>
    ⟨e, ys', st', Z', ρ', ws', k', h1, h2, h3, h4, (fin ys' st' h5).1, (fin ys' st' h5).2⟩⟩

theorem e_gen {scope : Scope} {elt target iter target' iter' : Expr} {ifs ifs' : List Expr} {pos : Pos} {ys : List V} {Q : List V → St → Prop}
    (h : J C VR (eval iter') st fun v st₁ => ∃ xs, ∃ I : Nat → List V → St → Prop, I 0 ys st₁ ∧ (∀ i ys st', I i ys st' → Itb st' v xs) ∧
      (∀ i ys x st', xs[i]? = some x → I i ys st' → JA C target' x st' fun st₂ => JTs C ifs' st₂ fun ok st₃ => (ok = true → JE C (body1 elt) ys st₃ (I (i + 1))) ∧ (ok = false → I (i + 1) ys st₃)) ∧
      (∀ ys st', I xs.length ys st' → Q ys st'))
    (hs : ∀ env x, foldedSetIterable iter' env x = pure x := by intro _ _; rfl) :
    JE C (body2 (.ListComp elt [⟨target, iter, ifs, 0⟩, ⟨target', iter', ifs', 0⟩] scope pos) iter') ys st Q :=
  fun env Z R ρ s D ws k hs' hD hy => by
    unfold body2
    refine wpAny_bind (wp_use (h env Z _ ρ s hs') (fun a s₁ v st₁ Z₁ ρ₁ hz₁ hr₁ rv hs₁ ⟨xs, I, i0, itb, turn, fin⟩ => ?_))
    refine wpAny_bind (wpAny_standAt (wpAny_bind (wpAny_of_eq (hs env a) (wpAny_bind (wpAny_holding ?_)))))
    refine it_start hs₁ rv (itb 0 ys st₁ i0) fun o hf hat => ?_
    have hn := fresh_none s₁.heap
    have rI := hs₁.rfresh hn
    have hne : D ≠ s₁.heap.objs.size := Nat.ne_of_lt (Heap.lt_size (hs₁.r_ (PH.put_self ..)))
    have rI' : R s₁.heap.objs.size = none := by rw [PH.put_ne _ _ (Ne.symm hne)] at rI; exact rI
    obtain ⟨le, hs₂⟩ := hs₁.allocR o s₁.toks hf
    have e : (R.put D (lobj ws k)).put s₁.heap.objs.size o = (R.put s₁.heap.objs.size o).put D (lobj ws k) := by
      funext b; unfold PH.put
      by_cases q : b = D
      · subst q; rw [if_neg hne, if_pos rfl, if_pos rfl]
      · rw [if_neg q, if_neg q]
    rw [e] at hs₂
    have loop := codeAny_mono (comp_loop (turn_21 elt target iter target' iter' ifs ifs' scope pos) I itb turn hs₂ rI' hD hne rv hat (hy.mono hz₁ hr₁) i0)
      (R' := fun r s' => match r with
        | .ok f => wpAny C.M C.A (pure ()) (fun _ s' => PostL C env Z R ρ D Q s') noE s'
        | .error e => cameBackBy C.M C.A env noE e s') fun r s' ⟨e, ys', st', Z', ρ', ws', k', h1, h2, h3, h4, h5⟩ => by
      subst e
      exact wpAny_pure ⟨ys', st', Z', ρ', ws', k', hz₁.trans h1, hr₁.trans h2, h3, h4, fin _ _ h5⟩
    exact wpAny_bind (wpAny_runOwn (compStart_1 loop (it_self hat loop)))

theorem comp_2 {scope : Scope} {elt target iter target' iter' : Expr} {ifs ifs' : List Expr} {pos : Pos} {v : V} {Qi : List V → St → Prop} (xs : List V) (I : Nat → List V → St → Prop) (hv : Itb st v xs) (i0 : I 0 [] { st with vars := inner scope st.vars })
    (itb : ∀ i ys st', I i ys st' → Itb st' v xs)
    (turn : ∀ i ys x st', xs[i]? = some x → I i ys st' → JA (C.comp scope) target x st' fun st₂ => JTs (C.comp scope) ifs st₂ fun ok st₃ =>
      (ok = true → JE (C.comp scope) (body2 (.ListComp elt [⟨target, iter, ifs, 0⟩, ⟨target', iter', ifs', 0⟩] scope pos) iter') ys st₃ (I (i + 1))) ∧ (ok = false → I (i + 1) ys st₃))
    (fin : ∀ ys st', I xs.length ys st' → (∀ x v, scope.names.lookup x = some .free → st.vars.lookup x = some v → st'.vars.lookup x = some v) ∧ Qi ys { st' with vars := st.vars }) : CompIn C scope elt [⟨target, iter, ifs, 0⟩, ⟨target', iter', ifs', 0⟩] pos st v Qi where
  run := ⟨xs, hv, fun env Z R ρ s a Ia D o k hs rI rD hne rv hat => codeAny_mono (comp_loop (turn_20 elt target iter target' iter' ifs ifs' scope pos) I itb turn hs rI rD hne rv hat .nil i0) fun r s' ⟨e, ys', st', Z', ρ', ws', k', h1, h2, h3, h4, h5⟩ =>
    ⟨e, ys', st', Z', ρ', ws', k', h1, h2, h3, h4, (fin ys' st' h5).1, (fin ys' st' h5).2⟩⟩

theorem x_AssignComp {y : Str} {py spos : Pos} {scope : Scope} {elt target iter : Expr} {ifs : List Expr} {rest : List Comprehension} {pos : Pos} {Q : FlowA → St → Prop} (ok : compOk C.sc scope = true) (hy : C.sc.names.lookup y = some .local)
    (hsw : (spos, scope, y) = (spos, scope, y) ∧ py.line = pos.line ∧ (scope.names.any fun (n, k) => n == y && (k == .local || k == .cell)) = false := by refine ⟨rfl, rfl, rfl⟩)
    (h : J C VR (eval iter) st fun v st₁ => CompIn C scope elt (⟨target, iter, ifs, 0⟩ :: rest) pos st₁ v fun ys st' => Q .next { st' with vars := setv y (.lst ys) st'.vars })
    (hs : ∀ env x, foldedSetIterable iter env x = pure x := by intro _ _; rfl) : JX1 C (.Assign [.Name y py] (.ListComp elt (⟨target, iter, ifs, 0⟩ :: rest) scope pos) spos) st Q :=
  fun env Z R ρ s hs' => by
    obtain ⟨hk, nd, hfree, hnames⟩ := compOk_spec ok
    obtain ⟨cl, hclos, hcl⟩ := closureFor_ok hs' nd hfree
    have sw : swapsWith (.ListComp elt (⟨target, iter, ifs, 0⟩ :: rest) scope pos) (some (.Name y py)) spos.line env = pure true := by
      unfold swapsWith Env.blockKind
      dsimp only
      have e1 := hs'.kind_
      have e2 := (hs'.kindOf_ y).trans hy
      rw [e1, e2, hsw.2.1, hsw.2.2]
      simp [Expr.pos]
    rw [exec_Assign_Name_used _ _ _ _ sw]
    refine wpAny_bind (wpAny_standAt (wpAny_bind ?_))
    show wpAny _ C.A (do let _ ← comprehension (.ListComp elt (⟨target, iter, ifs, 0⟩ :: rest) scope pos) scope env _ (newList []) false (eval iter env) (some (assign (.Name y py) env))) _ _ s
    refine wpAny_bind (wpAny_mono (wpAny_comprehension_free (Q := fun _ s' => Post C env Z R ρ rFlow Q .next s') (use := some (assign (.Name y py) env)) rfl (hs env) hclos hk hnames (wp_use (h env Z R ρ s hs') (fun a s₁ v st₁ Z₁ ρ₁ hz₁ hr₁ rv hs₁ hin => ?_))) (fun _ s' q => wpAny_pure (wpAny_pure q)) fun _ _ e => e)
    refine comp_block ok hin hs₁ rv hcl (W := fun acc L => compPost C.M C.A noE (some (assign (.Name y py) env)) (fun _ s' => Post C env Z R ρ rFlow Q .next s') acc L) ?_
    intro D L oL m ys st' Z' ρ' ws k s' hz hr hs2 rD rL hne hn hy' hq
    have hDL : (R.put D (lobj ws k)).put L oL = (R.put L oL).put D (lobj ws k) := by
      funext b; unfold PH.put
      by_cases q : b = L
      · subst q; rw [if_pos rfl, if_neg hne, if_pos rfl]
      · rw [if_neg q, if_neg q]
    rw [hDL] at hs2
    obtain ⟨le, k2⟩ := hs2.toZ (by rw [PH.put_ne _ _ (Ne.symm hne)]; exact rD)
    refine wp_use (wpAny_assign_Name (store_ (Q := fun _ st'' => Q .next st'') hy hq (by decide) k2 (.lst (PH.put_self ..) (hy'.mono le (Ext.refl _))))) (fun _ s'' _ st₃ Z₃ ρ₃ hz₃ hr₃ _ hs₃ hq₃ => ?_)
    have hL3 := hs₃.r_ (PH.put_self ..)
    have hL0 := k2.r_ (PH.put_self ..)
    obtain ⟨oo, es, ep, ho, hrest⟩ := id hn
    rw [hL0] at ho; cases ho
    refine ⟨m, ⟨_, es, ep, hL3, hrest⟩, fun h' hsb => ?_⟩
    have k3 := hs₃.lose (PH.le_put rL) (PH.put_self ..) rL (fun b o hb e => hsb.extBut b o hb e)
    exact ⟨_, _, Z₃, ρ₃, ((hz₁.trans hz).trans le).trans hz₃, (hr₁.trans hr).trans hr₃, .next, k3, hq₃⟩
end
end Mine
end
section -- MComp4
set_option maxRecDepth 100000
namespace Mine
open PySem PySem.W PyProof.Rows

theorem setv_setv (x : Str) (a b : V) : ∀ l : List (Str × V), setv x a (setv x b l) = setv x a l
  | [] => by simp [setv]
  | (y, u) :: r => by
    unfold setv
    by_cases h : (y == x) = true
    · rw [if_pos h]; simp [setv, h]
    · rw [if_neg h]; simp [setv, h, setv_setv x a b r]

theorem inner_lookup' {scope : Scope} {x : Str} (h : scope.names.lookup x = some .free) : ∀ (vars : List (Str × V)), (inner scope vars).lookup x = vars.lookup x
  | [] => rfl
  | (y, u) :: r => by
    have ih := inner_lookup' h r
    unfold inner at ih ⊢
    rw [List.filter_cons]
    cases hx : x == y with
    | true =>
      have e := beq_iff_eq.mp hx; subst e
      rw [if_pos (by simp [h]), List.lookup_cons, List.lookup_cons, hx]
    | false =>
      split
      · rw [List.lookup_cons, List.lookup_cons, hx]; exact ih
      · rw [List.lookup_cons, hx]; exact ih

theorem lk_here (x : Str) (v : V) (l : List (Str × V)) : (setv x v l).lookup x = some v := (setv_lookup x v x l).trans (if_pos rfl)
theorem lk_hop {x z : Str} {v : V} {l : List (Str × V)} {r : Option V} (e : (z == x) = false) (h : l.lookup z = r) : (setv x v l).lookup z = r := (setv_lookup x v z l).trans ((if_neg fun q => by rw [q, beq_self_eq_true] at e; cases e).trans h)
theorem lk_in {scope : Scope} {x : Str} {vars : List (Str × V)} {r : Option V} (h : scope.names.lookup x = some .free) (k : vars.lookup x = r) : (inner scope vars).lookup x = r := (inner_lookup' h vars).trans k
theorem hp_hop {α : Type} {H : Nat → Option α} {n k : Nat} {x : α} {r : Option α} (h : k ≠ n) (e : H k = r) : upd H n x k = r := (upd_ne H x h).trans e
theorem dk {a b c n : Nat} (h : a ≤ b) (k : b + c ≤ n) : a + c ≤ n := Nat.le_trans (Nat.add_le_add_right h c) k

section
variable {C : Fx} {st : St}

theorem a_Tup2 {x y : Str} {px py pos : Pos} {n : Nat} {u v : V} {k k' : NameKind} {Q : St → Prop} (h : Q { st with vars := setv y v (setv x u st.vars) }) (hk : C.sc.names.lookup x = some k) (hk' : C.sc.names.lookup y = some k')
    (hkk : k = .local ∨ k = .cell := by decide) (hkk' : k' = .local ∨ k' = .cell := by decide) : JA C (.Tuple [.Name x px, .Name y py] n pos) (.tup [u, v]) st Q :=
  fun env Z R ρ s w hs r => by
    obtain ⟨a, ws, m, rfl, hz, ri⟩ := r.tup_inv
    obtain ⟨w1, w2, e, r1, r2⟩ := inv2 ri
    have hsz : ws.size = 2 := by have := ri.toArr; simpa using this.symm
    refine assign_Tuple_tuple rfl (items := ws) ⟨_, hs.z_ hz, rfl, _, rfl⟩ (by rw [hsz]; rfl) rfl fun h' he => ?_
    have hs2 : SR C env Z R ρ st { s with heap := h' } := hs.keep fun b o q => he b o (Nat.ne_of_lt (Heap.lt_size q)) q
    rw [e]
    refine assignInOrder_cons (wpAny_assign_Name (wp_use (store_ (Q := fun _ st' => st' = { st with vars := setv x u st.vars }) hk rfl hkk hs2 r1) (fun _ s₁ _ st₁ Z₁ ρ₁ hz₁ hr₁ _ hs₁ e1 => ?_)))
    subst e1
    refine assignInOrder_cons (wpAny_assign_Name (wp_use (store_ (Q := fun _ => Q) hk' h hkk' hs₁ (r2.mono hz₁ hr₁)) (fun _ s₂ _ st₂ Z₂ ρ₂ hz₂ hr₂ _ hs₂ e2 => ?_)))
    exact assignInOrder_nil ⟨(), st₂, Z₂, ρ₂, hz₁.trans hz₂, hr₁.trans hr₂, trivial, hs₂, e2⟩
theorem x_AssignT {elts : List Expr} {n : Nat} {tp pos : Pos} {value : Expr} {Q : FlowA → St → Prop} (h : J C VR (eval value) st fun v st₁ => JA C (.Tuple elts n tp) v st₁ (Q .next))
    (hsw : ∀ env, swapsWith value (some (.Tuple elts n tp)) pos.line env = pure false := by intro _; rfl) (hn : ∀ env, swappedStores [.Tuple elts n tp] value env = pure none := by intro _; rfl) : JX1 C (.Assign [.Tuple elts n tp] value pos) st Q :=
  fun env Z R ρ s hs => Assign_Tuple (wp_use (h env Z R ρ s hs) (fun w s₁ v st₁ Z₁ ρ₁ hz hr rv hs₁ h₁ =>
    wp_use (h₁ env Z₁ R ρ₁ s₁ w hs₁ rv) (fun _ _ _ st₂ Z₂ ρ₂ hz2 hr2 _ hs₂ h₂ => ⟨_, st₂, Z₂, ρ₂, hz.trans hz2, hr.trans hr2, .next, hs₂, h₂⟩))) (hsw env) (hn env)

inductive Steps {α : Type} (R : α → Option V → Prop) : List α → List V → Prop
  | nil : Steps R [] []
  | skip {l : List α} {ys : List V} {a : α} : Steps R l ys → R a none → Steps R (l ++ [a]) ys
  | add {l : List α} {ys : List V} {a : α} {y : V} : Steps R l ys → R a (some y) → Steps R (l ++ [a]) (ys ++ [y])
theorem Steps.len {α : Type} {R : α → Option V → Prop} {l : List α} {ys : List V} (h : Steps R l ys) : ys.length ≤ l.length := by
  induction h with
  | nil => exact Nat.le_refl _
  | skip _ _ ih => rw [List.length_append]; exact Nat.le_succ_of_le ih
  | add _ _ ih => rw [List.length_append, List.length_append]; exact Nat.succ_le_succ ih
theorem Steps.fm {α : Type} {h : α → Option V} {l : List α} {ys : List V} (k : Steps (fun a o => h a = o) l ys) : ys = l.filterMap h := by
  induction k with
  | nil => rfl
  | skip _ e ih => rw [List.filterMap_append, ← ih, List.filterMap_cons_none e]; exact (List.append_nil _).symm
  | add _ e ih => rw [List.filterMap_append, ← ih, List.filterMap_cons_some e]; rfl
inductive Steps2 {α : Type} (R : α → V → Option V → Prop) (f : α → List V) : List α → List V → Prop
  | nil : Steps2 R f [] []
  | add {l : List α} {ys zs : List V} {a : α} : Steps2 R f l ys → Steps (R a) (f a) zs → Steps2 R f (l ++ [a]) (ys ++ zs)
theorem Steps2.len {α : Type} {R : α → V → Option V → Prop} {f : α → List V} {l : List α} {ys : List V} (h : Steps2 R f l ys) : ys.length ≤ (l.flatMap f).length := by
  induction h with
  | nil => exact Nat.le_refl _
  | add _ k ih => rw [List.flatMap_append, List.length_append, List.length_append, List.flatMap_singleton]; exact Nat.add_le_add ih k.len
theorem Steps2.fm {α : Type} {h : α → V → Option V} {f : α → List V} {l : List α} {ys : List V} (k : Steps2 (fun a b o => h a b = o) f l ys) : ys = l.flatMap fun a => (f a).filterMap (h a) := by
  induction k with
  | nil => rfl
  | add _ k ih => rw [List.flatMap_append, ← ih, k.fm, List.flatMap_singleton]
theorem take_at {α : Type} {l : List α} {i : Nat} {a : α} (h : l[i]? = some a) : l.take (i + 1) = l.take i ++ [a] := by rw [List.take_add_one, h]; rfl
noncomputable def Fr (scope : Scope) (st : St) (vs : List (Str × V)) : Prop := ∀ y, scope.names.lookup y = some .free → vs.lookup y = st.vars.lookup y
inductive OutC (st : St) (X : List (Str × V) → Prop) : St → Prop
  | mk (vs : List (Str × V)) (h : X vs) : OutC st X ⟨vs, st.heap, st.nx⟩
inductive CI {α : Type} (st : St) (R : α → Option V → Prop) (l : List α) (X : List (Str × V) → Prop) (i : Nat) (ys : List V) : St → Prop
  | mk (vs : List (Str × V)) (hs : Steps R (l.take i) ys) (h : X vs) : CI st R l X i ys ⟨vs, st.heap, st.nx⟩
inductive CI1 {α : Type} (st : St) (R : α → V → Option V → Prop) (f : α → List V) (l : List α) (X : List (Str × V) → Prop) (i : Nat) (ys : List V) : St → Prop
  | mk (vs : List (Str × V)) (hs : Steps2 R f (l.take i) ys) (h : X vs) : CI1 st R f l X i ys ⟨vs, st.heap, st.nx⟩
inductive CI2 (st : St) (ys₀ : List V) (R : V → Option V → Prop) (m : List V) (X : List (Str × V) → Prop) (j : Nat) : List V → St → Prop
  | mk (zs : List V) (vs : List (Str × V)) (hs : Steps R (m.take j) zs) (h : X vs) : CI2 st ys₀ R m X j (ys₀ ++ zs) ⟨vs, st.heap, st.nx⟩
theorem Itb.vs {st : St} {v : V} {xs : List V} (h : Itb st v xs) (vs : List (Str × V)) : Itb ⟨vs, st.heap, st.nx⟩ v xs := by cases v <;> exact h
theorem comp_lk {scope : Scope} {x : Str} {k : NameKind} (h : scope.names.lookup x = some k) (hk : k = .local ∨ k = .cell) : (C.comp scope).sc.names.lookup x = some k := by
  show (relab C.sc scope).names.lookup x = _
  unfold relab; rw [lookup_relab, h]
  rcases hk with rfl | rfl <;> rfl
theorem ne_free {scope : Scope} {x y : Str} {k : NameKind} (h : scope.names.lookup x = some k) (hk : k = .local ∨ k = .cell) (hy : scope.names.lookup y = some .free) : y ≠ x := fun e => by
  subst e; cases h.symm.trans hy; exact hk.elim nofun nofun
theorem Fr.setv {scope : Scope} {st : St} {vs : List (Str × V)} (h : Fr scope st vs) {x : Str} {k : NameKind} (hx : scope.names.lookup x = some k) (hk : k = .local ∨ k = .cell) (v : V) : Fr scope st (setv x v vs) :=
  fun y hy => (setv_lookup x v y vs).trans ((if_neg (ne_free hx hk hy)).trans (h y hy))

theorem comp_core {α : Type} {scope : Scope} {elt target iter : Expr} {ifs : List Expr} {pos : Pos} {v : V} {Qi : List V → St → Prop} (l : List α) (e : α → V) (R : α → Option V → Prop) (tgt : V → List (Str × V) → List (Str × V)) (hv : Itb st v (l.map e)) (hsz : l.length ≤ sizeLine)
    (htgt : ∀ a ∈ l, ∀ vs, JA (C.comp scope) target (e a) ⟨vs, st.heap, st.nx⟩ fun st' => st' = ⟨tgt (e a) vs, st.heap, st.nx⟩) (hid : ∀ a b vs, tgt a (tgt b vs) = tgt a vs) (hfr : ∀ a vs, Fr scope st vs → Fr scope st (tgt a vs))
    (turn : ∀ a ∈ l, JTs (C.comp scope) ifs ⟨tgt (e a) (inner scope st.vars), st.heap, st.nx⟩ fun ok st₃ => (ok = true → J (C.comp scope) VR (eval elt) st₃ fun y st₄ => st₄ = ⟨tgt (e a) (inner scope st.vars), st.heap, st.nx⟩ ∧ R a (some y)) ∧
      (ok = false → st₃ = ⟨tgt (e a) (inner scope st.vars), st.heap, st.nx⟩ ∧ R a none))
    (fin : ∀ ys, Steps R l ys → Qi ys st) : CompIn C scope elt [⟨target, iter, ifs, 0⟩] pos st v Qi := by
  have f0 : Fr scope st (inner scope st.vars) := fun y hy => inner_lookup' hy _
  refine comp_1 (l.map e) (CI st R l fun vs => (∀ a, tgt a vs = tgt a (inner scope st.vars)) ∧ Fr scope st vs) hv (.mk _ .nil ⟨fun _ => rfl, f0⟩) (fun i ys st' h => ?_) (fun i ys x st' hx h => ?_) fun ys st' h => ?_
  · cases h with | mk vs => exact hv.vs vs
  · cases h with | mk vs hs h
    rw [List.getElem?_map] at hx
    obtain ⟨a, ha, rfl⟩ := Option.map_eq_some_iff.mp hx
    have hm : a ∈ l := List.mem_of_getElem? ha
    have re : ∀ ys, Steps R (l.take i ++ [a]) ys → CI st R l (fun vs => (∀ a, tgt a vs = tgt a (inner scope st.vars)) ∧ Fr scope st vs) (i + 1) ys ⟨tgt (e a) (inner scope st.vars), st.heap, st.nx⟩ := fun ys k =>
      .mk _ (by rw [take_at ha]; exact k) ⟨fun b => hid b (e a) _, hfr _ _ f0⟩
    intro env Z R' ρ s w hs' r
    refine wp_use (htgt a hm vs env Z R' ρ s w hs' r) (fun _ s₁ _ st₁ Z₁ ρ₁ hz₁ hr₁ _ hs₁ e => ?_)
    subst e
    refine ⟨(), _, Z₁, ρ₁, hz₁, hr₁, trivial, hs₁, ?_⟩
    rw [h.1]
    refine J.mono (turn a hm) fun ok st₃ c => ⟨fun hok => e_emit (J.mono (c.1 hok) fun y st₄ q => ?_), fun hok => ?_⟩
    · refine ⟨Nat.le_trans hs.len (Nat.le_trans (List.length_take_le' ..) hsz), ?_⟩
      rw [q.1]; exact re _ (.add hs q.2)
    · rw [(c.2 hok).1]; exact re _ (.skip hs (c.2 hok).2)
  · rw [List.length_map] at h
    cases h with | mk vs hs h
    rw [List.take_length] at hs
    exact ⟨fun x v hx e => by rw [h.2 x hx]; exact e, fin _ hs⟩

theorem comp_core2 {α : Type} {scope : Scope} {elt target iter iter' : Expr} {ifs' : List Expr} {z : Str} {pz pos : Pos} {v : V} {k : NameKind} {Qi : List V → St → Prop} (l : List α) (e : α → V) (f : α → List V) (R : α → V → Option V → Prop) (B : α → List (Str × V) → Prop)
    (hv : Itb st v (l.map e)) (hsz : (l.flatMap f).length ≤ sizeLine) (hk : scope.names.lookup z = some k) (hkk : k = .local ∨ k = .cell) (bz : ∀ a vs b, B a vs → B a (setv z b vs))
    (out : ∀ a ∈ l, ∀ vs, Fr scope st vs → JA (C.comp scope) target (e a) ⟨vs, st.heap, st.nx⟩ (OutC st fun vs => Fr scope st vs ∧ B a vs))
    (it2 : ∀ a ∈ l, ∀ vs, Fr scope st vs → B a vs → J (C.comp scope) VR (eval iter') ⟨vs, st.heap, st.nx⟩ fun u st' => st' = ⟨vs, st.heap, st.nx⟩ ∧ ∀ vs', Itb ⟨vs', st.heap, st.nx⟩ u (f a))
    (turn : ∀ a ∈ l, ∀ b ∈ f a, ∀ vs, Fr scope st vs → B a vs → vs.lookup z = some b → JTs (C.comp scope) ifs' ⟨vs, st.heap, st.nx⟩ fun ok st₃ => (ok = true → J (C.comp scope) VR (eval elt) st₃ fun u st₄ => st₄ = ⟨vs, st.heap, st.nx⟩ ∧ R a b (some u)) ∧ (ok = false → st₃ = ⟨vs, st.heap, st.nx⟩ ∧ R a b none))
    (fin : ∀ ys, Steps2 R f l ys → Qi ys st)
    (hs : ∀ env x, foldedSetIterable iter' env x = pure x := by intro _ _; rfl) : CompIn C scope elt [⟨target, iter, [], 0⟩, ⟨.Name z pz, iter', ifs', 0⟩] pos st v Qi := by
  refine comp_2 (l.map e) (CI1 st R f l (Fr scope st)) hv (.mk _ .nil fun y hy => inner_lookup' hy _) (fun i ys st' h => ?_) (fun i ys x st' hx h => ?_) fun ys st' h => ?_
  · cases h with | mk vs => exact hv.vs vs
  · cases h with | mk vs hs1 h1
    rw [List.getElem?_map] at hx
    obtain ⟨a, ha, rfl⟩ := Option.map_eq_some_iff.mp hx
    have hm : a ∈ l := List.mem_of_getElem? ha
    have le1 : ((l.take i).flatMap f).length + (f a).length ≤ sizeLine := by
      refine Nat.le_trans ?_ hsz
      have : l.flatMap f = ((l.take i).flatMap f ++ f a) ++ (l.drop (i + 1)).flatMap f := by
        rw [← List.flatMap_singleton (f := f) (x := a), ← List.flatMap_append, ← take_at ha, ← List.flatMap_append, List.take_append_drop]
      rw [this, List.length_append, List.length_append]
      exact Nat.le_add_right ..
    intro env Z R' ρ s w hs' r
    refine wp_use (out a hm vs h1 env Z R' ρ s w hs' r) (fun _ s₁ _ st₁ Z₁ ρ₁ hz₁ hr₁ _ hs₁ q => ?_)
    refine ⟨(), _, Z₁, ρ₁, hz₁, hr₁, trivial, hs₁, ?_⟩
    cases q with | mk vs₁ q
    refine ts_nil ⟨fun _ => e_gen ?_ hs, nofun⟩
    refine J.mono (it2 a hm vs₁ q.1 q.2) fun u st' q2 => ?_
    rw [q2.1]
    refine ⟨f a, CI2 st ys (R a) (f a) fun vs => Fr scope st vs ∧ B a vs, ?_, fun j ys st' h => ?_, fun j ys b st' hb h => ?_, fun ys st' h => ?_⟩
    · have h : CI2 st ys (R a) (f a) (fun vs => Fr scope st vs ∧ B a vs) 0 (ys ++ []) ⟨vs₁, st.heap, st.nx⟩ := .mk _ _ .nil q
      rw [List.append_nil] at h; exact h
    · cases h with | mk zs vs => exact q2.2 vs
    · cases h with | mk zs vs hs2 h2
      have hb' := List.mem_of_getElem? hb
      refine a_Name ?_ (comp_lk hk hkk) hkk
      have q3 : Fr scope st (setv z b vs) ∧ B a (setv z b vs) := ⟨h2.1.setv hk hkk b, bz a vs b h2.2⟩
      refine J.mono (turn a hm b hb' _ q3.1 q3.2 ((setv_lookup ..).trans (if_pos rfl))) fun ok st₃ c => ⟨fun hok => e_emit (J.mono (c.1 hok) fun y st₄ q => ?_), fun hok => ?_⟩
      · refine ⟨?_, ?_⟩
        · rw [List.length_append]
          exact Nat.le_trans (Nat.add_le_add hs1.len (Nat.le_trans hs2.len (List.length_take_le' ..))) le1
        · rw [q.1, List.append_assoc]; exact .mk _ _ (by rw [take_at hb]; exact .add hs2 q.2) q3
      · rw [(c.2 hok).1]; exact .mk _ _ (by rw [take_at hb]; exact .skip hs2 (c.2 hok).2) q3
    · cases h with | mk zs vs hs2 h2
      rw [List.take_length] at hs2
      exact .mk _ (by rw [take_at ha]; exact .add hs1 hs2) h2.1
  · rw [List.length_map] at h
    cases h with | mk vs hs1 h
    rw [List.take_length] at hs1
    exact ⟨fun x v hx e => by rw [h x hx]; exact e, fin _ hs1⟩

theorem comp_p {scope : Scope} {elt target iter : Expr} {ifs : List Expr} {pos : Pos} {v : V} {Qi : List V → St → Prop} (xs : List V) (tgt : V → List (Str × V) → List (Str × V)) (f : V → Option V) (hv : Itb st v xs) (hsz : xs.length ≤ sizeLine)
    (htgt : ∀ a ∈ xs, ∀ vs, JA (C.comp scope) target a ⟨vs, st.heap, st.nx⟩ fun st' => st' = ⟨tgt a vs, st.heap, st.nx⟩) (hid : ∀ a b vs, tgt a (tgt b vs) = tgt a vs) (hfr : ∀ a vs, Fr scope st vs → Fr scope st (tgt a vs))
    (turn : ∀ a ∈ xs, JTs (C.comp scope) ifs ⟨tgt a (inner scope st.vars), st.heap, st.nx⟩ fun ok st₃ => (ok = true → J (C.comp scope) VR (eval elt) st₃ fun y st₄ => st₄ = ⟨tgt a (inner scope st.vars), st.heap, st.nx⟩ ∧ f a = some y) ∧
      (ok = false → st₃ = ⟨tgt a (inner scope st.vars), st.heap, st.nx⟩ ∧ f a = none))
    (fin : Qi (xs.filterMap f) st) : CompIn C scope elt [⟨target, iter, ifs, 0⟩] pos st v Qi :=
  comp_core xs id (fun a o => f a = o) tgt (by rw [List.map_id]; exact hv) hsz htgt hid hfr turn fun ys h => by rw [h.fm]; exact fin

theorem comp_pN {scope : Scope} {elt iter : Expr} {ifs : List Expr} {x : Str} {px pos : Pos} {v : V} {k : NameKind} {Qi : List V → St → Prop} (xs : List V) (f : V → Option V) (hv : Itb st v xs) (hsz : xs.length ≤ sizeLine)
    (hk : scope.names.lookup x = some k) (hkk : k = .local ∨ k = .cell)
    (turn : ∀ a ∈ xs, JTs (C.comp scope) ifs ⟨setv x a (inner scope st.vars), st.heap, st.nx⟩ fun ok st₃ => (ok = true → J (C.comp scope) VR (eval elt) st₃ fun y st₄ => st₄ = ⟨setv x a (inner scope st.vars), st.heap, st.nx⟩ ∧ f a = some y) ∧
      (ok = false → st₃ = ⟨setv x a (inner scope st.vars), st.heap, st.nx⟩ ∧ f a = none))
    (fin : Qi (xs.filterMap f) st) : CompIn C scope elt [⟨.Name x px, iter, ifs, 0⟩] pos st v Qi :=
  comp_p xs (setv x) f hv hsz (fun a _ vs => a_Name rfl (comp_lk hk hkk) hkk) (fun a b vs => setv_setv x a b vs) (fun a vs h => h.setv hk hkk a) turn fin
end
end Mine
end
section -- MComp5
set_option maxRecDepth 100000
namespace Mine
open PySem PySem.W PyProof.Rows

theorem setv_comm {x y : Str} (h : x ≠ y) (a b : V) : ∀ l : List (Str × V), (l.lookup x).isSome → setv x a (setv y b l) = setv y b (setv x a l)
  | [], e => by simp at e
  | (z, u) :: r, e => by
    by_cases q1 : z = x
    · subst q1
      have e1 : (z == y) = false := by simpa using h
      simp [setv, e1]
    · have e1 : (z == x) = false := by simpa using q1
      have e1' : (x == z) = false := by simpa using (Ne.symm q1)
      rw [List.lookup_cons, e1'] at e
      by_cases q2 : z = y
      · subst q2
        simp [setv, e1]
      · have e2 : (z == y) = false := by simpa using q2
        simp [setv, e1, e2, setv_comm h a b r e]
noncomputable def pfst : V → V
  | .tup (a :: _) => a
  | _ => .none
noncomputable def psnd : V → V
  | .tup [_, b] => b
  | _ => .none
noncomputable def tgt2 (x y : Str) (a : V) (vs : List (Str × V)) : List (Str × V) := setv y (psnd a) (setv x (pfst a) vs)
theorem tgt2_id {x y : Str} (h : x ≠ y) (a b : V) (vs : List (Str × V)) : tgt2 x y a (tgt2 x y b vs) = tgt2 x y a vs := by
  unfold tgt2
  rw [setv_comm h _ _ _ (by rw [setv_lookup]; simp), setv_setv, setv_setv]
section
variable {C : Fx} {st : St}
theorem comp_p2 {scope : Scope} {elt iter : Expr} {ifs : List Expr} {x y : Str} {px py pt pos : Pos} {n : Nat} {v : V} {k k' : NameKind} {Qi : List V → St → Prop} (xs : List V) (f : V → Option V) (hv : Itb st v xs) (hsz : xs.length ≤ sizeLine)
    (hp : ∀ a ∈ xs, ∃ u w, a = .tup [u, w]) (hxy : x ≠ y)
    (hk : scope.names.lookup x = some k) (hkk : k = .local ∨ k = .cell) (hk' : scope.names.lookup y = some k') (hkk' : k' = .local ∨ k' = .cell)
    (turn : ∀ u w, .tup [u, w] ∈ xs → JTs (C.comp scope) ifs ⟨setv y w (setv x u (inner scope st.vars)), st.heap, st.nx⟩ fun ok st₃ => (ok = true → J (C.comp scope) VR (eval elt) st₃ fun z st₄ => st₄ = ⟨setv y w (setv x u (inner scope st.vars)), st.heap, st.nx⟩ ∧ f (.tup [u, w]) = some z) ∧
      (ok = false → st₃ = ⟨setv y w (setv x u (inner scope st.vars)), st.heap, st.nx⟩ ∧ f (.tup [u, w]) = none))
    (fin : Qi (xs.filterMap f) st) : CompIn C scope elt [⟨.Tuple [.Name x px, .Name y py] n pt, iter, ifs, 0⟩] pos st v Qi := by
  refine comp_p xs (tgt2 x y) f hv hsz (fun a ha vs => ?_) (fun a b vs => tgt2_id hxy a b vs) (fun a vs h => (h.setv hk hkk _).setv hk' hkk' _) (fun a ha => ?_) fin
  · obtain ⟨u, w, rfl⟩ := hp a ha
    exact a_Tup2 rfl (comp_lk hk hkk) (comp_lk hk' hkk') hkk hkk'
  · obtain ⟨u, w, rfl⟩ := hp a ha
    exact turn u w ha
end
end Mine
end
section -- MComp8
set_option maxRecDepth 100000
/-! a comprehension over any list that leaves the state as it is -/
namespace Mine
open PySem PySem.W PyProof.Rows
section
variable {C : Fx} {st : St}
theorem comp_mapT {α : Type} {scope : Scope} {elt target iter : Expr} {pos : Pos} {v : V} {Qi : List V → St → Prop} (l : List α) (e g : α → V) (tgt : V → List (Str × V) → List (Str × V)) (hv : Itb st v (l.map e)) (hsz : l.length ≤ 100000)
    (htgt : ∀ a ∈ l, ∀ vs, JA (C.comp scope) target (e a) ⟨vs, st.heap, st.nx⟩ fun st' => st' = ⟨tgt (e a) vs, st.heap, st.nx⟩) (hid : ∀ a b vs, tgt a (tgt b vs) = tgt a vs) (hfr : ∀ a vs, Fr scope st vs → Fr scope st (tgt a vs))
    (turn : ∀ a ∈ l, J (C.comp scope) VR (eval elt) ⟨tgt (e a) (inner scope st.vars), st.heap, st.nx⟩ fun y st₄ => y = g a ∧ st₄ = ⟨tgt (e a) (inner scope st.vars), st.heap, st.nx⟩)
    (fin : Qi (l.map g) st) : CompIn C scope elt [⟨target, iter, [], 0⟩] pos st v Qi :=
  comp_core l e (fun a o => some (g a) = o) tgt hv (Nat.le_trans hsz (by decide)) htgt hid hfr (fun a ha => ts_nil ⟨fun _ => J.mono (turn a ha) fun y st₄ q => ⟨q.2, congrArg some q.1.symm⟩, nofun⟩) fun ys h => by
    rw [h.fm, show (fun a => some (g a)) = some ∘ g from rfl, List.filterMap_eq_map]; exact fin
theorem comp_map {α : Type} {scope : Scope} {elt iter : Expr} {x : Str} {px pos : Pos} {v : V} {k : NameKind} {Qi : List V → St → Prop} (l : List α) (e g : α → V) (hv : Itb st v (l.map e)) (hsz : l.length ≤ 100000)
    (hk : scope.names.lookup x = some k) (hkk : k = .local ∨ k = .cell)
    (turn : ∀ a ∈ l, J (C.comp scope) VR (eval elt) ⟨setv x (e a) (inner scope st.vars), st.heap, st.nx⟩ fun y st₄ => y = g a ∧ st₄ = ⟨setv x (e a) (inner scope st.vars), st.heap, st.nx⟩)
    (fin : Qi (l.map g) st) : CompIn C scope elt [⟨.Name x px, iter, [], 0⟩] pos st v Qi := by
  exact comp_mapT l e g (setv x) hv hsz (fun a _ vs => a_Name rfl (comp_lk hk hkk) hkk) (fun a b vs => setv_setv x a b vs) (fun a vs h => h.setv hk hkk a) turn fin
theorem comp_map2 {α : Type} {scope : Scope} {elt iter : Expr} {x y : Str} {px py pt pos : Pos} {n : Nat} {v : V} {k k' : NameKind} {Qi : List V → St → Prop} (l : List α) (e₁ e₂ g : α → V) (hv : Itb st v (l.map fun a => .tup [e₁ a, e₂ a])) (hsz : l.length ≤ 100000) (hxy : x ≠ y)
    (hk : scope.names.lookup x = some k) (hkk : k = .local ∨ k = .cell) (hk' : scope.names.lookup y = some k') (hkk' : k' = .local ∨ k' = .cell)
    (turn : ∀ a ∈ l, J (C.comp scope) VR (eval elt) ⟨setv y (e₂ a) (setv x (e₁ a) (inner scope st.vars)), st.heap, st.nx⟩ fun z st₄ => z = g a ∧ st₄ = ⟨setv y (e₂ a) (setv x (e₁ a) (inner scope st.vars)), st.heap, st.nx⟩)
    (fin : Qi (l.map g) st) : CompIn C scope elt [⟨.Tuple [.Name x px, .Name y py] n pt, iter, [], 0⟩] pos st v Qi := by
  exact comp_mapT l (fun a => .tup [e₁ a, e₂ a]) g (tgt2 x y) hv hsz (fun a ha vs => a_Tup2 rfl (comp_lk hk hkk) (comp_lk hk' hkk') hkk hkk') (fun a b vs => tgt2_id hxy a b vs) (fun a vs h => (h.setv hk hkk _).setv hk' hkk' _) turn fin
end
end Mine
end
section -- MInts
set_option maxRecDepth 100000
namespace Mine
open PySem PySem.W PyProof.Rows

section
variable {C : Fx} {st : St}

theorem op_mod {a b : Int} {Q : V → St → Prop} (hb : 0 < b) (h : Q (.int (a % b)) st) : JV C VR [.int a, .int b] (two (binaryOp .Mod)) st Q :=
  op_int fun env Z R ρ s t u hs => by
    rw [← Int.fmod_eq_emod_of_nonneg a (Int.le_of_lt hb)] at h
    exact PyProof.Rows.mod_int' (by lia) (SR.post (hs.tok _) (.int _ _) h)
theorem op_fdiv {a b : Int} {Q : V → St → Prop} (hb : 0 < b) (hs : b.natAbs.log2 < 9000) (h : Q (.int (a / b)) st) : JV C VR [.int a, .int b] (two (binaryOp .FloorDiv)) st Q :=
  op_int fun env Z R ρ s t u hs' => by
    rw [← Int.fdiv_eq_ediv_of_nonneg a (Int.le_of_lt hb)] at h
    exact PyProof.Rows.floordiv_int (hp := .inl (PyProof.noPylong_of_log2 hs)) (by lia) (SR.post (hs'.tok _) (.int _ _) h)
theorem op_pow {a n : Int} {Q : V → St → Prop} (hn : 0 ≤ n) (hsz : (Builtin.Int.intBits a : Int) * n ≤ 2 ^ 27) (h : Q (.int (a ^ n.toNat)) st) : JV C VR [.int a, .int n] (two (binaryOp .Pow)) st Q :=
  op_int fun env Z R ρ s t u hs => PyProof.Rows.pow_int hn hsz (SR.post (hs.tok _) (.int _ _) h)
theorem op_and {a b : Int} {Q : V → St → Prop} (h : Q (.int (Builtin.bitAnd a b)) st) : JV C VR [.int a, .int b] (two (binaryOp .BitAnd)) st Q :=
  op_int fun env Z R ρ s t u hs => PyProof.Rows.and_int (SR.post (hs.tok _) (.int _ _) h)
theorem op_ge {a b : Int} {Q : V → St → Prop} (h : Q (.bool (decide (b ≤ a))) st) : JV C VR [.int a, .int b] (two (compareOp .GtE)) st Q :=
  op_int fun env Z R ρ s t u hs => P.ge_int (SR.post hs (.bool _) h)

theorem ip_add {a b : Int} {Q : V → St → Prop} (h : Q (.int (a + b)) st) : JV C VR [.int a, .int b] (two (inplaceOp .Add)) st Q :=
  op_int fun env Z R ρ s t u hs => wpAny_iadd_int (SR.post (hs.tok _) (.int _ _) h)
theorem ip_or {a b : Int} {Q : V → St → Prop} (h : Q (.int (Builtin.bitOr a b)) st) : JV C VR [.int a, .int b] (two (inplaceOp .BitOr)) st Q :=
  op_int fun env Z R ρ s t u hs => PyProof.Rows.ior_int (SR.post (hs.tok _) (.int _ _) h)
theorem ip_shl {a n : Int} {Q : V → St → Prop} (hn : 0 ≤ n) (hsz : (Builtin.Int.intBits a : Int) + n ≤ 2 ^ 27) (h : Q (.int (a * 2 ^ n.toNat)) st) : JV C VR [.int a, .int n] (two (inplaceOp .LShift)) st Q :=
  op_int fun env Z R ρ s t u hs => PyProof.Rows.ilshift_int hn hsz (SR.post (hs.tok _) (.int _ _) h)

theorem ne_none {Z : PH} {ρ : List Addr} {v : V} {w : Value} (h : VR Z ρ v w) (hv : v ≠ .none) (hv' : ∀ u, v ≠ .val u) : w ≠ .none := by
  cases h <;> simp_all
theorem is_none {v : V} {Q : V → St → Prop} (h : Q (.bool (match v with | .none => true | _ => false)) st) (hv : ∀ u, v ≠ .val u := by intro _ x; cases x) : JV C VR [v, .none] (two (compareOp .Is)) st Q :=
  fun env Z R ρ s ws hs hw => by
    obtain ⟨x, y, rfl, h1, h2⟩ := inv2 hw
    obtain rfl := inv_none h2
    cases v with
    | none => obtain rfl := inv_none h1; exact is_none_none (SR.post hs (.bool _) h)
    | val u => exact absurd rfl (hv u)
    | _ => exact is_none_ne (ne_none h1 (by intro x; cases x) hv) (SR.post hs (.bool _) h)
theorem isnot_none {v : V} {Q : V → St → Prop} (h : Q (.bool (match v with | .none => false | _ => true)) st) (hv : ∀ u, v ≠ .val u := by intro _ x; cases x) : JV C VR [v, .none] (two (compareOp .IsNot)) st Q :=
  fun env Z R ρ s ws hs hw => by
    obtain ⟨x, y, rfl, h1, h2⟩ := inv2 hw
    obtain rfl := inv_none h2
    cases v with
    | none => obtain rfl := inv_none h1; exact isnot_none_none (SR.post hs (.bool _) h)
    | val u => exact absurd rfl (hv u)
    | _ => exact isnot_none_ne (ne_none h1 (by intro x; cases x) hv) (SR.post hs (.bool _) h)
end

theorem band63 {a : Int} (h : 0 ≤ a) : Builtin.bitAnd a 63 = a % 64 := by
  obtain ⟨n, rfl⟩ := Int.eq_ofNat_of_zero_le h
  rw [PyProof.Rows.bitAnd_pp h (by decide)]
  have : ((n : Int).toNat &&& (63 : Int).toNat) = n % 64 := by
    show n &&& 63 = n % 64
    exact Nat.and_two_pow_sub_one_eq_mod n 6
  rw [this]; rfl
theorem band64 {a : Int} (h : 0 ≤ a) (h2 : a < 256) : (Builtin.bitAnd a 64 != 0) = decide (a / 64 % 2 = 1) := by
  obtain ⟨n, rfl⟩ := Int.eq_ofNat_of_zero_le h
  rw [PyProof.Rows.bitAnd_pp h (by decide)]
  have hn : n < 256 := by lia
  show (((n &&& 64 : Nat) : Int) != 0) = _
  have key : ∀ m : Fin 256, ((((m : Nat) &&& 64 : Nat) : Int) != 0) = decide (((m : Nat) : Int) / 64 % 2 = 1) := by decide +kernel
  exact key ⟨n, hn⟩
theorem bor_low {a b : Int} (ha : 0 ≤ a) (hb : 0 ≤ b) (hb2 : b < 64) : Builtin.bitOr (a * 64) b = a * 64 + b := by
  obtain ⟨n, rfl⟩ := Int.eq_ofNat_of_zero_le ha
  obtain ⟨m, rfl⟩ := Int.eq_ofNat_of_zero_le hb
  rw [PyProof.Rows.bitOr_and, PyProof.Rows.bitAnd_pp (by lia) hb]
  have : (((n : Int) * 64).toNat &&& (m : Int).toNat) = 0 := by
    show ((n * 64 : Nat) &&& m) = 0
    have e : n * 64 = n <<< 6 := by rw [Nat.shiftLeft_eq]
    have hm : m < 2 ^ 6 := by lia
    apply Nat.eq_of_testBit_eq
    intro i
    rw [Nat.testBit_and, e, Nat.testBit_shiftLeft, Nat.zero_testBit]
    by_cases hi : 6 ≤ i
    · rw [Nat.testBit_lt_two_pow (Nat.lt_of_lt_of_le hm (Nat.pow_le_pow_right (by decide) hi)), Bool.and_false]
    · simp [hi]
  rw [this]; simp
end Mine
end
section -- MSeqs
set_option maxRecDepth 100000
namespace Mine
open PySem PySem.W PyProof.Rows

noncomputable def Lis (st : St) (v : V) (xs : List V) : Prop := match v with
  | .lst l => xs = l
  | .obj n => st.heap n = some (.list xs)
  | _ => False
theorem Lis.at_ {C : Fx} {env : Env} {Z R : PH} {ρ : List Addr} {st : St} {s : Shared} {v : V} {xs : List V} {w : Value} (h : Lis st v xs) (hs : SR C env Z R ρ st s) (r : VR Z ρ v w) : ∃ a ws k, w = .ref a ∧ s.heap.get? a = some (lobj ws k) ∧ VRs Z ρ xs ws.toList := by
  cases v with
  | lst l =>
    obtain rfl : xs = _ := h
    obtain ⟨a, ws, k, rfl, hz, ri⟩ := r.lst_inv
    exact ⟨a, ws, k, rfl, hs.z_ hz, ri⟩
  | obj n =>
    obtain ⟨a, ws, k, rfl, ea, ho, ri⟩ := hs.list h r
    exact ⟨a, ws, k, rfl, ho, ri⟩
  | _ => exact h.elim

noncomputable def sl (lo hi : Option Int) (xs : List V) : List V := (xs.drop (lo.elim 0 (clipAt xs.length))).take (hi.elim xs.length (clipAt xs.length) - lo.elim 0 (clipAt xs.length))
theorem sl_upto (k : Nat) (xs : List V) : sl none (some (k : Int)) xs = xs.take k := by
  unfold sl
  simp only [Option.elim, clipAt_nat, List.drop_zero, Nat.sub_zero]
  rcases Nat.le_total k xs.length with h | h
  · rw [Nat.min_eq_left h]
  · rw [Nat.min_eq_right h, List.take_of_length_le (Nat.le_refl _), List.take_of_length_le h]
theorem sl_from (k : Nat) (xs : List V) : sl (some (k : Int)) none xs = xs.drop k := by
  unfold sl
  simp only [Option.elim, clipAt_nat]
  rcases Nat.le_total k xs.length with h | h
  · rw [Nat.min_eq_left h, List.take_of_length_le (by simp)]
  · rw [Nat.min_eq_right h, List.drop_of_length_le (Nat.le_refl _), List.drop_of_length_le h]; simp

noncomputable def rPart (Z : PH) (ρ : List Addr) (b : Option Int) (a : Value) : Prop := IsPart a b
noncomputable abbrev JP (C : Fx) (p : Option Expr) (st : St) (Q : Option Int → St → Prop) : Prop := J C rPart (evalPart p) st Q

section
variable {C : Fx} {st : St}

theorem p_none {Q : Option Int → St → Prop} (h : Q none st) : JP C none st Q := fun env Z R ρ s hs => wpAny_pure (SR.post hs .none h)
theorem p_some {e : Expr} {Q : Option Int → St → Prop} (h : J C VR (eval e) st fun v st' => ∃ i, v = .int i ∧ Q (some i) st') : JP C (some e) st Q :=
  fun env Z R ρ s hs => wp_use (h env Z R ρ s hs) (fun w s' v st' Z' ρ' hz hr rv hs' ⟨i, e, hq⟩ => by
    subst e
    obtain ⟨t, rfl⟩ := inv_int rv
    exact ⟨some i, st', Z', ρ', hz, hr, .int i t, hs', hq⟩)

theorem ev_Slice {value : Expr} {lower upper : Option Expr} {p pos : Pos} {Q : V → St → Prop}
    (h : J C VR (eval value) st fun v st₁ => JP C lower st₁ fun lo st₂ => JP C upper st₂ fun hi st₃ => ∃ xs, Lis st₃ v xs ∧ xs.length ≤ sizeLine ∧ Q (.lst (sl lo hi xs)) st₃)
    (ht : ∀ o r, letTemporaryGo value o r = pure () := by intro _ _; rfl) : J C VR (eval (.Subscript value (.Slice lower upper none p) pos)) st Q :=
  fun env Z R ρ s hs => wpAny_Subscript_list_slice (wp_use (h env Z R ρ s hs) (fun w s₁ v st₁ Z₁ ρ₁ hz₁ hr₁ rv hs₁ h₁ =>
    wp_use (h₁ env Z₁ R ρ₁ s₁ hs₁) (fun wl s₂ lo st₂ Z₂ ρ₂ hz₂ hr₂ rl hs₂ h₂ =>
      wp_use (h₂ env Z₂ R ρ₂ s₂ hs₂) (fun wu s₃ hi st₃ Z₃ ρ₃ hz₃ hr₃ ru hs₃ ⟨xs, hl, hsz, hq⟩ => by
        obtain ⟨a, ws, k, rfl, ho, ri⟩ := hl.at_ hs₃ ((rv.mono hz₂ hr₂).mono hz₃ hr₃)
        have hlen := ri.toArr
        obtain ⟨le1, k1⟩ := hs₃.allocZ { cls := .type "slice", data := .fields #[wl, wu, .none] } s₃.toks
        obtain ⟨le2, k2⟩ := k1.allocZ (lobj (slicePick ws lo hi none) 0) s₃.toks
        refine ⟨a, ws, lo, hi, rfl, ⟨_, ho, rfl, _, rfl⟩, by lia, rl, ru, ?_⟩
        dsimp only at k2 le2
        rw [Heap.size_push] at k2 le2
        refine ⟨_, _, _, ρ₃, ((hz₁.trans hz₂).trans hz₃).trans (le1.trans le2), (hr₁.trans hr₂).trans hr₃, .lst (PH.put_self ..) ?_, k2, hq⟩
        have e := congrArg Array.toList (slicePick_plain ws lo hi)
        dsimp only at e
        rw [e]
        unfold sl
        rw [hlen]
        exact ((ri.drop _).take _).mono (le1.trans le2) (Ext.refl _))))) ht

theorem op_cat {v u : V} {xs ys : List V} {Q : V → St → Prop} (hv : Lis st v xs) (hu : Lis st u ys) (hsz : xs.length + ys.length ≤ sizeLine) (h : Q (.lst (xs ++ ys)) st) : JV C VR [v, u] (two (binaryOp .Add)) st Q :=
  fun env Z R ρ s ws hs hw => by
    obtain ⟨x, y, rfl, h1, h2⟩ := inv2 hw
    obtain ⟨a, w1, k1, rfl, ho1, r1⟩ := hv.at_ hs h1
    obtain ⟨b, w2, k2, rfl, ho2, r2⟩ := hu.at_ hs h2
    have l1 := r1.toArr
    have l2 := r2.toArr
    obtain ⟨le, k⟩ := hs.allocZ (lobj (w1 ++ w2) 0) s.toks
    refine P.add_list ho1 ho2 ⟨_, _, _, ρ, le, Ext.refl _, .lst (PH.put_self ..) ?_, k, h⟩ (by lia)
    rw [Array.toList_append]
    exact (r1.append r2).mono le (Ext.refl _)

theorem b_len {v : V} {xs : List V} {Q : V → St → Prop} (hv : Lis st v xs) (hsz : xs.length < 2 ^ 63) (h : Q (.int xs.length) st) : JV C VR [v] (fun ws => call (.builtin "len") ws) st Q :=
  fun env Z R ρ s ws hs hw => by
    obtain ⟨x, rfl, h1⟩ := inv1 hw
    obtain ⟨a, w1, k1, rfl, ho1, r1⟩ := hv.at_ hs h1
    have l1 := r1.toArr
    refine Calls.call_len_list ⟨_, ho1, rfl, _, rfl⟩ (by lia) (SR.post (hs.tok _) ?_ h)
    rw [l1]; exact .int _ _

theorem m_insert {n : Nat} {xs : List V} {k : Int} {v : V} {Q : V → St → Prop} (e : st.heap n = some (.list xs)) (hsz : xs.length ≤ sizeLine) (h0 : 0 ≤ k) (hk : k < 2 ^ 63) (h : Q .none { st with heap := upd st.heap n (.list (xs.take k.toNat ++ v :: xs.drop k.toNat)) }) :
    JV C VR [.obj n, .int k, v] (fun ws => call (.builtin "list.insert") ws) st Q :=
  fun env Z R ρ s ws hs hw => by
    obtain ⟨x, y, z, rfl, r1, r2, r3⟩ := inv3 hw
    obtain ⟨t, rfl⟩ := inv_int r2
    obtain ⟨a, its, m, rfl, ea, ho, ri⟩ := hs.list e r1
    have hl := ri.toArr
    have hf : ¬ (!Builtin.List.listFitsIndex k) = true := by rw [fitsIndex_of h0 hk]; decide
    have hz : its.size ≤ sizeLine := hl ▸ hsz
    have M := PySem.AutoListH.list_insert_list_int_val_1 a its m k t z hf hz
    refine call_meets PySem.F.slot_list_insert ⟨_, ho, rfl⟩ PySem.F.entry_list_insert (PySem.F.args_list_insert_3 _ _ _) M ⟨ho, ?_⟩
    refine SR.post (hs.list_turn (tk := s.toks) e ea ho _ ?_) .none h
    have e1 : (if k < 0 then (k + ((its.size : Nat) : Int)).toNat else min k.toNat its.size) = min k.toNat its.size := by rw [if_neg (by lia)]
    dsimp only
    rw [e1]
    generalize k.toNat = j
    have e2 : ((its.extract 0 (min j its.size)).push z ++ its.extract (min j its.size)).toList = its.toList.take j ++ z :: its.toList.drop j := by
      simp only [Array.toList_append, Array.toList_push, Array.toList_extract, List.extract_eq_take_drop, List.drop_zero, Nat.sub_zero, List.append_assoc, List.singleton_append]
      rcases Nat.le_total j its.size with q | q
      · rw [Nat.min_eq_left q, List.take_of_length_le (l := its.toList.drop j) (by simp)]
      · rw [Nat.min_eq_right q, List.drop_eq_nil_of_le (i := its.size) (by simp), List.drop_eq_nil_of_le (i := j) (by simpa using q), List.take_of_length_le (i := its.size) (by simp), List.take_of_length_le (i := j) (by simpa using q)]
        simp
    rw [e2]
    exact (ri.take j).append (.cons r3 (ri.drop j))
end
end Mine
end
section -- MEq
set_option maxRecDepth 100000
namespace Mine
open PySem PySem.W PyProof.Rows

mutual
noncomputable def toD : V → PyData
  | .none => .none
  | .bool b => .bool b
  | .int i => .int i
  | .str x => .str x
  | .tup l => .tuple (toDs l)
  | .lst l => .list (toDs l)
  | .rng _ _ | .obj _ | .inst _ _ | .deq | .ref | .val _ => .none
noncomputable def toDs : List V → List PyData
  | [] => []
  | v :: r => toD v :: toDs r
end
mutual
noncomputable def okD : V → Bool
  | .none | .bool _ | .int _ => true
  | .str x => PyData.strOk x
  | .tup l | .lst l => okDs l
  | .rng _ _ | .obj _ | .inst _ _ | .deq | .ref | .val _ => false
noncomputable def okDs : List V → Bool
  | [] => true
  | v :: r => okD v && okDs r
end
theorem toDs_map : ∀ l : List V, toDs l = l.map toD
  | [] => by simp [toDs]
  | v :: r => by simp [toDs, toDs_map r]
theorem okDs_all : ∀ l : List V, okDs l = l.all okD
  | [] => by simp [okDs]
  | v :: r => by simp [okDs, okDs_all r]

theorem no_ok {v : V} (h : okD v = false) {P : Prop} (ok : okD v = true) : P := by rw [h] at ok; cases ok
theorem VR.reads2 {Z : PH} {ρ : List Addr} {h : Heap} (k : ∀ a o, Z a = some o → h.get? a = some o) : (∀ {v w}, VR Z ρ v w → okD v = true → ∃ as, Reads h w (toD v) as) ∧ ∀ {vs ws}, VRs Z ρ vs ws → okDs vs = true → ∃ as, ReadsAll h ws (toDs vs) as :=
  VR.both (fun _ => ⟨[], by rw [toD]; exact .none⟩) (fun b _ => ⟨[], by rw [toD]; exact .bool b⟩) (fun i t _ => ⟨[], by rw [toD]; exact .int i t⟩) (fun x t _ => ⟨[], by rw [toD]; exact .str x t⟩)
    (fun h1 _ ih ok => let ⟨as, r⟩ := ih (by rw [okD] at ok; exact ok); ⟨_, by rw [toD]; exact .tuple (k _ _ h1) rfl rfl r⟩) (fun h1 _ ih ok => let ⟨as, r⟩ := ih (by rw [okD] at ok; exact ok); ⟨_, by rw [toD]; exact .list (k _ _ h1) rfl rfl r⟩)
    (fun _ => no_ok (by rw [okD])) (fun _ => no_ok (by rw [okD])) (fun _ _ => no_ok (by rw [okD])) (fun _ _ => no_ok (by rw [okD])) (fun _ => no_ok (by rw [okD])) (fun _ => no_ok (by rw [okD]))
    (fun _ => ⟨[], by rw [toDs]; exact .nil⟩) (fun _ _ h t ok => by
      rw [okDs, Bool.and_eq_true] at ok
      obtain ⟨as, r⟩ := h ok.1
      obtain ⟨bs, r'⟩ := t ok.2
      exact ⟨_, by rw [toDs]; exact .cons r r'⟩)
theorem VR.reads {Z : PH} {ρ : List Addr} {h : Heap} (k : ∀ a o, Z a = some o → h.get? a = some o) {v : V} {w : Value} (ok : okD v = true) (r : VR Z ρ v w) : ∃ as, Reads h w (toD v) as := (VR.reads2 k).1 r ok
theorem VRs.reads {Z : PH} {ρ : List Addr} {h : Heap} (k : ∀ a o, Z a = some o → h.get? a = some o) {v : List V} {w : List Value} (ok : okDs v = true) (r : VRs Z ρ v w) : ∃ as, ReadsAll h w (toDs v) as := (VR.reads2 k).2 r ok
theorem canLay_toD {v : V} : okD v = true → (toD v).canLay0 = true :=
  V.rec (motive_1 := fun v => okD v = true → (toD v).canLay0 = true) (motive_2 := fun l => okDs l = true → PyData.canLayAll0 (toDs l) = true) (fun _ => by rw [toD]; rfl) (fun _ _ => by rw [toD]; rfl) (fun _ _ => by rw [toD]; rfl) (fun x h => by rw [okD] at h; rw [toD, PyData.canLay0]; exact h)
    (fun l ih h => by rw [okD] at h; rw [toD, PyData.canLay0]; exact ih h) (fun l ih h => by rw [okD] at h; rw [toD, PyData.canLay0]; exact ih h) (fun _ _ => no_ok (by rw [okD])) (fun _ => no_ok (by rw [okD])) (fun _ _ => no_ok (by rw [okD])) (no_ok (by rw [okD])) (no_ok (by rw [okD])) (fun _ => no_ok (by rw [okD]))
    (fun _ => by rw [toDs]; rfl) (fun v r h t hh => by rw [okDs, Bool.and_eq_true] at hh; rw [toDs, PyData.canLayAll0, h hh.1, t hh.2]; rfl) v
theorem canLay_toDs : ∀ {l : List V}, okDs l = true → PyData.canLayAll0 (toDs l) = true
  | [], _ => by rw [toDs]; rfl
  | v :: r, h => by
    rw [okDs, Bool.and_eq_true] at h
    rw [toDs, PyData.canLayAll0, canLay_toD h.1, canLay_toDs h.2]; rfl

section
variable {C : Fx} {st : St}
theorem op_eqD {a b : V} {Q : V → St → Prop} (ha : okD a = true) (hb : okD b = true) (hu : C.u + min (toD a).depth (toD b).depth < cLine) (h : Q (.bool (PyData.eqv (toD a) (toD b))) st) : JV C VR [a, b] (two (compareOp .Eq)) st Q :=
  fun env Z R ρ s ws hs hw => by
    obtain ⟨x, y, rfl, h1, h2⟩ := inv2 hw
    obtain ⟨as, r1⟩ := h1.reads (fun _ _ e => hs.z_ e) ha
    obtain ⟨bs, r2⟩ := h2.reads (fun _ _ e => hs.z_ e) hb
    exact SeqAt.compareEq_reads r1 r2 (canLay_toD ha) (canLay_toD hb) hu (SR.post hs (.bool _) h)
theorem op_neD {a b : V} {Q : V → St → Prop} (ha : okD a = true) (hb : okD b = true) (hu : C.u + min (toD a).depth (toD b).depth < cLine) (h : Q (.bool (!PyData.eqv (toD a) (toD b))) st) : JV C VR [a, b] (two (compareOp .NotEq)) st Q :=
  fun env Z R ρ s ws hs hw => by
    obtain ⟨x, y, rfl, h1, h2⟩ := inv2 hw
    obtain ⟨as, r1⟩ := h1.reads (fun _ _ e => hs.z_ e) ha
    obtain ⟨bs, r2⟩ := h2.reads (fun _ _ e => hs.z_ e) hb
    exact SeqAt.compareNe_reads r1 r2 (canLay_toD ha) (canLay_toD hb) hu (SR.post hs (.bool _) h)

theorem Lis.reads {C : Fx} {env : Env} {Z R : PH} {ρ : List Addr} {st : St} {s : Shared} {v : V} {xs : List V} {w : Value} (h : Lis st v xs) (ok : okDs xs = true) (hs : SR C env Z R ρ st s) (r : VR Z ρ v w) : ∃ as, Reads s.heap w (.list (toDs xs)) as := by
  obtain ⟨a, ws, k, rfl, ho, ri⟩ := h.at_ hs r
  obtain ⟨as, r⟩ := VRs.reads (fun _ _ e => hs.z_ e) ok ri
  exact ⟨_, .list ho rfl rfl r⟩
theorem op_notIn {v x : V} {xs : List V} {Q : V → St → Prop} (hv : Lis st v xs) (ok : okDs xs = true) (hx : okD x = true) (hu : C.u + 1 + min (PyData.depthAll (toDs xs)) (toD x).depth < cLine) (h : Q (.bool (!((toDs xs).any fun y => PyData.eqv y (toD x)))) st) :
    JV C VR [x, v] (two (compareOp .NotIn)) st Q :=
  fun env Z R ρ s ws hs hw => by
    obtain ⟨y, l, rfl, h1, h2⟩ := inv2 hw
    obtain ⟨as, r1⟩ := h1.reads (fun _ _ e => hs.z_ e) hx
    obtain ⟨bs, r2⟩ := hv.reads ok hs h2
    exact SeqAt.notIn_list_reads r2 r1 (canLay_toDs ok) (canLay_toD hx) hu (SR.post hs (.bool _) h)

theorem m_index {v x : V} {xs : List V} {j : Nat} {Q : V → St → Prop} (hv : Lis st v xs) (hj : j < xs.length) (hsz : xs.length < 2 ^ 62) (ok : okDs xs = true) (hx : okD x = true) (hu : C.u + 1 + min (PyData.depthAll (toDs xs)) (toD x).depth < cLine)
    (hit : PyData.eqv (toD xs[j]) (toD x) = true) (hno : ∀ m (hm : m < xs.length), m < j → PyData.eqv (toD xs[m]) (toD x) = false) (h : Q (.int (j : Int)) st) :
    JV C VR [v, x] (fun ws => call (.builtin "list.index") ws) st Q :=
  fun env Z R ρ s ws hs hw => by
    obtain ⟨l, y, rfl, h1, h2⟩ := inv2 hw
    obtain ⟨a, its, k, rfl, ho, ri⟩ := hv.at_ hs h1
    have hl := ri.toArr
    obtain ⟨as, r1⟩ := VRs.reads (fun _ _ e => hs.z_ e) ok ri
    obtain ⟨bs, r2⟩ := h2.reads (fun _ _ e => hs.z_ e) hx
    have rd : ∀ m (hm : m < its.size), SeqAt.readOf s.heap its[m] = toD (xs[m]'(by lia)) := fun m hm => by
      have := SeqAt.readsAll_map _ _ _ (canLay_toDs ok) r1
      have e := congrArg (fun q => q[m]?) this
      simp only [List.getElem?_map, Array.getElem?_toList, toDs_map] at e
      rw [Array.getElem?_eq_getElem hm, List.getElem?_eq_getElem (by lia : m < xs.length)] at e
      exact Option.some.inj e
    have it := SeqAt.items_eqAt (A := C.A) r1 r2 (canLay_toDs ok) (canLay_toD hx) hu
    have M := SeqAt.list_indexAt a its k none #[] y (fun w => PyData.eqv (SeqAt.readOf s.heap w) (toD x)) j (by lia) (by lia) (by rw [rd j (by lia)]; exact hit) (fun m hm hlt => by rw [rd m hm]; exact hno m (by lia) hlt)
    exact call_meets PySem.F.slot_list_index ⟨_, ho, rfl⟩ PySem.F.entry_list_index (PySem.F.args_list_index_2 _ _) M ⟨ho, it, SR.post (hs.tok _) (.int _ _) h⟩
end
end Mine
end
section -- MCalls
set_option maxRecDepth 100000
namespace Mine
open PySem PySem.W PyProof.Rows

theorem VRs.ints {Z : PH} {ρ : List Addr} : ∀ {ns : List Int} {ws : List Value}, VRs Z ρ (ns.map V.int) ws → ∃ xs : List (Int × Tok), ws = xs.map (fun p => Value.int p.1 p.2) ∧ xs.map (·.1) = ns
  | [], ws, h => by
    cases h; exact ⟨[], rfl, rfl⟩
  | n :: r, ws, h => by
    cases h with
    | cons h t =>
      obtain ⟨tk, rfl⟩ := inv_int h
      obtain ⟨xs, rfl, h2⟩ := VRs.ints t
      exact ⟨(n, tk) :: xs, rfl, by simp [h2]⟩

theorem argBest_le (bt : Nat → Nat → Bool) : ∀ k, argBest bt k ≤ k
  | 0 => Nat.le_refl _
  | k + 1 => by
    unfold argBest
    have := argBest_le bt k
    split <;> lia
theorem argBest_min (f : Nat → Int) : ∀ k j, j ≤ k → f (argBest (fun i j => decide (f i < f j)) k) ≤ f j
  | 0, j, h => by
    obtain rfl : j = 0 := by lia
    exact Int.le_refl _
  | k + 1, j, h => by
    have ih := argBest_min f k
    unfold argBest
    split
    · rename_i q
      have q' := of_decide_eq_true q
      rcases Nat.lt_or_ge j (k + 1) with e | e
      · have := ih j (by lia); lia
      · obtain rfl : j = k + 1 := by lia
        exact Int.le_refl _
    · rename_i q
      have q' : ¬ _ := fun z => q (decide_eq_true z)
      rcases Nat.lt_or_ge j (k + 1) with e | e
      · exact ih j (by lia)
      · obtain rfl : j = k + 1 := by lia
        lia
theorem argBest_max (f : Nat → Int) : ∀ k j, j ≤ k → f j ≤ f (argBest (fun i j => decide (f i > f j)) k)
  | 0, j, h => by
    obtain rfl : j = 0 := by lia
    exact Int.le_refl _
  | k + 1, j, h => by
    have ih := argBest_max f k
    unfold argBest
    split
    · rename_i q
      have q' := of_decide_eq_true q
      rcases Nat.lt_or_ge j (k + 1) with e | e
      · have := ih j (by lia); lia
      · obtain rfl : j = k + 1 := by lia
        exact Int.le_refl _
    · rename_i q
      have q' : ¬ _ := fun z => q (decide_eq_true z)
      rcases Nat.lt_or_ge j (k + 1) with e | e
      · exact ih j (by lia)
      · obtain rfl : j = k + 1 := by lia
        lia

section
variable {C : Fx} {st : St}

theorem b_range1 {n : Int} {Q : V → St → Prop} (h : Q (.rng 0 n) st) : JV C VR [.int n] (fun ws => call (.type "range") ws) st Q :=
  fun env Z R ρ s ws hs hw => by
    obtain ⟨x, rfl, h1⟩ := inv1 hw
    obtain ⟨t, rfl⟩ := inv_int h1
    obtain ⟨le, k⟩ := hs.allocZ { cls := .type "range", data := .fields #[.int 0 s.toks, .int n t, .int 1 (s.toks + 1)] } (s.toks + 1 + 1)
    exact call_range_1 ⟨_, _, _, ρ, le, Ext.refl _, .rng fun h kk => kk _ (PH.put_self ..), k, h⟩
theorem b_range2 {a b : Int} {Q : V → St → Prop} (h : Q (.rng a b) st) : JV C VR [.int a, .int b] (fun ws => call (.type "range") ws) st Q :=
  fun env Z R ρ s ws hs hw => by
    obtain ⟨t, u, rfl⟩ := inv_ii hw
    obtain ⟨le, k⟩ := hs.allocZ { cls := .type "range", data := .fields #[.int a t, .int b u, .int 1 s.toks] } (s.toks + 1)
    exact call_range_2 ⟨_, _, _, ρ, le, Ext.refl _, .rng fun h kk => kk _ (PH.put_self ..), k, h⟩
theorem b_max2 {a b : Int} {Q : V → St → Prop} (h : Q (.int (max a b)) st) : JV C VR [.int a, .int b] (fun ws => call (.builtin "max") ws) st Q :=
  fun env Z R ρ s ws hs hw => by
    obtain ⟨t, u, rfl⟩ := inv_ii hw
    refine max_two_ints rfl fun h' tk kp => ?_
    have k := hs.keep (s' := { s with heap := h', toks := tk }) kp
    by_cases q : b > a
    · rw [if_pos q]; rw [show max a b = b by lia] at h; exact SR.post k (.int _ _) h
    · rw [if_neg q]; rw [show max a b = a by lia] at h; exact SR.post k (.int _ _) h
theorem b_min2 {a b : Int} {Q : V → St → Prop} (h : Q (.int (min a b)) st) : JV C VR [.int a, .int b] (fun ws => call (.builtin "min") ws) st Q :=
  fun env Z R ρ s ws hs hw => by
    obtain ⟨t, u, rfl⟩ := inv_ii hw
    refine min_two_ints rfl fun h' tk kp => ?_
    have k := hs.keep (s' := { s with heap := h', toks := tk }) kp
    by_cases q : b < a
    · rw [if_pos q]; rw [show min a b = b by lia] at h; exact SR.post k (.int _ _) h
    · rw [if_neg q]; rw [show min a b = a by lia] at h; exact SR.post k (.int _ _) h

theorem b_minL {v : V} {ns : List Int} {Q : V → St → Prop} (hv : Lis st v (ns.map V.int)) (hne : 0 < ns.length) (h : ∀ m ∈ ns, (∀ x ∈ ns, m ≤ x) → Q (.int m) st) : JV C VR [v] (fun ws => call (.builtin "min") ws) st Q :=
  fun env Z R ρ s ws hs hw => by
    obtain ⟨x, rfl, h1⟩ := inv1 hw
    obtain ⟨a, ws, k, rfl, ho, ri⟩ := hv.at_ hs h1
    obtain ⟨xs, e, rfl⟩ := ri.ints
    have hi : ws = intItems xs.toArray := by unfold intItems; apply Array.toList_inj.mp; rw [e]; simp
    have hl : xs.length > 0 := by simpa using hne
    have hli : s.heap.IsList a (intItems xs.toArray) := hi ▸ ⟨_, ho, rfl, _, rfl⟩
    refine min_intList rfl (xs := xs.toArray) hli (by simpa using hl) fun w h' tk hw kp => ?_
    have kk := hs.keep (s' := { s with heap := h', toks := tk }) kp
    have hb := argBest_le (fun i j => decide (numAt xs.toArray i < numAt xs.toArray j)) (xs.toArray.size - 1)
    have hlt : argBest (fun i j => decide (numAt xs.toArray i < numAt xs.toArray j)) (xs.toArray.size - 1) < xs.length := by have e0 : xs.toArray.size = xs.length := List.size_toArray; lia
    have hmin := argBest_min (numAt xs.toArray) (xs.toArray.size - 1)
    generalize argBest (fun i j => decide (numAt xs.toArray i < numAt xs.toArray j)) (xs.toArray.size - 1) = j at *
    have hw' : w = .int (xs[j]'hlt).1 (xs[j]'hlt).2 := by simpa [intItems, hlt] using hw.symm
    subst hw'
    have num : ∀ i (hi : i < xs.length), numAt xs.toArray i = (xs[i]'hi).1 := fun i hi => by simp [numAt, hi]
    refine SR.post kk (.int _ _) (h _ (List.mem_map.mpr ⟨_, List.getElem_mem hlt, rfl⟩) fun y hy => ?_)
    obtain ⟨p, hp, rfl⟩ := List.mem_map.mp hy
    obtain ⟨i, hi', rfl⟩ := List.mem_iff_getElem.mp hp
    have := hmin i (by simp; lia)
    rw [num j hlt, num i hi'] at this
    exact this
theorem preSum_eq : ∀ (xs : List (Int × Tok)) (n : Nat), n ≤ xs.length → preSum (numAt xs.toArray) n = ((xs.map (·.1)).take n).sum
  | xs, 0, _ => rfl
  | xs, n + 1, h => by
    rw [preSum, preSum_eq xs n (by lia), List.take_add_one]
    have : (xs.map (·.1))[n]? = some (xs[n]'(by lia)).1 := by rw [List.getElem?_map, List.getElem?_eq_getElem (by lia)]; rfl
    rw [this, List.sum_append]
    have e : numAt xs.toArray n = (xs[n]'(by lia)).1 := by simp [numAt, (by lia : n < xs.length)]
    rw [e]; simp
theorem b_sum {v : V} {ns : List Int} {Q : V → St → Prop} (hv : Lis st v (ns.map V.int)) (h : Q (.int ns.sum) st) : JV C VR [v] (fun ws => call (.builtin "sum") ws) st Q :=
  fun env Z R ρ s ws hs hw => by
    obtain ⟨x, rfl, h1⟩ := inv1 hw
    obtain ⟨a, ws, k, rfl, ho, ri⟩ := hv.at_ hs h1
    obtain ⟨xs, e, rfl⟩ := ri.ints
    have hi : ws = intItems xs.toArray := by unfold intItems; apply Array.toList_inj.mp; rw [e]; simp
    have hl : s.heap.IsList a (intItems xs.toArray) := hi ▸ ⟨_, ho, rfl, _, rfl⟩
    refine call_sum_walkG (iter_intList hl fun s₂ e st hfp hlI => ?_)
    subst e
    refine ⟨_, _, _, _, _, _, numAt xs.toArray, rfl, Walks.list (A := C.A.in1) rfl _ a hlI (intItems xs.toArray), st, hfp, (fun _ _ => intItems_at), fun h' tk t' hk => ?_⟩
    have kk := hs.keep (s' := { s with heap := h', toks := tk }) (old_kept hk)
    have e2 : (intItems xs.toArray).size = xs.length := by simp [intItems]
    dsimp only
    rw [e2, preSum_eq xs _ (Nat.le_refl _), List.take_of_length_le (by simp)]
    exact SR.post kk (.int _ _) h
end
end Mine
end
section -- MComp6
set_option maxRecDepth 100000
namespace Mine
open PySem PySem.W PyProof.Rows

noncomputable def idxs (n : Nat) : List Int := (List.range n).map fun i : Nat => (i : Int)
theorem idxs_len (n : Nat) : (idxs n).length = n := by simp [idxs]
theorem mem_idxs {n : Nat} {i : Int} : i ∈ idxs n ↔ 0 ≤ i ∧ i < n := by
  simp only [idxs, List.mem_map, List.mem_range]
  exact ⟨fun ⟨k, h, e⟩ => by omega, fun ⟨h1, h2⟩ => ⟨i.toNat, by omega, by omega⟩⟩
theorem idxs_at {α : Type} {n : Nat} {i : Int} (h : i ∈ idxs n) (g : Int → α) : ((idxs n).map g)[i.toNat]? = some (g i) := by
  obtain ⟨h1, h2⟩ := mem_idxs.mp h
  have : i.toNat < n := by omega
  simp [idxs, this]
  congr 1; omega
theorem itb_rng (st : St) {n : Int} (h : 0 ≤ n) (h2 : n < 2 ^ 61) : Itb st (.rng 0 n) ((idxs n.toNat).map .int) := by
  refine ⟨?_, by omega, by omega, by omega, h2⟩
  simp [idxs]
noncomputable abbrev matV (n : Nat) (f : Int → Int → Int) : V := .lst ((idxs n).map fun i => .lst ((idxs n).map fun j => .int (f i j)))

noncomputable def asI : V → Int
  | .int i => i
  | _ => 0
section
variable {C : Fx} {st : St}
theorem comp_ints {scope : Scope} {elt iter : Expr} {ifs : List Expr} {x : Str} {px pos : Pos} {v : V} {k : NameKind} {Qi : List V → St → Prop} (l : List Int) (p : Int → Bool) (g : Int → V) (hv : Itb st v (l.map .int)) (hsz : l.length ≤ 100000)
    (hk : scope.names.lookup x = some k) (hkk : k = .local ∨ k = .cell)
    (tests : ∀ i ∈ l, JTs (C.comp scope) ifs ⟨setv x (.int i) (inner scope st.vars), st.heap, st.nx⟩ fun ok st₃ => ok = p i ∧ st₃ = ⟨setv x (.int i) (inner scope st.vars), st.heap, st.nx⟩)
    (turn : ∀ i ∈ l, p i = true → J (C.comp scope) VR (eval elt) ⟨setv x (.int i) (inner scope st.vars), st.heap, st.nx⟩ fun y st₄ => y = g i ∧ st₄ = ⟨setv x (.int i) (inner scope st.vars), st.heap, st.nx⟩)
    (fin : Qi ((l.filter p).map g) st) : CompIn C scope elt [⟨.Name x px, iter, ifs, 0⟩] pos st v Qi := by
  refine comp_pN (l.map .int) (fun a => if p (asI a) then some (g (asI a)) else none) hv (by rw [List.length_map]; exact Nat.le_trans hsz (by decide)) hk hkk (fun a ha => ?_) ?_
  · obtain ⟨i, hi, rfl⟩ := List.mem_map.mp ha
    refine J.mono (tests i hi) fun ok st₃ ⟨e1, e2⟩ => ?_
    subst e2
    refine ⟨fun h => ?_, fun h => ⟨rfl, ?_⟩⟩
    · refine J.mono (turn i hi (by rw [← e1]; exact h)) fun y st₄ ⟨e3, e4⟩ => ⟨e4, ?_⟩
      show (if p i then some (g i) else none) = some y
      rw [← e1, h, e3]; rfl
    · show (if p i then some (g i) else none) = none
      rw [← e1, h]; rfl
  · have e : ∀ l : List Int, (l.map V.int).filterMap (fun a => if p (asI a) then some (g (asI a)) else none) = (l.filter p).map g := fun l => by
      induction l with
      | nil => rfl
      | cons i r ih =>
        rw [List.map_cons, List.filterMap_cons, ih, List.filter_cons]
        cases h : p i <;> simp [asI, h]
    rw [e]; exact fin
theorem comp_all {scope : Scope} {elt iter : Expr} {x : Str} {px pos : Pos} {v : V} {k : NameKind} {Qi : List V → St → Prop} (l : List Int) (g : Int → V) (hv : Itb st v (l.map .int)) (hsz : l.length ≤ 100000)
    (hk : scope.names.lookup x = some k) (hkk : k = .local ∨ k = .cell)
    (turn : ∀ i ∈ l, J (C.comp scope) VR (eval elt) ⟨setv x (.int i) (inner scope st.vars), st.heap, st.nx⟩ fun y st₄ => y = g i ∧ st₄ = ⟨setv x (.int i) (inner scope st.vars), st.heap, st.nx⟩)
    (fin : Qi (l.map g) st) : CompIn C scope elt [⟨.Name x px, iter, [], 0⟩] pos st v Qi :=
  comp_ints l (fun _ => true) g hv hsz hk hkk (fun i hi => ts_nil ⟨rfl, rfl⟩) (fun i hi _ => turn i hi) (by rw [List.filter_eq_self.mpr fun _ _ => rfl]; exact fin)
end
end Mine
end
section -- MComp7
set_option maxRecDepth 100000
namespace Mine
open PySem PySem.W PyProof.Rows
section
variable {C : Fx} {st : St}
theorem comp_pairs {scope : Scope} {elt iter iter' : Expr} {ifs' : List Expr} {x y : Str} {px py pos : Pos} {v : V} {k k' : NameKind} {Qi : List V → St → Prop} (l m : List Int) (p : Int → Int → Bool) (g : Int → Int → V) (hv : Itb st v (l.map .int)) (hl : l.length ≤ 1000) (hm : m.length ≤ 1000)
    (hk : scope.names.lookup x = some k) (hkk : k = .local ∨ k = .cell) (hk' : scope.names.lookup y = some k') (hkk' : k' = .local ∨ k' = .cell) (hxy : x ≠ y)
    (it2 : ∀ i ∈ l, ∀ vs, (∀ z, scope.names.lookup z = some .free → vs.lookup z = st.vars.lookup z) → vs.lookup x = some (.int i) → J (C.comp scope) VR (eval iter') ⟨vs, st.heap, st.nx⟩ fun u st' => st' = ⟨vs, st.heap, st.nx⟩ ∧ ∀ vs', Itb ⟨vs', st.heap, st.nx⟩ u (m.map .int))
    (tests : ∀ i ∈ l, ∀ j ∈ m, ∀ vs, (∀ z, scope.names.lookup z = some .free → vs.lookup z = st.vars.lookup z) → vs.lookup x = some (.int i) → vs.lookup y = some (.int j) → JTs (C.comp scope) ifs' ⟨vs, st.heap, st.nx⟩ fun ok st' => ok = p i j ∧ st' = ⟨vs, st.heap, st.nx⟩)
    (turn : ∀ i ∈ l, ∀ j ∈ m, p i j = true → ∀ vs, (∀ z, scope.names.lookup z = some .free → vs.lookup z = st.vars.lookup z) → vs.lookup x = some (.int i) → vs.lookup y = some (.int j) → J (C.comp scope) VR (eval elt) ⟨vs, st.heap, st.nx⟩ fun u st' => u = g i j ∧ st' = ⟨vs, st.heap, st.nx⟩)
    (fin : Qi (l.flatMap fun i => (m.filter (p i)).map (g i)) st)
    (hs : ∀ env x, foldedSetIterable iter' env x = pure x := by intro _ _; rfl) : CompIn C scope elt [⟨.Name x px, iter, [], 0⟩, ⟨.Name y py, iter', ifs', 0⟩] pos st v Qi := by
  have eq : ∀ i, (m.map V.int).filterMap (fun b => if p i (asI b) then some (g i (asI b)) else none) = (m.filter (p i)).map (g i) := fun i => by
    rw [List.filterMap_map, ← List.filterMap_eq_map, ← List.filterMap_eq_filter, List.filterMap_filterMap]
    refine congrArg (List.filterMap · m) (funext fun j => ?_)
    cases h : p i j <;> simp [asI, h, Option.guard]
  refine comp_core2 l .int (fun _ => m.map .int) (fun i b o => (if p i (asI b) then some (g i (asI b)) else none) = o) (fun i vs => vs.lookup x = some (.int i)) hv ?_ hk' hkk' (fun i vs b h => ?_)
    (fun i hi vs h => a_Name (.mk _ ⟨h.setv hk hkk _, ?_⟩) (comp_lk hk hkk) hkk) (fun i hi vs h hB => it2 i hi vs h hB) (fun i hi b hb vs h hB hz => ?_) (fun ys h => ?_) hs
  · have : ∀ l : List Int, (l.flatMap fun _ => m.map V.int).length ≤ l.length * 1000 := fun l => by
      induction l with
      | nil => exact Nat.le_refl _
      | cons i r ih => rw [List.flatMap_cons, List.length_append, List.length_map, List.length_cons, Nat.succ_mul, Nat.add_comm]; exact Nat.add_le_add ih hm
    exact Nat.le_trans (this l) (Nat.le_trans (Nat.mul_le_mul_right _ hl) (by decide))
  · rw [setv_lookup, if_neg hxy]; exact h
  · rw [setv_lookup, if_pos rfl]
  · obtain ⟨j, hj, rfl⟩ := List.mem_map.mp hb
    refine J.mono (tests i hi j hj vs h hB hz) fun ok st₃ q => ?_
    rw [q.2]
    show (ok = true → J (C.comp scope) VR (eval elt) _ fun u st₄ => _ ∧ (if p i j then some (g i j) else none) = some u) ∧ (ok = false → _ ∧ (if p i j then some (g i j) else none) = none)
    rw [← q.1]
    exact ⟨fun e => by rw [e]; exact J.mono (turn i hi j hj (q.1 ▸ e) vs h hB hz) fun u st₄ q => ⟨q.2, congrArg some q.1.symm⟩, fun e => by rw [e]; exact ⟨rfl, rfl⟩⟩
  · rw [h.fm]
    simp only [eq]
    exact fin
end
end Mine
end
section -- MNext
set_option maxRecDepth 100000
namespace Mine
open PySem PySem.W PyProof.Rows

section
variable {C : Fx} {st : St}

theorem b_iter {xs : List V} {Q : V → St → Prop} (h : Q (.obj st.nx) { st with heap := upd st.heap st.nx (.iter xs 0), nx := st.nx + 1 }) : JV C VR [.lst xs] (fun ws => call (.builtin "iter") ws) st Q :=
  fun env Z R ρ s ws hs hw => by
    obtain ⟨x, rfl, h1⟩ := inv1 hw
    obtain ⟨a, its, k, rfl, hz, ri⟩ := h1.lst_inv
    refine Calls.call_function_entry (by decide +kernel) (by decide +kernel) kdk_entry_iter (kdk_args_iter _) ?_
    unfold Builtin.«iter»
    refine wpAny_bind (m := someArgs "iter" 1 2 _) (wpAny_of_eq (a := [Value.ref a]) (by first | rfl | kernel_rfl!) ?_)
    show wpAny _ _ (pyIter (.ref a) >>= _) _ _ _
    refine wpAny_bind (wpAny_pyIter_list ⟨_, hs.z_ hz, rfl, _, rfl⟩ (wpAny_pure ⟨_, rfl, ?_⟩))
    have hk := hs.allocO { cls := .type "list_iterator", data := .fields #[.ref a, .int 0 0] } (.iter xs 0) s.toks (.iter (h1.mono (PH.le.refl _) (Ext.refl _)) (Nat.zero_le _) rfl rfl)
    obtain ⟨T, hT⟩ := id hs
    exact ⟨_, _, Z, _, PH.le.refl _, Ext.snoc _ _, .obj (by rw [List.getElem?_append_right (by rw [hT.nx]; exact Nat.le_refl _), hT.nx, Nat.sub_self]; rfl), hk, h⟩

theorem OR.iter_inv {P : Params} {Z : PH} {ρ : List Addr} {xs : List V} {i : Nat} {o : Obj} (h : OR P Z ρ (.iter xs i) o) : ∃ l, VR Z ρ (.lst xs) (.ref l) ∧ i ≤ xs.length ∧ o.cls = .type "list_iterator" ∧ o.data = .fields #[.ref l, .int i 0] := by
  cases h with | iter h1 h2 h3 h4 => exact ⟨_, h1, h2, h3, h4⟩

theorem special_list {prog : Program} {w : World} {A : Around} {E : Value → Shared → Prop} {s : Shared} {it l : Addr} {i : Nat} {items : Array Value} {x : Value} {Q : Option Value → Shared → Prop} (hit : s.heap.IsListIter it l i)
    (hl : s.heap.IsList l items) (hx : items[i]? = some x) (hQ : ∀ h', h'.IsListIter it l (i + 1) → Heap.SameBut it s.heap h' → Q (some x) { s with heap := h' }) :
    wpAny (model prog w) A (callSpecial? (.ref it) (Str.ofString "__next__")) Q E s := by
  obtain ⟨o, ho, hc, hd⟩ := id hit
  obtain ⟨ol, hol, _, nl, hdl⟩ := hl
  refine wpAny_callSpecial?_slot (name := Str.ofString "__next__") hit.typeIs slot_listiter_next
    (wpAny_call_entry slot_listiter_next hit.typeIs entry_listiter_next ?_ (args_listiter_next _))
  show wpAny _ _ (field (.ref it) 0 >>= _) _ _ s
  refine wpAny_bind (wpAny_field ho hd (x := .ref l) rfl ?_)
  show wpAny _ _ (if (Value.ref l == Value.none) = true then _ else _) _ _ s
  rw [if_neg (show ¬ ((Value.ref l == Value.none) = true) from Bool.false_ne_true)]
  show wpAny _ _ (field (.ref it) 1 >>= _) _ _ s
  refine wpAny_bind (wpAny_field ho hd (x := .int i 0) rfl ?_)
  show wpAny _ _ (seqItems? (.ref l) >>= _) _ _ s
  refine wpAny_bind (wpAny_seqItems hol hdl ?_)
  simp only [Int.toNat_natCast, hx]
  refine wpAny_bind (wpAny_setField ho hd (by simp) (wpAny_pure ⟨x, rfl, hQ _ ?_ (Heap.SameBut.update ..)⟩))
  exact ⟨_, Heap.get?_update_self _ ho (Obj.isFreed_of_fields (Obj.data_mapFields hd _)), (Obj.cls_mapFields ..).trans hc, by
    rw [Obj.data_mapFields hd]; simp [rawInt]⟩

theorem b_next {n : Nat} {xs : List V} {i : Nat} {x : V} {Q : V → St → Prop} (e : st.heap n = some (.iter xs i)) (hx : xs[i]? = some x) (h : Q x { st with heap := upd st.heap n (.iter xs (i + 1)) }) : JV C VR [.obj n] (fun ws => call (.builtin "next") ws) st Q :=
  fun env Z R ρ s ws hs hw => by
    obtain ⟨y, rfl, h1⟩ := inv1 hw
    cases h1 with
    | obj ea =>
      obtain ⟨a', o, h1, ho, h3⟩ := hs.obj e
      rw [ea] at h1; cases h1
      obtain ⟨l, rl, hi, hc, hd⟩ := h3.iter_inv
      obtain ⟨l', its, k, el, hz, ri⟩ := rl.lst_inv
      cases el
      obtain ⟨w, hw', rw'⟩ := ri.get i x hx
      have hit : s.heap.IsListIter _ l i := ⟨o, ho, hc, hd⟩
      refine Calls.call_function_entry (by decide +kernel) (by decide +kernel) kdk_entry_next (kdk_args_next _) ?_
      unfold Builtin.«next»
      refine wpAny_bind (m := someArgs "next" 1 2 _) (wpAny_of_eq (a := [Value.ref _]) (by first | rfl | kernel_rfl!) ?_)
      dsimp only
      refine wpAny_bind (wpAny_specialOf (name := Str.ofString "__next__") hit.typeIs slot_listiter_next.lookup ?_)
      refine wpAny_ite_split (fun hab => absurd hab (by decide)) (fun _ => ?_)
      refine wpAny_bind (special_list hit ⟨_, hs.z_ hz, rfl, _, rfl⟩ (by simpa using hw') fun h' hit' hsb => ?_)
      obtain ⟨o', ho', hc', hd'⟩ := hit'
      have hlt := (List.getElem?_eq_some_iff.mp hx).1
      exact wpAny_pure ⟨_, rfl, SR.post (hs.updO (tk := s.toks) e ea hsb ho' (.iter rl (by lia) hc' hd')) rw' h⟩
end
end Mine
end
section -- MTrunc
set_option maxRecDepth 100000
namespace Mine
open PySem PySem.W PyProof.Rows

-- a value's own objects lie below n
mutual
noncomputable def bel (n : Nat) : V → Prop
  | .obj k => k < n
  | .tup l | .lst l => bels n l
  | .inst _ k => k < n
  | .none | .bool _ | .int _ | .str _ | .rng _ _ | .deq | .ref | .val _ => True
noncomputable def bels (n : Nat) : List V → Prop
  | [] => True
  | v :: r => bel n v ∧ bels n r
end
theorem bels_iff (n : Nat) : ∀ l : List V, bels n l ↔ ∀ v ∈ l, bel n v
  | [] => by simp [bels]
  | v :: r => by simp [bels, bels_iff n r]
theorem bels_map {α : Type} (n : Nat) (f : α → V) (h : ∀ x, bel n (f x)) (l : List α) : bels n (l.map f) := (bels_iff n _).mpr fun v hv => by
  obtain ⟨x, _, rfl⟩ := List.mem_map.mp hv; exact h x

theorem VR.bel2 {Z : PH} {ρ : List Addr} : (∀ {v w}, VR Z ρ v w → Mine.bel ρ.length v) ∧ ∀ {vs ws}, VRs Z ρ vs ws → Mine.bels ρ.length vs :=
  VR.both (by rw [Mine.bel]; trivial) (fun _ => by rw [Mine.bel]; trivial) (fun _ _ => by rw [Mine.bel]; trivial) (fun _ _ => by rw [Mine.bel]; trivial) (fun _ _ ih => by rw [Mine.bel]; exact ih) (fun _ _ ih => by rw [Mine.bel]; exact ih) (fun _ => by rw [Mine.bel]; trivial) (fun h => by rw [Mine.bel]; exact (List.getElem?_eq_some_iff.mp h).1)
    (fun _ h => by rw [Mine.bel]; exact (List.getElem?_eq_some_iff.mp h).1) (fun _ _ => by rw [Mine.bel]; trivial) (fun _ => by rw [Mine.bel]; trivial) (fun _ => by rw [Mine.bel]; trivial) (by rw [Mine.bels]; trivial) (fun _ _ h t => by rw [Mine.bels]; exact ⟨h, t⟩)
theorem VR.bel {Z : PH} {ρ : List Addr} {v : V} {w : Value} (h : VR Z ρ v w) : Mine.bel ρ.length v := VR.bel2.1 h
theorem VRs.bels {Z : PH} {ρ : List Addr} {v : List V} {w : List Value} (h : VRs Z ρ v w) : Mine.bels ρ.length v := VR.bel2.2 h
theorem ext_down {ρ ρ' : List Addr} (hr : Ext ρ ρ') {k : Nat} {a : Addr} (h : ρ'[k]? = some a) (b : k < ρ.length) : ρ[k]? = some a := by
  have hc : ρ[k]? = some ρ[k] := List.getElem?_eq_getElem b
  rw [hc, ← h]; exact (hr k _ hc).symm
theorem VR.trunc2 {Z : PH} {ρ ρ' : List Addr} (hr : Ext ρ ρ') : (∀ {v w}, VR Z ρ' v w → Mine.bel ρ.length v → VR Z ρ v w) ∧ ∀ {vs ws}, VRs Z ρ' vs ws → Mine.bels ρ.length vs → VRs Z ρ vs ws :=
  VR.both (fun _ => .none) (fun b _ => .bool b) (fun i t _ => .int i t) (fun x t _ => .str x t) (fun h1 _ ih b => .tup h1 (ih (by rw [Mine.bel] at b; exact b))) (fun h1 _ ih b => .lst h1 (ih (by rw [Mine.bel] at b; exact b))) (fun h _ => .rng h) (fun h b => .obj (ext_down hr h (by rw [Mine.bel] at b; exact b)))
    (fun h0 h b => .inst h0 (ext_down hr h (by rw [Mine.bel] at b; exact b))) (fun h k _ => .deq h k) (fun x _ => .ref x) (fun v _ => .val v) (fun _ => .nil) (fun _ _ h t b => by rw [Mine.bels] at b; exact .cons (h b.1) (t b.2))
theorem VR.trunc {Z : PH} {ρ ρ' : List Addr} (hr : Ext ρ ρ') {v : V} {w : Value} (h : VR Z ρ' v w) (b : Mine.bel ρ.length v) : VR Z ρ v w := (VR.trunc2 hr).1 h b
theorem VRs.trunc {Z : PH} {ρ ρ' : List Addr} (hr : Ext ρ ρ') {v : List V} {w : List Value} (h : VRs Z ρ' v w) (b : Mine.bels ρ.length v) : VRs Z ρ v w := (VR.trunc2 hr).2 h b

noncomputable def belO (n : Nat) : AO → Prop
  | .list xs => bels n xs
  | .iter xs _ => bels n xs
  | .ns fs => ∀ p ∈ fs, bel n p.2
  | .codes => True
  | .dict es => ∀ p ∈ es, bel n p.2
theorem NsR.bel {Z : PH} {ρ : List Addr} : ∀ {fs : List (Str × V)} {es : List DictEntry}, NsR Z ρ fs es → ∀ p ∈ fs, Mine.bel ρ.length p.2
  | _, _, .nil, p, h => (nomatch h)
  | _, _, .cons h k t, p, hp => by
    rcases List.mem_cons.mp hp with rfl | hp
    · exact h.bel
    · exact t.bel p hp
theorem NsR.trunc {Z : PH} {ρ ρ' : List Addr} (hr : Ext ρ ρ') : ∀ {fs : List (Str × V)} {es : List DictEntry}, NsR Z ρ' fs es → (∀ p ∈ fs, Mine.bel ρ.length p.2) → NsR Z ρ fs es
  | _, _, .nil, _ => .nil
  | _, _, .cons h k t, b => .cons (h.trunc hr (b _ (.head _))) k (t.trunc hr fun p hp => b p (.tail _ hp))
theorem KR.bel {Z : PH} {ρ : List Addr} : ∀ {es : List (Int × V)} {kvs : List (Int × Value)}, KR Z ρ es kvs → ∀ p ∈ es, Mine.bel ρ.length p.2
  | _, _, .nil, p, h => (nomatch h)
  | _, _, .cons h t, p, hp => by
    rcases List.mem_cons.mp hp with rfl | hp
    · exact h.bel
    · exact t.bel p hp
theorem KR.trunc {Z : PH} {ρ ρ' : List Addr} (hr : Ext ρ ρ') : ∀ {es : List (Int × V)} {kvs : List (Int × Value)}, KR Z ρ' es kvs → (∀ p ∈ es, Mine.bel ρ.length p.2) → KR Z ρ es kvs
  | _, _, .nil, _ => .nil
  | _, _, .cons h t, b => .cons (h.trunc hr (b _ (.head _))) (t.trunc hr fun p hp => b p (.tail _ hp))
theorem OR.belO {P : Params} {Z : PH} {ρ : List Addr} {ao : AO} {o : Obj} (h : OR P Z ρ ao o) : belO ρ.length ao := by
  cases h with
  | list h => exact h.bels
  | iter h _ _ _ => have := h.bel; rw [bel] at this; exact this
  | ns h => exact h.bel
  | dict _ k => exact k.bel
  | codes _ _ => trivial
theorem OR.trunc {P : Params} {Z : PH} {ρ ρ' : List Addr} (hr : Ext ρ ρ') {ao : AO} {o : Obj} (h : OR P Z ρ' ao o) (b : Mine.belO ρ.length ao) : OR P Z ρ ao o := by
  cases h with
  | list h => exact .list (h.trunc hr b)
  | iter h h1 h2 h3 => exact .iter (h.trunc hr (by rw [bel]; exact b)) h1 h2 h3
  | ns h => exact .ns (h.trunc hr b)
  | dict h k => exact .dict h (k.trunc hr b)
  | codes h k => exact .codes h k

noncomputable def Left (st : St) (heap' H : Nat → Option AO) : Prop := ∀ n ao, H n = some ao → (st.heap n).isSome ∧ heap' n = some ao ∧ (st.heap n = some ao ∨ belO st.nx ao)
theorem Left.same {st : St} {heap' : Nat → Option AO} (h : ∀ n, (st.heap n).isSome → heap' n = st.heap n) : Left st heap' st.heap := fun n ao e => ⟨by rw [e]; rfl, (h n (by rw [e]; rfl)).trans e, .inl e⟩

theorem SR.trunc {C : Fx} {env : Env} {Z Z' R : PH} {ρ ρ' : List Addr} {st : St} {s s' : Shared} {heap' H : Nat → Option AO} {nx' : Nat} (h : SR C env Z R ρ st s) (hr : Ext ρ ρ') (k : SR C env Z' R ρ' ⟨st.vars, heap', nx'⟩ s') (hH : Left st heap' H) :
    SR C env Z' R ρ ⟨st.vars, H, st.nx⟩ s' := by
  obtain ⟨T0, h⟩ := h
  obtain ⟨T, k⟩ := k
  have hnx := h.nx
  obtain ⟨_, m0, _, hm0⟩ := h.loc
  have bv : ∀ x v, st.vars.lookup x = some v → C.sc.names.lookup x = some .local → bel ρ.length v := fun x v e1 e2 => by
    obtain ⟨w, _, r⟩ := hm0 x v e1 e2; exact r.bel
  have bc : ∀ x v kk, st.vars.lookup x = some v → C.sc.names.lookup x = some kk → kk = .cell ∨ kk = .free → bel ρ.length v := fun x v kk e1 e2 e3 => by
    obtain ⟨c, o, _, _, _, h6⟩ := h.cell x kk e2 e3
    obtain ⟨w, _, r⟩ := h6 v e1; exact r.bel
  exact ⟨T, {
    base := k.base
    z := k.z
    r := k.r
    nx := hnx
    objs := fun n ao e => by
      obtain ⟨h1, h2, h3⟩ := hH n ao e
      obtain ⟨ao0, e0⟩ := Option.isSome_iff_exists.mp h1
      obtain ⟨a0, q0, _, o0, _, q3⟩ := h.objs n ao0 e0
      obtain ⟨a, p1, p2, o, p3, p4⟩ := k.objs n ao h2
      have := hr n a0 q0
      rw [p1] at this; cases this
      refine ⟨_, q0, p2, o, p3, p4.trunc hr ?_⟩
      rcases h3 with h3 | h3
      · rw [e0] at h3; cases h3; exact q3.belO
      · rw [hnx]; exact h3
    scope := k.scope
    kind := k.kind
    globals := k.globals
    builtins := k.builtins
    loc := let ⟨h1, m, h2, h3⟩ := k.loc; ⟨h1, m, h2, fun x v e1 e2 => let ⟨w, e3, e4⟩ := h3 x v e1 e2; ⟨w, e3, e4.trunc hr (bv x v e1 e2)⟩⟩
    cell := fun x kk h1 h2 => let ⟨c, o, h3, h4, h5, h6⟩ := k.cell x kk h1 h2; ⟨c, o, h3, h4, h5, fun v e => let ⟨w, e3, e4⟩ := h6 v e; ⟨w, e3, e4.trunc hr (bc x v kk e h1 h2)⟩⟩
    os := k.os
    gens := k.gens
    pin := h.pin }⟩

section
variable {C : Fx} {st : St}
theorem jv_trunc {vs : List V} {f : List Value → Sem Value} {Q : V → St → Prop} (h : JV C VR vs f st fun v st' => st'.vars = st.vars ∧ bel st.nx v ∧ ∃ H, Left st st'.heap H ∧ Q v ⟨st.vars, H, st.nx⟩) : JV C VR vs f st Q :=
  fun env Z R ρ s ws hs hw => wpAny_mono (h env Z R ρ s ws hs hw) (fun a s' ⟨v, st', Z', ρ', hz, hr, rv, hs', e, hb, H, hH, hq⟩ => by
    obtain ⟨vars', heap', nx'⟩ := st'
    obtain rfl : vars' = st.vars := e
    have hnx : ρ.length = st.nx := let ⟨_, k⟩ := hs; k.nx
    exact ⟨v, _, Z', ρ, hz, Ext.refl _, rv.trunc hr (by rw [hnx]; exact hb), hs.trunc hr hs' hH, hq⟩) fun _ _ e => e
end
end Mine
end
section -- MBase
set_option maxRecDepth 100000
namespace Mine
open PySem PySem.W PyProof.Rows

structure BaseK (K : Frag) (B : PH) : Prop where
  k : ∀ a o, K.lookup a = some o → B a = some o
  nl : Knows B Heap.NoLimit
  g : Knows B fun h => ∃ mg, h.Ns mainGlobals mg
  b : Knows B fun h => ∃ mb, h.Ns builtinsNs mb ∧ ∀ x : Str, x ≠ "__name__" → mb x = bootBuiltins x

section
variable {K : Frag} {B : PH}
theorem BaseK.inK (H : BaseK K B) : Knows B fun h => K.In h := fun h e a o q => e _ _ (H.k _ _ q)
theorem BaseK.glo (H : BaseK K B) {x : Str} {v : Value} (e : nsIn K mainGlobals x = some (some v)) : Glo B x v := fun h q =>
  let ⟨mg, h1⟩ := H.g h q
  ⟨mg, h1, mg_of (H.inK h q) h1 e⟩
theorem BaseK.blt (H : BaseK K B) {x : Str} {v : Value} (e : nsIn K mainGlobals x = some none) (hv : bootBuiltins x = some v) (hn : x ≠ "__name__") : Blt B x v := fun h q =>
  let ⟨mg, h1⟩ := H.g h q
  let ⟨mb, h2, h3⟩ := H.b h q
  ⟨mg, mb, h1, mg_none_of (H.inK h q) h1 e, h2, (h3 x hn).trans hv⟩

structure Fn0 (B : PH) (a : Addr) (fd : FuncData) (body : List Stmt) : Prop where
  at_ : ∃ o, B a = some o ∧ o.data = .func fd ∧ o.cls = .type "function"
  get : Knows B fun h => h.CodeRec fd.code fd.qualname ∧ h.NoLimit
  body : fd.body = .stmts body
  clo : fd.closure = []
  glob : fd.globals = mainGlobals
  blt : fd.builtins = builtinsNs
  kind : fd.scope.kind = .function
  co : fd.scope.isCoroutine = false
  gen : fd.scope.isGenerator = false
  free : ∀ y, fd.scope.names.lookup y ≠ some .free

noncomputable def scOk (sc : Scope) : Bool := sc.kind == .function && !sc.isCoroutine && !sc.isGenerator && sc.names.all fun p => p.2 != .free
theorem scOk_free {sc : Scope} (h : scOk sc = true) : ∀ y, sc.names.lookup y ≠ some .free := fun y e => by
  unfold scOk at h
  rw [Bool.and_eq_true, List.all_eq_true] at h
  have := h.2 _ (mem_of_lookup e)
  simp at this
noncomputable def parOk (sc : Scope) (ps : List Str) : Bool := decide ps.Nodup && ps.all fun p => sc.names.lookup p == some .local || sc.names.lookup p == some .cell

theorem BaseK.fn0 (H : BaseK K B) {a : Addr} {fd : FuncData} {body : List Stmt} {o : Obj} (hl : K.lookup a = some o) (ho : o.data = .func fd) (hcls : o.cls = .type "function") (hc : codeIn K fd.code fd.qualname = true) (hs : scOk fd.scope = true)
    (hb : fd.body = .stmts body) (h1 : fd.closure = []) (h2 : fd.globals = mainGlobals) (h3 : fd.builtins = builtinsNs) : Fn0 B a fd body := by
  have hs' := hs
  unfold scOk at hs'
  simp only [Bool.and_eq_true, beq_iff_eq, Bool.not_eq_true'] at hs'
  exact { at_ := ⟨o, H.k _ _ hl, ho, hcls⟩, get := fun h e => ⟨codeRec_of (H.inK h e) hc, H.nl h e⟩, body := hb, clo := h1, glob := h2, blt := h3, kind := hs'.1.1.1, co := hs'.1.1.2, gen := hs'.1.2, free := scOk_free hs }
theorem Fn0.fn {a : Addr} {fd : FuncData} {body : List Stmt} (F : Fn0 B a fd body) {ps : List Str} (hp : parOk fd.scope ps = true) (hb : ∀ ws : List Value, ws.length = ps.length → bindArgs fd ⟨ws, []⟩ = pure (ps.zip ws)) : Fn B a fd body ps := by
  unfold parOk at hp
  rw [Bool.and_eq_true, decide_eq_true_eq, List.all_eq_true] at hp
  exact { at_ := let ⟨o, h1, h2, _⟩ := F.at_; ⟨o, h1, h2⟩, get := F.get, body := F.body, clo := F.clo, glob := F.glob, blt := F.blt, kind := F.kind, co := F.co, gen := F.gen, free := F.free, nd := hp.1, binds := hb,
          param := fun p h => by have := hp.2 p h; simpa using this }
end

theorem BR.keys {Z : PH} {ρ : List Addr} : ∀ {l : List (Str × V)} {r : List (Str × Value)}, BR Z ρ l r → r.map (·.1) = l.map (·.1)
  | _, _, .nil => rfl
  | _, _, .cons _ t => by rw [List.map_cons, List.map_cons, t.keys]
section
variable {C : Fx} {st : St}
noncomputable def JC (C : Fx) (a : Addr) (vs : List V) (kws : List (Str × Value)) (st : St) (Q : V → St → Prop) : Prop := ∀ env Z R ρ s ws, SR C env Z R ρ st s → VRs Z ρ vs ws →
  codeAny C.M C.A (.call (.ref a) ⟨ws, kws⟩) (fun r s' => ∃ v, r = .ok (.ret v) ∧ Post C env Z R ρ VR Q v s') s
theorem JC.jv {a : Addr} {vs : List V} {kws : List (Str × Value)} {Q : V → St → Prop} (h : JC C a vs kws st Q) : JV C VR vs (fun ws => call (.ref a) ws kws) st Q :=
  fun env Z R ρ s ws hs hw => wpAny_call (codeAny_mono (h env Z R ρ s ws hs hw) fun r s' ⟨v, e, p⟩ => by subst e; exact p)
theorem code_fnX {a : Addr} {fd : FuncData} {body : List Stmt} {vs : List V} {kws : List (Str × Value)} {vars : List (Str × V)} {Q : V → St → Prop} {st₁ : St} (F : Fn0 C.base a fd body) (hd : C.d < 1000)
    (hp : parOk fd.scope (vars.map (·.1)) = true)
    (hb : ∀ (env : Env) (Z R : PH) (ρ : List Addr) (s : Shared) (ws : List Value), SR C env Z R ρ st s → VRs Z ρ vs ws → wpAny C.M C.A.in1 (bindArgs fd ⟨ws, kws⟩) (fun binds s₁ => ∃ Z₁ ρ₁, PH.le Z Z₁ ∧ Ext ρ ρ₁ ∧ SR C env Z₁ R ρ₁ st₁ s₁ ∧ BR Z₁ ρ₁ vars binds) noE s)
    (h : ∀ env Z R ρ s, env.code = fd.code → SR (C.into fd.scope) env Z R ρ { st₁ with vars := vars } s → wpAny C.M (C.into fd.scope).A (execs body env) (Post (C.into fd.scope) env Z R ρ rFlow fun f st' => Q (retV f) { st' with vars := st₁.vars }) noE s) : JC C a vs kws st Q :=
  fun env Z R ρ s ws hs hw => by
    obtain ⟨hcd, hlim⟩ := hs.knows F.get
    obtain ⟨o, ho, hdata, _⟩ := F.at_
    replace ho := hs.base_ ho
    refine codeAny_call_function (show C.A.depth < recursionLimit from hd) ho hdata F.co F.gen F.body hcd (wpAny_mono (hb env Z R ρ s ws hs hw) (fun binds s₀ ⟨Z₀, ρ₀, hz0, hr0, hs₀, hbr⟩ => ?_) fun _ _ e => e.elim)
    clear hcd hlim
    obtain ⟨hcd, hlim⟩ := hs₀.knows F.get
    have keys : binds.map (·.1) = vars.map (·.1) := hbr.keys
    unfold parOk at hp
    rw [Bool.and_eq_true, decide_eq_true_eq, List.all_eq_true] at hp
    rw [F.clo]
    refine wpAny_newFunctionEnv_cells F.kind (fun x hx => ?_) fun env' he s₁ x => ?_
    · have : x.1 ∈ vars.map (·.1) := by rw [← keys]; exact List.mem_map_of_mem hx
      have := hp.2 _ this
      rw [Bool.or_eq_true, beq_iff_eq, beq_iff_eq] at this
      rcases this with q | q
      · exact .inl q
      · exact .inr ⟨q, cellsFrom_some _ _ _ (.inl q)⟩
    · subst he
      refine ⟨hlim.keeps x.toInCall.keep, codeAny_func ?_⟩
      have he : callEnvC fd s₀.heap.objs.size a = newEnv (C.into fd.scope).sc s₀.heap.objs.size mainGlobals (cellsFrom (s₀.heap.objs.size + 1) (C.into fd.scope).sc.names []) (fd.qualname ++ ".<locals>.") (some a) fd.code none builtinsNs := by
        unfold callEnvC; rw [F.glob, F.blt]; rfl
      obtain ⟨k1, k2⟩ := enter (C' := C.into fd.scope) hs₀ rfl rfl rfl rfl rfl F.kind he x hbr (by rw [keys]; exact hp.1) F.free
      refine wp_use (h _ Z₀ _ ρ₀ s₁ rfl k1) (fun f s' g st' Z' ρ' hz hr rf hs' hq => ?_)
      have hs2 := k2 Z' ρ' st' s' hz hr hs'
      have hz := hz0.trans hz
      have hr := hr0.trans hr
      cases rf with
      | next => exact ⟨_, rfl, _, _, Z', ρ', hz, hr, .none, hs2, hq⟩
      | brk => exact ⟨_, rfl, _, _, Z', ρ', hz, hr, .none, hs2, hq⟩
      | cont => exact ⟨_, rfl, _, _, Z', ρ', hz, hr, .none, hs2, hq⟩
      | ret rv => exact ⟨_, rfl, _, _, Z', ρ', hz, hr, rv, hs2, hq⟩
theorem code_fn {a : Addr} {fd : FuncData} {body : List Stmt} {vs : List V} {kws : List (Str × Value)} {vars : List (Str × V)} {Q : V → St → Prop} {st₁ : St} (F : Fn0 C.base a fd body) (hd : C.d < 1000)
    (hp : parOk fd.scope (vars.map (·.1)) = true)
    (hb : ∀ (env : Env) (Z R : PH) (ρ : List Addr) (s : Shared) (ws : List Value), SR C env Z R ρ st s → VRs Z ρ vs ws → wpAny C.M C.A.in1 (bindArgs fd ⟨ws, kws⟩) (fun binds s₁ => ∃ Z₁ ρ₁, PH.le Z Z₁ ∧ Ext ρ ρ₁ ∧ SR C env Z₁ R ρ₁ st₁ s₁ ∧ BR Z₁ ρ₁ vars binds) noE s)
    (h : JX (C.into fd.scope) body { st₁ with vars := vars } fun f st' => Q (retV f) { st' with vars := st₁.vars }) : JC C a vs kws st Q :=
  code_fnX F hd hp hb fun env Z R ρ s _ hs => h env Z R ρ s hs
theorem code_fn0 {a : Addr} {fd : FuncData} {body : List Stmt} {vs : List V} {kws : List (Str × Value)} {vars : List (Str × V)} {Q : V → St → Prop} (F : Fn0 C.base a fd body) (hd : C.d < 1000)
    (hp : parOk fd.scope (vars.map (·.1)) = true)
    (hb : ∀ (env : Env) (Z R : PH) (ρ : List Addr) (s : Shared) (ws : List Value), SR C env Z R ρ st s → VRs Z ρ vs ws → ∃ binds, BindsTo s fd ⟨ws, kws⟩ binds ∧ BR Z ρ vars binds)
    (h : JX (C.into fd.scope) body { st with vars := vars } fun f st' => Q (retV f) { st' with vars := st.vars }) : JC C a vs kws st Q :=
  code_fn F hd hp (fun env Z R ρ s ws hs hw => let ⟨binds, h1, h2⟩ := hb env Z R ρ s ws hs hw; h1 _ _ _ _ ⟨Z, ρ, PH.le.refl _, Ext.refl _, hs, h2⟩) h
end
end Mine
end
section -- MDict
set_option maxRecDepth 100000
namespace Mine
open PySem PySem.W PyProof.Rows

theorem KR.length {Z : PH} {ρ : List Addr} : ∀ {es : List (Int × V)} {kvs : List (Int × Value)}, KR Z ρ es kvs → kvs.length = es.length
  | _, _, .nil => rfl
  | _, _, .cons h t => by rw [List.length_cons, List.length_cons, t.length]
theorem KR.keys {Z : PH} {ρ : List Addr} : ∀ {es : List (Int × V)} {kvs : List (Int × Value)}, KR Z ρ es kvs → kvs.map (·.1) = es.map (·.1)
  | _, _, .nil => rfl
  | _, _, .cons h t => by rw [List.map_cons, List.map_cons, t.keys]
theorem KR.at_ {Z : PH} {ρ : List Addr} : ∀ {es : List (Int × V)} {kvs : List (Int × Value)}, KR Z ρ es kvs → ∀ k, match es.lookup k with
    | some v => ∃ w, valueAt kvs k = some w ∧ VR Z ρ v w
    | none => valueAt kvs k = none
  | _, _, .nil, k => rfl
  | _, _, .cons (k := k') (v := v) (w := w) h t, k => by
    have ih := t.at_ k
    by_cases q : k = k'
    · subst q
      rw [List.lookup_cons]; simp [valueAt, h]
    · have q1 : (k == k') = false := by simpa using q
      rw [List.lookup_cons, q1]
      have e : ∀ l : List (Int × Value), valueAt ((k', w) :: l) k = valueAt l k := fun l => by unfold valueAt; rw [List.find?_cons_of_neg (by simpa using Ne.symm q)]
      rw [e]; exact ih
theorem KR.snoc {Z : PH} {ρ : List Addr} {k : Int} {v : V} {w : Value} (r : VR Z ρ v w) : ∀ {es : List (Int × V)} {kvs : List (Int × Value)}, KR Z ρ es kvs → KR Z ρ (es ++ [(k, v)]) (kvs ++ [(k, w)])
  | _, _, .nil => .cons r .nil
  | _, _, .cons h t => .cons h (t.snoc r)

theorem DE.pairs {prog : Program} {w : World} : ∀ {kvs : List (Int × Value)} {es : List DictEntry}, DE kvs es → Pairs (intKind prog w) es kvs ∧ ∀ e ∈ es, ∃ k, (intKind prog w).is k e.key = true ∧ e.hash = (intKind prog w).hash k
  | _, _, .nil => ⟨.nil, fun _ h => (nomatch h)⟩
  | _, _, .cons (k := k) (t := t) h => ⟨.cons (intKind_is prog w k t) rfl h.pairs.1, fun e he => by
    rcases List.mem_cons.mp he with rfl | he
    · exact ⟨k, intKind_is prog w k t, rfl⟩
    · exact h.pairs.2 e he⟩
theorem DE.of {prog : Program} {w : World} : ∀ {kvs : List (Int × Value)} {es : List DictEntry}, Pairs (intKind prog w) es kvs → (∀ e ∈ es, ∃ k, (intKind prog w).is k e.key = true ∧ e.hash = (intKind prog w).hash k) → DE kvs es
  | _, _, .nil, _ => .nil
  | (k, v) :: kvs, e :: es, .cons h1 h2 t, hk => by
    obtain ⟨k', q1, q2⟩ := hk e (.head _)
    obtain ⟨u, hu⟩ := Value.isInt_shape (show Value.isInt k e.key = true from h1)
    have : k' = k := Value.isInt_inj _ _ _ q1 h1
    subst this
    obtain ⟨eh, ek, ev⟩ := e
    dsimp only at hu h2 q2
    subst hu; subst h2
    rw [q2]
    exact .cons (DE.of t fun e he => hk e (.tail _ he))
theorem IsD.dictOf {prog : Program} {w : World} {h : Heap} {a : Addr} {o : Obj} {kvs : List (Int × Value)} (ho : h.get? a = some o) (hd : IsD o kvs) : h.DictOf (intKind prog w) a kvs := by
  obtain ⟨es, ep, h1, h2, h3, h4⟩ := hd
  refine ⟨o, es, ep, ho, h1, h2, fun e he => h3.pairs.2 e (Array.mem_toList_iff.mpr he), h3.pairs.1, h4⟩
theorem IsD.of {prog : Program} {w : World} {h : Heap} {a : Addr} {kvs : List (Int × Value)} (x : h.DictOf (intKind prog w) a kvs) : ∃ o, h.get? a = some o ∧ IsD o kvs := by
  obtain ⟨o, es, ep, ho, h1, h2, h3, h4, h5⟩ := x
  exact ⟨o, ho, es, ep, h1, h2, DE.of h4 (fun e he => h3 e (Array.mem_toList_iff.mp he)), h5⟩
end Mine
end
section -- MDict2
set_option maxRecDepth 100000
namespace Mine
open PySem PySem.W PyProof.Rows
section
variable {C : Fx} {st : St}
theorem OR.dict_inv {P : Params} {Z : PH} {ρ : List Addr} {es : List (Int × V)} {o : Obj} (h : OR P Z ρ (.dict es) o) : ∃ kvs, IsD o kvs ∧ KR Z ρ es kvs := by
  cases h with | dict h k => exact ⟨_, h, k⟩
theorem SR.dict {env : Env} {Z R : PH} {ρ : List Addr} {s : Shared} {n : Nat} {es : List (Int × V)} {w : Value} (hs : SR C env Z R ρ st s) (hsm : ∃ o, C.base sysModules = some o) (e : st.heap n = some (.dict es)) (r : VR Z ρ (.obj n) w) :
    ∃ a o kvs, w = .ref a ∧ ρ[n]? = some a ∧ s.heap.get? a = some o ∧ IsD o kvs ∧ KR Z ρ es kvs ∧ (a == sysModules) = false := by
  cases r with
  | obj ea =>
    rename_i a
    obtain ⟨T, k⟩ := hs
    obtain ⟨a', h1, h2, o, h3, h4⟩ := k.objs n _ e
    rw [ea] at h1; cases h1
    obtain ⟨kvs, q1, q2⟩ := h4.dict_inv
    refine ⟨a, o, kvs, rfl, ea, h3, q1, q2, beq_eq_false_iff_ne.mpr fun z => ?_⟩
    obtain ⟨o', ho'⟩ := hsm
    have := (k.z _ _ (k.base _ _ ho')).1
    rw [← z, h2] at this; cases this
theorem ev_Dict0 {pos : Pos} {Q : V → St → Prop} (h : Q (.obj st.nx) { st with heap := upd st.heap st.nx (.dict []), nx := st.nx + 1 }) : J C VR (eval (.Dict [] [] pos)) st Q :=
  fun env Z R ρ s hs => by
    refine wpAny_Dict_empty ?_
    have hs2 := hs.allocO { cls := .type "dict", data := .dict #[] } (.dict []) s.toks (.dict (kvs := []) ⟨#[], 0, ⟨rfl, rfl, rfl⟩, rfl, .nil, .nil⟩ .nil)
    obtain ⟨T, hT⟩ := hs
    exact ⟨_, _, Z, _, PH.le.refl _, Ext.snoc _ _, .obj (by rw [List.getElem?_append_right (by rw [hT.nx]; exact Nat.le_refl _), hT.nx, Nat.sub_self]; rfl), hs2, h⟩
theorem op_inD {n : Nat} {es : List (Int × V)} {k : Int} {Q : V → St → Prop} (hsm : ∃ o, C.base sysModules = some o) (e : st.heap n = some (.dict es)) (h : Q (.bool (es.lookup k).isSome) st) : JV C VR [.int k, .obj n] (two (compareOp .In)) st Q :=
  fun env Z R ρ s ws hs hw => by
    obtain ⟨x, y, rfl, r1, r2⟩ := inv2 hw
    obtain ⟨t, rfl⟩ := inv_int r1
    obtain ⟨a, o, kvs, rfl, ea, ho, hd, kr, hne⟩ := hs.dict hsm e r2
    refine wpAny_in_of (knd := intKind C.prog C.w) (intKind_is _ _ k t) hne (hd.dictOf ho).mapOf ?_
    have := kr.at_ k
    have e2 : (valueAt kvs k).isSome = (es.lookup k).isSome := by
      cases q : es.lookup k with
      | some v => rw [q] at this; obtain ⟨w, e, _⟩ := this; rw [e]; rfl
      | none => rw [q] at this; rw [show valueAt kvs k = none from this]; rfl
    rw [e2]
    exact SR.post (hs.tok _) (.bool _) h
theorem op_notInD {n : Nat} {es : List (Int × V)} {k : Int} {Q : V → St → Prop} (hsm : ∃ o, C.base sysModules = some o) (e : st.heap n = some (.dict es)) (h : Q (.bool (!(es.lookup k).isSome)) st) : JV C VR [.int k, .obj n] (two (compareOp .NotIn)) st Q :=
  fun env Z R ρ s ws hs hw => by
    obtain ⟨x, y, rfl, r1, r2⟩ := inv2 hw
    obtain ⟨t, rfl⟩ := inv_int r1
    obtain ⟨a, o, kvs, rfl, ea, ho, hd, kr, hne⟩ := hs.dict hsm e r2
    refine wpAny_notIn_of (knd := intKind C.prog C.w) (intKind_is _ _ k t) hne (hd.dictOf ho).mapOf ?_
    have := kr.at_ k
    have e2 : (valueAt kvs k).isSome = (es.lookup k).isSome := by
      cases q : es.lookup k with
      | some v => rw [q] at this; obtain ⟨w, e, _⟩ := this; rw [e]; rfl
      | none => rw [q] at this; rw [show valueAt kvs k = none from this]; rfl
    rw [e2]
    exact SR.post (hs.tok _) (.bool _) h
theorem b_lenD {n : Nat} {es : List (Int × V)} {Q : V → St → Prop} (hsm : ∃ o, C.base sysModules = some o) (e : st.heap n = some (.dict es)) (hsz : es.length ≤ 100000) (h : Q (.int es.length) st) : JV C VR [.obj n] (fun ws => call (.builtin "len") ws) st Q :=
  fun env Z R ρ s ws hs hw => by
    obtain ⟨x, rfl, r1⟩ := inv1 hw
    obtain ⟨a, o, kvs, rfl, ea, ho, hd, kr, hne⟩ := hs.dict hsm e r1
    refine call_len_dict (knd := intKind C.prog C.w) hne (hd.dictOf ho) (by rw [kr.length]; lia) ?_
    rw [kr.length]
    exact SR.post (hs.tok _) (.int _ _) h
theorem sub_dict {value slice : Expr} {n : Nat} {es : List (Int × V)} {k : Int} {v : V} {Q : V → St → Prop} (hsm : ∃ o, C.base sysModules = some o) (e : st.heap n = some (.dict es)) (hv : es.lookup k = some v) (h : Q v st)
    (hs : ∀ a t, subscripted slice false (.ref a) (.int k t) = operate [.ref a, .int k t] (getItem (.ref a) (.int k t)) := by intros; with_unfolding_all rfl) : JV C VR [.obj n, .int k] (two (subscriptTail value slice)) st Q :=
  fun env Z R ρ s ws hsr hw => by
    obtain ⟨x, y, rfl, r1, r2⟩ := inv2 hw
    obtain ⟨t, rfl⟩ := inv_int r2
    obtain ⟨a, o, kvs, rfl, ea, ho, hd, kr, hne⟩ := hsr.dict hsm e r1
    have := kr.at_ k
    rw [hv] at this
    obtain ⟨w, hw, rw'⟩ := this
    have hm := (hd.dictOf (prog := C.prog) (w := C.w) ho)
    exact tail_any hm.typeIs slot_dict_getitem.lookup (wpAny_getItem_of (knd := intKind C.prog C.w) (intKind_is _ _ k t) hm.mapOf hw (SR.post (hsr.tok _) rw' h)) (hs _ _)
theorem set_dict {n : Nat} {es : List (Int × V)} {k : Int} {v : V} {Q : Unit → St → Prop} (hsm : ∃ o, C.base sysModules = some o) (e : st.heap n = some (.dict es)) (hno : es.lookup k = none) (hsz : es.length ≤ 1000)
    (h : Q () { st with heap := upd st.heap n (.dict (es ++ [(k, v)])) }) : JV C rUnit [.obj n, .int k, v] (three setItem) st Q :=
  fun env Z R ρ s ws hs hw => by
    obtain ⟨x, y, z, rfl, r1, r2, r3⟩ := inv3 hw
    obtain ⟨t, rfl⟩ := inv_int r2
    obtain ⟨a, o, kvs, rfl, ea, ho, hd, kr, hne⟩ := hs.dict hsm e r1
    have hm := (hd.dictOf (prog := C.prog) (w := C.w) ho)
    refine wpAny_setItem_pairs (knd := intKind C.prog C.w) (intKind_is _ _ k t) hm (fun h' hm' hsb => ?_) (by rw [kr.length]; exact Nat.le_trans hsz (by decide))
    have hat := kr.at_ k
    rw [hno] at hat
    have es' : stored kvs k z = kvs ++ [(k, z)] := by
      unfold stored
      rw [if_neg]
      intro hany
      obtain ⟨p, hp, hq⟩ := List.any_eq_true.mp hany
      have hn : kvs.find? (fun kv => decide (kv.1 = k)) = none := by
        cases q : kvs.find? (fun kv => decide (kv.1 = k)) with
        | none => rfl
        | some u =>
          have : valueAt kvs k = some u.2 := by unfold valueAt; rw [q]; rfl
          rw [this] at hat; cases hat
      exact absurd hq (by simpa using List.find?_eq_none.mp hn p hp)
    rw [es'] at hm'
    obtain ⟨o', ho', hd'⟩ := IsD.of hm'
    exact SR.post (hs.updO e ea hsb ho' (.dict hd' (kr.snoc r3))) trivial h
end
end Mine
end
section -- MInst
set_option maxRecDepth 100000
namespace Mine
open PySem PySem.W PyProof.Rows

structure ClsK (K : Frag) (c : Addr) : Prop where
  get : plainGet K c "" = true
  set : findIn K (.ref c) "__setattr__" = some (some (.builtin "object.__setattr__"))
  dict : hasDictIn K c = true
  over : plainOver K c = true

noncomputable def handV : V → Bool
  | .val v => handedIn v
  | _ => true
theorem handV_of {Z : PH} {ρ : List Addr} {v : V} {w : Value} (r : VR Z ρ v w) (h : handV v = true) : handedIn w = true := by
  cases r <;> first | rfl | exact h

theorem NsR.nokeys {Z : PH} {ρ : List Addr} : ∀ {fs : List (Str × V)} {es : List DictEntry}, NsR Z ρ fs es → es.any (·.refKey) = false
  | _, _, .nil => rfl
  | _, _, .cons (e := e) h k t => by
    obtain ⟨tk, hk⟩ := k
    rw [List.any_cons, t.nokeys, Bool.or_false]
    unfold DictEntry.refKey
    rw [hk]
theorem NsR.getL {Z : PH} {ρ : List Addr} (x : Str) : ∀ {fs : List (Str × V)} {es : List DictEntry}, NsR Z ρ fs es → (∀ v, fs.lookup x = some v → ∃ w, getL x es = some (some w) ∧ VR Z ρ v w) ∧ (fs.lookup x = none → getL x es = some none)
  | _, _, .nil => ⟨fun v h => (nomatch h), fun _ => rfl⟩
  | _, _, .cons (x := y) (e := e) (fs := fs) (es := es) h k t => by
    obtain ⟨tk, hk⟩ := k
    have ih := t.getL x
    have hn := t.nokeys
    have hr : e.refKey = false := by unfold DictEntry.refKey; rw [hk]
    unfold PySem.W.getL at ih ⊢
    rw [List.lookup_cons]
    by_cases q : x = y
    · subst q
      have e1 : e.key.isStr x = true := by rw [hk]; simp [Value.isStr]
      rw [List.find?_cons, e1]
      simp only [beq_self_eq_true]
      exact ⟨fun v hv => ⟨_, rfl, by cases hv; exact h⟩, fun hv => (nomatch hv)⟩
    · have e1 : e.key.isStr x = false := by rw [hk]; simp [Value.isStr]; exact fun z => q z.symm
      have e2 : (x == y) = false := by simpa using q
      rw [List.find?_cons, e1, e2, List.any_cons, hr, Bool.false_or]
      exact ih
theorem NsR.putL {Z : PH} {ρ : List Addr} (x : Str) (hsh : Int) (t : Tok) {v : V} {w : Value} (r : VR Z ρ v w) : ∀ {fs : List (Str × V)} {es : List DictEntry}, NsR Z ρ fs es → NsR Z ρ (setv x v fs) (PySem.W.putL x hsh (.str x t) w es)
  | _, _, .nil => .cons r ⟨t, rfl⟩ .nil
  | _, _, .cons (x := y) (e := e) h k tl => by
    obtain ⟨tk, hk⟩ := k
    unfold setv PySem.W.putL
    by_cases q : y = x
    · subst q
      have e1 : e.key.isStr y = true := by rw [hk]; simp [Value.isStr]
      rw [if_pos (by simp), if_pos e1]
      exact .cons r ⟨tk, hk⟩ tl
    · have e1 : ¬ e.key.isStr x = true := by rw [hk]; simp [Value.isStr]; exact q
      rw [if_neg (by simpa using q), if_neg e1]
      exact .cons h ⟨tk, hk⟩ (tl.putL x hsh t r)
theorem NsR.length {Z : PH} {ρ : List Addr} : ∀ {fs : List (Str × V)} {es : List DictEntry}, NsR Z ρ fs es → es.length = fs.length
  | _, _, .nil => rfl
  | _, _, .cons _ _ t => by rw [List.length_cons, List.length_cons, t.length]
theorem setv_length (x : Str) (v : V) : ∀ l : List (Str × V), (setv x v l).length ≤ l.length + 1
  | [] => by simp [setv]
  | (y, u) :: r => by
    unfold setv
    split
    · simp
    · have := setv_length x v r
      simp; omega
theorem putL_length (x : Str) (hsh : Int) (k v : Value) : ∀ l : List DictEntry, (putL x hsh k v l).length ≤ l.length + 1
  | [] => by simp [putL]
  | e :: r => by
    unfold putL
    split
    · simp
    · have := putL_length x hsh k v r
      simp; omega

section
variable {C : Fx} {st : St} {K : Frag}

theorem OR.ns_inv {P : Params} {Z : PH} {ρ : List Addr} {fs : List (Str × V)} {o : Obj} (h : OR P Z ρ (.ns fs) o) : ∃ es n, o = dictOf es n ∧ NsR Z ρ fs es := by
  cases h with | ns h => exact ⟨_, _, rfl, h⟩
theorem SR.inst {env : Env} {Z R : PH} {ρ : List Addr} {s : Shared} {c : Addr} {n : Nat} {fs : List (Str × V)} {w : Value} (hs : SR C env Z R ρ st s) (e : st.heap n = some (.ns fs)) (r : VR Z ρ (.inst c n) w) :
    ∃ x dx es k, w = .ref x ∧ ρ[n]? = some dx ∧ s.heap.get? x = some (instObj c dx) ∧ s.heap.get? dx = some (dictOf es k) ∧ NsR Z ρ fs es ∧ InstAt s.heap x (instObj c dx) c (some (dictOf es k)) := by
  cases r with
  | inst hx ea =>
    obtain ⟨a', o, h1, h2, h3⟩ := hs.obj e
    rw [ea] at h1; cases h1
    obtain ⟨es, k, rfl, h4⟩ := h3.ns_inv
    exact ⟨_, _, es, k, rfl, ea, hs.z_ hx, h2, h4, ⟨hs.z_ hx, rfl, rfl, h2⟩⟩

theorem at_get {c : Addr} {n : Nat} {fs : List (Str × V)} {x : Str} {u : V} {Q : V → St → Prop} (H : BaseK K C.base) (k : ClsK K c) (ha : findIn K (.ref c) x = some none) (hh : st.heap n = some (.ns fs)) (hl : fs.lookup x = some u) (h : Q u st) (hu : handV u = true := by rfl) :
    JV C VR [.inst c n] (one fun w => getAttr w x true) st Q :=
  fun env Z R ρ s ws hs hw => by
    obtain ⟨w, rfl, r⟩ := inv1 hw
    obtain ⟨a, dx, es, m, rfl, ea, h1, h2, h3, I⟩ := hs.inst hh r
    obtain ⟨v, hv, rv⟩ := (h3.getL x).1 u hl
    have X := hs.knows H.inK
    have hg := plainGet_of (name := "") k.get
    exact get_value X I hg.1 (findObj_own k.dict ha rfl hv) (handV_of rv hu) (SR.post (hs.tok _) rv h)

theorem osa_raw {prog : Program} {w : World} {A : Around} {R : Result → Shared → Prop} {s : Shared} {x dx c : Addr} {ox od od' : Obj} {name : Str} {tk : Tok} {v : Value} {es : List DictEntry} {n : Nat} (X : K.In s.heap)
    (I : InstAt s.heap x ox c (some od)) (hd : ox.dict = some dx) (hp : plainOver K c = true) (ht : takerIn K c name = some none) (hh : (clsIn K c).any (·.hasDict) = true) (hl : (lookIn name od).isSome = true)
    (D : s.heap.get? dx = some od) (D' : (s.heap.update dx (Obj.putName name (PyData.keyHash w.params name) (.str name s.toks) v)).get? dx = some od') (e' : od'.data = .dict es.toArray n) (hz : es.length ≤ 1000)
    (h : R (.ok (.ret .none)) { s with heap := s.heap.update dx (Obj.putName name (PyData.keyHash w.params name) (.str name s.toks) v), toks := s.toks + 1 }) :
    codeAny (model prog w) A (.call (.builtin "object.__setattr__") ⟨[.ref x, .str name tk, v], []⟩) R s := by
  refine osa_open X I hp ht fun b => ?_
  obtain ⟨cd, hc, hd'⟩ := any_some hh
  obtain ⟨hx, hcl, hn, -⟩ := I
  obtain ⟨oc, odi, oda, osl⟩ := ox
  dsimp only at hcl hd
  subst hcl hd
  refine wpAny_bind (wpAny_pure (wpAny_bind (wpAny_bind (wpAny_loadPart hx (wpAny_bind ((looks_clsIn X hc).here ?_))))))
  rw [hd']
  refine wpAny_pure (a := some dx) (wpAny_bind (wpAny_pure (wpAny_bind ?_)))
  unfold nsSet
  refine wpAny_bind (wpAny_bind (wpAny_askSetting (wpAny_pure (wpAny_bind (wpAny_mkText (wpAny_bind (wpAny_loadPart D ?_)))))))
  unfold lookIn at hl
  split at hl
  · rename_i es₀ n₀ q
    rw [q]
    dsimp only
    have c : (!es₀.any (·.key.isStr name) && es₀.any (·.refKey)) = false := by
      rw [← Array.any_toList, ← Array.any_toList]
      split at hl
      · rename_i en he
        rw [List.any_eq_true.mpr ⟨en, List.mem_of_find?_eq_some he, List.find?_some he⟩]; rfl
      · split at hl
        · cases hl
        · rename_i z; rw [Bool.not_eq_true] at z; rw [z, Bool.and_false]
    rw [aRefKeyMayBeTheName_at, c]
    refine wpAny_updatePart D ?_
    refine wpAny_bind (wpAny_lookBehind D' (by rw [e']; exact pastItsLine_dict (by rw [List.size_toArray, sizeLine_eq]; omega)) ?_)
    exact wpAny_pure h
  · cases hl

theorem at_set {c : Addr} {n : Nat} {fs : List (Str × V)} {x : Str} {u : V} {Q : Unit → St → Prop} (H : BaseK K C.base) (k : ClsK K c) (ha : findIn K (.ref c) x = some none) (hh : st.heap n = some (.ns fs)) (hz : fs.length ≤ 900)
    (h : Q () { st with heap := upd st.heap n (.ns (setv x u fs)) }) : JV C rUnit [.inst c n, u] (two fun a b => setAttr a x b) st Q :=
  fun env Z R ρ s ws hs hw => by
    obtain ⟨w, wv, rfl, r, rv⟩ := inv2 hw
    obtain ⟨a, dx, es, m, rfl, ea, h1, h2, h3, I⟩ := hs.inst hh r
    have X := hs.knows H.inK
    have ht : takerIn K c x = some none := by unfold takerIn; rw [ha]; rfl
    have hl : (lookIn x (dictOf es m)).isSome = true := by
      rw [lookIn_dict]
      cases q : fs.lookup x with
      | none => rw [(h3.getL x).2 q]; rfl
      | some v => obtain ⟨w, hw, _⟩ := (h3.getL x).1 v q; rw [hw]; rfl
    have hupd := Heap.get?_update_self (h := s.heap) (Obj.putName x (PyData.keyHash C.w.params x) (.str x (s.toks + 1)) wv) h2 (by rw [putName_dict]; rfl)
    rw [putName_dict] at hupd
    have hlen := h3.length
    have hp := putL_length x (PyData.keyHash C.w.params x) (.str x (s.toks + 1)) wv es
    refine set_plain X I k.set (osa_raw (s := { s with toks := s.toks + 1 }) X I rfl k.over ht k.dict hl h2 hupd rfl (by omega) ?_)
    refine SR.post (hs.updO (tk := s.toks + 1 + 1) hh ea (Heap.SameBut.update ..) hupd (.ns ?_)) trivial h
    exact h3.putL x _ _ rv

theorem ev_Attr {o : Expr} {x : Str} {pos : Pos} {Q : V → St → Prop} (h : J C VR (eval o) st fun v st₁ => JV C VR [v] (one fun w => getAttr w x true) st₁ Q)
    (he : ∀ env, eval (.Attribute o x pos) env = (do
      let o' ← eval o env
      standAt pos.atName
      let r ← holding [o'] (getAttr o' x true)
      letTemporaryGo o o' r
      pure r) := by intro _; with_unfolding_all rfl) : J C VR (eval (.Attribute o x pos)) st Q :=
  fun env Z R ρ s hs => Attribute_any_ (wp_use (h env Z R ρ s hs) (fun w s₁ v st₁ Z₁ ρ₁ hz hr rv hs₁ h₁ =>
    wp_up hz hr (h₁ env Z₁ R ρ₁ s₁ [w] hs₁ (.cons rv .nil)))) (he env)

theorem x_SetAttr {o : Expr} {x : Str} {tp pos : Pos} {value : Expr} {Q : FlowA → St → Prop}
    (h : J C VR (eval value) st fun v st₁ => J C VR (eval o) st₁ fun ov st₂ => JV C rUnit [ov, v] (two fun a b => setAttr a x b) st₂ fun _ st₃ => Q .next st₃)
    (hsw : ∀ env, swapsWith value (some (.Attribute o x tp)) pos.line env = pure false := by intro _; rfl) : JX1 C (.Assign [.Attribute o x tp] value pos) st Q :=
  fun env Z R ρ s hs => plainObj_wpAny_Assign_Attribute (wp_use (h env Z R ρ s hs) (fun w s₁ v st₁ Z₁ ρ₁ hz hr rv hs₁ h₁ =>
    wp_use (h₁ env Z₁ R ρ₁ s₁ hs₁) (fun w2 s₂ v2 st₂ Z₂ ρ₂ hz2 hr2 rv2 hs₂ h₂ =>
      wp_use (h₂ env Z₂ R ρ₂ s₂ [w2, w] hs₂ (.cons rv2 (.cons (rv.mono hz2 hr2) .nil))) (fun _ _ _ st₄ Z₄ ρ₄ hz4 hr4 _ hs₄ h₄ =>
          ⟨_, st₄, Z₄, ρ₄, (hz.trans hz2).trans hz4, (hr.trans hr2).trans hr4, .next, hs₄, h₄⟩)))) (hsw env)

theorem x_AugAttr {o : Expr} {x : Str} {tp pos : Pos} {op : Operator} {value : Expr} {Q : FlowA → St → Prop}
    (h : J C VR (eval o) st fun ov st₁ => JV C VR [ov] (one fun w => getAttr w x true) st₁ fun old st₂ => J C VR (eval value) st₂ fun v st₃ => JV C VR [old, v] (two (inplaceOp op)) st₃ fun u st₄ =>
      JV C rUnit [ov, u] (two fun a b => setAttr a x b) st₄ fun _ st₅ => Q .next st₅) : JX1 C (.AugAssign (.Attribute o x tp) op value pos) st Q :=
  fun env Z R ρ s hs => wpAny_AugAssign_AttributeAny (wp_use (h env Z R ρ s hs) (fun w s₁ v st₁ Z₁ ρ₁ hz hr rv hs₁ h₁ =>
    wp_use (h₁ env Z₁ R ρ₁ s₁ [w] hs₁ (.cons rv .nil)) (fun w2 s₂ v2 st₂ Z₂ ρ₂ hz2 hr2 rv2 hs₂ h₂ =>
      wp_use (h₂ env Z₂ R ρ₂ s₂ hs₂) (fun w3 s₃ v3 st₃ Z₃ ρ₃ hz3 hr3 rv3 hs₃ h₃ =>
        wp_use (h₃ env Z₃ R ρ₃ s₃ [w2, w3] hs₃ (.cons (rv2.mono hz3 hr3) (.cons rv3 .nil))) (fun w4 s₄ v4 st₄ Z₄ ρ₄ hz4 hr4 rv4 hs₄ h₄ =>
          wp_use (h₄ env Z₄ R ρ₄ s₄ [w, w4] hs₄ (.cons (rv.mono ((hz2.trans hz3).trans hz4) ((hr2.trans hr3).trans hr4)) (.cons rv4 .nil))) (fun _ _ _ st₅ Z₅ ρ₅ hz5 hr5 _ hs₅ h₅ =>
            ⟨_, st₅, Z₅, ρ₅, (((hz.trans hz2).trans hz3).trans hz4).trans hz5, (((hr.trans hr2).trans hr3).trans hr4).trans hr5, .next, hs₅, h₅⟩))))))

theorem ev_MethI {o : Expr} {x : Str} {apos pos : Pos} {es : List Expr} {c f : Addr} {Q : V → St → Prop} (H : BaseK K C.base) (k : ClsK K c) (hm : findIn K (.ref c) x = some (some (.ref f))) (hf : typeIn K (.ref f) = some (.type "function")) (hk : keepIn K (.ref f) = true)
    (h : J C VR (eval o) st fun ov st₁ => (∃ n fs, ov = .inst c n ∧ st₁.heap n = some (.ns fs) ∧ fs.lookup x = none) ∧ JL C pos es st₁ fun vs st₂ => JV C VR (ov :: vs) (fun ws => call (.ref f) ws) st₂ Q)
    (hbase : ∀ env, attributeBase o x env (eval o env) = eval o env := by intro _; rfl) (hline : (apos.endLine == pos.line) = true := by rfl)
    (he : ∀ env, (backTo pos (starEach es env)).any (·.1) = false := by intro _; rfl)
    (hfew : ∀ env, methodCallForm (es.length + ([] : List Keyword).length) (backTo pos (starEach es env)) (backToKw pos (keywordEach [] env)) = true := by intro _; rfl) :
    J C VR (eval (.Call (.Attribute o x apos) es [] pos)) st Q :=
  fun env Z R ρ s hs => by
    rw [arm_eval_Call, hbase]
    refine wpAny_bind (wpAny_mono (h env Z R ρ s hs) (fun w s₁ ⟨v, st₁, Z₁, ρ₁, hz, hr, rv, hs₁, ⟨n, fs, e1, e2, e3⟩, h₁⟩ => wpAny_bind (wpAny_standAt ?_)) fun _ _ e => e)
    subst e1
    obtain ⟨a, dx, es', m, rfl, ea, k1, k2, k3, I⟩ := hs₁.inst e2 rv
    have X := hs₁.knows H.inK
    have hg := plainGet_of (name := "") k.get
    unfold methodCall methodCallPos calleeOf
    rw [hfew env]
    refine wpAny_bind (wpAny_holding ?_)
    show wpAny _ _ (getMethod (.ref a) x _) _ _ s₁
    refine method_fn X I hg.1 hg.2 hm hf (by show (lookIn x (dictOf es' m)).map _ = _; rw [lookIn_dict, (k3.getL x).2 e3]; rfl) ?_
    dsimp only
    rw [hline]
    refine wpAny_bind (wpAny_pure ?_)
    refine callWith_of (P := K.In) (by rw [he env]; rfl) (fun h X => keeps_K hk h X) (wpAny_mono (args_ h₁ he hs₁ (.ref f)) (fun ar s₂ ⟨hkw, pp⟩ => pp.ex fun vs st₂ Z₂ ρ₂ hz2 hr2 rvs hs₂ h₂ => ?_) fun _ _ e => e)
    rw [hkw]
    exact ⟨hs₂.knows H.inK, wp_up (hz.trans hz2) (hr.trans hr2) (h₂ env Z₂ R ρ₂ s₂ (.ref a :: ar.pos) hs₂ (.cons (rv.mono hz2 hr2) rvs))⟩

noncomputable def Fx.up (C : Fx) (k : Nat) : Fx := { C with u := C.u + k }
noncomputable def Fx.make (C : Fx) : Fx := { C with d := C.d + 1, u := C.u + 1 }
theorem SR.upf {k : Nat} {env : Env} {Z R : PH} {ρ : List Addr} {st : St} {s : Shared} (h : SR C env Z R ρ st s) : SR (C.up k) env Z R ρ st s := let ⟨T, h⟩ := h; ⟨T, { h with }⟩
theorem SR.dnf {k : Nat} {env : Env} {Z R : PH} {ρ : List Addr} {st : St} {s : Shared} (h : SR (C.up k) env Z R ρ st s) : SR C env Z R ρ st s := let ⟨T, h⟩ := h; ⟨T, { h with }⟩
theorem Post.dnf {k : Nat} {env : Env} {Z R : PH} {ρ : List Addr} {α β : Type} {rel : PH → List Addr → β → α → Prop} {Q : β → St → Prop} {a : α} {s' : Shared} (p : Post (C.up k) env Z R ρ rel Q a s') : Post C env Z R ρ rel Q a s' :=
  let ⟨b, st', Z', ρ', h1, h2, h3, h4, h5⟩ := p; ⟨b, st', Z', ρ', h1, h2, h3, h4.dnf, h5⟩

theorem SR.mkf {env : Env} {Z R : PH} {ρ : List Addr} {st : St} {s : Shared} (h : SR C env Z R ρ st s) : SR C.make env Z R ρ st s := let ⟨T, h⟩ := h; ⟨T, { h with }⟩
theorem SR.mkd {env : Env} {Z R : PH} {ρ : List Addr} {st : St} {s : Shared} (h : SR C.make env Z R ρ st s) : SR C env Z R ρ st s := let ⟨T, h⟩ := h; ⟨T, { h with }⟩

theorem at_prop {c p f : Addr} {n : Nat} {fs : List (Str × V)} {x : Str} {rest : List Value} {Q : V → St → Prop} (H : BaseK K C.base) (k : ClsK K c) (hh : st.heap n = some (.ns fs))
    (ha : findIn K (.ref c) x = some (some (.ref p))) (hn : specialIn K (.ref p) "__get__" = some (some (.builtin "property.__get__"))) (ht : takesIn K (.ref p) = some true) (hp : recIn K p "property" = some (.ref f :: rest))
    (h : JC (C.up 1) f [.inst c n] [] st fun v st' => handV v = true ∧ Q v st') : JV C VR [.inst c n] (one fun w => getAttr w x true) st Q :=
  fun env Z R ρ s ws hs hw => by
    obtain ⟨w, rfl, r⟩ := inv1 hw
    obtain ⟨a, dx, es, m, rfl, ea, h1, h2, h3, I⟩ := hs.inst hh r
    have X := hs.knows H.inK
    have hg := plainGet_of (name := "") k.get
    refine get_bind X I hg.1 (findObj_data (by obtain ⟨cd, hc, _⟩ := any_some k.dict; rw [hc]; rfl) ha hn ht) hg.2 (wpAny_call (prop_get (s := { s with toks := s.toks + 1 }) X hp ?_))
    refine codeAny_mono (h env Z R ρ { s with toks := s.toks + 1 } [.ref a] (hs.tok _).upf (.cons r .nil)) fun r s' ⟨v, e, p⟩ => ?_
    subst e
    obtain ⟨b, st', Z', ρ', q1, q2, q3, q4, q5, q6⟩ := p
    dsimp only
    rw [handedOut_of (handV_of q3 q5)]
    exact wpAny_pure ⟨b, st', Z', ρ', q1, q2, q3, q4.dnf, q6⟩

theorem mk_inst {c fI : Addr} {vs : List V} {kws : List (Str × Value)} {Q : V → St → Prop} (H : BaseK K C.base) (hm : makesIn K c = true) (hi : findIn K (.ref c) "__init__" = some (some (.ref fI))) (hf : typeIn K (.ref fI) = some (.type "function"))
    (h : JC C.make fI (.inst c st.nx :: vs) kws { st with heap := upd st.heap st.nx (.ns []), nx := st.nx + 1 } fun v st' => v = .none ∧ Q (.inst c st.nx) st') : JV C VR vs (fun ws => call (.ref c) ws kws) st Q :=
  fun env Z R ρ s ws hs hw => by
    have X := hs.knows H.inK
    have hs1 := hs.allocO emptyDict (.ns []) s.toks (.ns (n := 0) .nil)
    obtain ⟨le, hs2⟩ := hs1.allocZ (instObj c s.heap.objs.size) s.toks
    have hnx : ρ.length = st.nx := let ⟨_, k⟩ := hs; k.nx
    obtain ⟨hh, g, d, t, os⟩ := s
    refine wpAny_call (make_core (makes_of X hm) (looks_findIn X hi) (fun self => bind_fn X self hf) (.inl rfl) ?_)
    have e : (C.A).under (.builtin "type.__call__" ⟨.ref c :: ws, kws⟩) = C.make.A := by
      have w0 : (Code.builtin "type.__call__" ⟨.ref c :: ws, kws⟩).weight = 1 := by kernel_rfl
      have w1 : (Code.builtin "type.__call__" ⟨.ref c :: ws, kws⟩).cUnits = 1 := by kernel_rfl
      have w2 : (Code.builtin "type.__call__" ⟨.ref c :: ws, kws⟩).guards = [] := by kernel_rfl
      have w3 : (Code.builtin "type.__call__" ⟨.ref c :: ws, kws⟩).envs = [] := by kernel_rfl
      unfold Around.under
      rw [w0, w1, w2, w3]; rfl
    rw [e]
    dsimp only at le hs2
    rw [Heap.size_push] at le hs2
    have rI : VR (PH.put Z (hh.objs.size + 1) (instObj c hh.objs.size)) (ρ ++ [hh.objs.size]) (.inst c st.nx) (.ref (hh.objs.size + 1)) :=
      .inst (PH.put_self ..) (by rw [List.getElem?_append_right (by rw [hnx]; exact Nat.le_refl _), hnx, Nat.sub_self]; rfl)
    refine codeAny_mono (h env _ R (ρ ++ [hh.objs.size]) _ (.ref (hh.objs.size + 1) :: ws) hs2.mkf (.cons rI (hw.mono le (Ext.snoc _ _)))) fun r s' ⟨v, e, p⟩ => ?_
    subst e
    obtain ⟨b, st', Z', ρ', q1, q2, q3, q4, q5, q6⟩ := p
    subst q5
    obtain rfl := inv_none q3
    exact ⟨rfl, _, st', Z', ρ', le.trans q1, (Ext.snoc _ _).trans q2, rI.mono q1 q2, q4.mkd, q6⟩
end
end Mine
end
section -- MListI
set_option maxRecDepth 100000
/-! list(iterator) -/
namespace Mine
open PySem PySem.W PyProof.Rows

theorem walks_from {prog : Program} {w : World} {A : Around} (hh : A.handled = none) (I ax : Addr) (hne : ax ≠ I) (items : Array Value) (i : Nat) (hi : i ≤ items.size) :
    Walks prog w A I [I, ax] [I] (items.size - i) (fun j v => items[i + j]? = some v) (fun j h => h.IsListIter I ax (i + j) ∧ h.IsList ax items) where
  sub := (Walks.list (prog := prog) (w := w) hh I ax hne items).sub
  frame := fun j h h' st k => (Walks.list (prog := prog) (w := w) hh I ax hne items).frame (i + j) h h' st k
  item := fun j s Q E hj st hQ => (Walks.list (prog := prog) (w := w) hh I ax hne items).item (i + j) s Q E (by omega) st hQ
  done := fun s Q E st hQ => (Walks.list (prog := prog) (w := w) hh I ax hne items).done s Q E (by rw [show items.size = i + (items.size - i) from by omega]; exact st) hQ
  self := fun j s Q E st hQ => (Walks.list (prog := prog) (w := w) hh I ax hne items).self (i + j) s Q E st hQ

section
variable {prog : Program} {w : World} {A : Around} {E : Value → Shared → Prop} {s : Shared} {I : Addr} {fp wr : List Addr} {G : Array GenState → Array GenState → Prop} {n : Nat} {P : Nat → Value → Prop} {St : Nat → Shared → Prop}
theorem extend_li {R : Result → Shared → Prop} (W : WalksS prog w A.in1 I fp wr G n P St) (hT : ∀ i s, St i s → s.TypeIs (.ref I) "list_iterator") (S : Addr) (res : Value) (c₀ : Nat) (hst : St 0 s) (hSf : S ∉ fp) (hI : I ∈ fp)
    (hS : s.heap.get? S = some { cls := .type "list", data := .seq #[] c₀ }) (hn : n ≤ sizeLine)
    (hR : ∀ s' acc' c', Moved (S :: wr) G s s' → s'.heap.get? S = some { cls := .type "list", dict := none, data := .seq acc' c', slots := #[] } → ItemsOf P acc' n → R (.ok (.ret res)) s') :
    wpAny (model prog w) A.in1 (Builtin.List.listExtendWith (.ref S) (.ref I) res)
      (fun fin s' => match fin with | .done f => R (.ok f) s' | .again c' => c'.quiet = true ∧ codeAny (model prog w) A c' R s') (fun e s' => R (.error e) s') s := by
  have hSI : S ≠ I := fun e => hSf (e ▸ hI)
  unfold Builtin.List.listExtendWith
  refine wpAny_bind (wpAny_typeOf (hT 0 _ hst) ?_)
  have h1 : Builtin.List.listSameRef (.ref S) (.ref I) = false := by simp [Builtin.List.listSameRef, hSI]
  rw [if_neg (by rw [h1]; decide)]
  refine wpAny_bind (W.self 0 _ _ _ hst ?_)
  refine wpAny_bind (wpAny_holding ?_)
  unfold Builtin.List.listLengthHint
  refine wpAny_bind (wpAny_specialOf (hT 0 _ hst) F.nolen_li ?_)
  show wpAny _ A.in1 (specialOf (Value.ref I) (Str.ofString "__length_hint__") >>= _) _ _ _
  refine wpAny_bind (wpAny_specialOf (hT 0 _ hst) F.hint_li ?_)
  generalize hid : ("list_iterator.__length_hint__" : String) = id0
  wp_delta
  rw [show splitId id0 = some ("list_iterator", "__length_hint__") from by subst hid; decide +kernel]
  subst hid
  refine wpAny_bind (wpAny_isInstance (b := true) (hT 0 _ hst) (by rw [isSubtype_type]; kernel_rfl) ?_)
  refine wpAny_pure ?_
  rw [if_neg (by decide)]
  exact wpAny_pure ⟨plainId_quiet F.plain_extend_loop _, codeAny_extend_loopS W hn _ hSf _ n 0 _ _ _ rfl (Nat.zero_le _) hst hS (ItemsOf.nil P) fun s' acc' c' hm hS' hacc => hR s' acc' c' hm hS' hacc⟩

theorem call_list_li {Q : Value → Shared → Prop} (W : WalksS prog w A.in1.in1 I fp wr G n P St) (hT : ∀ i s, St i s → s.TypeIs (.ref I) "list_iterator") (hst : St 0 s) (hfp : ∀ b ∈ fp, b < s.heap.objs.size) (hI : I ∈ fp) (hn : n ≤ sizeLine)
    (hQ : ∀ s' acc' c', Moved (s.heap.objs.size :: wr) G { s with heap := s.heap.push { cls := .type "list", data := .seq #[] } } s' →
      s'.heap.get? s.heap.objs.size = some { cls := .type "list", dict := none, data := .seq acc' c', slots := #[] } → ItemsOf P acc' n → Q (.ref s.heap.objs.size) s') :
    wpAny (model prog w) A (call (.type "list") [.ref I]) Q E s := by
  have hSf : s.heap.objs.size ∉ fp := fun hm => Nat.lt_irrefl _ (hfp _ hm)
  refine callType_codes (Q₁ := fun obj s₁ => obj = .ref s.heap.objs.size ∧ s₁ = { s with heap := s.heap.push { cls := .type "list", data := .seq #[] } }) F.called_list (F.typeCall_list_1 _) F.entry_list_init
    (code_list_new _ ⟨rfl, rfl⟩) fun obj s₁ h₁ => ?_
  obtain ⟨rfl, rfl⟩ := h₁
  have hS : (s.heap.push { cls := .type "list", data := .seq #[] }).get? s.heap.objs.size = some { cls := .type "list", data := .seq #[] } := Heap.get?_push_size _ rfl
  refine ⟨⟨_, hS, rfl⟩, F.args_list_init_2 _ _, ?_⟩
  have hst1 := W.frame 0 s (s.heap.push { cls := .type "list", data := .seq #[] }) s.toks hst (Nat.le_refl _) fun b _ o e => Heap.get?_push_of_some _ e
  refine wpAny_bind ?_
  unfold Builtin.List.listItems
  refine wpAny_bind (wpAny_seqItems hS rfl (wpAny_pure ?_))
  refine wpAny_bind (wpAny_updateSeq hS rfl ?_)
  have hS₂ := Heap.get?_update_self (Obj.mapSeq (fun _ => (#[] : Array Value))) hS rfl
  have oth : ∀ b o, b ≠ s.heap.objs.size → (s.heap.push { cls := .type "list", data := .seq #[] }).get? b = some o → ((s.heap.push { cls := .type "list", data := .seq #[] }).update s.heap.objs.size (Obj.mapSeq (fun _ => (#[] : Array Value)))).get? b = some o :=
    fun b o hb e => (Heap.get?_update_other _ _ (Ne.symm hb)).trans e
  refine wpAny_bind (wpAny_letGo ?_)
  refine extend_li W hT s.heap.objs.size .none _ (W.frame 0 _ _ s.toks hst1 (Nat.le_refl _) fun b hb o e => oth b o (fun h => hSf (h ▸ hb)) e) hSf hI hS₂ hn fun s' acc' c' hm hS' hacc => ?_
  exact ⟨rfl, hQ s' acc' c' (Moved.trans W.gtrans ((Moved.refl W.grefl).then_heap (Nat.le_refl _) fun b o hb e => oth b o (fun h => hb (h ▸ List.mem_cons_self)) e) hm) hS' hacc⟩
end
section
variable {C : Fx} {env : Env} {Z R : PH} {ρ : List Addr} {st : St} {s s' : Shared}
theorem SR.moved {S a : Addr} {o o₂ : Obj} {k : Nat} {ao : AO} (h : SR C env Z (R.put S o) ρ st s) (hk : st.heap k = some ao) (ha : ρ[k]? = some a) (keep : ∀ b o', b ≠ S → b ≠ a → s.heap.get? b = some o' → s'.heap.get? b = some o')
    (hS : s'.heap.get? S = some o₂) (os : s'.os = s.os) (gens : s'.gens = s.gens) (drawn : s'.drawn = s.drawn) : SR C env Z (R.put S o₂) ρ { st with heap := del st.heap k } s' := by
  obtain ⟨T, h⟩ := h
  have tS : T S = .r := (h.r S o (PH.put_self ..)).1
  have ta : T a = .ob k := by
    obtain ⟨a', h1, h2, _⟩ := h.objs k ao hk
    rw [ha] at h1; cases h1; exact h2
  have kp : ∀ b o', T b ≠ .r → T b ≠ .ob k → s.heap.get? b = some o' → s'.heap.get? b = some o' := fun b o' q1 q2 => keep b o' (fun e => q1 (e ▸ tS)) (fun e => q2 (e ▸ ta))
  exact ⟨T, {
    base := h.base
    z := fun b o' e => ⟨(h.z b o' e).1, kp b o' (by rw [(h.z b o' e).1]; nofun) (by rw [(h.z b o' e).1]; nofun) (h.z b o' e).2⟩
    r := fun b o' e => by
      by_cases q : b = S
      · subst q; rw [PH.put_self] at e; cases e; exact ⟨tS, hS⟩
      · rw [PH.put_ne _ _ q] at e
        have e' := (PH.put_ne R o q).trans e
        have := h.r b o' e'
        exact ⟨this.1, keep b o' q (fun z => by subst z; rw [ta] at this; cases this.1) this.2⟩
    nx := h.nx
    objs := fun m ao' e => by
      dsimp only at e
      by_cases q : m = k
      · subst q; unfold del at e; rw [if_pos rfl] at e; cases e
      · rw [del_ne _ q] at e
        obtain ⟨b, h1, h2, o', h3, h4⟩ := h.objs m ao' e
        exact ⟨b, h1, h2, o', kp b o' (by rw [h2]; nofun) (by rw [h2]; rintro ⟨⟩; exact q rfl) h3, h4⟩
    scope := h.scope
    kind := h.kind
    globals := h.globals
    builtins := h.builtins
    loc := let ⟨h1, m, h2, h3⟩ := h.loc; ⟨h1, m, h2.at' fun o e => kp _ o (by rw [h1]; nofun) (by rw [h1]; nofun) e, h3⟩
    cell := fun x kk h1 h2 => let ⟨c, o, h3, h4, ⟨ob, q1, q2⟩, h6⟩ := h.cell x kk h1 h2; ⟨c, o, h3, h4, ⟨ob, kp c ob (by rw [h4]; nofun) (by rw [h4]; nofun) q1, q2⟩, h6⟩
    os := os.trans h.os
    gens := by rw [gens, drawn]; exact h.gens
    pin := h.pin }⟩
theorem b_listI {k i : Nat} {xs : List V} {Q : V → St → Prop} (e : st.heap k = some (.iter xs i)) (hsz : xs.length ≤ sizeLine) (h : Q (.lst (xs.drop i)) { st with heap := del st.heap k }) : JV C VR [.obj k] (fun ws => call (.type "list") ws) st Q :=
  fun env Z R ρ s ws hs hw => by
    obtain ⟨y, rfl, h1⟩ := inv1 hw
    cases h1 with
    | obj ea =>
      rename_i a
      obtain ⟨a', o, h1, ho, h3⟩ := hs.obj e
      rw [ea] at h1; cases h1
      obtain ⟨l, rl, hi, hc, hd⟩ := h3.iter_inv
      obtain ⟨l', its, kk, el, hz, ri⟩ := rl.lst_inv
      cases el
      have hl := ri.toArr
      have hla : l ≠ a := fun q => by
        subst q
        obtain ⟨T, hT⟩ := id hs
        obtain ⟨a', h1, h2, _⟩ := hT.objs k _ e
        rw [ea] at h1; cases h1
        have := (hT.z _ _ hz).1
        rw [h2] at this; cases this
      have hit : s.heap.IsListIter a l i := ⟨o, ho, hc, hd⟩
      have hil : s.heap.IsList l its := ⟨_, hs.z_ hz, rfl, _, rfl⟩
      refine call_list_li (walks_from (A := C.A.in1.in1) rfl a l hla its i (by omega)).toS (fun j s st => let ⟨o, ho, hc, _⟩ := st.1; ⟨o, ho, hc⟩) ⟨hit, hil⟩ (fun b hb => ?_) (by simp) (by omega) fun s' acc' c' hm hS' hacc => ?_
      · rcases List.mem_cons.mp hb with q | q
        · subst q; exact Heap.lt_size ho
        · rw [List.mem_singleton.mp q]; exact Heap.lt_size (hs.z_ hz)
      · have hR := hs.rfresh (fresh_none s.heap)
        have h1 := (hs.allocR { cls := .type "list", data := .seq #[] } s.toks).2
        have h2 := h1.moved (s' := s') (o₂ := lobj acc' c') (k := k) e ea (fun b o' q1 q2 e' => hm.heap b o' (by simp [q1, q2]) e') hS' hm.os hm.gens hm.drawn
        obtain ⟨le, h3⟩ := h2.toZ hR
        refine ⟨_, _, _, ρ, le, Ext.refl _, .lst (PH.put_self ..) ?_, h3, h⟩
        refine VRs.mono le (Ext.refl _) (?_ : VRs Z ρ (xs.drop i) acc'.toList)
        have e1 : acc'.toList = its.toList.drop i := by
          apply List.ext_getElem?
          intro j
          rw [List.getElem?_drop, Array.getElem?_toList, Array.getElem?_toList]
          by_cases hj : j < acc'.size
          · rw [Array.getElem?_eq_getElem hj]
            exact (hacc.2 j _ (Array.getElem?_eq_getElem hj)).symm
          · rw [Array.getElem?_eq_none (by omega), Array.getElem?_eq_none (by have := hacc.1; omega)]
        rw [e1]
        exact ri.drop i
end
end Mine
end
section -- MLt
set_option maxRecDepth 100000
namespace Mine
open PySem PySem.W PyProof.Rows
open PySem.AutoSeq1 (wpAny_loadPart')
open PySem.MeetsSeq PySem.MeetsSeq2 PySem.MeetsSeq3

noncomputable def pairLt (a b c d : Int) : Bool := if a = c then decide (b < d) else decide (a < c)

theorem tuple_lt2 (l r : Addr) (a b c d : Int) (t1 t2 t3 t4 : Tok) (n n2 : Nat) :
    Meets (Builtin.«tuple.__lt__» ⟨[.ref l, .ref r], []⟩)
      (fun A R s => s.heap.get? l = some (tobj #[.int a t1, .int b t2] n) ∧ s.heap.get? r = some (tobj #[.int c t3, .int d t4] n2) ∧ R (.ok (.ret (.bool (pairLt a b c d)))) s) :=
  .of_wp fun prog w A R s h => by
    obtain ⟨hp, g, dd, tk, os⟩ := s; obtain ⟨hl, hb, h⟩ := h
    have f2 := AutoSeq1.sub_tuple_tuple
    have eqi : ∀ (x y : Int) (t u : Tok), SeqAt.EqAt A.in1 ⟨hp, g, dd, tk, os⟩ (.int x t) (.int y u) (x == y) := fun x y t u => SeqAt.EqAt.int_int x t y u
    have lti : ∀ (x y : Int) (t u : Tok) (E' : Value → Shared → Prop) (Q' : Value → Shared → Prop), Q' (.bool (decide (x < y))) ⟨hp, g, dd, tk, os⟩ → wpAny (model prog w) A.in1 (richCompare .Lt (.int x t) (.int y u)) Q' E' ⟨hp, g, dd, tk, os⟩ := fun x y t u E' Q' hq => wpAny_lt_int hq
    wp_walk using wpAny_loadPart' hl, wpAny_loadPart' hb, wpAny_forIn_list _ (fun rest q s' => q.1 = none ∧ s' = ⟨hp, g, dd, tk, os⟩ ∧ (rest = [(.int a t1, .int c t3), (.int b t2, .int d t4)] ∨ (rest = [(.int b t2, .int d t4)] ∧ a = c) ∨ (rest = [] ∧ a = c ∧ b = d))) _
    case turn =>
      rintro ⟨y, x⟩ rest q s' ⟨hb', rfl, hr⟩
      rcases hr with hr | ⟨hr, e1⟩ | ⟨hr, _⟩
      · injection hr with h1 h2
        injection h1 with h3 h4
        subst h3 h4 h2
        refine wpAny_bind (eqi a c t1 t3 prog w _ _ ?_)
        by_cases e : a = c
        · have e' : (a == c) = true := by simpa using e
          rw [e']
          wp_walk
          exact ⟨rfl, rfl, .inr (.inl ⟨rfl, e⟩)⟩
        · have e' : (a == c) = false := by simpa using e
          rw [e']
          unfold pairLt at h
          rw [if_neg e] at h
          wp_walk using lti
          exact ⟨_, rfl, h⟩
      · injection hr with h1 h2
        injection h1 with h3 h4
        subst h3 h4 h2
        refine wpAny_bind (eqi b d t2 t4 prog w _ _ ?_)
        by_cases e : b = d
        · have e' : (b == d) = true := by simpa using e
          rw [e']
          wp_walk
          exact ⟨rfl, rfl, .inr (.inr ⟨rfl, e1, e⟩)⟩
        · have e' : (b == d) = false := by simpa using e
          rw [e']
          unfold pairLt at h
          rw [if_pos e1] at h
          wp_walk using lti
          exact ⟨_, rfl, h⟩
      · cases hr
    case fin =>
      rintro ⟨q1, q2⟩ s' ⟨hb', rfl, hr⟩
      simp only at hb'
      subst hb'
      rcases hr with hr | ⟨hr, _⟩ | ⟨_, e1, e2⟩
      · cases hr
      · cases hr
      · unfold pairLt at h
        rw [if_pos e1, e2] at h
        wp_walk
        exact ⟨_, rfl, by simpa [Builtin.Tuple.tupleCompareSizes] using h⟩
    case h =>
      exact ⟨rfl, rfl, .inl rfl⟩

section
variable {C : Fx} {st : St}
theorem op_lt2 {a b c d : Int} {Q : V → St → Prop} (hu : C.u < cLine) (h : Q (.bool (pairLt a b c d)) st) : JV C VR [.tup [.int a, .int b], .tup [.int c, .int d]] (two (compareOp .Lt)) st Q :=
  fun env Z R ρ s ws hs hw => by
    obtain ⟨x, y, rfl, h1, h2⟩ := inv2 hw
    obtain ⟨l, w1, k1, rfl, hz1, r1⟩ := h1.tup_inv
    obtain ⟨r, w2, k2, rfl, hz2, r2⟩ := h2.tup_inv
    obtain ⟨t1, t2, e1⟩ := inv_ii r1
    obtain ⟨t3, t4, e2⟩ := inv_ii r2
    have q1 : w1 = #[.int a t1, .int b t2] := Array.toList_inj.mp e1
    have q2 : w2 = #[.int c t3, .int d t4] := Array.toList_inj.mp e2
    subst q1 q2
    have ho1 := hs.z_ hz1
    have ho2 := hs.z_ hz2
    have T1 : s.TypeIs (.ref l) "tuple" := ⟨_, ho1, rfl⟩
    have T2 : s.TypeIs (.ref r) "tuple" := ⟨_, ho2, rfl⟩
    show wpAny _ _ (richCompare .Lt (.ref l) (.ref r)) _ _ s
    exact richCompare_meets_room (op := .Lt) T1 T2 F.slot_tuple_lt F.entry_tuple_lt (F.args_tuple_lt_2 _ _) (tuple_lt2 l r a b c d t1 t2 t3 t4 k1 k2)
      ⟨ho1, ho2, show Value.bool (pairLt a b c d) ≠ Value.notImplemented ∧ Post C env Z R ρ VR Q (.bool (pairLt a b c d)) s from ⟨(fun x => nomatch x), SR.post hs (.bool _) h⟩⟩ hu
end
end Mine
end
section -- MPk
set_option maxRecDepth 100000
namespace Mine
open PySem PySem.W PyProof.Rows

noncomputable def pkN {α β : Type} (_ : β) : Nat → Tok → List Obj → Option (α × List Obj × Tok) := fun _ _ _ => none
noncomputable def pk {α : Type} (K : Frag) (S : Setting) (t : Sem α) : Nat → Tok → List Obj → Option (α × List Obj × Tok) :=
  Sem.rec (motive := fun _ => Nat → Tok → List Obj → Option (α × List Obj × Tok)) (fun a _ tk os => some (a, os, tk)) pkN pkN pkN (fun _ _ ih => ih ()) (fun _ _ => pkN) (fun a _ _ ih n tk os => (K.lookup a).bind fun o => ih o n tk os) (fun _ _ _ _ => pkN) (fun o _ ih n tk os => ih n (n + 1) tk (os ++ [o]))
    (fun _ _ => pkN) (fun _ _ ih => ih ()) (fun _ _ => pkN) (fun _ ih n tk os => ih tk n (tk + 1) os) (fun _ ih => ih S) (fun _ _ _ => pkN) (fun _ _ _ => pkN) (fun _ _ _ _ _ => pkN) (fun _ _ => pkN) (fun _ _ => pkN) (fun _ _ => pkN) (fun _ _ _ _ => pkN) (fun _ _ _ _ => pkN) (fun _ => pkN) (fun _ _ => pkN) (fun _ => pkN) (fun _ _ _ _ _ => pkN) t
noncomputable def pushes (h : Heap) : List Obj → Heap
  | [] => h
  | o :: r => pushes (h.push o) r
theorem pushes_snoc : ∀ (l : List Obj) (h : Heap) (o : Obj), pushes h (l ++ [o]) = (pushes h l).push o
  | [], _, _ => rfl
  | _ :: r, h, o => pushes_snoc r _ o
theorem pushes_size : ∀ (l : List Obj) (h : Heap), (pushes h l).objs.size = h.objs.size + l.length
  | [], _ => rfl
  | o :: r, h => by
    show (pushes (h.push o) r).objs.size = _
    rw [pushes_size r, Heap.size_push, List.length_cons]; lia
theorem pushes_keep : ∀ (l : List Obj) (h : Heap) (b : Addr) (o : Obj), h.get? b = some o → (pushes h l).get? b = some o
  | [], _, _, _, e => e
  | x :: r, h, b, o, e => pushes_keep r _ b o (Heap.get?_push_of_some _ e)
theorem no_some {α : Type} {x : α} {P : Prop} (e : (none : Option α) = some x) : P := nomatch e
theorem wp_of_pk {α : Type} {K : Frag} {M : Model} {Γ : Ctx} {Q : α → Pos → Shared → Prop} {E : Value → Pos → Shared → Prop} {p : Pos} {s : Shared} (x : K.In s.heap) {a : α} {fin : List Obj} {tk' : Tok} (q : Q a p { s with heap := pushes s.heap fin, toks := tk' }) :
    ∀ (t : Sem α) (os : List Obj) (n tk : Nat), n = s.heap.objs.size + os.length → pk K ⟨M.prog, M.w.params⟩ t n tk os = some (a, fin, tk') → Sem.wp M Γ t Q E p { s with heap := pushes s.heap os, toks := tk } := by
  intro t
  induction t with
  | pure b => intro os n tk hn e; cases e; exact q
  | rule _ k ih => intro os n tk hn e; exact ih () os n tk hn e
  | point _ k ih => intro os n tk hn e; exact ih () os n tk hn e
  | ask k ih => intro os n tk hn e; exact ih _ os n tk hn e
  | load a _ k ih =>
    intro os n tk hn e
    obtain ⟨o, ho, e'⟩ := Option.bind_eq_some_iff.mp e
    exact ⟨o, pushes_keep _ _ _ _ (x _ _ ho), ih o os n tk hn e'⟩
  | alloc o k ih =>
    intro os n tk hn e
    have := ih n (os ++ [o]) (n + 1) tk (by simp; lia) e
    rw [pushes_snoc] at this
    have hs : (pushes s.heap os).objs.size = n := by rw [pushes_size, hn]
    show Sem.wp M Γ (k (pushes s.heap os).objs.size) Q E p { s with heap := (pushes s.heap os).push o, toks := tk }
    rw [hs]; exact this
  | fresh k ih => intro os n tk hn e; exact ih tk os n (tk + 1) hn e
  | _ => intro os n tk hn e; exact no_some e
theorem any_of_pk {α : Type} {K : Frag} {M : Model} {A : Around} {Q : α → Shared → Prop} {E : Value → Shared → Prop} {s : Shared} (x : K.In s.heap) {t : Sem α} {a : α} {fin : List Obj} {tk' : Tok}
    (e : pk K ⟨M.prog, M.w.params⟩ t s.heap.objs.size s.toks [] = some (a, fin, tk')) (q : Q a { s with heap := pushes s.heap fin, toks := tk' }) : wpAny M A t Q E s :=
  fun Γ p hΓ => wp_of_pk x q t [] s.heap.objs.size s.toks rfl e
end Mine
end
section -- MInst2
set_option maxRecDepth 100000
set_option maxHeartbeats 1000000
namespace Mine
open PySem PySem.W PyProof.Rows Builtin Builtin.ObjectAttr Builtin.Getset_descriptor

structure Makes2 (M : Model) (h : Heap) (C : Addr) : Prop where
  obj : ∃ oc od cd sl, h.get? C = some ⟨oc, od, .cls cd, sl⟩ ∧ cd.abstract = false ∧ cd.hasDel = false ∧ cd.mro.isEmpty = false
  none : Looks M h (Bind.madeBy (.ref C)) none
  made : Looks M h (Bind.madeBy (.type "object")) (some "object.__new__")
  base : Looks M h (Bind.staticBase (.ref C)) (.type "object")
  self : Looks M h (isSubtype (.ref C) (.ref C)) true
  top : Looks M h (isSubtype (.ref C) (.type "object")) true
  call : Looks M h (specialOf (.ref C) "__call__") (some (.builtin "type.__call__"))
  typ : Looks M h (isInstance (.ref C) (.type "type")) true
noncomputable def makes2In (K : Frag) (C : Addr) : Bool := match K.lookup C with
  | some ⟨_, _, .cls cd, _⟩ => !cd.abstract && !cd.hasDel && !cd.mro.isEmpty && specialIn K (.ref C) "__call__" == some (some (.builtin "type.__call__")) && instIn K (.ref C) (.type "type") == some true && mroIn K C (.ref C) == some true && mroIn K C (.type "object") == some true
  | _ => false
theorem makes2_of {K : Frag} {M : Model} {h : Heap} (X : K.In h) {C : Addr} (e : makes2In K C = true) (h1 : ∀ S, peek K S (Bind.madeBy (.ref C)) = some none) (h2 : ∀ S, peek K S (Bind.madeBy (.type "object")) = some (some "object.__new__"))
    (h3 : ∀ S, peek K S (Bind.staticBase (.ref C)) = some (.type "object")) : Makes2 M h C := by
  unfold makes2In at e
  split at e
  · rename_i oc od cd sl ho
    simp only [Bool.and_eq_true, Bool.not_eq_true', beq_iff_eq] at e
    obtain ⟨⟨⟨⟨⟨⟨e1, e2⟩, e3⟩, e4⟩, e5⟩, e6⟩, e7⟩ := e
    exact ⟨⟨oc, od, cd, sl, X _ _ ho, e1, e2, e3⟩, Looks.of_peek X (h1 _), Looks.of_peek X (h2 _), Looks.of_peek X (h3 _), looks_mroIn X e6, looks_mroIn X e7, looks_specialIn X e4, looks_instIn X e5⟩
  · cases e

section
variable {prog : Program} {w : World} {A : Around} {K : Frag} {C : Addr} {R : Result → Shared → Prop} {h : Heap} {g : Array GenState} {d : Drawn} {t : Nat} {os : OsState}
theorem new2 (X : K.In h) (n1 : ∀ S n tk, pk K S (checkBuiltinCall "object.__new__" ⟨[.ref C], []⟩) n tk [] = some ((), [], tk))
    (n2 : ∀ S n tk, pk K S (Builtin.«object.__new__» ⟨[.ref C], []⟩) n tk [] = some (.done (.ret (.ref (n + 1))), [emptyDict, instObj C n], tk))
    (hq : R (.ok (.ret (.ref (h.objs.size + 1)))) ⟨(h.push emptyDict).push (instObj C h.objs.size), g, d, t, os⟩) :
    codeAny (model prog w) A (.call (.builtin "object.__new__") ⟨[.ref C], []⟩) R ⟨h, g, d, t, os⟩ :=
  codeAny_call_builtin_code (Code.quiet_builtin _ PySem.F.objNew.quiet) (any_of_pk X (n1 _ _ _) (codeAny_builtin PySem.F.objNew.entry (any_of_pk X (n2 _ _ _) hq)))
end

section
variable {C : Fx} {st : St} {K : Frag}
theorem mk_inst2 {c fN fI p : Addr} {vs : List V} {kws : List (Str × Value)} {rest : List Value} {Q : V → St → Prop} (H : BaseK K C.base) (m2 : ∀ M h, K.In h → Makes2 M h c) (hr : readsIn K c (.type "type") = true)
    (hc : findCls K (.ref c) (.type "type") "__new__" = some (.get (.builtin "staticmethod.__get__") (.ref p) .none (.ref c))) (hp : recIn K p "staticmethod" = some (.ref fN :: rest))
    (hi : findIn K (.ref c) "__init__" = some (some (.ref fI))) (hf : typeIn K (.ref fI) = some (.type "function"))
    (h : JC C.make fN (.val (.ref c) :: vs) kws st fun v st₁ => ∃ n fs, v = .inst c n ∧ st₁.heap n = some (.ns fs) ∧ JC C.make fI (.inst c n :: vs) kws st₁ fun u st₂ => u = .none ∧ Q (.inst c n) st₂) : JV C VR vs (fun ws => call (.ref c) ws kws) st Q :=
  fun env Z R ρ s ws hs hw => by
    have X := hs.knows H.inK
    have hx := hs.mkf.tok (s.toks + 1)
    obtain ⟨⟨oc, od, cd, sl, hC, e1, e2, e4⟩, none, made, base, self, top, call, typ⟩ := m2 C.M s.heap X
    have e : (C.A).under (.builtin "type.__call__" ⟨.ref c :: ws, kws⟩) = C.make.A := by
      have w0 : (Code.builtin "type.__call__" ⟨.ref c :: ws, kws⟩).weight = 1 := by kernel_rfl
      have w1 : (Code.builtin "type.__call__" ⟨.ref c :: ws, kws⟩).cUnits = 1 := by kernel_rfl
      have w2 : (Code.builtin "type.__call__" ⟨.ref c :: ws, kws⟩).guards = [] := by kernel_rfl
      have w3 : (Code.builtin "type.__call__" ⟨.ref c :: ws, kws⟩).envs = [] := by kernel_rfl
      unfold Around.under
      rw [w0, w1, w2, w3]; rfl
    have hget : ∀ {A : Around} {Q : Value → Shared → Prop} {E : Value → Shared → Prop} {s' : Shared}, K.In s'.heap → Q (.ref fN) { s' with toks := s'.toks + 1 } → wpAny C.M A (getAttr (.ref c) "__new__") Q E s' :=
      fun {A Q E s'} X q => cls_bind X hr hc (wpAny_call (sm_get (s := { s' with toks := s'.toks + 1 }) X hp (handed_on rfl q)))
    obtain ⟨hh, g, d, t, os⟩ := s
    have hm : Looks C.M hh (mroOf (.ref c)) cd.mro := ((Looks.ld (part := Option.none) hC).andThen .now).andThen .now
    refine wpAny_call (codeAny_of_tree ?_)
    show wpAny _ _ (callAny (.ref c) _) _ _ _
    refine nd_load hC ?_
    show wpAny _ _ (callAny.viaDunder (.ref c) _) _ _ _
    unfold callAny.viaDunder
    refine wpAny_bind (call.at ?_)
    dsimp only
    rw [tc_bind]
    refine wpAny_bind (wpAny_pure (wpAny_bind (wpAny_pure ?_)))
    refine wpAny_pure (a := Fin.again (.call (.builtin "type.__call__") ⟨.ref c :: ws, kws⟩)) (And.intro rfl ?_)
    refine codeAny_call_builtin_at (Code.quiet_builtin _ (by decide +kernel)) entry_typeCall (check_slot tc_kind tc_split typ (tc_args _ _ _) ?_)
    rw [e]
    unfold Builtin.«type.__call__»
    repeat (first | simp only [e4, Bool.false_eq_true, if_false] | (refine hget X ?_; dsimp only) | with_reducible refine wpAny_call ?_ | lk)
    have rc : VR Z ρ (.val (.ref c)) (.ref c) := .val _
    refine codeAny_mono (h env Z R ρ _ (.ref c :: ws) hx (.cons rc hw)) fun r s' ⟨v, e, q⟩ => ?_
    subst e
    obtain ⟨b, st', Z', ρ', q1, q2, q3, q4, n, fs, q5, q6, q7⟩ := q
    subst q5
    obtain ⟨x, dx, es, m, rfl, ea, k1, k2, k3, I⟩ := q4.inst q6 q3
    have X' := q4.knows H.inK
    obtain ⟨⟨oc, od, cd, sl, hC, e1, e2, e4⟩, none, made, base, self, top, call, typ⟩ := m2 C.make.M s'.heap X'
    obtain ⟨hh, g, d, t, os⟩ := s'
    have t1 : Looks C.M hh (typeOf (.ref x)) (.ref c) := I.type
    have i1 : Looks C.M hh (typeLookup (.ref c) "__init__") (some (.ref fI)) := looks_findIn X' hi
    have b1 : Looks C.M hh (bindSpecial (.ref fI) (.ref x)) (.ref fI, [.ref x]) := bind_fn X' _ hf
    have s1 : Looks C.M hh (isSubtype (.ref c) (.ref c)) true := self
    dsimp only
    unfold isInstance callSpecial? specialOf
    repeat (first | with_reducible refine wpAny_call ?_ | lk)
    refine codeAny_mono (q7 env Z' R ρ' _ (.ref x :: ws) q4 (.cons q3 (hw.mono q1 q2))) fun r s' ⟨v, e, q⟩ => ?_
    subst e
    obtain ⟨b, st'', Z'', ρ'', z1, z2, z3, z4, z5, z6⟩ := q
    subst z5
    obtain rfl := inv_none z3
    refine wpAny_pure (wpAny_pure ⟨_, st'', Z'', ρ'', q1.trans z1, q2.trans z2, q3.mono z1 z2, z4.mkd, z6⟩)
end
end Mine
end
section -- MInst3
set_option maxRecDepth 100000
namespace Mine
open PySem PySem.W PyProof.Rows

section
variable {C : Fx} {st : St} {K : Frag}
theorem isnot_refs {a b : Addr} {oa ob : Obj} {Q : V → St → Prop} (H : BaseK K C.base) (ha : K.lookup a = some oa) (hb : K.lookup b = some ob) (hc : oa.cls ≠ .type "tuple") (h : Q (.bool (a != b)) st) : JV C VR [.val (.ref a), .val (.ref b)] (two (compareOp .IsNot)) st Q :=
  fun env Z R ρ s ws hs hw => by
    obtain ⟨x, y, rfl, h1, h2⟩ := inv2 hw
    cases h1; cases h2
    by_cases q : a = b
    · subst q; exact wpAny_isNot_ref_self (SR.post hs (.bool _) (by simpa using h))
    · have X := hs.knows H.inK
      refine wpAny_bind (wpAny_isSame_ref_other q (X _ _ ha) (X _ _ hb) hc (wpAny_pure (SR.post hs (.bool _) ?_)))
      have e : (a != b) = true := by simpa using q
      rw [e] at h; exact h
theorem isnot_types {a b : String} {Q : V → St → Prop} (h : Q (.bool (decide (a ≠ b))) st) : JV C VR [.val (.type a), .val (.type b)] (two (compareOp .IsNot)) st Q :=
  fun env Z R ρ s ws hs hw => by
    obtain ⟨x, y, rfl, h1, h2⟩ := inv2 hw
    cases h1; cases h2
    refine wpAny_isNot_plain rfl (SR.post hs (.bool _) ?_)
    by_cases q : a = b
    · subst q; simpa using h
    · rw [beq_eq_false_iff_ne.mpr (fun e => q (by cases e; rfl))]; simpa [q] using h

theorem new_obj {c : Addr} {Q : V → St → Prop} (H : BaseK K C.base) (n1 : ∀ S n tk, pk K S (checkBuiltinCall "object.__new__" ⟨[.ref c], []⟩) n tk [] = some ((), [], tk)) (n2 : ∀ S n tk, pk K S (Builtin.«object.__new__» ⟨[.ref c], []⟩) n tk [] = some (.done (.ret (.ref (n + 1))), [emptyDict, instObj c n], tk)) (h : Q (.inst c st.nx) { st with heap := upd st.heap st.nx (.ns []), nx := st.nx + 1 }) :
    JV C VR [.val (.ref c)] (fun ws => call (.builtin "object.__new__") ws) st Q :=
  fun env Z R ρ s ws hs hw => by
    obtain ⟨w, rfl, r⟩ := inv1 hw
    cases r
    have X := hs.knows H.inK
    have hs1 := hs.allocO emptyDict (.ns []) s.toks (.ns (n := 0) .nil)
    obtain ⟨le, hs2⟩ := hs1.allocZ (instObj c s.heap.objs.size) s.toks
    have hnx : ρ.length = st.nx := let ⟨_, k⟩ := hs; k.nx
    obtain ⟨hh, g, d, t, os⟩ := s
    refine wpAny_call (new2 X n1 n2 ?_)
    dsimp only at le hs2
    rw [Heap.size_push] at le hs2
    have rI : VR (PH.put Z (hh.objs.size + 1) (instObj c hh.objs.size)) (ρ ++ [hh.objs.size]) (.inst c st.nx) (.ref (hh.objs.size + 1)) :=
      .inst (PH.put_self ..) (by rw [List.getElem?_append_right (by rw [hnx]; exact Nat.le_refl _), hnx, Nat.sub_self]; rfl)
    exact ⟨_, _, _, _, le, Ext.snoc _ _, rI, hs2, h⟩

theorem get_object_new {prog : Program} {w : World} {A : Around} {E : Value → Shared → Prop} {s : Shared} {Q : Value → Shared → Prop} {expr : Bool} (X : K.In s.heap) (e : findCls K (.type "object") (.type "type") "__new__" = some (.val (.builtin "object.__new__")))
    (h : Q (.builtin "object.__new__") { s with toks := s.toks + 1 }) : wpAny (model prog w) A (getAttr (.type "object") "__new__" expr) Q E s := by
  refine cls_open (hook := none) X (Looks.of_pure (by kernel_rfl)) (Looks.of_pure (by kernel_rfl)) (by show findIn K (.type "type") _ = _; unfold findIn; kernel_rfl) (by unfold hookBefore; exact Looks.of_pure (by kernel_rfl)) (by unfold subIn; kernel_rfl) e (wpAny_pure ?_)
  show wpAny _ _ (handedOut _) _ _ _
  rw [handedOut_of (by kernel_rfl)]
  exact wpAny_pure h

theorem ev_ObjNew {p apos pos : Pos} {es : List Expr} {Q : V → St → Prop} (H : BaseK K C.base) (hg : Blt C.base "object" (.type "object")) (hk : C.sc.names.lookup ("object" : Str) = some .globalImplicit) (e : findCls K (.type "object") (.type "type") "__new__" = some (.val (.builtin "object.__new__")))
    (h : JL C pos es st fun vs st₁ => JV C VR vs (fun ws => call (.builtin "object.__new__") ws) st₁ Q)
    (he : ∀ env, (backTo pos (starEach es env)).any (·.1) = false := by intro _; rfl) (hline : (apos.endLine == pos.line) = true := by rfl)
    (hfew : ∀ env, methodCallForm (es.length + ([] : List Keyword).length) (backTo pos (starEach es env)) (backToKw pos (keywordEach [] env)) = true := by intro _; rfl) :
    J C VR (eval (.Call (.Attribute (.Name "object" p) "__new__" apos) es [] pos)) st Q :=
  fun env Z R ρ s hs => by
    rw [arm_eval_Call]
    show wpAny _ _ (eval (.Name "object" p) env >>= _) _ _ _
    refine wpAny_bind (wp_use (ev_Blt (Q := fun v st' => v = .val (.type "object") ∧ st' = st) hg hk ⟨rfl, rfl⟩ (by decide) env Z R ρ s hs) (fun w s₁ v st₁ Z₁ ρ₁ hz hr rv hs₁ ⟨e1, e2⟩ => wpAny_bind (wpAny_standAt ?_)))
    subst e1; subst e2
    cases rv
    have X := hs₁.knows H.inK
    unfold methodCall methodCallPos calleeOf
    rw [hfew env]
    refine wpAny_bind (wpAny_holding ?_)
    show wpAny _ _ (getMethod _ _ _) _ _ s₁
    unfold getMethod
    refine wpAny_bind ((show Looks C.M s₁.heap (specialOf (.type "object") "__getattribute__") (some (.builtin "type.__getattribute__")) from Looks.of_peek (K := []) (fun _ _ e => by cases e) (by kernel_rfl)).here ?_)
    dsimp only
    rw [if_pos canon_tga]
    refine wpAny_bind (get_object_new X e (wpAny_pure ?_))
    dsimp only
    rw [hline]
    refine wpAny_bind (wpAny_pure ?_)
    refine Calls.callWith_builtin (he env) (wpAny_mono (args_ h he (hs₁.tok _) (.builtin "object.__new__")) (fun ar s₂ ⟨hkw, pp⟩ => pp.ex fun vs st₂ Z₂ ρ₂ hz2 hr2 rvs hs₂ h₂ => ?_) fun _ _ e => e)
    rw [hkw]
    exact wp_up (hz.trans hz2) (hr.trans hr2) (h₂ env Z₂ R ρ₂ s₂ ar.pos hs₂ rvs)

theorem ev_CallC {f : Str} {p pos : Pos} {es : List Expr} {c : Addr} {Q : V → St → Prop} (H : BaseK K C.base) (hg : Glo C.base f (.ref c)) (hkeep : keepIn K (.ref c) = true) (hk : C.sc.names.lookup f = some .globalImplicit)
    (h : JL C pos es st fun vs st₁ => JV C VR vs (fun ws => call (.ref c) ws) st₁ Q)
    (he : ∀ env, (backTo pos (starEach es env)).any (·.1) = false := by intro _; rfl) (hd : (f == ("__debug__" : Str)) = false := by decide) : J C VR (eval (.Call (.Name f p) es [] pos)) st Q :=
  fun env Z R ρ s hs => by
    refine wpAny_Call_NameR (wp_use (ev_Glo (Q := fun v st' => v = .val (.ref c) ∧ st' = st) hg hk ⟨rfl, rfl⟩ hd env Z R ρ s hs) (fun w s₁ v st₁ Z₁ ρ₁ hz hr rv hs₁ ⟨e1, e2⟩ => ?_))
    subst e1; subst e2
    cases rv
    refine callWith_of (P := K.In) (by rw [he env]; rfl) (fun h X => keeps_K hkeep h X) (wpAny_mono (args_ h he hs₁ (.ref c)) (fun ar s₂ ⟨hkw, pp⟩ => pp.ex fun vs st₂ Z₂ ρ₂ hz2 hr2 rvs hs₂ h₂ => ?_) fun _ _ e => e)
    rw [hkw]
    exact ⟨hs₂.knows H.inK, wp_up (hz.trans hz2) (hr.trans hr2) (h₂ env Z₂ R ρ₂ s₂ ar.pos hs₂ rvs)⟩
theorem ev_CallCk {f key : Str} {p pos kp cpos : Pos} {e₀ : Expr} {es : List Expr} {c : Addr} {b : Bool} {ck : Nat} {Q : V → St → Prop} (H : BaseK K C.base) (hg : Glo C.base f (.ref c)) (hkeep : keepIn K (.ref c) = true) (hk : C.sc.names.lookup f = some .globalImplicit)
    (h : JL C pos (e₀ :: es) st fun vs st₁ => JV C VR vs (fun ws => call (.ref c) ws [(key, .bool b)]) st₁ Q)
    (he : ∀ env, (backTo pos (starEach (e₀ :: es) env)).any (·.1) = false := by intro _; rfl) (hx : ∀ env, ∃ x r, backTo pos (starEach (e₀ :: es) env) = (false, x) :: r := by intro _; exact ⟨_, _, rfl⟩)
    (hkw : ∀ env, ∃ t, backToKw pos (keywordEach [⟨some key, .Constant (.bool b) ck cpos, kp⟩] env) = [(some key, t)] ∧ ∀ (M : Model) A Q E s, Q (.bool b) s → wpAny M A t Q E s)
    (hd : (f == ("__debug__" : Str)) = false := by decide) : J C VR (eval (.Call (.Name f p) (e₀ :: es) [⟨some key, .Constant (.bool b) ck cpos, kp⟩] pos)) st Q :=
  fun env Z R ρ s hs => by
    refine wpAny_Call_Name_kw (wp_use (ev_Glo (Q := fun v st' => v = .val (.ref c) ∧ st' = st) hg hk ⟨rfl, rfl⟩ hd env Z R ρ s hs) (fun w s₁ v st₁ Z₁ ρ₁ hz hr rv hs₁ ⟨e1, e2⟩ => ?_))
    subst e1; subst e2
    cases rv
    obtain ⟨t, ht, hte⟩ := hkw env
    obtain ⟨x, r, hxr⟩ := hx env
    have he' := he env
    rw [ht]
    refine callWith_of (P := K.In) (by rw [he']; rfl) (fun h X => keeps_K hkeep h X) ?_
    have h1 := h env Z₁ R ρ₁ s₁ hs₁
    dsimp only at h1
    rw [hxr] at h1 ⊢
    refine evalArgs_kw rfl (wpAny_mono h1 (fun ar s₂ pp => pp.ex fun vs st₂ Z₂ ρ₂ hz2 hr2 rvs hs₂ h₂ => ?_) fun _ _ e => e)
    refine wpAny_evalAll_cons (hte _ _ _ _ _ (wpAny_evalAll_nil ?_))
    exact ⟨hs₂.knows H.inK, wp_up (hz.trans hz2) (hr.trans hr2) (h₂ env Z₂ R ρ₂ s₂ ar hs₂ rvs)⟩
end
end Mine
end
section -- MStart
set_option maxRecDepth 100000
namespace Mine
open PySem PySem.W PyProof.Rows

open Classical in
noncomputable def restR (Z : PH) (p : Option Addr) (h : Heap) : PH := fun b => if (Z b).isSome ∨ p = some b then none else h.get? b
noncomputable def pinned (p : Option Addr) : Nat → Option AO := fun n => if n = 0 then p.map fun _ => .codes else none

theorem start {C' : Fx} {env' : Env} {Z : PH} {s s₁ : Shared} {binds : List (Str × Value)} {vars : List (Str × V)} {a : Addr} {q : Str} {cd : Value}
    (hb0 : PH.le C'.base Z) (hz : ∀ b o, Z b = some o → s.heap.get? b = some o)
    (hpin : ∀ p, C'.pin = some p → Z p = none ∧ ∃ o, s.heap.get? p = some o ∧ OR C'.w.params Z [p] .codes o)
    (ho : s.os = C'.os) (hg : C'.gp s.gens s.drawn) (hk : C'.sc.kind = .function)
    (he : env' = newEnv C'.sc s.heap.objs.size mainGlobals (cellsFrom (s.heap.objs.size + 1) C'.sc.names []) q (some a) cd none builtinsNs)
    (x : InCallC s env'.locals (bindL env'.kindOf binds fun _ => none) env'.cells (bindC env'.kindOf binds fun _ => none) s₁)
    (hb : BR Z C'.pin.toList vars binds) (hd : (binds.map (·.1)).Nodup) (hf : ∀ y, C'.sc.names.lookup y ≠ some .free) :
    SR C' env' Z (restR Z C'.pin s.heap) C'.pin.toList ⟨vars, pinned C'.pin, C'.pin.toList.length⟩ s₁ := by
  classical
  have hL : env'.locals = s.heap.objs.size := congrArg Env.locals he
  have hsc : env'.scope = C'.sc := congrArg Env.scope he
  have hko : ∀ y, env'.kindOf y = C'.sc.names.lookup y := fun y => by unfold Env.kindOf; rw [hsc]
  have hcs : env'.cells = cellsFrom (s.heap.objs.size + 1) C'.sc.names [] := congrArg Env.cells he
  have old : ∀ b o, s.heap.get? b = some o → b ≠ env'.locals ∧ env'.cells.find? (fun p => p.2 == b) = none := fun b o e => by
    have lt := Heap.lt_size e
    refine ⟨fun z => by rw [z, hL] at lt; exact Nat.lt_irrefl _ lt, ?_⟩
    rw [List.find?_eq_none]
    intro p hp hpb
    have e := beq_iff_eq.mp hpb
    have := x.above p.1 p.2 hp
    rw [e, hL] at this
    exact Nat.lt_asymm lt this
  obtain ⟨h1', tk, hs1⟩ := x.toInCall.same
  let T' : Addr → Tag := fun b => if b = env'.locals then .fl else match env'.cells.find? (fun p => p.2 == b) with
    | some p => .fc p.1
    | none => if C'.pin = some b then .ob 0 else if (Z b).isSome then .z else .r
  have T'old : ∀ b o, s.heap.get? b = some o → T' b = if C'.pin = some b then .ob 0 else if (Z b).isSome then .z else .r := fun b o e => by
    show (if b = env'.locals then Tag.fl else _) = _
    rw [if_neg (old b o e).1, (old b o e).2]
  refine ⟨T', ?_⟩
  exact {
      base := hb0
      z := fun b o e => by
        refine ⟨?_, x.toInCall.keep _ _ (hz b o e)⟩
        rw [T'old b o (hz b o e), if_neg fun q => ?_, e]
        · rfl
        · rw [(hpin b q).1] at e; cases e
      r := fun b o e => by
        unfold restR at e
        by_cases q : (Z b).isSome ∨ C'.pin = some b
        · rw [if_pos q] at e; cases e
        · rw [if_neg q] at e
          refine ⟨?_, x.toInCall.keep _ _ e⟩
          rw [T'old b o e, if_neg fun z => q (.inr z), if_neg fun z => q (.inl z)]
      nx := rfl
      objs := fun n ao e => by
        unfold pinned at e
        dsimp only at e
        split at e
        · rename_i e0
          subst e0
          cases hp : C'.pin with
          | none => rw [hp] at e; cases e
          | some p =>
            rw [hp] at e; cases e
            obtain ⟨h1, o, h2, h3⟩ := hpin p hp
            exact ⟨p, rfl, by rw [T'old p o h2, if_pos hp], o, x.toInCall.keep _ _ h2, h3⟩
        · cases e
      scope := hsc
      kind := hk
      globals := congrArg Env.globals he
      builtins := congrArg Env.builtins he
      loc := ⟨if_pos rfl, _, x.toInCall.ns, fun y v e1 e2 => by
        obtain ⟨w, hw1, hw2⟩ := hb.lookup y v e1
        exact ⟨w, bindL_lookup _ _ _ _ _ hd hw1 ((hko y).trans e2), hw2⟩⟩
      cell := fun y kk e1 e2 => by
        rcases e2 with rfl | rfl
        · have : ((cellsFrom (s.heap.objs.size + 1) C'.sc.names []).lookup y).isSome := cellsFrom_some _ _ _ (.inl e1)
          obtain ⟨c, hc⟩ := Option.isSome_iff_exists.mp this
          rw [← hcs] at hc
          have hmem := mem_of_lookup hc
          have hne : c ≠ env'.locals := fun z => by have := x.above y c hmem; rw [z] at this; exact Nat.lt_irrefl _ this
          refine ⟨c, _, hc, ?_, x.cell y c hc, fun v e => ?_⟩
          · show (if c = env'.locals then Tag.fl else _) = _
            rw [if_neg hne]
            have : (env'.cells.find? fun p => p.2 == c).isSome := List.find?_isSome.mpr ⟨(y, c), hmem, by simp⟩
            obtain ⟨p, hp⟩ := Option.isSome_iff_exists.mp this
            rw [hp]
            have pm := List.mem_of_find?_eq_some hp
            have pe : p.2 = c := beq_iff_eq.mp (List.find?_some (p := fun (p : Str × Addr) => p.2 == c) hp)
            have : p.1 = y := name_of_addr x.apart (c := c) (by rw [← pe]; exact pm) hmem
            exact congrArg Tag.fc this
          · obtain ⟨w, hw1, hw2⟩ := hb.lookup y v e
            exact ⟨w, bindC_lookup _ _ _ _ _ hd hw1 (by rw [hko y, e1]; simp), hw2⟩
        · exact absurd e1 (hf y)
      os := by rw [hs1]; exact ho
      gens := by rw [hs1]; exact hg
      pin := fun a e => by rw [e]; rfl }
theorem SR.rest {C : Fx} {env : Env} {Z Z' : PH} {ρ : List Addr} {st : St} {s s' : Shared} (h : SR C env Z' (restR Z C.pin s.heap) ρ st s') (hle : PH.le Z Z') (hz : ∀ b o, Z b = some o → s.heap.get? b = some o) :
    ∀ b o, C.pin ≠ some b → s.heap.get? b = some o → s'.heap.get? b = some o := fun b o hp e => by
  cases q : Z b with
  | some o' =>
    have := hz b o' q
    rw [e] at this; cases this
    exact h.z_ (hle _ _ q)
  | none => exact h.r_ (by unfold restR; rw [if_neg (by rw [q]; simpa using hp)]; exact e)

theorem call_raw {C : Fx} {a : Addr} {fd : FuncData} {body : List Stmt} {ws : List Value} {kws : List (Str × Value)} {binds : List (Str × Value)} {vars : List (Str × V)} {Q : V → St → Prop} {Z : PH} {s : Shared} (F : Fn0 C.base a fd body) (hd : C.d < 1000)
    (hp : parOk fd.scope (vars.map (·.1)) = true) (hb0 : PH.le C.base Z) (hz : ∀ b o, Z b = some o → s.heap.get? b = some o)
    (hpin : ∀ p, C.pin = some p → Z p = none ∧ ∃ o, s.heap.get? p = some o ∧ OR C.w.params Z [p] .codes o)
    (ho : s.os = C.os) (hg : C.gp s.gens s.drawn) (hbd : BindsTo s fd ⟨ws, kws⟩ binds) (hb : BR Z C.pin.toList vars binds)
    (h : JX (C.into fd.scope) body ⟨vars, pinned C.pin, C.pin.toList.length⟩ fun f st' => Q (retV f) st') :
    codeAny C.M C.A (.call (.ref a) ⟨ws, kws⟩) (fun r s' => ∃ v w st' Z' ρ', r = .ok (.ret w) ∧ PH.le Z Z' ∧ Ext C.pin.toList ρ' ∧ VR Z' ρ' v w ∧ (∀ b o, C.pin ≠ some b → s.heap.get? b = some o → s'.heap.get? b = some o) ∧ s'.os = C.os ∧ C.gp s'.gens s'.drawn ∧ (∀ p, C.pin = some p → ∀ ao, st'.heap 0 = some ao → ∃ o, s'.heap.get? p = some o ∧ OR C.w.params Z' ρ' ao o) ∧ Q v st') s := by
  have hk : ∀ a o, C.base a = some o → s.heap.get? a = some o := fun a o e => hz _ _ (hb0 _ _ e)
  obtain ⟨hcd, hlim⟩ := F.get s.heap hk
  obtain ⟨o, ho', hdata, _⟩ := F.at_
  replace ho' := hk _ _ ho'
  refine codeAny_call_function (show C.A.depth < recursionLimit from hd) ho' hdata F.co F.gen F.body hcd (hbd _ _ _ _ ?_)
  have keys : binds.map (·.1) = vars.map (·.1) := hb.keys
  unfold parOk at hp
  rw [Bool.and_eq_true, decide_eq_true_eq, List.all_eq_true] at hp
  rw [F.clo]
  refine wpAny_newFunctionEnv_cells F.kind (fun x hx => ?_) fun env' he s₁ x => ?_
  · have : x.1 ∈ vars.map (·.1) := by rw [← keys]; exact List.mem_map_of_mem hx
    have := hp.2 _ this
    rw [Bool.or_eq_true, beq_iff_eq, beq_iff_eq] at this
    rcases this with q | q
    · exact .inl q
    · exact .inr ⟨q, cellsFrom_some _ _ _ (.inl q)⟩
  · subst he
    refine ⟨hlim.keeps x.toInCall.keep, codeAny_func ?_⟩
    have he : callEnvC fd s.heap.objs.size a = newEnv (C.into fd.scope).sc s.heap.objs.size mainGlobals (cellsFrom (s.heap.objs.size + 1) (C.into fd.scope).sc.names []) (fd.qualname ++ ".<locals>.") (some a) fd.code none builtinsNs := by
      unfold callEnvC; rw [F.glob, F.blt]; rfl
    have k1 := start (C' := C.into fd.scope) hb0 hz hpin ho hg F.kind he x hb (by rw [keys]; exact hp.1) F.free
    refine wp_use (h _ Z _ _ s₁ k1) (fun f s' g st' Z' ρ' hz' hr rf hs' hq => ?_)
    have kk := hs'.rest hz' hz
    have e1 : s'.os = C.os := let ⟨_, q⟩ := hs'; q.os
    have e2 : C.gp s'.gens s'.drawn := let ⟨_, q⟩ := hs'; q.gens
    have e3 : ∀ p, C.pin = some p → ∀ ao, st'.heap 0 = some ao → ∃ o, s'.heap.get? p = some o ∧ OR C.w.params Z' ρ' ao o := fun p hp ao e => by
      obtain ⟨_, q⟩ := hs'
      obtain ⟨a', q1, _, o', q2, q3⟩ := q.objs 0 ao e
      rw [q.pin p hp] at q1; cases q1
      exact ⟨o', q2, q3⟩
    cases rf with
    | next => exact ⟨_, _, _, Z', ρ', rfl, hz', hr, .none, kk, e1, e2, e3, hq⟩
    | brk => exact ⟨_, _, _, Z', ρ', rfl, hz', hr, .none, kk, e1, e2, e3, hq⟩
    | cont => exact ⟨_, _, _, Z', ρ', rfl, hz', hr, .none, kk, e1, e2, e3, hq⟩
    | ret rv => exact ⟨_, _, _, Z', ρ', rfl, hz', hr, rv, kk, e1, e2, e3, hq⟩
theorem wpAny_weaker {α : Type} {M : Model} {A A' : Around} {t : Sem α} {Q : α → Shared → Prop} {E : Value → Shared → Prop} {s : Shared} (h0 : A.handled = A'.handled) (h1 : A'.depth ≤ A.depth) (h2 : A.frames = none) (h3 : A.guards = none) (h4 : A'.units ≤ A.units) (h : wpAny M A t Q E s) : wpAny M A' t Q E s :=
  fun Γ p x => h Γ p ⟨x.1.trans h0.symm, Nat.le_trans x.2.1 h1, (by rw [h2]; intro l e; cases e), (by rw [h3]; intro l e; cases e), Nat.le_trans x.2.2.2.2 h4⟩
end Mine
end
section -- MStrs
set_option maxRecDepth 100000
namespace Mine
open PySem PySem.W PyProof.Rows

section
variable {C : Fx} {st : St}
theorem op_str2 {α β : Type} {rel : PH → List Addr → β → α → Prop} {a b : Str} {f : Value → Value → Sem α} {Q : β → St → Prop}
    (h : ∀ env Z R ρ s t u, SR C env Z R ρ st s → wpAny C.M C.A (f (.str a t) (.str b u)) (Post C env Z R ρ rel Q) noE s) : JV C rel [.str a, .str b] (two f) st Q :=
  fun env Z R ρ s ws hs hw => by
    obtain ⟨x, y, rfl, h1, h2⟩ := inv2 hw
    obtain ⟨t, rfl⟩ := inv_str h1
    obtain ⟨u, rfl⟩ := inv_str h2
    exact h env Z R ρ s t u hs
theorem op_eqS {a b : Str} {Q : V → St → Prop} (h : Q (.bool (a == b)) st) : JV C VR [.str a, .str b] (two (compareOp .Eq)) st Q :=
  op_str2 fun env Z R ρ s t u hs => eq_str (SR.post hs (.bool _) h)
theorem op_neS {a b : Str} {Q : V → St → Prop} (h : Q (.bool (a != b)) st) : JV C VR [.str a, .str b] (two (compareOp .NotEq)) st Q :=
  op_str2 fun env Z R ρ s t u hs => ne_str (SR.post hs (.bool _) h)
theorem op_inS {y x : Str} {Q : V → St → Prop} (h : Q (.bool (!(Builtin.Str.occurrences x y 0 x.length 1).isEmpty)) st) : JV C VR [.str y, .str x] (two (compareOp .In)) st Q :=
  op_str2 fun env Z R ρ s t u hs => in_str (SR.post hs (.bool _) h)
theorem op_eqSN {a : Str} {Q : V → St → Prop} (h : Q (.bool false) st) : JV C VR [.str a, .none] (two (compareOp .Eq)) st Q :=
  fun env Z R ρ s ws hs hw => by
    obtain ⟨x, y, rfl, h1, h2⟩ := inv2 hw
    obtain ⟨t, rfl⟩ := inv_str h1
    obtain rfl := inv_none h2
    exact PySem.EqNone.eq_str_none (SR.post hs (.bool _) h)
theorem op_eqNN {Q : V → St → Prop} (h : Q (.bool true) st) : JV C VR [.none, .none] (two (compareOp .Eq)) st Q :=
  fun env Z R ρ s ws hs hw => by
    obtain ⟨x, y, rfl, h1, h2⟩ := inv2 hw
    obtain rfl := inv_none h1
    obtain rfl := inv_none h2
    exact PySem.EqNone.eq_none_none (SR.post hs (.bool _) h)
theorem tr_str {a : Str} {Q : Bool → St → Prop} (hsz : a.length ≤ sizeLine) (h : Q (a.length != 0) st) : JV C rBool [.str a] (one truthy) st Q :=
  fun env Z R ρ s ws hs hw => by
    obtain ⟨x, rfl, h1⟩ := inv1 hw
    obtain ⟨t, rfl⟩ := inv_str h1
    have e : ((a.length : Int) != 0) = (a.length != 0) := by
      rw [Bool.eq_iff_iff]; simp
    exact SBL.truthy (by rw [sizeLine_eq] at hsz; lia) (SR.post (b := a.length != 0) (hs.tok _) e h)
theorem op_addS {a b : Str} {Q : V → St → Prop} (hsz : a.length + b.length ≤ sizeLine) (h : Q (.str (a ++ b)) st) : JV C VR [.str a, .str b] (two (binaryOp .Add)) st Q :=
  op_str2 fun env Z R ρ s t u hs => add_str (fun t' k => SR.post (hs.tok _) (.str _ _) h) hsz
theorem ip_addS {a b : Str} {Q : V → St → Prop} (hsz : a.length + b.length ≤ sizeLine) (h : Q (.str (a ++ b)) st) : JV C VR [.str a, .str b] (two (inplaceOp .Add)) st Q :=
  op_str2 fun env Z R ρ s t u hs => iadd_str (fun t' k => SR.post (hs.tok _) (.str _ _) h) hsz
theorem ty_str {a : Str} {Q : V → St → Prop} (h : Q (.val (.type "str")) st) : JV C VR [.str a] (fun ws => call (.type "type") ws) st Q :=
  fun env Z R ρ s ws hs hw => by
    obtain ⟨x, rfl, h1⟩ := inv1 hw
    obtain ⟨t, rfl⟩ := inv_str h1
    exact call_type_of (Tx := "str") (typeIs_str _ _ _) (by decide +kernel) (SR.post hs (.val _) h)
theorem ty_int {a : Int} {Q : V → St → Prop} (h : Q (.val (.type "int")) st) : JV C VR [.int a] (fun ws => call (.type "type") ws) st Q :=
  fun env Z R ρ s ws hs hw => by
    obtain ⟨x, rfl, h1⟩ := inv1 hw
    obtain ⟨t, rfl⟩ := inv_int h1
    exact call_type_of (Tx := "int") rfl (by decide +kernel) (SR.post hs (.val _) h)
theorem int_int {a : Int} {Q : V → St → Prop} (h : Q (.int a) st) : JV C VR [.int a] (fun ws => call (.type "int") ws) st Q :=
  fun env Z R ρ s ws hs hw => by
    obtain ⟨x, rfl, h1⟩ := inv1 hw
    obtain ⟨t, rfl⟩ := inv_int h1
    exact call_int_int (SR.post hs (.int _ _) h)
theorem isi_str {a : Str} {Q : V → St → Prop} (h : Q (.bool true) st) : JV C VR [.str a, .val (.type "str")] (fun ws => call (.builtin "isinstance") ws) st Q :=
  fun env Z R ρ s ws hs hw => by
    obtain ⟨x, y, rfl, h1, h2⟩ := inv2 hw
    obtain ⟨t, rfl⟩ := inv_str h1
    cases h2
    exact PySem.IsiPair.str_str (SR.post hs (.bool _) h)
theorem b_lenS {a : Str} {Q : V → St → Prop} (hsz : a.length ≤ sizeLine) (h : Q (.int a.length) st) : JV C VR [.str a] (fun ws => call (.builtin "len") ws) st Q :=
  fun env Z R ρ s ws hs hw => by
    obtain ⟨x, rfl, h1⟩ := inv1 hw
    obtain ⟨t, rfl⟩ := inv_str h1
    exact SBL.len (by rw [sizeLine_eq] at hsz; lia) (SR.post (hs.tok _) (.int _ _) h)
theorem VRs.strs {Z : PH} {ρ : List Addr} : ∀ {ys : List Str} {ws : List Value}, VRs Z ρ (ys.map V.str) ws → StrsAre ws ys
  | [], _, .nil => .nil
  | y :: ys, _, .cons h t => by
    obtain ⟨u, rfl⟩ := inv_str h
    exact .cons _ _ t.strs
theorem op_inT {x : Str} {ys : List Str} {Q : V → St → Prop} (h : Q (.bool (ys.any (· == x))) st) : JV C VR [.str x, .tup (ys.map V.str)] (two (compareOp .In)) st Q :=
  fun env Z R ρ s ws hs hw => by
    obtain ⟨a, b, rfl, h1, h2⟩ := inv2 hw
    obtain ⟨t, rfl⟩ := inv_str h1
    obtain ⟨l, vs, n, rfl, hz, ri⟩ := h2.tup_inv
    exact in_tuple_strs ⟨_, hs.z_ hz, rfl, n, rfl⟩ ri.strs (SR.post hs (.bool _) h)

theorem Subscript_SliceT {prog : Program} {w : World} {A : Around} {E : Value → Shared → Prop} {s : Shared} {env : Env} {value : Expr} {lower upper : Option Expr} {p pos : Pos} {Q : Value → Shared → Prop}
    (h : wpAny (model prog w) A (eval value env) (fun o s₁ => wpAny (model prog w) A (eval (.Slice lower upper none p) env) (fun i s₂ => ItemOn (model prog w) A E o i Q s₂) E s₁) E s) :
    wpAny (model prog w) A (eval (.Subscript value (.Slice lower upper none p) pos) env) Q E s := by
  rw [eval_Subscript]
  refine wpAny_bind (wpAny_mono h (fun o s₁ h₁ => wpAny_bind (wpAny_holding (wpAny_mono h₁ (fun i s₂ h₂ => wpAny_bind (wpAny_standAt ?_)) fun _ _ x => x))) fun _ _ x => x)
  obtain ⟨T, id, hl, hT, hg⟩ := h₂
  have fin : wpAny (model prog w) A (operate [i, o] (getItem o i)) (fun r s₃ => wpAny (model prog w) A (letTemporaryGo value o r >>= fun _ => pure r) Q E s₃) E s₂ :=
    wpAny_operating (wpAny_mono hg (fun r s₃ h₃ => wpAny_bind (wpAny_letTemporaryGo (wpAny_pure h₃))) fun _ _ x => x)
  first
    | (refine wpAny_bind ?_; rw [getitemInPython_of_ne hT.not_modules]; refine wpAny_bind (wpAny_specialOf hT hl ?_))
    | refine wpAny_bind (wpAny_specialOf hT hl ?_)
  first
    | exact wpAny_pure (wpAny_bind fin)
    | exact wpAny_bind (wpAny_pure (wpAny_bind fin))
    | exact wpAny_bind fin

theorem ev_SliceS {value lo up : Expr} {p pos : Pos} {Q : V → St → Prop}
    (h : J C VR (eval value) st fun v st₁ => J C VR (eval lo) st₁ fun l st₂ => J C VR (eval up) st₂ fun u st₃ => ∃ x i j, v = .str x ∧ l = .int i ∧ u = .int j ∧ x.length ≤ sizeLine ∧ Q (.str (Txt.slice x (some i) (some j))) st₃) : J C VR (eval (.Subscript value (.Slice (some lo) (some up) none p) pos)) st Q :=
  fun env Z R ρ s hs => Subscript_SliceT (wp_use (h env Z R ρ s hs) (fun w s₁ v st₁ Z₁ ρ₁ hz₁ hr₁ rv hs₁ h₁ =>
    wpAny_Slice (evalPart_some_step (wp_use (h₁ env Z₁ R ρ₁ s₁ hs₁) (fun wl s₂ l st₂ Z₂ ρ₂ hz₂ hr₂ rl hs₂ h₂ =>
      evalPart_some_step (wp_use (h₂ env Z₂ R ρ₂ s₂ hs₂) (fun wu s₃ u st₃ Z₃ ρ₃ hz₃ hr₃ ru hs₃ ⟨x, i, j, e1, e2, e3, hsz, hq⟩ => evalPart_none_step (by
        subst e1; subst e2; subst e3
        obtain ⟨t, rfl⟩ := inv_str rv
        obtain ⟨tl, rfl⟩ := inv_int rl
        obtain ⟨tu, rfl⟩ := inv_int ru
        refine PySem.SBH.sliceItem_ss (P := fun h => ∀ b o, s₃.heap.get? b = some o → h.get? b = some o) (fun h ob k b o e => Heap.get?_push_of_some _ (k b o e)) (fun _ _ e => e) (fun h' t' k kp => ?_) hsz
        exact ⟨_, st₃, Z₃, ρ₃, (hz₁.trans hz₂).trans hz₃, (hr₁.trans hr₂).trans hr₃, .str _ _, hs₃.keep kp, hq⟩))))))))

noncomputable abbrev JB (C : Fx) (op : BoolOp) (es : List Expr) (st : St) (Q : Bool → St → Prop) : Prop := J C rBool (fun env => allTrue op es env) st Q
theorem tt_Bool {op : BoolOp} {es : List Expr} {pos : Pos} {Q : Bool → St → Prop} (h : JB C op es st Q) : JT C (.BoolOp op es pos) st Q :=
  fun env Z R ρ s hs => wpAny_isTrue_BoolOp (h env Z R ρ s hs)
theorem ta_nil {Q : Bool → St → Prop} (h : Q true st) : JB C .And [] st Q := fun env Z R ρ s hs => wpAny_allTrue_And_nil (SR.post hs rfl h)
theorem to_nil {Q : Bool → St → Prop} (h : Q false st) : JB C .Or [] st Q := fun env Z R ρ s hs => wpAny_allTrue_Or_nil (SR.post hs rfl h)
theorem ta_cons {x : Expr} {r : List Expr} {Q : Bool → St → Prop} (h : JT C x st fun b st₁ => (b = true → JB C .And r st₁ Q) ∧ (b = false → Q false st₁)) : JB C .And (x :: r) st Q :=
  fun env Z R ρ s hs => wpAny_allTrue_And_cons (wp_ite (h env Z R ρ s hs) (fun s₁ _ Z₁ ρ₁ hz hr hs₁ h1 => wp_up hz hr (h1 env Z₁ R ρ₁ s₁ hs₁)) fun s₁ st₁ Z₁ ρ₁ hz hr hs₁ h2 => ⟨false, st₁, Z₁, ρ₁, hz, hr, rfl, hs₁, h2⟩)
theorem to_cons {x : Expr} {r : List Expr} {Q : Bool → St → Prop} (h : JT C x st fun b st₁ => (b = true → Q true st₁) ∧ (b = false → JB C .Or r st₁ Q)) : JB C .Or (x :: r) st Q :=
  fun env Z R ρ s hs => wpAny_allTrue_Or_cons (wp_ite (h env Z R ρ s hs) (fun s₁ st₁ Z₁ ρ₁ hz hr hs₁ h1 => ⟨true, st₁, Z₁, ρ₁, hz, hr, rfl, hs₁, h1⟩) fun s₁ _ Z₁ ρ₁ hz hr hs₁ h2 => wp_up hz hr (h2 env Z₁ R ρ₁ s₁ hs₁))
end
end Mine
end
section -- MComp9
set_option maxRecDepth 100000
namespace Mine
open PySem PySem.W PyProof.Rows
section
variable {C : Fx} {st : St}
theorem comp_flat {α : Type} {scope : Scope} {elt iter iter' : Expr} {x y z : Str} {px py pz pt pos : Pos} {n : Nat} {v : V} {k k' k'' : NameKind} {Qi : List V → St → Prop} (l : List α) (e₁ e₂ : α → V) (f : α → List V) (hv : Itb st v (l.map fun a => .tup [e₁ a, e₂ a])) (hsz : (l.flatMap f).length ≤ 100000)
    (hk : scope.names.lookup x = some k) (hkk : k = .local ∨ k = .cell) (hk' : scope.names.lookup y = some k') (hkk' : k' = .local ∨ k' = .cell) (hk'' : scope.names.lookup z = some k'') (hkk'' : k'' = .local ∨ k'' = .cell) (hxy : x ≠ y)
    (it2 : ∀ a ∈ l, ∀ vs, (∀ w, scope.names.lookup w = some .free → vs.lookup w = st.vars.lookup w) → vs.lookup x = some (e₁ a) → vs.lookup y = some (e₂ a) → J (C.comp scope) VR (eval iter') ⟨vs, st.heap, st.nx⟩ fun u st' => u = .lst (f a) ∧ st' = ⟨vs, st.heap, st.nx⟩)
    (turn : ∀ a ∈ l, ∀ b ∈ f a, ∀ vs, vs.lookup z = some b → J (C.comp scope) VR (eval elt) ⟨vs, st.heap, st.nx⟩ fun u st' => u = b ∧ st' = ⟨vs, st.heap, st.nx⟩)
    (fin : Qi (l.flatMap f) st)
    (hs : ∀ env x, foldedSetIterable iter' env x = pure x := by intro _ _; rfl) (hzx : z ≠ x := by decide) (hzy : z ≠ y := by decide) : CompIn C scope elt [⟨.Tuple [.Name x px, .Name y py] n pt, iter, [], 0⟩, ⟨.Name z pz, iter', [], 0⟩] pos st v Qi := by
  refine comp_core2 l (fun a => .tup [e₁ a, e₂ a]) f (fun _ b o => some b = o) (fun a vs => vs.lookup x = some (e₁ a) ∧ vs.lookup y = some (e₂ a)) hv (Nat.le_trans hsz (by decide)) hk'' hkk'' (fun a vs b h => ?_)
    (fun a ha vs h => a_Tup2 (.mk _ ⟨(h.setv hk hkk _).setv hk' hkk' _, ?_⟩) (comp_lk hk hkk) (comp_lk hk' hkk') hkk hkk') (fun a ha vs h hB => J.mono (it2 a ha vs h hB.1 hB.2) fun u st' q => ⟨q.2, fun vs' => by rw [q.1]; rfl⟩)
    (fun a ha b hb vs _ _ hz => ts_nil ⟨fun _ => J.mono (turn a ha b hb vs hz) fun u st' q => ⟨q.2, congrArg some q.1.symm⟩, nofun⟩) (fun ys h => ?_) hs
  · rw [setv_lookup, setv_lookup, if_neg (Ne.symm hzx), if_neg (Ne.symm hzy)]; exact h
  · rw [setv_lookup, setv_lookup, setv_lookup, if_neg hxy, if_pos rfl, if_pos rfl]; exact ⟨rfl, rfl⟩
  · have e : (fun a => (f a).filterMap some) = f := funext fun a => List.filterMap_some
    have := h.fm (h := fun _ b => some b)
    rw [this, show (fun a => (f a).filterMap fun b => some b) = f from e]; exact fin
theorem m_joinL {sep : Str} {ys : List Str} {Q : V → St → Prop} (h1 : sep.length ≤ 16) (h2 : (ys.map (·.length)).sum + ys.length ≤ 1048576) (h : Q (.str (Txt.join sep ys)) st) : JV C VR [.str sep, .lst (ys.map .str)] (fun ws => call (.builtin "str.join") ws) st Q :=
  fun env Z R ρ s ws hs hw => by
    obtain ⟨a, b, rfl, r1, r2⟩ := inv2 hw
    obtain ⟨t, rfl⟩ := inv_str r1
    obtain ⟨l, vs, n, rfl, hz, ri⟩ := r2.lst_inv
    exact join_listW ⟨_, hs.z_ hz, rfl, _, rfl⟩ ri.strs h1 h2 fun t' k => SR.post (hs.tok _) (.str _ _) h
end
end Mine
end
section -- MComp10
set_option maxRecDepth 100000
namespace Mine
open PySem PySem.W PyProof.Rows
inductive All2 {α : Type} (R : α → V → Prop) : List α → List V → Prop
  | nil : All2 R [] []
  | cons {a : α} {y : V} {l : List α} {ys : List V} : R a y → All2 R l ys → All2 R (a :: l) (y :: ys)
theorem All2.snoc {α : Type} {R : α → V → Prop} {a : α} {y : V} {l : List α} {ys : List V} (h : All2 R l ys) (k : R a y) : All2 R (l ++ [a]) (ys ++ [y]) := by
  induction h with
  | nil => exact .cons k .nil
  | cons h _ ih => exact .cons h ih
theorem All2.map {α : Type} {R : α → V → Prop} {g : α → V} {l : List α} {ys : List V} (h : All2 R l ys) (k : ∀ a ∈ l, ∀ y, R a y → y = g a) : ys = l.map g := by
  induction h with
  | nil => rfl
  | cons h _ ih => rw [k _ (.head _) _ h, ih fun a ha => k a (.tail _ ha)]; rfl
theorem All2.mem {α : Type} {R : α → V → Prop} {l : List α} {ys : List V} (h : All2 R l ys) (a : α) (ha : a ∈ l) : ∃ y, R a y := by
  induction h with
  | nil => exact nomatch ha
  | cons h _ ih => exact (List.mem_cons.mp ha).elim (fun e => by subst e; exact ⟨_, h⟩) ih
theorem Steps.all {α : Type} {R : α → V → Prop} {l : List α} {ys : List V} (h : Steps (fun a o => ∃ y, o = some y ∧ R a y) l ys) : All2 R l ys := by
  induction h with
  | nil => exact .nil
  | skip _ h _ => exact h.elim fun _ q => nomatch q.1
  | add _ h ih => exact h.elim fun _ q => by cases q.1; exact ih.snoc q.2
section
variable {C : Fx} {st : St}
theorem comp_ex {α : Type} {scope : Scope} {elt iter : Expr} {x : Str} {px pos : Pos} {v : V} {k : NameKind} {Qi : List V → St → Prop} (l : List α) (e : α → V) (R : α → V → Prop) (hv : Itb st v (l.map e)) (hsz : l.length ≤ 100000)
    (hk : scope.names.lookup x = some k) (hkk : k = .local ∨ k = .cell)
    (turn : ∀ a ∈ l, J (C.comp scope) VR (eval elt) ⟨setv x (e a) (inner scope st.vars), st.heap, st.nx⟩ fun y st₄ => R a y ∧ st₄ = ⟨setv x (e a) (inner scope st.vars), st.heap, st.nx⟩)
    (fin : ∀ ys, All2 R l ys → Qi ys st) : CompIn C scope elt [⟨.Name x px, iter, [], 0⟩] pos st v Qi := by
  refine comp_core l e (fun a o => ∃ y, o = some y ∧ R a y) (setv x) hv (Nat.le_trans hsz (by decide)) (fun a _ vs => a_Name rfl (comp_lk hk hkk) hkk) (fun a b vs => setv_setv x a b vs) (fun a vs h => h.setv hk hkk a)
    (fun a ha => ts_nil ⟨fun _ => J.mono (turn a ha) fun y st₄ q => ⟨q.2, y, rfl, q.1⟩, nofun⟩) fun ys h => fin ys h.all
theorem ev_SliceG {value : Expr} {lower upper : Option Expr} {p pos : Pos} {Q : V → St → Prop}
    (h : J C VR (eval value) st fun v st₁ => JP C lower st₁ fun lo st₂ => JP C upper st₂ fun hi st₃ => ∃ xs, Lis st₃ v xs ∧ xs.length ≤ sizeLine ∧ Q (.lst (sl lo hi xs)) st₃) : J C VR (eval (.Subscript value (.Slice lower upper none p) pos)) st Q :=
  fun env Z R ρ s hs => Subscript_SliceT (wp_use (h env Z R ρ s hs) (fun w s₁ v st₁ Z₁ ρ₁ hz₁ hr₁ rv hs₁ h₁ =>
    wpAny_Slice (wp_use (h₁ env Z₁ R ρ₁ s₁ hs₁) (fun wl s₂ lo st₂ Z₂ ρ₂ hz₂ hr₂ rl hs₂ h₂ =>
      wp_use (h₂ env Z₂ R ρ₂ s₂ hs₂) (fun wu s₃ hi st₃ Z₃ ρ₃ hz₃ hr₃ ru hs₃ ⟨xs, hl, hsz, hq⟩ => by
        obtain ⟨a, ws, k, rfl, ho, ri⟩ := hl.at_ hs₃ ((rv.mono hz₂ hr₂).mono hz₃ hr₃)
        have hlen := ri.toArr
        have hil : s₃.heap.IsList a ws := ⟨_, ho, rfl, _, rfl⟩
        obtain ⟨le1, k1⟩ := hs₃.allocZ { cls := .type "slice", data := .fields #[wl, wu, .none] } s₃.toks
        obtain ⟨le2, k2⟩ := k1.allocZ (lobj (slicePick ws lo hi none) 0) s₃.toks
        rw [evalPart_none]
        refine wpAny_pure ⟨"list", _, list_getitem_lookup, (hil.push _).typeIs, wpAny_getItem_list_slice (hil.push _) (Heap.IsSliceOf.new ..) rl ru .none (by simp) ?_ (by lia)⟩
        dsimp only at k2 le2 ⊢
        rw [Heap.size_push] at k2 le2 ⊢
        refine ⟨_, _, _, ρ₃, ((hz₁.trans hz₂).trans hz₃).trans (le1.trans le2), (hr₁.trans hr₂).trans hr₃, .lst (PH.put_self ..) ?_, k2, hq⟩
        have e := congrArg Array.toList (slicePick_plain ws lo hi)
        dsimp only at e
        rw [e]
        unfold sl
        rw [hlen]
        exact ((ri.drop _).take _).mono (le1.trans le2) (Ext.refl _))))))
theorem op_neR {a b : V} {Q : V → St → Prop} (e : a = b) (ok : okD a = true) (hu : C.u + (toD a).depth < cLine) (h : Q (.bool false) st) : JV C VR [a, b] (two (compareOp .NotEq)) st Q := by
  subst e
  refine op_neD ok ok (Nat.lt_of_le_of_lt (Nat.add_le_add_left (Nat.min_le_left _ _) _) hu) ?_
  rw [SeqAt.eqv_refl _ (canLay_toD ok)]
  exact h
end
end Mine
end
section -- MDeq
set_option maxRecDepth 100000
set_option maxHeartbeats 1000000
namespace Mine
open PySem PySem.W PyProof.Rows PySem.Builtin PySem.Builtin.Deque

noncomputable abbrev dqT : String := "collections.deque"
noncomputable abbrev dqO : Obj := { cls := .type "collections.deque", data := .fields #[.none, .int 0 0] }
theorem mro_dq : mroOf (.type dqT) = pure [.type "collections.deque", .type "object"] := by rw [mroOf_type]; kernel_rfl
theorem lookup_dq_new : typeLookup (.type dqT) "__new__" = pure (some (.builtin "collections.deque.__new__")) := by rw [typeLookup_type, builtinLookup_eq_fast]; kernel_rfl
theorem slot_dq_init : Slot dqT "__init__" "collections.deque.__init__" :=
  .of (owner := "collections.deque") (n := "__init__") (by rw [typeLookup_type, builtinLookup_eq_fast]; kernel_rfl) (by decide +kernel) (by decide +kernel) (by decide +kernel)
    (by first | exact .inl (by decide +kernel) | exact .inr (by decide +kernel)) (by rw [isSubtype_type]; kernel_rfl)
theorem slot_dq_len : Slot dqT "__len__" "collections.deque.__len__" :=
  .of (owner := "collections.deque") (n := "__len__") (by rw [typeLookup_type, builtinLookup_eq_fast]; kernel_rfl) (by decide +kernel) (by decide +kernel) (by decide +kernel)
    (by first | exact .inl (by decide +kernel) | exact .inr (by decide +kernel)) (by rw [isSubtype_type]; kernel_rfl)
theorem called_dq : TypeCalled dqT "collections.deque.__new__" "collections.deque.__init__" :=
  ⟨by decide +kernel, by decide +kernel, ⟨_, _, mro_dq⟩, madeBy_type mro_dq lookup_dq_new (by decide +kernel), by decide +kernel, by rw [isSubtype_type]; kernel_rfl, slot_dq_init⟩
theorem typeCall_dq : checkTypeCall dqT ⟨[], []⟩ = pure () := by kernel_rfl
theorem newCall_dq : checkBuiltinCall "collections.deque.__new__" ⟨[.type dqT], []⟩ = pure () := by kernel_rfl
theorem entry_dq_new : entryFor table "collections.deque.__new__" = some Builtin.«collections.deque.__new__» := entryFor_of_tree (by kernel_rfl)
theorem entry_dq_init : entryFor table "collections.deque.__init__" = some Builtin.«collections.deque.__init__» := entryFor_of_tree (by kernel_rfl)
theorem entry_dq_len : entryFor table "collections.deque.__len__" = some Builtin.«collections.deque.__len__» := entryFor_of_tree (by kernel_rfl)
theorem args_dq_init (a : Value) : argsOk "collections.deque.__init__" ⟨[a], []⟩ := by unfold argsOk; kernel_rfl
theorem args_dq_len (a : Value) : argsOk "collections.deque.__len__" ⟨[a], []⟩ := by unfold argsOk; kernel_rfl

theorem dq_new : Meets (Builtin.«collections.deque.__new__» ⟨[.type dqT], []⟩) (fun A R s => R (.ok (.ret (.ref s.heap.objs.size))) { s with heap := s.heap.push dqO }) :=
  .of_wp fun prog w A R s h => by
    have hsub := called_dq.sub
    obtain ⟨hp, g, d, tk, os⟩ := s
    have hsub2 : isSubtype (.type dqT) (.type ty) = pure true := called_dq.sub
    unfold Builtin.«collections.deque.__new__»
    wp_walk
    exact ⟨_, rfl, h⟩

theorem dq_init (x : Addr) : Meets (Builtin.«collections.deque.__init__» ⟨[.ref x], []⟩) (fun A R s => s.heap.get? x = some dqO ∧ ∀ h', (∀ b o, s.heap.get? b = some o → h'.get? b = some o) → R (.ok (.ret .none)) { s with heap := h' }) :=
  .of_wp fun prog w A R s h => by
    obtain ⟨hp, g, d, tk, os⟩ := s
    obtain ⟨hx, h⟩ := h
    have hu := Heap.get?_update_self (h := hp) (fun o => Obj.mapFields (fun vs => vs.setIfInBounds 0 .none) o) hx rfl
    have hk : ∀ b o, hp.get? b = some o → (hp.update x (fun o => Obj.mapFields (fun vs => vs.setIfInBounds 0 .none) o)).get? b = some o := fun b o e => by
      by_cases q : b = x
      · subst q; rw [hx] at e; cases e; exact hu
      · exact (Heap.SameBut.update ..).extBut b o q e
    unfold Builtin.«collections.deque.__init__»
    wp_walk
    exact ⟨_, rfl, h _ hk⟩

theorem noBool_dq : typeLookup (.type dqT) "__bool__" = pure none := by rw [typeLookup_type, builtinLookup_eq_fast]; kernel_rfl

section
variable {prog : Program} {w : World} {A : Around} {E : Value → Shared → Prop} {s : Shared}
theorem truthy_dq {x : Addr} {o : Obj} {Q : Bool → Shared → Prop} (ho : s.heap.get? x = some o) (hd : IsDeq o) (h : Q false { s with toks := s.toks + 1 + 1 }) : wpAny (model prog w) A (truthy (.ref x)) Q E s := by
  have hT : s.TypeIs (.ref x) dqT := ⟨_, ho, hd.1⟩
  have body : ∀ {A : Around} {E : Value → Shared → Prop} {Q : Value → Shared → Prop}, Q (.int 0 (s.toks + 1)) { s with toks := s.toks + 1 + 1 } → wpAny (model prog w) A (Builtin.«len» ⟨[.ref x], []⟩) (fun fin s' => ∃ r, fin = .done (.ret r) ∧ Q r s') E s := by
    intro A E Q h
    unfold Builtin.«len»
    refine wpAny_bind (m := oneArg "len" _) (wpAny_pure ?_)
    refine wpAny_bind (m := callSpecial? (.ref x) (Str.ofString "__len__")) (wpAny_callSpecial?_slot (name := Str.ofString "__len__") hT slot_dq_len
      (wpAny_call_entry slot_dq_len hT entry_dq_len ?_ (args_dq_len _)))
    unfold Builtin.«collections.deque.__len__» Deque.size
    refine wpAny_bind (wpAny_pure ?_)
    show wpAny _ _ ((fieldsOf (.ref x) >>= fun vs => pure (vs.size - 2)) >>= _) _ _ _
    refine wpAny_bind (wpAny_bind (wpAny_fieldsOf ho hd.2.1 (wpAny_pure ?_)))
    refine wpAny_bind (wpAny_mkInt (wpAny_pure ⟨_, rfl, ?_⟩))
    refine wpAny_bind (wpAny_holding (wpAny_pure ?_))
    refine wpAny_bind (wpAny_letGo ?_)
    exact wpAny_bind (wpAny_mkInt (wpAny_pure ⟨_, rfl, h⟩))
  have key : wpAny (model prog w) A (runValue (.builtin "len" ⟨[.ref x], []⟩)) (fun r s' => r = .int 0 (s.toks + 1) ∧ Q false s') E s := by
    refine wpAny_runValue (codeAny_builtin entry_len ?_)
    rw [Around.under_plainId plain_len _]
    exact wpAny_mono (body (Q := fun r s' => r = .int 0 (s.toks + 1) ∧ Q false s') ⟨rfl, h⟩)
      (fun fin s' h' => by obtain ⟨r, rfl, hq⟩ := h'; exact hq) fun _ _ e => e
  unfold truthy
  first
    | refine wpAny_bind (wpAny_callSpecial?_none (name := Str.ofString "__bool__") hT noBool_dq ?_)
    | refine wpAny_bind (wpAny_pure (wpAny_bind (wpAny_callSpecial?_none (name := Str.ofString "__bool__") hT noBool_dq ?_)))
  first
    | refine wpAny_bind (wpAny_specialOf (name := Str.ofString "__len__") hT slot_dq_len.lookup ?_)
    | refine wpAny_bind (wpAny_pure (wpAny_bind (wpAny_specialOf (name := Str.ofString "__len__") hT slot_dq_len.lookup ?_)))
  first
    | exact wpAny_bind (wpAny_mono key (fun r s' h' => by obtain ⟨rfl, hq⟩ := h'; exact wpAny_pure hq) fun _ _ e => e)
    | exact wpAny_bind (wpAny_pure (wpAny_bind (wpAny_mono key (fun r s' h' => by obtain ⟨rfl, hq⟩ := h'; exact wpAny_pure hq) fun _ _ e => e)))

theorem call_dq {Q : Value → Shared → Prop} (h : ∀ h', h'.get? s.heap.objs.size = some dqO → (∀ b o, (s.heap.push dqO).get? b = some o → h'.get? b = some o) → Q (.ref s.heap.objs.size) { s with heap := h' }) : wpAny (model prog w) A (call (.type dqT) []) Q E s :=
  callType_meets (Q₁ := fun obj s₁ => obj = .ref s.heap.objs.size ∧ s₁ = { s with heap := s.heap.push dqO }) called_dq typeCall_dq newCall_dq entry_dq_new entry_dq_init dq_new ⟨rfl, rfl⟩ fun obj s₁ e => by
    obtain ⟨rfl, rfl⟩ := e
    have hx := Heap.get?_push_size s.heap (o := dqO) rfl
    exact ⟨⟨_, hx, rfl⟩, args_dq_init _, _, dq_init _, hx, fun h' k => ⟨rfl, h h' (k _ _ hx) k⟩⟩
end

section
variable {C : Fx} {st : St}
theorem mk_deq {Q : V → St → Prop} (h : Q .deq st) : JV C VR [] (fun ws => call (.type "collections.deque") ws) st Q :=
  fun env Z R ρ s ws hs hw => by
    cases hw
    obtain ⟨le, k⟩ := hs.allocZ dqO s.toks
    refine call_dq fun h' e1 e2 => ?_
    exact ⟨_, _, _, ρ, le, Ext.refl _, .deq (PH.put_self ..) ⟨rfl, rfl, rfl⟩, k.keep e2, h⟩
theorem tr_deq {Q : Bool → St → Prop} (h : Q false st) : JV C rBool [.deq] (one truthy) st Q :=
  fun env Z R ρ s ws hs hw => by
    obtain ⟨x, rfl, h1⟩ := inv1 hw
    cases h1 with
    | deq hz hd => exact truthy_dq (hs.z_ hz) hd (SR.post (hs.tok _) rfl h)
end
end Mine
end
section -- MWay
namespace Mine

inductive Way (L : Int → Int → Int) (s : Int) : Int → Int → Prop
  | one {k : Int} : k ∈ idxs 5 → Way L s k (L s k)
  | on {j k v : Int} : Way L s j v → k ∈ idxs 5 → Way L s k (min v (L j k))
theorem Way.mem {L : Int → Int → Int} {s k v : Int} (h : Way L s k v) : k ∈ idxs 5 := by
  cases h with
  | one h => exact h
  | on _ h => exact h
theorem Way.cat {L : Int → Int → Int} {i j v : Int} (h : Way L i j v) {k w : Int} (h' : Way L j k w) : Way L i k (min v w) := by
  induction h' with
  | one hk => exact .on h hk
  | @on a k w _ hk ih =>
    have := Way.on ih hk
    rw [Int.min_assoc] at this
    exact this
structure Widest (L : Int → Int → Int) (s : Int) (D : Int → Int) : Prop where
  zero : D s = 0
  way : ∀ k ∈ idxs 5, k ≠ s → Way L s k (D k)
  top : ∀ k ∈ idxs 5, k ≠ s → ∀ v, Way L s k v → v ≤ D k
theorem Widest.of {L : Int → Int → Int} {s : Int} {D : Int → Int} (h0 : D s = 0) (h1 : ∀ k ∈ idxs 5, k ≠ s → Way L s k (D k)) (h2 : ∀ k ∈ idxs 5, k ≠ s → L s k ≤ D k)
    (h3 : ∀ j ∈ idxs 5, j ≠ s → ∀ k ∈ idxs 5, k ≠ s → min (D j) (L j k) ≤ D k) : Widest L s D where
  zero := h0
  way := h1
  top := fun k hk hs v hw => by
    induction hw with
    | one hk => exact h2 _ hk hs
    | @on j k v hj hk ih =>
      by_cases e : j = s
      · subst e; exact Int.le_trans (Int.min_le_right _ _) (h2 _ hk hs)
      · have a := ih hj.mem e
        have b := h3 j hj.mem e k hk hs
        have : min v (L j k) ≤ min (D j) (L j k) := by omega
        omega
section
variable {L W : Int → Int → Int} (hw : ∀ i ∈ idxs 5, Widest L i (W i))
include hw
theorem tri {i j k : Int} (hi : i ∈ idxs 5) (hj : j ∈ idxs 5) (hk : k ∈ idxs 5) (h1 : i ≠ j) (h2 : j ≠ k) (h3 : i ≠ k) : min (W i j) (W j k) ≤ W i k :=
  (hw i hi).top k hk (Ne.symm h3) _ (((hw i hi).way j hj (Ne.symm h1)).cat ((hw j hj).way k hk (Ne.symm h2)))
theorem ahead_trans : ∀ i ∈ idxs 5, ∀ j ∈ idxs 5, ∀ k ∈ idxs 5, W j i < W i j → W k j < W j k → W k i < W i k := by
  intro i hi j hj k hk a b
  by_cases e1 : i = j
  · subst e1; omega
  by_cases e2 : j = k
  · subst e2; omega
  by_cases e3 : i = k
  · subst e3; omega
  have t1 := tri hw hi hj hk e1 e2 e3
  have t2 := tri hw hj hk hi e2 (Ne.symm e3) (Ne.symm e1)
  have t3 := tri hw hk hi hj (Ne.symm e3) e1 (Ne.symm e2)
  omega
theorem chosen_ahead (hanti : ∀ i ∈ idxs 5, ∀ j ∈ idxs 5, i ≠ j → L j i = - L i j) : ∀ S : List Int, (∀ i ∈ S, i ∈ idxs 5) → (∀ i ∈ S, ∀ j ∈ idxs 5, j ∉ S → 0 < L i j) → ∀ i ∈ S, ∀ j ∈ idxs 5, j ∉ S → W j i < W i j := by
  intro S hS hpos i hi j hj hn
  have ne : i ≠ j := fun e => hn (e ▸ hi)
  have up : L i j ≤ W i j := (hw i (hS i hi)).top j hj (Ne.symm ne) _ (.one hj)
  have p := hpos i hi j hj hn
  have low : ∀ k v, Way L j k v → k ∈ S → v < 0 := by
    intro k v h
    induction h with
    | one hk =>
      intro hkS
      rename_i k
      have := hpos k hkS j hj hn
      have e := hanti k (hS k hkS) j hj (fun e => hn (e ▸ hkS))
      omega
    | @on a k v ha hk ih =>
      intro hkS
      by_cases haS : a ∈ S
      · have := ih haS; omega
      · have q := hpos k hkS a ha.mem haS
        have e := hanti k (hS k hkS) a ha.mem (fun e => haS (e ▸ hkS))
        omega
  have := low i _ ((hw j hj).way i (hS i hi) ne) hi
  omega
end
end Mine
end
section -- MWay2
namespace Mine

noncomputable def wstep (f : Int → Int → Int) (k : Int) : Int → Int → Int := fun i j => max (f i j) (min (f i k) (f k j))
noncomputable def wars (f : Int → Int → Int) : Nat → Int → Int → Int
  | 0 => f
  | k + 1 => wstep (wars f k) k
noncomputable def tabOf (f : Int → Int → Int) : Int → Int → Int := fun i j => if i = j then 0 else wars f 4 i j
theorem wars_le (f : Int → Int → Int) (i j : Int) : ∀ m, f i j ≤ wars f m i j
  | 0 => Int.le_refl _
  | m + 1 => Int.le_trans (wars_le f i j m) (Int.le_max_left _ _)
theorem wars_up (f : Int → Int → Int) (m : Nat) (i j : Int) : wars f m i j ≤ wars f (m + 1) i j := Int.le_max_left _ _
theorem wars_via (f : Int → Int → Int) (m : Nat) {i j v : Int} (h1 : v ≤ wars f m i m) (h2 : v ≤ wars f m m j) : v ≤ wars f (m + 1) i j := Int.le_trans (Int.le_min.mpr ⟨h1, h2⟩) (Int.le_max_right _ _)
theorem wars_or (f : Int → Int → Int) (m : Nat) {i j v : Int} (h : v ≤ wars f (m + 1) i j) : v ≤ wars f m i j ∨ (v ≤ wars f m i m ∧ v ≤ wars f m m j) := by
  rcases Int.le_total (wars f m i j) (min (wars f m i m) (wars f m m j)) with q | q
  · exact .inr (Int.le_min.mp (Int.le_trans h (Int.le_of_eq (Int.max_eq_right q))))
  · exact .inl (Int.le_trans h (Int.le_of_eq (Int.max_eq_left q)))
theorem wars_closed (f : Int → Int → Int) : ∀ m, ∀ k : Nat, k < m → ∀ i j v : Int, v ≤ wars f m i k → v ≤ wars f m k j → v ≤ wars f m i j
  | 0, k, h, i, j, v, _, _ => absurd h (Nat.not_lt_zero _)
  | m + 1, k, h, i, j, v, h1, h2 => by
    rcases Nat.lt_or_eq_of_le (Nat.le_of_lt_succ h) with hk | e
    · have ih := wars_closed f m k hk
      rcases wars_or f m h1 with p1 | ⟨p1, p2⟩ <;> rcases wars_or f m h2 with q1 | ⟨q1, q2⟩
      · exact Int.le_trans (ih i j v p1 q1) (wars_up f m i j)
      · exact wars_via f m (ih i m v p1 q1) q2
      · exact wars_via f m p1 (ih m j v p2 q1)
      · exact wars_via f m p1 q2
    · subst e
      exact wars_via f k ((wars_or f k h1).elim id (·.1)) ((wars_or f k h2).elim id (·.2))
theorem closed4 (f : Int → Int → Int) {i j k v : Int} (hk : k ∈ idxs 4) (h1 : v ≤ wars f 4 i k) (h2 : v ≤ wars f 4 k j) : v ≤ wars f 4 i j := by
  obtain ⟨q1, q2⟩ := mem_idxs.mp hk
  obtain ⟨n, rfl⟩ := Int.eq_ofNat_of_zero_le q1
  exact wars_closed f 4 n (Int.ofNat_lt.mp q2) i j v h1 h2
theorem up5 {i : Int} (h : i ∈ idxs 4) : i ∈ idxs 5 := by
  obtain ⟨h1, h2⟩ := mem_idxs.mp h
  exact mem_idxs.mpr ⟨h1, by lia⟩
theorem wars_way (L : Int → Int → Int) {i j : Int} (hi : i ∈ idxs 4) (hj : j ∈ idxs 4) : ∀ m, m ≤ 4 → ∀ i ∈ idxs 4, ∀ j ∈ idxs 4, Way L i j (wars L m i j)
  | 0, _, i, hi, j, hj => .one (up5 hj)
  | m + 1, hm, i, hi, j, hj => by
    have ih := wars_way L hi hj m (by lia)
    have mm : (m : Int) ∈ idxs 4 := mem_idxs.mpr ⟨by lia, by lia⟩
    show Way L i j (max (wars L m i j) (min (wars L m i m) (wars L m m j)))
    rcases Int.le_total (wars L m i j) (min (wars L m i m) (wars L m m j)) with h | h
    · rw [Int.max_eq_right h]; exact (ih i hi m mm).cat (ih m mm j hj)
    · rw [Int.max_eq_left h]; exact ih i hi j hj
noncomputable def Twin (L : Int → Int → Int) : Prop := ∀ k ∈ idxs 5, k ≠ 3 → k ≠ 4 → L 4 k = L 3 k ∧ L k 4 = L k 3
section
variable {L W : Int → Int → Int} (hw : ∀ i ∈ idxs 5, Widest L i (W i)) (ht : Twin L)
theorem below4 {k : Int} (h : k ∈ idxs 5) (h4 : k ≠ 4) : k ∈ idxs 4 := by
  obtain ⟨a, b⟩ := mem_idxs.mp h
  exact mem_idxs.mpr ⟨a, by lia⟩
include ht in
theorem way_tab {i : Int} (hi : i ∈ idxs 4) : ∀ k v, Way L i k v → (k ≠ 4 → k ≠ i → v ≤ wars L 4 i k) ∧ (k = 4 → i ≠ 3 → v ≤ wars L 4 i 3) := by
  have i4 : i ≠ 4 := by have := (mem_idxs.mp hi).2; lia
  have m3 : (3 : Int) ∈ idxs 4 := mem_idxs.mpr ⟨by decide, by decide⟩
  intro k v h
  induction h with
  | @one k hk =>
    refine ⟨fun _ _ => wars_le _ _ _ _, fun e h3 => ?_⟩
    subst e
    rw [(ht i (up5 hi) h3 i4).2]; exact wars_le _ _ _ _
  | @on j k u hj hk ih =>
    obtain ⟨ih1, ih2⟩ := ih
    have hjm := hj.mem
    have hl := Int.min_le_left u (L j k)
    have hr := Int.min_le_right u (L j k)
    refine ⟨fun k4 ki => ?_, fun e h3 => ?_⟩
    · by_cases ji : j = i
      · subst ji; exact Int.le_trans hr (wars_le L j k 4)
      by_cases j4 : j = 4
      · subst j4
        by_cases k3 : k = 3
        · subst k3; exact Int.le_trans hl (ih2 rfl (Ne.symm ki))
        · have e1 := Int.le_trans hr (Int.le_of_eq (ht k hk k3 k4).1)
          by_cases i3 : i = 3
          · subst i3; exact Int.le_trans e1 (wars_le L 3 k 4)
          · exact closed4 L m3 (Int.le_trans hl (ih2 rfl i3)) (Int.le_trans e1 (wars_le L 3 k 4))
      · exact closed4 L (below4 hjm j4) (Int.le_trans hl (ih1 j4 ji)) (Int.le_trans hr (wars_le L j k 4))
    · subst e
      by_cases j4 : j = 4
      · exact Int.le_trans hl (ih2 j4 h3)
      by_cases j3 : j = 3
      · subst j3; exact Int.le_trans hl (ih1 j4 (Ne.symm h3))
      have e1 := Int.le_trans hr (Int.le_of_eq (ht j hjm j3 j4).2)
      by_cases ji : j = i
      · subst ji; exact Int.le_trans e1 (wars_le L j 3 4)
      · exact closed4 L (below4 hjm j4) (Int.le_trans hl (ih1 j4 ji)) (Int.le_trans e1 (wars_le L j 3 4))
include hw ht in
theorem ways_tab : ∀ i ∈ idxs 4, ∀ j ∈ idxs 4, W i j = tabOf L i j := by
  intro i hi j hj
  unfold tabOf
  by_cases e : i = j
  · subst e; rw [if_pos rfl]; exact (hw i (up5 hi)).zero
  · rw [if_neg e]
    have j4 : j ≠ 4 := by have := (mem_idxs.mp hj).2; lia
    have a := (way_tab ht hi j _ ((hw i (up5 hi)).way j (up5 hj) (Ne.symm e))).1 j4 (Ne.symm e)
    exact Int.le_antisymm a ((hw i (up5 hi)).top j (up5 hj) (Ne.symm e) _ (wars_way L hi hj 4 (Nat.le_refl _) i hi j hj))
include hw ht in
theorem twin_to {i : Int} (hi : i ∈ idxs 3) : W i 4 = W i 3 := by
  obtain ⟨h1, h2⟩ := mem_idxs.mp hi
  have i5 : i ∈ idxs 5 := mem_idxs.mpr ⟨h1, by lia⟩
  have m3 : (3 : Int) ∈ idxs 5 := mem_idxs.mpr ⟨by lia, by lia⟩
  have m4 : (4 : Int) ∈ idxs 5 := mem_idxs.mpr ⟨by lia, by lia⟩
  have n3 : i ≠ 3 := by lia
  have n4 : i ≠ 4 := by lia
  have i3' : (3 : Int) ≠ i := Ne.symm n3
  have i4' : (4 : Int) ≠ i := Ne.symm n4
  have key : ∀ k v, Way L i k v → (k = 4 → v ≤ W i 3) ∧ (k = 3 → v ≤ W i 4) := by
    intro k v h
    induction h with
    | @one k hk =>
      have e := (ht i i5 n3 n4).2
      exact ⟨fun e1 => by subst e1; rw [e]; exact (hw i i5).top 3 m3 i3' _ (.one m3), fun e1 => by subst e1; rw [← e]; exact (hw i i5).top 4 m4 i4' _ (.one m4)⟩
    | @on j k u hj hk ih =>
      have hl := Int.min_le_left u (L j k)
      refine ⟨fun e1 => ?_, fun e1 => ?_⟩ <;> subst e1
      · by_cases j4 : j = 4
        · exact Int.le_trans hl (ih.1 j4)
        by_cases j3 : j = 3
        · subst j3; exact Int.le_trans hl ((hw i i5).top 3 m3 i3' _ hj)
        · rw [(ht j hj.mem j3 j4).2]; exact (hw i i5).top 3 m3 i3' _ (.on hj m3)
      · by_cases j3 : j = 3
        · exact Int.le_trans hl (ih.2 j3)
        by_cases j4 : j = 4
        · subst j4; exact Int.le_trans hl ((hw i i5).top 4 m4 i4' _ hj)
        · rw [← (ht j hj.mem j3 j4).2]; exact (hw i i5).top 4 m4 i4' _ (.on hj m4)
  exact Int.le_antisymm ((key 4 _ ((hw i i5).way 4 m4 i4')).1 rfl) ((key 3 _ ((hw i i5).way 3 m3 i3')).2 rfl)
include hw ht in
theorem twin_from {k : Int} (hk : k ∈ idxs 3) : W 4 k = W 3 k := by
  have m3 : (3 : Int) ∈ idxs 5 := mem_idxs.mpr ⟨by lia, by lia⟩
  have m4 : (4 : Int) ∈ idxs 5 := mem_idxs.mpr ⟨by lia, by lia⟩
  have side : ∀ s o : Int, s ∈ idxs 5 → o ∈ idxs 5 → (∀ k ∈ idxs 5, k ≠ 3 → k ≠ 4 → L s k = L o k) → (∀ j : Int, (j = 3 ∨ j = 4) ↔ (j = s ∨ j = o)) → ∀ k v, Way L s k v → k ≠ 3 → k ≠ 4 → v ≤ W o k := by
    intro s o hs ho hso hj34 k v h
    induction h with
    | @one k hk =>
      intro k3 k4
      rw [hso k hk k3 k4]
      exact (hw o ho).top k hk (fun e => by rcases (hj34 k).mpr (.inr e) with z | z <;> contradiction) _ (.one hk)
    | @on j k u hj hk ih =>
      intro k3 k4
      have ko : k ≠ o := fun e => by rcases (hj34 k).mpr (.inr e) with z | z <;> contradiction
      by_cases jj : j = 3 ∨ j = 4
      · rcases (hj34 j).mp jj with rfl | rfl
        · have := (hw o ho).top k hk ko _ (.one hk)
          rw [← hso k hk k3 k4] at this
          exact Int.le_trans (Int.min_le_right _ _) this
        · exact Int.le_trans (Int.min_le_right _ _) ((hw j ho).top k hk ko _ (.one hk))
      · have j3 : j ≠ 3 := fun e => jj (.inl e)
        have j4 : j ≠ 4 := fun e => jj (.inr e)
        have jo : j ≠ o := fun e => jj ((hj34 j).mpr (.inr e))
        have a := ih j3 j4
        exact Int.le_trans (Int.le_min.mpr ⟨Int.le_trans (Int.min_le_left _ _) a, Int.min_le_right _ _⟩) ((hw o ho).top k hk ko _ (.on ((hw o ho).way j hj.mem jo) hk))
  obtain ⟨h1, h2⟩ := mem_idxs.mp hk
  have k5 : k ∈ idxs 5 := mem_idxs.mpr ⟨h1, by lia⟩
  have k3 : k ≠ 3 := by lia
  have k4 : k ≠ 4 := by lia
  have a := side 4 3 m4 m3 (fun k hk h3 h4 => (ht k hk h3 h4).1) (fun j => Or.comm) k _ ((hw 4 m4).way k k5 k4) k3 k4
  exact Int.le_antisymm a (side 3 4 m3 m4 (fun k hk h3 h4 => (ht k hk h3 h4).1.symm) (fun j => Iff.rfl) k _ ((hw 3 m3).way k k5 k3) k3 k4)
end
end Mine
end
section -- Said03
set_option maxRecDepth 100000
open PySem PySem.W
namespace Mine
noncomputable abbrev rw0 : OpenLaw := PySem.Challenge.rw_oy0341_03
noncomputable def wp0 (p : Program) : Bool := sreFenced p.main
noncomputable def wp1 (p : Program) : Bool := ((moduleNames p.main.body).isEmpty || lookedIntoSs (moduleNames p.main.body) p.main.body)
noncomputable def wp2 (p : Program) : Bool := namesResolve p
noncomputable def wp3 (p : Program) : Bool := p.boundNames.all fun n => !worldNames.contains n
noncomputable def wp4 (p : Program) : Bool := noRoadLSs { strict := !(importedModules p.main.body).all cThrough.contains, foot := none, bare := List.filter (readsOut p p.main.body) [Str.ofString "vars", Str.ofString "dir", Str.ofString "locals"] } p.main.body
noncomputable def wp5 (p : Program) : Bool := namesMeet p p.main.body fun x n => attrL n
noncomputable def wr0 (r : OpenRow) : Bool := r.loose.isEmpty
noncomputable def wr1 (r : OpenRow) : Bool := r.makers.isEmpty
noncomputable def wr2 (r : OpenRow) : Bool := (List.isEmpty r.records || r.raises.all fun ct => ct.fst != ExcName.builtin "AttributeError" && ct.fst != ExcName.builtin "TypeError")
noncomputable def wr3 (r : OpenRow) : Bool := (r.raises.all fun ct => match ct.fst with | ExcName.builtin n => !r.prog.boundNames.contains (Str.ofString n) && !ofTheWorld.contains n | ExcName.own name => true)
noncomputable def wr4 (r : OpenRow) : Bool := decide (List.map (fun x => x.fst) r.records).Nodup
noncomputable def wr5 (r : OpenRow) : Bool := (List.all r.records fun x => !x.fst.opensWith (Str.ofString "__") && !builtinNamed x.fst && r.prog.boundNames.contains x.fst && x.snd.all fun f => !f.fst.opensWith (Str.ofString "__"))
noncomputable def wr6 (r : OpenRow) : Bool := r.solid
noncomputable def wr7 (r : OpenRow) : Bool := r.pre.litsOk
noncomputable def wr8 (r : OpenRow) : Bool := r.post.litsOk
noncomputable def wr9 (r : OpenRow) : Bool := (r.raises.all fun x => x.snd.litsOk)
noncomputable def wr10 (r : OpenRow) : Bool := (r.mutates.all fun i => match r.args[i]? with | some sh => !sh.arms.any WShape.isObj | none => false)
noncomputable def wr11 (r : OpenRow) : Bool := (r.within.all fun i => decide (i < r.args.length))
noncomputable def wr12 (r : OpenRow) : Bool := Option.all (fun i => decide (i < r.args.length)) r.same
noncomputable def wq0 (r : OpenRow) : Bool := r.prog.boundNames.contains r.name
noncomputable def wq1 (r : OpenRow) : Bool := !startupNames.contains r.name
noncomputable def wl0 (l : OpenLaw) : Bool := decide (l.foot ≤ (behindTheImports l.prog).length)
noncomputable def wl1 (l : OpenLaw) : Bool := l.footing.all footLine
noncomputable def wl2 (l : OpenLaw) : Bool := noClassBlock l.prog l.footing
noncomputable def wl3 (l : OpenLaw) : Bool := l.most.all (fun n => decide (63 ≤ n))
noncomputable def wl4 (l : OpenLaw) : Bool := l.bound.all (fun n => decide (2 ^ 63 ≤ n))
noncomputable def wl5 (l : OpenLaw) : Bool := noRoadLSs { strict := true, foot := some l.bound', writes := l.writes, may := l.may } l.footing
noncomputable def wl6 (l : OpenLaw) : Bool := defStands l.about l.above
noncomputable def wl7 (l : OpenLaw) : Bool := l.namesIt
noncomputable def wl8 (l : OpenLaw) : Bool := (["type", "isinstance", "issubclass", "getattr", "hasattr"] : List Str).all (fun n => l.about != [n])
noncomputable def wl9 (l : OpenLaw) : Bool := l.bound'.all (fun n => !builtinNamed n || l.about == [n] || !l.reads n)
noncomputable def wl10 (l : OpenLaw) : Bool := (!l.writes || (l.prog.main.body.flatMap importedNames).all fun n => !l.reads n)
noncomputable def wl11 (l : OpenLaw) : Bool := (l.prog.main.body.flatMap importedNames).all (fun n => !l.reads n || (drawsOf n l.prog.main.body).all fun mn => mn.2 != ("attrgetter" : Str) && mn.2 != ("methodcaller" : Str))
noncomputable def wl12 (l : OpenLaw) : Bool := namesMeet l.prog l.footing (fun sc n => (!(["type", "isinstance", "issubclass", "getattr", "hasattr"] : List Str).contains n || sc.names.lookup n == some .globalImplicit) && (l.may != some n || sc.kind == .module || sc.names.lookup n == some .globalImplicit))
noncomputable def wl13 (l : OpenLaw) : Bool := l.own.contains l.name
noncomputable def wl14 (l : OpenLaw) : Bool := l.own.eraseDups.length == l.own.length
noncomputable def wl15 (l : OpenLaw) : Bool := l.own.all (fun n => !builtinNamed n)
noncomputable def wl16 (l : OpenLaw) : Bool := namesMeet l.prog l.above (fun _ n => !l.own.contains n)
noncomputable def wl17 (l : OpenLaw) : Bool := namesMeet l.prog l.footing fun sc n => sc.kind == .module || sc.names.lookup n != some .globalExplicit
theorem k_wp0 : kp wp0 = true := by k_qdec
theorem k_wp1 : kp wp1 = true := by k_qdec
theorem k_wp2 : kp wp2 = true := by k_qdec
theorem k_wp3 : kp wp3 = true := by k_qdec
theorem k_wp4 : kp wp4 = true := by k_qdec
theorem k_wp5 : kp wp5 = true := by k_qdec
theorem k_wr2 : kp wr2 = true := by k_qdec
theorem k_wr3 : kp wr3 = true := by k_qdec
theorem k_wr4 : kp wr4 = true := by k_qdec
theorem k_wr5 : kp wr5 = true := by k_qdec
theorem k_wr6 : kp wr6 = true := by k_qdec
theorem k_wr7 : kp wr7 = true := by k_qdec
theorem k_wr8 : kp wr8 = true := by k_qdec
theorem k_wr9 : kp wr9 = true := by k_qdec
theorem k_wr10 : kp wr10 = true := by k_qdec
theorem k_wr11 : kp wr11 = true := by k_qdec
theorem k_wq0 : kp wq0 = true := by k_qdec
theorem k_wq1 : kp wq1 = true := by k_qdec
theorem k_wl1 : kp wl1 = true := by k_qdec
theorem k_wl2 : kp wl2 = true := by k_qdec
theorem k_wl5 : kp wl5 = true := by k_qdec
theorem k_wl6 : kp wl6 = true := by k_qdec
theorem k_wl7 : kp wl7 = true := by k_qdec
theorem k_wl8 : kp wl8 = true := by k_qdec
theorem k_wl9 : kp wl9 = true := by k_qdec
theorem k_wl10 : kp wl10 = true := by k_qdec
theorem k_wl11 : kp wl11 = true := by k_qdec
theorem k_wl12 : kp wl12 = true := by k_qdec
theorem k_wl13 : kp wl13 = true := by k_qdec
theorem k_wl14 : kp wl14 = true := by k_qdec
theorem k_wl15 : kp wl15 = true := by k_qdec
theorem k_wl16 : kp wl16 = true := by k_qdec
theorem k_wl17 : kp wl17 = true := by k_qdec
theorem h_wp0 : wp0 rw0.prog = true := (congrFun PySem.W.Fast.te15111359769918459991 rw0.prog).trans (by kernel_rfl)
theorem h_wp1 : wp1 rw0.prog = true := (congrFun PySem.W.Fast.te16526162900121412443 rw0.prog).trans (by kernel_rfl)
theorem h_wp2 : wp2 rw0.prog = true := (congrFun PySem.W.Fast.te594739685272743019 rw0.prog).trans (by kernel_rfl)
theorem h_wp3 : wp3 rw0.prog = true := (congrFun PySem.W.Fast.te15422705863536451196 rw0.prog).trans (by kernel_rfl)
theorem h_wp4 : wp4 rw0.prog = true := (congrFun PySem.W.Fast.te11513139118620229765 rw0.prog).trans (by kernel_rfl)
theorem h_wp5 : wp5 rw0.prog = true := (congrFun PySem.W.Fast.te13679350982852668744 rw0.prog).trans (by kernel_rfl)
theorem h_wr0 : wr0 rw0.row = true := by kernel_rfl
theorem h_wr1 : wr1 rw0.row = true := by kernel_rfl
theorem h_wr2 : wr2 rw0.row = true := (congrFun PySem.W.Fast.te11994247781096443940 rw0.row).trans (by kernel_rfl)
theorem h_wr3 : wr3 rw0.row = true := (congrFun PySem.W.Fast.te15500742504118518471 rw0.row).trans (by kernel_rfl)
theorem h_wr4 : wr4 rw0.row = true := (congrFun PySem.W.Fast.te4641036004720115021 rw0.row).trans (by kernel_rfl)
theorem h_wr5 : wr5 rw0.row = true := (congrFun PySem.W.Fast.te7310496559448184965 rw0.row).trans (by kernel_rfl)
theorem h_wr6 : wr6 rw0.row = true := (congrFun PySem.W.Fast.te1824204576430984513 rw0.row).trans (by kernel_rfl)
theorem h_wr7 : wr7 rw0.row = true := (congrFun PySem.W.Fast.te8535658797672622344 rw0.row).trans (by kernel_rfl)
theorem h_wr8 : wr8 rw0.row = true := (congrFun PySem.W.Fast.te10149393951260109162 rw0.row).trans (by kernel_rfl)
theorem h_wr9 : wr9 rw0.row = true := (congrFun PySem.W.Fast.te11695400962906718828 rw0.row).trans (by kernel_rfl)
theorem h_wr10 : wr10 rw0.row = true := (congrFun PySem.W.Fast.te6492854678714226546 rw0.row).trans (by kernel_rfl)
theorem h_wr11 : wr11 rw0.row = true := (congrFun PySem.W.Fast.te10559224450199896128 rw0.row).trans (by kernel_rfl)
theorem h_wr12 : wr12 rw0.row = true := by kernel_rfl
theorem h_wq0 : wq0 rw0.row = true := (congrFun PySem.W.Fast.te10631548004941772442 rw0.row).trans (by kernel_rfl)
theorem h_wq1 : wq1 rw0.row = true := (congrFun PySem.W.Fast.te11594581842879670084 rw0.row).trans (by kernel_rfl)
theorem h_wl0 : wl0 rw0 = true := by kernel_rfl
theorem h_wl1 : wl1 rw0 = true := (congrFun PySem.W.Fast.te15944679267144286686 rw0).trans (by kernel_rfl)
theorem h_wl2 : wl2 rw0 = true := (congrFun PySem.W.Fast.te18102010416871866950 rw0).trans (by kernel_rfl)
theorem h_wl3 : wl3 rw0 = true := by kernel_rfl
theorem h_wl4 : wl4 rw0 = true := by kernel_rfl
theorem h_wl5 : wl5 rw0 = true := (congrFun PySem.W.Fast.te5795134821187236666 rw0).trans (by kernel_rfl)
theorem h_wl6 : wl6 rw0 = true := (congrFun PySem.W.Fast.te12750548047858743217 rw0).trans (by kernel_rfl)
theorem h_wl7 : wl7 rw0 = true := (congrFun PySem.W.Fast.te4839841088211550549 rw0).trans (by kernel_rfl)
theorem h_wl8 : wl8 rw0 = true := (congrFun PySem.W.Fast.te561981074350916578 rw0).trans (by kernel_rfl)
theorem h_wl9 : wl9 rw0 = true := (congrFun PySem.W.Fast.te13298990681996205226 rw0).trans (by kernel_rfl)
theorem h_wl10 : wl10 rw0 = true := (congrFun PySem.W.Fast.te9047539717123533738 rw0).trans (by kernel_rfl)
theorem h_wl11 : wl11 rw0 = true := (congrFun PySem.W.Fast.te12239576629043324071 rw0).trans (by kernel_rfl)
theorem h_wl12 : wl12 rw0 = true := (congrFun PySem.W.Fast.te15760723585558012177 rw0).trans (by kernel_rfl)
theorem h_wl13 : wl13 rw0 = true := (congrFun PySem.W.Fast.te13037177091574829013 rw0).trans (by kernel_rfl)
theorem h_wl14 : wl14 rw0 = true := (congrFun PySem.W.Fast.te18300399794730339745 rw0).trans (by kernel_rfl)
theorem h_wl15 : wl15 rw0 = true := (congrFun PySem.W.Fast.te7915956316035508148 rw0).trans (by kernel_rfl)
theorem h_wl16 : wl16 rw0 = true := (congrFun PySem.W.Fast.te2101936035261840402 rw0).trans (by kernel_rfl)
theorem h_wl17 : wl17 rw0 = true := (congrFun PySem.W.Fast.te6172010356438100095 rw0).trans (by kernel_rfl)
theorem said_looks : looksOpen rw0.prog = true := (look_both (look_both (look_both (look_both (look_both h_wp0 h_wp1) h_wp2) h_wp3) h_wp4) h_wp5)
theorem said_part : rw0.row.partSaid = true := (look_both (look_both (look_both (look_both (look_both (look_both (look_both (look_both (look_both (look_both (look_both (look_both (look_both said_looks h_wr0) h_wr1) h_wr2) h_wr3) h_wr4) h_wr5) h_wr6) h_wr7) h_wr8) h_wr9) h_wr10) h_wr11) h_wr12)
theorem said_row : rw0.row.wellSaid = true := (look_both (look_both said_part h_wq0) h_wq1)
theorem wellSaid : PySem.Challenge.rw_oy0341_03.wellSaid = true := (look_both (look_both (look_both (look_both (look_both (look_both (look_both (look_both (look_both (look_both (look_both (look_both (look_both (look_both (look_both (look_both (look_both (look_both said_row h_wl0) h_wl1) h_wl2) h_wl3) h_wl4) h_wl5) h_wl6) h_wl7) h_wl8) h_wl9) h_wl10) h_wl11) h_wl12) h_wl13) h_wl14) h_wl15) h_wl16) h_wl17)
end Mine
end
section
namespace Mine
-- MLex

set_option maxRecDepth 100000
set_option maxHeartbeats 4000000
open PySem PySem.W PyProof.Rows

noncomputable abbrev gv (vars : List (Str × V)) (x : Str) : Option V := vars.lookup x
noncomputable def thn (C : Fx) (r : List Stmt) (Q : FlowA → St → Prop) (f : FlowA) (st : St) : Prop := match f with
  | .next => JX C r st Q
  | f => Q f st
section
variable {C : Fx} {st : St} {r : List Stmt} {Q : FlowA → St → Prop}
theorem x_seq {b : Stmt} (h : JX1 C b st (thn C r Q)) : JX C (b :: r) st Q := x_cons h
theorem thn_next (h : JX C r st Q) : thn C r Q .next st := h
theorem thn_ret {v : V} (h : Q (.ret v) st) : thn C r Q (.ret v) st := h
theorem thn_brk (h : Q .brk st) : thn C r Q .brk st := h
end
noncomputable abbrev HB (C : Fx) : Prop := BaseK (K C.w.params) C.base

section
variable {P : Params}
theorem cls_sio : ClsK (K P) 632 := ⟨by kernel_rfl, by kernel_rfl, by kernel_rfl, by kernel_rfl⟩
theorem cls_shl : ClsK (K P) 767 := ⟨by kernel_rfl, by kernel_rfl, by kernel_rfl, by kernel_rfl⟩
noncomputable def sioNames : List Str := ["_StringIO__newline", "_StringIO__buf", "_StringIO__pos"]
theorem sio_at : (sioNames.all fun x => findIn (K P) (.ref 632) x == some none) = true := by kernel_rfl
theorem sio_none {x : Str} (h : sioNames.contains x = true) : findIn (K P) (.ref 632) x = some none := beq_iff_eq.mp (List.all_eq_true.mp sio_at x (List.contains_iff_mem.mp h))
noncomputable def shlNames : List Str := ["instream", "infile", "posix", "eof", "commenters", "wordchars", "whitespace", "whitespace_split", "quotes", "escape", "escapedquotes", "state", "pushback", "lineno", "debug", "token", "filestack", "source", "_punctuation_chars"]
theorem shl_at : (shlNames.all fun x => findIn (K P) (.ref 767) x == some none) = true := by kernel_rfl
theorem shl_none {x : Str} (h : shlNames.contains x = true) : findIn (K P) (.ref 767) x = some none := beq_iff_eq.mp (List.all_eq_true.mp shl_at x (List.contains_iff_mem.mp h))
structure MethK (K : Frag) (c : Addr) (x : Str) (f : Addr) : Prop where
  find : findIn K (.ref c) x = some (some (.ref f))
  typ : typeIn K (.ref f) = some (.type "function")
  keep : keepIn K (.ref f) = true
theorem m_read : MethK (K P) 632 "read" 578 := ⟨by kernel_rfl, by kernel_rfl, by kernel_rfl⟩
theorem m_check : MethK (K P) 632 "_StringIO__check" 416 := ⟨by kernel_rfl, by kernel_rfl, by kernel_rfl⟩
theorem m_trans : MethK (K P) 632 "_StringIO__translated" 409 := ⟨by kernel_rfl, by kernel_rfl, by kernel_rfl⟩
theorem m_rdtok : MethK (K P) 767 "read_token" 735 := ⟨by kernel_rfl, by kernel_rfl, by kernel_rfl⟩
theorem m_gettok : MethK (K P) 767 "get_token" 728 := ⟨by kernel_rfl, by kernel_rfl, by kernel_rfl⟩
variable {B : PH}
theorem t_len (H : BaseK (K P) B) : Blt B "len" (.builtin "len") := H.blt (by kernel_rfl) (by kernel_rfl) (by decide)
theorem t_type (H : BaseK (K P) B) : Blt B "type" (.type "type") := H.blt (by kernel_rfl) (by kernel_rfl) (by decide)
theorem t_int (H : BaseK (K P) B) : Blt B "int" (.type "int") := H.blt (by kernel_rfl) (by kernel_rfl) (by decide)
theorem t_str (H : BaseK (K P) B) : Blt B "str" (.type "str") := H.blt (by kernel_rfl) (by kernel_rfl) (by decide)
theorem t_isinst (H : BaseK (K P) B) : Blt B "isinstance" (.builtin "isinstance") := H.blt (by kernel_rfl) (by kernel_rfl) (by decide)
theorem t_object (H : BaseK (K P) B) : Blt B "object" (.type "object") := H.blt (by kernel_rfl) (by kernel_rfl) (by decide)
theorem g_index (H : BaseK (K P) B) : Glo B "_index" (.ref 98) := H.glo (by kernel_rfl)
theorem g_deque (H : BaseK (K P) B) : Glo B "deque" (.type "collections.deque") := H.glo (by kernel_rfl)
noncomputable abbrev fd_index : FuncData := fnF "_index" "_index" pb 13 .none (.str (Str.ofString "io") 426) (.ref 97)
theorem f_index (H : BaseK (K P) B) : Fn0 B 98 fd_index (bodyAt pb 13) := H.fn0 (o := fnO "_index" "_index" pb 13 .none (.str (Str.ofString "io") 426) (.ref 97)) (by kernel_rfl) rfl rfl (by kernel_rfl) (by decide +kernel) rfl rfl rfl rfl
noncomputable abbrev fd_check : FuncData := fnF "__check" "StringIO.__check" (clsBody pb 19) 3 .none (.str (Str.ofString "io") 426) (.ref 415)
theorem f_check (H : BaseK (K P) B) : Fn0 B 416 fd_check (bodyAt (clsBody pb 19) 3) := H.fn0 (o := fnO "__check" "StringIO.__check" (clsBody pb 19) 3 .none (.str (Str.ofString "io") 426) (.ref 415)) (by kernel_rfl) rfl rfl (by kernel_rfl) (by decide +kernel) rfl rfl rfl rfl
noncomputable abbrev fd_read : FuncData := fnF "read" "StringIO.read" (clsBody pb 19) 25 (.ref 571) (.str (Str.ofString "io") 426) (.ref 577)
theorem f_read (H : BaseK (K P) B) : Fn0 B 578 fd_read (bodyAt (clsBody pb 19) 25) := H.fn0 (o := fnO "read" "StringIO.read" (clsBody pb 19) 25 (.ref 571) (.str (Str.ofString "io") 426) (.ref 577)) (by kernel_rfl) rfl rfl (by kernel_rfl) (by decide +kernel) rfl rfl rfl rfl
end

-- a name's value
local macro_rules | `(tactic| walk_at "lk") => `(tactic| first
  | assumption
  | rfl
  | with_reducible exact lk_here _ _ _
  | (refine lk_hop (by kernel_rfl) ?_; walk_at "lk")
  | (refine lk_in (by rfl) ?_; walk_at "lk")
  | exact lk_here _ _ _)
local macro_rules | `(tactic| walk_at "hp") => `(tactic| first
  | assumption
  | exact upd_self _ _ _
  | (refine hp_hop (by first | assumption | (apply Ne.symm; assumption)) ?_; walk_at "hp"))
-- a test that is decided
local macro_rules | `(tactic| walk_at "br") => `(tactic| first
  | (refine And.intro (fun _ => ?_) (fun h => absurd h (by decide)))
  | (refine And.intro (fun h => absurd h (by decide)) (fun _ => ?_))
  | (refine And.intro ?ya ?yb; (case yb => intro h; cases h; done); (case' ya => intro _))
  | (refine And.intro ?ya ?yb; (case ya => intro h; cases h; done); (case' yb => intro _)))
local macro_rules | `(tactic| walk_at "w") => `(tactic| first
  | ((with_reducible show J _ _ (eval (.Name _ _)) _ _); refine ev_Name (by walk_at "lk") (by rfl) ?_)
  | ((with_reducible show J _ VRs (fun env => spliced (backTo _ (starEach (_ :: _) env))) _ _); refine l_cons ?_)
  | (with_reducible first | refine l_nil ?_ | refine ev_Const_int ?_ | refine ev_Const_str ?_ | refine ev_Const_none ?_ | refine ev_Const_bool ?_ | refine ev_BinOp ?_ | refine ev_UnaryOp ?_ | refine ev_IfExp ?_)
  | ((fail_if_success (with_reducible show J _ _ (eval (.Subscript _ (.Slice _ _ _ _) _)) _ _)); with_reducible refine ev_Subscript ?_)
  | ((with_reducible show J _ _ (eval (.Compare _ [_] [_] _)) _ _); refine ev_Compare ?_)
  | ((with_reducible show J _ _ (fun env => isTrue (.Compare _ [_] [_] _) env _) _ _); refine tt_Compare ?_)
  | ((with_reducible show J _ _ (fun env => isTrue (.UnaryOp .Not _ _) env _) _ _); refine tt_Not ?_)
  | ((with_reducible show J _ _ (fun env => isTrue (.BoolOp _ _ _) env _) _ _); refine tt_Bool ?_)
  | ((with_reducible first | show J _ _ (fun env => isTrue (.Name _ _) env _) _ _ | show J _ _ (fun env => isTrue (.Attribute _ _ _) env _) _ _); refine tt_value ?_)
  | (with_reducible first | refine ta_cons ?_ | refine to_cons ?_ | refine ta_nil ?_ | refine to_nil ?_ | refine tr_bool ?_ | refine tr_none ?_ | refine tr_deq ?_ | refine op_mod (by decide) ?_ | refine op_fdiv (by decide) (by decide) ?_ | refine op_and ?_ | refine op_or ?_ | refine ip_or ?_ | refine ip_sub ?_)
  | ((with_reducible show J _ _ (eval (.List _ _)) _ _); refine ev_List ?_)
  | ((with_reducible show J _ _ (eval (.Tuple _ _ _)) _ _); refine ev_Tuple ?_)
  | (with_reducible first | refine op_neg ?_ | refine op_gt ?_ | refine op_lt ?_ | refine op_ge ?_ | refine op_le ?_ | refine op_add ?_ | refine op_sub ?_ | refine ip_add ?_ | refine op_eqS ?_ | refine op_neS ?_ | refine op_inS ?_ | refine op_eqSN ?_ | refine op_eqNN ?_ | refine isnot_types ?_)
  | ((with_reducible show JV _ _ [_, .none] (two (compareOp .Is)) _ _); refine is_none ?_)
  | ((with_reducible show JV _ _ [_, .none] (two (compareOp .IsNot)) _ _); refine isnot_none ?_)
  | ((with_reducible show (_ = true → _) ∧ (_ = false → _)); walk_at "br")
  | (with_reducible refine thn_next ?_; try dsimp only)
  | (with_reducible first | refine x_nil ?_ | refine thn_ret ?_ | refine thn_brk ?_ | refine thn_cont ?_ | refine x_seq ?_ | refine x_AugAttr ?_ | refine x_If ?_ | refine x_Return ?_ | refine x_Break ?_ | refine x_Continue ?_)
  | ((with_reducible show J _ rFlow (exec (.Assign [.Name _ _] _ _)) _ _); refine x_Assign ?_ (by rfl))
  | ((with_reducible show J _ rFlow (exec (.Assign [.Attribute _ _ _] _ _)) _ _); refine x_SetAttr ?_)
  | ((with_reducible show J _ rFlow (exec (.AugAssign (.Name _ _) _ _ _)) _ _); refine x_AugAssign (by walk_at "lk") (by rfl) ?_)
  | ((with_reducible show J _ rFlow (exec (.Expr _ _)) _ _); refine x_Expr ?_)
  | ((with_reducible show J _ _ (eval (.Attribute _ _ _)) _ _); refine ev_Attr ?_))

section
variable {C : Fx} {st : St}
theorem c_index (H : HB C) (hd : C.d ≤ 900) {n : Int} {w : Str} (h1 : -1000 ≤ n) (h2 : n ≤ 1000) {Q : V → St → Prop} (h : Q (.int n) st) : JV C VR [.int n, .str w] (fun ws => call (.ref 98) ws) st Q := by
  refine JC.jv (code_fn0 (vars := [("n", .int n), ("what", .str w)]) (f_index H) (by lia) (show parOk fd_index.scope ["n", "what"] = true by decide +kernel) (fun env Z R ρ s ws hs hw => ?_) ?_)
  · obtain ⟨x, y, rfl, r1, r2⟩ := inv2 hw
    exact ⟨_, BindsTo.of_eq rfl, .cons r1 (.cons r2 .nil)⟩
  · refine x_seq ?_
    repeat walk_at "w"
    refine ev_CallT (t_type H) (by rfl) ?_
    repeat walk_at "w"
    refine ty_int ?_
    refine ev_Blt (t_int H) (by rfl) ?_
    repeat walk_at "w"
    refine ev_CallT (t_int H) (by rfl) ?_
    repeat walk_at "w"
    refine int_int ?_
    repeat walk_at "w"
    refine ⟨fun hc => absurd hc (by simp; lia), fun _ => ?_⟩
    repeat walk_at "w"
    refine ⟨fun hc => absurd hc (by simp; lia), fun _ => ?_⟩
    repeat walk_at "w"
    exact h

theorem ev_CallG {f : Str} {p pos : Pos} {es : List Expr} {a : Addr} {K : Frag} {Q : V → St → Prop} (H : BaseK K C.base) (hg : Glo C.base f (.ref a)) (hkeep : keepIn K (.ref a) = true) (hk : C.sc.names.lookup f = some .globalImplicit)
    (h : JL C pos es st fun vs st₁ => JV C VR vs (fun ws => call (.ref a) ws) st₁ Q)
    (he : ∀ env, (backTo pos (starEach es env)).any (·.1) = false := by intro _; rfl) (hd : (f == ("__debug__" : Str)) = false := by decide) : J C VR (eval (.Call (.Name f p) es [] pos)) st Q :=
  ev_CallC H hg hkeep hk h he hd

noncomputable def SIO (buf : Str) (p : Int) : List (Str × V) := [("_StringIO__newline", .str "\n"), ("_StringIO__buf", .str buf), ("_StringIO__pos", .int p)]

theorem c_check (H : HB C) (hd : C.d ≤ 900) {n : Nat} {buf : Str} {p : Int} (hn : st.heap n = some (.ns (SIO buf p))) {Q : V → St → Prop} (h : Q .none st) : JV C VR [.inst 632 n] (fun ws => call (.ref 416) ws) st Q := by
  refine JC.jv (code_fn0 (vars := [("self", .inst 632 n)]) (f_check H) (by lia) (show parOk fd_check.scope ["self"] = true by decide +kernel) (fun env Z R ρ s ws hs hw => ?_) ?_)
  · obtain ⟨x, rfl, r1⟩ := inv1 hw
    exact ⟨_, BindsTo.of_eq rfl, .cons r1 .nil⟩
  · refine x_seq ?_
    repeat walk_at "w"
    refine at_get H cls_sio (sio_none (by kernel_rfl)) hn (by rfl) ?_
    repeat walk_at "w"
    exact h

theorem Txt_slice {x : Str} {i j : Nat} (h1 : i ≤ j) (h2 : j ≤ x.length) : Txt.slice x (some (i : Int)) (some (j : Int)) = ⟨((x.cps.toList.drop i).take (j - i)).toArray⟩ := by
  have h := slice_closes (x := x) (i := i) (j := j) ⟨by lia, by lia, by show (j : Int) ≤ (x.cps.toList.length : Nat); rw [Array.length_toList]; exact_mod_cast h2⟩
  have := beq_iff_eq.mp h
  rw [this]
  simp only [Int.toNat_natCast]
  congr 3
  lia

theorem c_read (H : HB C) (hd : C.d ≤ 800) {n : Nat} {buf : Str} {p : Nat} (hn : st.heap n = some (.ns (SIO buf p))) (hsz : buf.length ≤ 100000) (hp : p ≤ buf.length) {Q : V → St → Prop}
    (h1 : ∀ c, buf.cps.toList[p]? = some c → Q (.str ⟨#[c]⟩) { st with heap := upd st.heap n (.ns (SIO buf ((p + 1 : Nat) : Int))) }) (h0 : p = buf.length → Q (.str (Str.ofString "")) st) :
    JV C VR [.inst 632 n, .int 1] (fun ws => call (.ref 578) ws) st Q := by
  refine JC.jv (code_fn0 (vars := [("self", .inst 632 n), ("size", .int 1)]) (f_read H) (by lia) (show parOk fd_read.scope ["self", "size"] = true by decide +kernel) (fun env Z R ρ s ws hs hw => ?_) ?_)
  · obtain ⟨x, y, rfl, r1, r2⟩ := inv2 hw
    exact ⟨_, binds_K (hs.knows H.inK) rfl (show (K C.w.params).lookup 571 = some _ from rfl) rfl rfl rfl, .cons r1 (.cons r2 .nil)⟩
  · refine x_seq ?_
    repeat walk_at "w"
    refine ev_CallG (a := 98) (H := H) (g_index H) (by kernel_rfl) (by rfl) ?_
    repeat walk_at "w"
    refine c_index (C := C.into _) H (show C.d + 1 ≤ 900 from dk hd (by decide)) (by lia) (by lia) ?_
    repeat walk_at "w"
    refine ev_MethI H cls_sio m_check.find m_check.typ m_check.keep ?_
    repeat walk_at "w"
    refine ⟨⟨n, _, rfl, hn, by rfl⟩, ?_⟩
    repeat walk_at "w"
    refine c_check (C := C.into _) H (show C.d + 1 ≤ 900 from dk hd (by decide)) (by exact hn) ?_
    refine ⟨rfl, ?_⟩
    repeat walk_at "w"
    refine at_get (C := C.into _) H cls_sio (sio_none (by kernel_rfl)) (by exact hn) (by rfl) ?_
    repeat walk_at "w"
    refine ev_CallB (C := C.into _) (t_len H) (by rfl) ?_
    repeat walk_at "w"
    refine at_get (C := C.into _) H cls_sio (sio_none (by kernel_rfl)) (by exact hn) (by rfl) ?_
    repeat walk_at "w"
    refine b_lenS (by rw [sizeLine_eq]; lia) ?_
    repeat walk_at "w"
    refine ⟨fun hc => ?_, fun hc => ?_⟩
    · have hc : (buf.length : Int) ≤ p := of_decide_eq_true hc
      repeat walk_at "w"
      exact h0 (by lia)
    · have hc : ¬ (buf.length : Int) ≤ p := of_decide_eq_false hc
      have hp' : p < buf.length := by lia
      obtain ⟨c, hcc⟩ : ∃ c, buf.cps.toList[p]? = some c := ⟨_, List.getElem?_eq_getElem (by rw [Array.length_toList]; exact hp')⟩
      have hsl : Txt.slice buf (some (p : Int)) (some ((p + 1 : Nat) : Int)) = ⟨#[c]⟩ := by
        rw [Txt_slice (by lia) (by lia)]
        congr 1
        have : p + 1 - p = 1 := by lia
        rw [this, List.take_one, List.head?_drop, hcc]
        rfl
      have fin : ∀ vars, gv vars "self" = some (.inst 632 n) → gv vars "start" = some (.int p) → gv vars "stop" = some (.int ((p + 1 : Nat) : Int)) →
          JX (C.into fd_read.scope) ((bodyAt (clsBody pb 19) 25).drop 7) ⟨vars, st.heap, st.nx⟩ (fun f st' => Q (retV f) ⟨st.vars, st'.heap, st'.nx⟩) := by
        intro vars g1 g2 g3
        refine x_seq ?_
        repeat walk_at "w"
        refine at_set (C := C.into _) H cls_sio (sio_none (by kernel_rfl)) (by exact hn) (by show 3 ≤ 900; lia) ?_
        refine thn_next (x_seq ?_)
        repeat walk_at "w"
        refine ev_SliceS ?_
        repeat walk_at "w"
        refine at_get (C := C.into _) H cls_sio (sio_none (by kernel_rfl)) (upd_self _ _ _) (by rfl) ?_
        repeat walk_at "w"
        refine ⟨buf, p, ((p + 1 : Nat) : Int), rfl, rfl, rfl, by rw [sizeLine_eq]; lia, ?_⟩
        rw [hsl]
        exact h1 c hcc
      repeat walk_at "w"
      refine ⟨fun hq => ?_, fun hq => ?_⟩
      · iterate 8 walk_at "w"
        have e : (p : Int) + 1 = ((p + 1 : Nat) : Int) := by lia
        rw [e]
        iterate 3 walk_at "w"
        exact fin _ (by walk_at "lk") (by walk_at "lk") (by walk_at "lk")
      · have hq : ¬ (p : Int) + 1 < buf.length := of_decide_eq_false hq
        iterate 3 walk_at "w"
        have e : (buf.length : Int) = ((p + 1 : Nat) : Int) := by lia
        rw [e]
        exact fin _ (by walk_at "lk") (by walk_at "lk") (by walk_at "lk")
end
-- MHeap

set_option maxRecDepth 100000
open PySem PySem.W PyProof.Rows

noncomputable def LtOk (P : V → Prop) (lt : V → V → Bool) : Prop := ∀ (C : Fx) (st : St) (Q : V → St → Prop) (a b : V), C.d ≤ 800 → C.u ≤ 5000 → P a → P b → Q (.bool (lt a b)) st → JV C VR [a, b] (two (compareOp .Lt)) st Q


noncomputable def sdown (lt : V → V → Bool) (x : V) (k : Nat) (xs : List V) : List V :=
  if h : k = 0 then xs.set 0 x else
    match xs[(k - 1) / 2]? with
    | some y => if lt x y then sdown lt x ((k - 1) / 2) (xs.set k y) else xs.set k x
    | none => xs.set k x
termination_by k
decreasing_by lia

theorem upd_same {α : Type} {H : Nat → Option α} {n : Nat} {x : α} (h : H n = some x) : upd H n x = H := by
  funext k; unfold upd; split
  · rename_i q; rw [q, h]
  · rfl
theorem upd_upd {α : Type} (H : Nat → Option α) (n : Nat) (x y : α) : upd (upd H n x) n y = upd H n y := by
  funext k; unfold upd; split <;> rfl

-- one step of an expression
local macro_rules | `(tactic| walk_at "e") => `(tactic| first
  | refine ev_Name (by walk_at "lk") (by rfl) ?_
  | refine ev_Const_int ?_
  | refine ev_BinOp ?_
  | refine ev_Compare ?_
  | refine ev_Subscript ?_
  | refine tt_Compare ?_
  | refine op_sub ?_
  | refine op_add ?_
  | refine op_gt ?_
  | refine op_lt ?_
  | refine tr_bool ?_)

inductive SdnI (lt : V → V → Bool) (P : V → Prop) (heap : Nat → Option AO) (n nx : Nat) (xs : List V) (x : V) (k m : Nat) (st' : St) : Prop
  | mk (k' : Nat) (xs' : List V) (vars : List (Str × V)) (e : st' = ⟨vars, upd heap n (.list xs'), nx⟩) (e2 : m = k') (h1 : gv vars "heap" = some (.obj n)) (h2 : gv vars "pos" = some (.int k')) (h3 : gv vars "newitem" = some x) (h4 : gv vars "startpos" = some (.int 0))
    (h5 : k' < xs'.length) (h6 : xs'.length = xs.length) (h7 : ∀ y ∈ xs', P y) (h8 : sdown lt x k' xs' = sdown lt x k xs)
theorem siftdown_body (P : V → Prop) (lt : V → V → Bool) (hlt : LtOk P lt) (C : Fx) (hsc : C.sc = scopeAt pb 6) (hd : C.d ≤ 800) (hu : C.u ≤ 5000) (st : St) (n : Nat) (xs : List V) (k : Nat) (x : V)
    (hv : st.vars = [(("heap" : Str), V.obj n), (("startpos" : Str), V.int 0), (("pos" : Str), V.int k)]) (hh : st.heap n = some (.list xs)) (hk : xs[k]? = some x) (hP : ∀ y ∈ xs, P y) (hsz : xs.length ≤ 1000)
    (Q : FlowA → St → Prop) (h : ∀ vars, Q .next { st with vars := vars, heap := upd st.heap n (.list (sdown lt x k xs)) }) : JX C (bodyAt pb 6) st Q := by
  obtain ⟨prog, w, os, base, d, u, sc, gp, pin⟩ := C
  obtain rfl : sc = scopeAt pb 6 := hsc
  obtain ⟨vars, heap, nx⟩ := st
  obtain rfl : vars = _ := hv
  have hkl := (List.getElem?_eq_some_iff.mp hk).1
  -- behind the loop: the last row
  have key : ∀ (vars : List (Str × V)) (k' : Nat) (xs' : List V), gv vars "heap" = some (.obj n) → gv vars "pos" = some (.int k') → gv vars "newitem" = some x → k' < xs'.length → xs'.length = xs.length → xs'.set k' x = sdown lt x k xs →
      JX ⟨prog, w, os, base, d, u, scopeAt pb 6, gp, pin⟩ ((bodyAt pb 6).drop 2) ⟨vars, upd heap n (.list xs'), nx⟩ Q := by
    intro vars k' xs' h1 h2 h3 h4 h5 h6
    refine x_cons (x_SetItem ?_)
    walk_at "e"
    walk_at "e"
    walk_at "e"
    refine set_obj (upd_self ..) (by lia) (by lia) (by lia) ?_
    refine x_nil ?_
    rw [upd_upd, Int.toNat_natCast, h6]
    exact h vars
  refine x_cons (x_Assign ?_ (by rfl))
  walk_at "e"
  walk_at "e"
  walk_at "e"
  refine sub_obj hh (by lia) (by simpa using hk) (by lia) ?_
  refine x_cons (x_While (SdnI lt P heap n nx xs x k) k ?_ ?_)
  · refine ⟨k, xs, _, by rw [upd_same hh], rfl, by rfl, by rfl, by rfl, by rfl, hkl, rfl, hP, rfl⟩
  · rintro m st' ⟨k', xs', vars, rfl, rfl, h1, h2, h3, h4, h5, h6, h7, h8⟩
    have hPx : P x := hP x (List.mem_of_getElem? hk)
    walk_at "e"
    walk_at "e"
    walk_at "e"
    walk_at "e"
    walk_at "e"
    refine ⟨fun hc => ?_, fun hc => ?_⟩
    · have hk' : 0 < m := by simpa using hc
      have hp : (m - 1) / 2 < xs'.length := by lia
      obtain ⟨y, hy⟩ : ∃ y, xs'[(m - 1) / 2]? = some y := ⟨_, List.getElem?_eq_getElem hp⟩
      refine x_cons (x_Assign ?_ (by rfl))
      walk_at "e"
      walk_at "e"
      walk_at "e"
      walk_at "e"
      walk_at "e"
      walk_at "e"
      refine op_rshift1 (by lia) ?_
      have e1 : ((m : Int) - 1) / 2 = (((m - 1) / 2 : Nat) : Int) := by lia
      rw [e1]
      refine x_cons (x_Assign ?_ (by rfl))
      walk_at "e"
      walk_at "e"
      walk_at "e"
      refine sub_obj (upd_self ..) (by lia) (by rw [Int.toNat_natCast]; exact hy) (by lia) ?_
      refine x_cons (x_If ?_)
      walk_at "e"
      walk_at "e"
      walk_at "e"
      refine hlt _ _ _ _ _ hd hu hPx (h7 y (List.mem_of_getElem? hy)) ?_
      walk_at "e"
      have hs : sdown lt x m xs' = if lt x y then sdown lt x ((m - 1) / 2) (xs'.set m y) else xs'.set m x := by
        rw [sdown, dif_neg (by lia)]; simp only [hy]
      refine ⟨fun hc => ?_, fun hc => ?_⟩
      · rw [if_pos hc] at hs
        refine x_cons (x_SetItem ?_)
        walk_at "e"
        walk_at "e"
        walk_at "e"
        refine set_obj (upd_self ..) (by lia) (by lia) (by lia) ?_
        refine x_cons (x_Assign ?_ (by rfl))
        walk_at "e"
        refine x_cons (x_Continue ?_)
        refine ⟨(m - 1) / 2, by lia, (m - 1) / 2, xs'.set m y, _, by dsimp only; rw [upd_upd, Int.toNat_natCast], rfl, by walk_at "lk", by walk_at "lk", by walk_at "lk", by walk_at "lk", by simp; lia, by simp [h6], fun z hz => ?_, by rw [← hs, h8]⟩
        rcases List.mem_or_eq_of_mem_set hz with q | q
        · exact h7 z q
        · rw [q]; exact h7 y (List.mem_of_getElem? hy)
      · rw [if_neg (by rw [hc]; simp)] at hs
        refine x_nil ?_
        refine x_cons (x_Break ?_)
        exact key _ m xs' (by walk_at "lk") (by walk_at "lk") (by walk_at "lk") h5 h6 (by rw [← hs, h8])
    · have hk' : m = 0 := by simp at hc; lia
      subst hk'
      refine x_nil ?_
      have := key vars 0 xs' h1 h2 h3 h5 h6 (by rw [← h8]; unfold sdown; rw [dif_pos rfl])
      exact this
-- MLex2

set_option maxRecDepth 100000
set_option maxHeartbeats 4000000
open PySem PySem.W PyProof.Rows



local macro_rules | `(tactic| walk_at "at") => `(tactic| (refine at_get (by assumption) cls_shl (shl_none (by kernel_rfl)) (by walk_at "hp") (by rfl) ?_))

noncomputable def LX (wc : Str) (m : Nat) (state : V) (tok : Str) (l : Int) : List (Str × V) :=
  [("instream", .inst 632 m), ("infile", .none), ("posix", .bool true), ("eof", .none), ("commenters", .str "#"), ("wordchars", .str wc), ("whitespace", .str " \t\r\n"), ("whitespace_split", .bool false), ("quotes", .str "'\""), ("escape", .str "\\"),
   ("escapedquotes", .str "\""), ("state", state), ("pushback", .deq), ("lineno", .int l), ("debug", .int 0), ("token", .str tok), ("filestack", .deq), ("source", .none), ("_punctuation_chars", .str "")]

section
variable {P : Params} {B : PH}
noncomputable abbrev fd_punct : FuncData := fnF "punctuation_chars" "shlex.punctuation_chars" (clsBody pb 29) 1 .none (.str (Str.ofString "cpy313.shlex") 1142) (.ref 697)
theorem f_punct (H : BaseK (K P) B) : Fn0 B 698 fd_punct (bodyAt (clsBody pb 29) 1) := H.fn0 (o := fnO "punctuation_chars" "shlex.punctuation_chars" (clsBody pb 29) 1 .none (.str (Str.ofString "cpy313.shlex") 1142) (.ref 697)) (by kernel_rfl) rfl rfl (by kernel_rfl) (by decide +kernel) rfl rfl rfl rfl
theorem p_find : findIn (K P) (.ref 767) "punctuation_chars" = some (some (.ref 699)) := by kernel_rfl
theorem p_get : specialIn (K P) (.ref 699) "__get__" = some (some (.builtin "property.__get__")) := by kernel_rfl
theorem p_takes : takesIn (K P) (.ref 699) = some true := by kernel_rfl
theorem p_rec : recIn (K P) 699 "property" = some (.ref 698 :: [.none, .none, .none, .str (Str.ofString "punctuation_chars") 1175, .bool false]) := by kernel_rfl
end

section
variable {C : Fx} {st : St}
theorem op_in1 {c : Nat} {x : Str} {Q : V → St → Prop} (h : Q (.bool (decide (c ∈ x.cps.toList))) st) : JV C VR [.str ⟨#[c]⟩, .str x] (two (compareOp .In)) st Q :=
  op_inS (by rw [StrLaws.found_one]; exact h)
theorem eq1 (c k : Nat) {x : Str} (hx : x = ⟨#[k]⟩) : ((⟨#[c]⟩ : Str) == x) = decide (c = k) := by
  subst hx
  rw [Bool.eq_iff_iff, beq_iff_eq, decide_eq_true_eq]
  exact ⟨fun h => by injection h with h; simpa using h, fun h => by rw [h]⟩
theorem op_in1t {c : Nat} {x : Str} {Q : V → St → Prop} (l : List Nat) (hl : x.cps.toList = l) (hm : c ∈ l) (h : Q (.bool true) st) : JV C VR [.str ⟨#[c]⟩, .str x] (two (compareOp .In)) st Q :=
  op_in1 (by rw [hl, decide_eq_true hm]; exact h)
theorem op_in1f {c : Nat} {x : Str} {Q : V → St → Prop} (l : List Nat) (hl : x.cps.toList = l) (hm : c ∉ l) (h : Q (.bool false) st) : JV C VR [.str ⟨#[c]⟩, .str x] (two (compareOp .In)) st Q :=
  op_in1 (by rw [hl, decide_eq_false hm]; exact h)
theorem tr_one {c : Nat} {Q : Bool → St → Prop} (h : Q true st) : JV C rBool [.str ⟨#[c]⟩] (one truthy) st Q := tr_str (by rw [sizeLine_eq]; show 1 ≤ _; decide) h
theorem l_ws : (Str.ofString " \t\r\n").cps.toList = [32, 9, 13, 10] := by decide +kernel
theorem l_com : (Str.ofString "#").cps.toList = [35] := by decide +kernel
theorem l_esc : (Str.ofString "\\").cps.toList = [92] := by decide +kernel
theorem l_quo : (Str.ofString "'\"").cps.toList = [39, 34] := by decide +kernel

theorem c_punct (H : HB C) (hd : C.d ≤ 800) {n m : Nat} {wc tok : Str} {state : V} {l : Int} (hn : st.heap n = some (.ns (LX wc m state tok l))) {Q : V → St → Prop} (h : Q (.str "") st) : JV C VR [.inst 767 n] (one fun w => getAttr w "punctuation_chars" true) st Q := by
  refine at_prop H cls_shl hn p_find p_get p_takes p_rec ?_
  refine code_fn0 (vars := [("self", .inst 767 n)]) (f_punct H) (by show C.d < 1000; lia) (show parOk fd_punct.scope ["self"] = true by decide +kernel) (fun env Z R ρ s ws hs hw => ?_) ?_
  · obtain ⟨x, rfl, r1⟩ := inv1 hw
    exact ⟨_, BindsTo.of_eq rfl, .cons r1 .nil⟩
  · refine x_seq ?_
    repeat walk_at "w"
    walk_at "at"
    exact ⟨rfl, h⟩

noncomputable def whB : Option Stmt → List Stmt
  | some (.While _ b _ _) => b
  | _ => []
noncomputable abbrev tbody : List Stmt := whB (bodyAt (clsBody pb 29) 6)[2]?
noncomputable abbrev scRT : Scope := scopeAt (clsBody pb 29) 6

structure LVars (n : Nat) (qd : Bool) (vars : List (Str × V)) : Prop where
  self : gv vars "self" = some (.inst 767 n)
  quoted : gv vars "quoted" = some (.bool qd)
  esc : gv vars "escapedstate" = some (.str " ")
structure LState (H₀ : Nat → Option AO) (n m : Nat) (wc buf : Str) (state : V) (tok : Str) (l : Int) (p : Nat) (H : Nat → Option AO) : Prop where
  lex : H n = some (.ns (LX wc m state tok l))
  io : H m = some (.ns (SIO buf p))
  rest : ∀ k, k ≠ n → k ≠ m → H k = H₀ k

structure LC (C : Fx) (n m : Nat) (buf : Str) : Prop where
  H : HB C
  sc : C.sc = scRT
  d : C.d ≤ 700
  ne : n ≠ m
  sz : buf.length ≤ 100000

theorem pre_c {n m : Nat} {wc buf : Str} {qd : Bool} {state : V} {tok : Str} {l : Int} {p : Nat} {vars : List (Str × V)} {H₀ H : Nat → Option AO} {nx c : Nat} {Q : FlowA → St → Prop} (L : LC C n m buf) (hv : LVars n qd vars) (hs : LState H₀ n m wc buf state tok l p H)
    (hc : buf.cps.toList[p]? = some c)
    (h : ∀ vars' H', LVars n qd vars' → gv vars' "nextchar" = some (.str ⟨#[c]⟩) → LState H₀ n m wc buf state tok (if c = 10 then l + 1 else l) (p + 1) H' → JX C (tbody.drop 3) ⟨vars', H', nx⟩ Q) : JX C tbody ⟨vars, H, nx⟩ Q := by
  obtain ⟨prog, w, os, base, d, u, sc, gp, pin⟩ := C
  obtain ⟨HBc, hsc, hd, hne, hsz⟩ := L
  obtain rfl : sc = scRT := hsc
  obtain ⟨g1, g2, g3⟩ := hv
  obtain ⟨e1, e2, e3⟩ := hs
  have hlt : p < buf.length := by have := (List.getElem?_eq_some_iff.mp hc).1; rwa [Array.length_toList] at this
  refine x_seq ?_
  repeat walk_at "w"
  refine c_punct (by exact HBc) (by show d ≤ 800; exact Nat.le_trans hd (by decide)) (by exact e1) ?_
  refine tr_str (by decide) ?_
  repeat walk_at "w"
  refine ev_MethI HBc cls_sio m_read.find m_read.typ m_read.keep ?_
  repeat walk_at "w"
  walk_at "at"
  refine ⟨⟨m, _, rfl, e2, by rfl⟩, ?_⟩
  repeat walk_at "w"
  refine c_read (by exact HBc) (by show d ≤ 800; exact Nat.le_trans hd (by decide)) (by exact e2) hsz (by lia) (fun c' hc' => ?_) (fun h => absurd h (by lia))
  obtain rfl : c = c' := by rw [hc] at hc'; exact Option.some.inj hc'
  repeat walk_at "w"
  rw [eq1 c 10 (by decide)]
  have fin : ∀ H' l', LState H₀ n m wc buf state tok l' (p + 1) H' → l' = (if c = 10 then l + 1 else l) →
      JX ⟨prog, w, os, base, d, u, scRT, gp, pin⟩ (tbody.drop 2) ⟨setv "nextchar" (.str ⟨#[c]⟩) vars, H', nx⟩ Q := by
    intro H' l' hs' el
    obtain ⟨k1, k2, k3⟩ := id hs'
    refine x_seq ?_
    repeat walk_at "w"
    walk_at "at"
    iterate 6 walk_at "w"
    refine h _ _ ⟨?_, ?_, ?_⟩ ?_ (el ▸ hs')
    all_goals walk_at "lk"
  refine ⟨fun hq => ?_, fun hq => ?_⟩
  · have hq := of_decide_eq_true hq
    refine x_seq ?_
    walk_at "w"
    walk_at "w"
    walk_at "at"
    walk_at "w"
    walk_at "w"
    refine at_set (by assumption) cls_shl (shl_none (by kernel_rfl)) (by walk_at "hp") (by show 19 ≤ 900; decide) ?_
    iterate 3 walk_at "w"
    exact fin _ (l + 1) ⟨by walk_at "hp", by walk_at "hp", fun k h1 h2 => (upd_ne _ _ h1).trans ((upd_ne _ _ h2).trans (e3 k h1 h2))⟩ (by rw [if_pos hq])
  · have hq := of_decide_eq_false hq
    iterate 2 walk_at "w"
    exact fin _ l ⟨by walk_at "hp", by walk_at "hp", fun k h1 h2 => (upd_ne _ _ h2).trans (e3 k h1 h2)⟩ (by rw [if_neg hq])

theorem pre_e {n m : Nat} {wc buf : Str} {qd : Bool} {state : V} {tok : Str} {l : Int} {p : Nat} {vars : List (Str × V)} {H₀ H : Nat → Option AO} {nx : Nat} {Q : FlowA → St → Prop} (L : LC C n m buf) (hv : LVars n qd vars) (hs : LState H₀ n m wc buf state tok l p H)
    (hp : p = buf.length)
    (h : ∀ vars', LVars n qd vars' → gv vars' "nextchar" = some (.str "") → JX C (tbody.drop 3) ⟨vars', H, nx⟩ Q) : JX C tbody ⟨vars, H, nx⟩ Q := by
  obtain ⟨prog, w, os, base, d, u, sc, gp, pin⟩ := C
  obtain ⟨HBc, hsc, hd, hne, hsz⟩ := L
  obtain rfl : sc = scRT := hsc
  obtain ⟨g1, g2, g3⟩ := hv
  obtain ⟨e1, e2, e3⟩ := hs
  refine x_seq ?_
  repeat walk_at "w"
  refine c_punct (by exact HBc) (by show d ≤ 800; exact Nat.le_trans hd (by decide)) (by exact e1) ?_
  refine tr_str (by decide) ?_
  repeat walk_at "w"
  refine ev_MethI HBc cls_sio m_read.find m_read.typ m_read.keep ?_
  repeat walk_at "w"
  walk_at "at"
  refine ⟨⟨m, _, rfl, e2, by rfl⟩, ?_⟩
  repeat walk_at "w"
  refine c_read (by exact HBc) (by show d ≤ 800; exact Nat.le_trans hd (by decide)) (by exact e2) hsz (by lia) (fun c' hc' => ?_) (fun _ => ?_)
  · have := (List.getElem?_eq_some_iff.mp hc').1
    rw [Array.length_toList] at this
    exact absurd this (by rw [hp]; exact Nat.lt_irrefl _)
  repeat walk_at "w"
  walk_at "at"
  iterate 6 walk_at "w"
  refine h _ ⟨?_, ?_, ?_⟩ ?_
  all_goals walk_at "lk"

theorem set_tok (H : HB C) {n m : Nat} {wc t u : Str} {s : V} {l : Int} {Q : Unit → St → Prop} (hn : st.heap n = some (.ns (LX wc m s t l))) (h : Q () { st with heap := upd st.heap n (.ns (LX wc m s u l)) }) : JV C rUnit [.inst 767 n, .str u] (two fun a b => setAttr a "token" b) st Q :=
  at_set H cls_shl (shl_none (by kernel_rfl)) hn (by show 19 ≤ 900; decide) h
theorem set_state (H : HB C) {n m : Nat} {wc t : Str} {s u : V} {l : Int} {Q : Unit → St → Prop} (hn : st.heap n = some (.ns (LX wc m s t l))) (h : Q () { st with heap := upd st.heap n (.ns (LX wc m u t l)) }) : JV C rUnit [.inst 767 n, u] (two fun a b => setAttr a "state" b) st Q :=
  at_set H cls_shl (shl_none (by kernel_rfl)) hn (by show 19 ≤ 900; decide) h
end
local macro_rules | `(tactic| walk_at "st") => `(tactic| first
  | refine set_tok (by assumption) (by walk_at "hp") ?_
  | refine set_state (by assumption) (by walk_at "hp") ?_
  | refine set_line (by assumption) (by walk_at "hp") ?_)
section
variable {C : Fx} {st : St}

theorem it_word {n m : Nat} {wc buf : Str} {qd : Bool} {tok : Str} {l : Int} {p : Nat} {vars : List (Str × V)} {H₀ H : Nat → Option AO} {nx c : Nat} {Q : FlowA → St → Prop} (L : LC C n m buf) (hv : LVars n qd vars) (hs : LState H₀ n m wc buf (.str " ") tok l p H)
    (hc : buf.cps.toList[p]? = some c) (h97 : 97 ≤ c) (h122 : c ≤ 122) (hw : c ∈ wc.cps.toList)
    (h : ∀ vars' H', LVars n qd vars' → LState H₀ n m wc buf (.str "a") ⟨#[c]⟩ l (p + 1) H' → Q .next ⟨vars', H', nx⟩) : JX C tbody ⟨vars, H, nx⟩ Q := by
  refine pre_c L hv hs hc fun vars H hv hx hs => ?_
  rw [if_neg (by lia)] at hs
  obtain ⟨prog, w, os, base, d, u, sc, gp, pin⟩ := C
  obtain ⟨HBc, hsc, hd, hne, hsz⟩ := L
  obtain rfl : sc = scRT := hsc
  obtain ⟨g1, g2, g3⟩ := hv
  obtain ⟨e1, e2, e3⟩ := hs
  refine x_seq ?_
  repeat walk_at "w"
  walk_at "at"
  repeat walk_at "w"
  walk_at "at"
  repeat walk_at "w"
  refine tr_one ?_
  repeat walk_at "w"
  walk_at "at"
  refine op_in1f _ l_ws (by simp; lia) ?_
  repeat walk_at "w"
  walk_at "at"
  refine op_in1f _ l_com (by simp; lia) ?_
  repeat walk_at "w"
  walk_at "at"
  repeat walk_at "w"
  walk_at "at"
  refine op_in1f _ l_esc (by simp; lia) ?_
  repeat walk_at "w"
  walk_at "at"
  refine op_in1t _ rfl hw ?_
  repeat walk_at "w"
  walk_at "st"
  repeat walk_at "w"
  walk_at "st"
  repeat walk_at "w"
  refine h _ _ ⟨?_, ?_, ?_⟩ ⟨?_, ?_, fun k h1 h2 => ?_⟩
  · walk_at "lk"
  · walk_at "lk"
  · walk_at "lk"
  · walk_at "hp"
  · walk_at "hp"
  · exact (upd_ne _ _ h1).trans ((upd_ne _ _ h1).trans (e3 k h1 h2))

theorem it_quote {n m : Nat} {wc buf : Str} {qd : Bool} {tok : Str} {l : Int} {p : Nat} {vars : List (Str × V)} {H₀ H : Nat → Option AO} {nx c : Nat} {Q : FlowA → St → Prop} (L : LC C n m buf) (hv : LVars n qd vars) (hs : LState H₀ n m wc buf (.str " ") tok l p H)
    (hc : buf.cps.toList[p]? = some c) (hq : c = 39) (hw : c ∉ wc.cps.toList)
    (h : ∀ vars' H', LVars n qd vars' → LState H₀ n m wc buf (.str "'") tok l (p + 1) H' → Q .next ⟨vars', H', nx⟩) : JX C tbody ⟨vars, H, nx⟩ Q := by
  refine pre_c L hv hs hc fun vars H hv hx hs => ?_
  rw [if_neg (by lia)] at hs
  obtain ⟨prog, w, os, base, d, u, sc, gp, pin⟩ := C
  obtain ⟨HBc, hsc, hd, hne, hsz⟩ := L
  obtain rfl : sc = scRT := hsc
  obtain ⟨g1, g2, g3⟩ := hv
  obtain ⟨e1, e2, e3⟩ := hs
  refine x_seq ?_
  repeat walk_at "w"
  walk_at "at"
  repeat walk_at "w"
  walk_at "at"
  repeat walk_at "w"
  refine tr_one ?_
  repeat walk_at "w"
  walk_at "at"
  refine op_in1f _ l_ws (by simp; lia) ?_
  repeat walk_at "w"
  walk_at "at"
  refine op_in1f _ l_com (by simp; lia) ?_
  repeat walk_at "w"
  walk_at "at"
  repeat walk_at "w"
  walk_at "at"
  refine op_in1f _ l_esc (by simp; lia) ?_
  repeat walk_at "w"
  walk_at "at"
  refine op_in1f _ rfl hw ?_
  repeat walk_at "w"
  refine c_punct (by exact HBc) (by show d ≤ 800; exact Nat.le_trans hd (by decide)) (by exact e1) ?_
  refine op_in1f [] (by decide) (by simp) ?_
  repeat walk_at "w"
  walk_at "at"
  refine op_in1t _ l_quo (by simp; lia) ?_
  repeat walk_at "w"
  walk_at "at"
  repeat walk_at "w"
  subst hq
  walk_at "st"
  repeat walk_at "w"
  refine h _ _ ⟨?_, ?_, ?_⟩ ⟨?_, ?_, fun k h1 h2 => ?_⟩
  · walk_at "lk"
  · walk_at "lk"
  · walk_at "lk"
  · exact upd_self _ _ _
  · walk_at "hp"
  · exact (upd_ne _ _ h1).trans (e3 k h1 h2)

theorem it_in {n m : Nat} {wc buf : Str} {qd : Bool} {tok : Str} {l : Int} {p : Nat} {vars : List (Str × V)} {H₀ H : Nat → Option AO} {nx c : Nat} {Q : FlowA → St → Prop} (L : LC C n m buf) (hv : LVars n qd vars) {q : Nat} (hs : LState H₀ n m wc buf (.str ⟨#[q]⟩) tok l p H)
    (hc : buf.cps.toList[p]? = some c) (hq : q = 39 ∨ q = 34) (hcq : c ≠ q) (h92 : c ≠ 92) (h10 : c ≠ 10) (hts : tok.length ≤ 100000)
    (h : ∀ vars' H', LVars n true vars' → LState H₀ n m wc buf (.str ⟨#[q]⟩) (tok ++ ⟨#[c]⟩) l (p + 1) H' → Q .next ⟨vars', H', nx⟩) : JX C tbody ⟨vars, H, nx⟩ Q := by
  refine pre_c L hv hs hc fun vars H hv hx hs => ?_
  rw [if_neg h10] at hs
  obtain ⟨prog, w, os, base, d, u, sc, gp, pin⟩ := C
  obtain ⟨HBc, hsc, hd, hne, hsz⟩ := L
  obtain rfl : sc = scRT := hsc
  obtain ⟨g1, g2, g3⟩ := hv
  obtain ⟨e1, e2, e3⟩ := hs
  refine x_seq ?_
  repeat walk_at "w"
  walk_at "at"
  repeat walk_at "w"
  walk_at "at"
  repeat walk_at "w"
  rw [eq1 q 32 (by decide)]
  refine ⟨fun hh => absurd (of_decide_eq_true hh) (by lia), fun _ => ?_⟩
  repeat walk_at "w"
  walk_at "at"
  repeat walk_at "w"
  walk_at "at"
  refine op_in1t _ l_quo (by simp; lia) ?_
  repeat walk_at "w"
  refine tr_one ?_
  repeat walk_at "w"
  walk_at "at"
  repeat walk_at "w"
  rw [eq1 c q rfl]
  refine ⟨fun hh => absurd (of_decide_eq_true hh) hcq, fun _ => ?_⟩
  repeat walk_at "w"
  walk_at "at"
  repeat walk_at "w"
  walk_at "at"
  refine op_in1f _ l_esc (by simp; lia) ?_
  repeat walk_at "w"
  walk_at "at"
  repeat walk_at "w"
  refine ip_addS (by rw [sizeLine_eq]; show tok.length + 1 ≤ _; lia) ?_
  walk_at "st"
  repeat walk_at "w"
  refine h _ _ ⟨?_, ?_, ?_⟩ ⟨?_, ?_, fun k h1 h2 => ?_⟩
  · walk_at "lk"
  · walk_at "lk"
  · walk_at "lk"
  · walk_at "hp"
  · walk_at "hp"
  · exact (upd_ne _ _ h1).trans (e3 k h1 h2)
end
-- MHeap2

set_option maxRecDepth 100000
set_option maxHeartbeats 8000000
open PySem PySem.W PyProof.Rows

noncomputable def supc (lt : V → V → Bool) (xs : List V) (c : Nat) : Nat := if c + 1 < xs.length ∧ lt (xs.getD c .none) (xs.getD (c + 1) .none) = false then c + 1 else c
theorem supc_lt (lt : V → V → Bool) (xs : List V) {c : Nat} (h : c < xs.length) : supc lt xs c < xs.length ∧ c ≤ supc lt xs c := by
  unfold supc; split <;> lia
noncomputable def sup (lt : V → V → Bool) (k : Nat) (xs : List V) : List V × Nat :=
  if h : 2 * k + 1 < xs.length then sup lt (supc lt xs (2 * k + 1)) (xs.set k (xs.getD (supc lt xs (2 * k + 1)) .none)) else (xs, k)
termination_by xs.length - k
decreasing_by
  have := supc_lt lt xs h
  simp only [List.length_set]
  lia

-- one step of an expression
local macro_rules | `(tactic| walk_at "e") => `(tactic| first
  | refine ev_Name (by walk_at "lk") (by rfl) ?_
  | refine ev_Const_int ?_
  | refine ev_BinOp ?_
  | refine ev_Compare ?_
  | refine ev_Subscript ?_
  | refine tt_Compare ?_
  | refine tt_And2 ?_
  | refine tt_Not ?_
  | refine op_sub ?_
  | refine op_add ?_
  | refine op_gt ?_
  | refine op_lt ?_
  | refine tr_bool ?_)

inductive SupI (lt : V → V → Bool) (P : V → Prop) (heap : Nat → Option AO) (n nx : Nat) (xs : List V) (x : V) (m : Nat) (st' : St) : Prop
  | mk (k' : Nat) (xs' : List V) (vars : List (Str × V)) (e1 : st' = ⟨vars, upd heap n (.list xs'), nx⟩) (e2 : m = xs.length - k') (h1 : gv vars "heap" = some (.obj n)) (h2 : gv vars "pos" = some (.int k')) (h3 : gv vars "newitem" = some x) (h4 : gv vars "startpos" = some (.int 0))
    (h5 : gv vars "endpos" = some (.int xs.length)) (h6 : gv vars "childpos" = some (.int (2 * k' + 1))) (h7 : k' < xs'.length) (h8 : xs'.length = xs.length) (h9 : ∀ y ∈ xs', P y) (h10 : sup lt k' xs' = sup lt 0 xs)
noncomputable def nextOnly (I : St → Prop) : FlowA → St → Prop
  | .next, st => I st
  | _, _ => False
theorem getD_of {xs : List V} {i : Nat} (h : i < xs.length) : xs[i]? = some (xs.getD i .none) := by
  rw [List.getD_eq_getElem?_getD, List.getElem?_eq_getElem h]; rfl

theorem siftup_body (P : V → Prop) (lt : V → V → Bool) (hlt : LtOk P lt) (C : Fx) (hsc : C.sc = scopeAt pb 7) (hd : C.d ≤ 700) (hu : C.u ≤ 4000) (a al : Addr) (fd : FuncData) (hg : Glo C.base "_siftdown" (.ref a)) (F : Fn C.base a fd (bodyAt pb 6) ["heap", "startpos", "pos"]) (hfs : fd.scope = scopeAt pb 6)
    (hlen : Blt C.base "len" (.builtin "len"))
    (st : St) (n : Nat) (xs : List V) (x : V)
    (hv : st.vars = [(("heap" : Str), V.obj n), (("pos" : Str), V.int 0)]) (hh : st.heap n = some (.list xs)) (hk : xs[0]? = some x) (hP : ∀ y ∈ xs, P y) (hsz : xs.length ≤ 1000)
    (Q : FlowA → St → Prop) (h : ∀ vars, Q .next { st with vars := vars, heap := upd st.heap n (.list (sdown lt x (sup lt 0 xs).2 ((sup lt 0 xs).1.set (sup lt 0 xs).2 x))) }) : JX C (bodyAt pb 7) st Q := by
  obtain ⟨prog, w, os, base, d, u, sc, gp, pin⟩ := C
  obtain rfl : sc = scopeAt pb 7 := hsc
  obtain ⟨vars, heap, nx⟩ := st
  obtain rfl : vars = _ := hv
  have hkl := (List.getElem?_eq_some_iff.mp hk).1
  refine x_cons (x_Assign ?_ (by rfl))
  refine ev_CallB hlen (by rfl) ?_
  refine l_cons ?_
  walk_at "e"
  refine l_nil ?_
  refine b_len (xs := xs) hh (by lia) ?_
  refine x_cons (x_Assign ?_ (by rfl))
  walk_at "e"
  refine x_cons (x_Assign ?_ (by rfl))
  walk_at "e"
  walk_at "e"
  walk_at "e"
  refine sub_obj hh (by lia) (by simpa using hk) (by lia) ?_
  refine x_cons (x_Assign ?_ (by rfl))
  walk_at "e"
  walk_at "e"
  walk_at "e"
  walk_at "e"
  refine op_mul ?_ (IntMulOk.of_left (by decide))
  walk_at "e"
  walk_at "e"
  refine x_cons (x_While (SupI lt P heap n nx xs x) (xs.length - 0) ?_ ?_)
  · refine ⟨0, xs, _, by rw [upd_same hh], rfl, by rfl, by rfl, by rfl, by rfl, by rfl, by rfl, hkl, rfl, hP, rfl⟩
  · rintro m st' ⟨k', xs', vars, rfl, rfl, h1, h2, h3, h4, h9, h10, h5, h6, h7, h8⟩
    have hPx : P x := hP x (List.mem_of_getElem? hk)
    walk_at "e"
    walk_at "e"
    walk_at "e"
    walk_at "e"
    walk_at "e"
    refine ⟨fun hc => ?_, fun hc => ?_⟩
    · have hc' : 2 * k' + 1 < xs'.length := by have := of_decide_eq_true hc; lia
      obtain ⟨s1, s2⟩ := supc_lt lt xs' hc'
      have hs : sup lt k' xs' = sup lt (supc lt xs' (2 * k' + 1)) (xs'.set k' (xs'.getD (supc lt xs' (2 * k' + 1)) .none)) := by rw [sup, dif_pos hc']
      have hmem : ∀ i, i < xs'.length → P (xs'.getD i .none) := fun i hi => h7 _ (List.mem_of_getElem? (getD_of hi))
      refine x_cons (x_Assign ?_ (by rfl))
      walk_at "e"
      walk_at "e"
      walk_at "e"
      walk_at "e"
      -- behind the choice
      have go : ∀ (vars' : List (Str × V)) (c : Nat) (ci : Int), ci = (c : Int) → c = supc lt xs' (2 * k' + 1) → gv vars' "heap" = some (.obj n) → gv vars' "pos" = some (.int k') → gv vars' "newitem" = some x → gv vars' "startpos" = some (.int 0) → gv vars' "endpos" = some (.int xs.length) → gv vars' "childpos" = some (.int ci) →
          JX ⟨prog, w, os, base, d, u, scopeAt pb 7, gp, pin⟩ ((whB (bodyAt pb 7)[4]?).drop 2) ⟨vars', upd heap n (.list xs'), nx⟩ (nextOnly fun st₂ => ∃ m', m' < xs.length - k' ∧ SupI lt P heap n nx xs x m' st₂) := by
        intro vars' c ci eci ec g1 g2 g3 g4 g5 g6
        subst eci
        subst ec
        refine x_cons (x_SetItem ?_)
        walk_at "e"
        walk_at "e"
        walk_at "e"
        refine sub_obj (upd_self ..) (by lia) (by rw [Int.toNat_natCast]; exact getD_of s1) (by lia) ?_
        walk_at "e"
        walk_at "e"
        refine set_obj (upd_self ..) (by lia) (by lia) (by lia) ?_
        refine x_cons (x_Assign ?_ (by rfl))
        walk_at "e"
        refine x_cons (x_Assign ?_ (by rfl))
        walk_at "e"
        walk_at "e"
        walk_at "e"
        walk_at "e"
        refine op_mul ?_ (IntMulOk.of_left (by decide))
        walk_at "e"
        walk_at "e"
        refine x_nil ?_
        refine ⟨xs.length - supc lt xs' (2 * k' + 1), by lia, supc lt xs' (2 * k' + 1), _, _, by dsimp only; rw [upd_upd, Int.toNat_natCast], rfl, by walk_at "lk", by walk_at "lk", by walk_at "lk", by walk_at "lk", by walk_at "lk", by walk_at "lk", by simp; lia, by simp [h6], fun z hz => ?_, by rw [← hs, h8]⟩
        rcases List.mem_or_eq_of_mem_set hz with q | q
        · exact h7 z q
        · rw [q]; exact hmem _ s1
      refine x_cons (x_If ?_)
      walk_at "e"
      walk_at "e"
      walk_at "e"
      walk_at "e"
      walk_at "e"
      walk_at "e"
      have ec1 : (2 * (k' : Int) + 1).toNat = 2 * k' + 1 := by lia
      have ec2 : (2 * (k' : Int) + 1 + 1).toNat = 2 * k' + 1 + 1 := by lia
      refine ⟨fun hr => ?_, fun hr => ?_⟩
      · have hr' : 2 * k' + 1 + 1 < xs'.length := by have := of_decide_eq_true hr; lia
        walk_at "e"
        walk_at "e"
        walk_at "e"
        walk_at "e"
        walk_at "e"
        refine sub_obj (upd_self ..) (by lia) (by rw [ec1]; exact getD_of hc') (by lia) ?_
        walk_at "e"
        walk_at "e"
        walk_at "e"
        refine sub_obj (upd_self ..) (by lia) (by rw [ec2]; exact getD_of hr') (by lia) ?_
        refine hlt _ _ _ _ _ (by show d ≤ 800; exact Nat.le_trans hd (by decide)) (by show u ≤ 5000; exact Nat.le_trans hu (by decide)) (hmem _ hc') (hmem _ hr') ?_
        walk_at "e"
        refine ⟨fun hq => ?_, fun hq => ?_⟩
        · refine x_cons (x_Assign ?_ (by rfl))
          walk_at "e"
          refine x_nil ?_
          refine J.mono (go _ (2 * k' + 1 + 1) (2 * (k' : Int) + 1 + 1) (by lia) ?_ (by walk_at "lk") (by walk_at "lk") (by walk_at "lk") (by walk_at "lk") (by walk_at "lk") (by walk_at "lk")) (fun f st₂ hf => by cases f with | next => exact hf | _ => exact hf.elim)
          unfold supc; rw [if_pos ⟨hr', by simpa using hq⟩]
        · refine x_nil ?_
          refine J.mono (go _ (2 * k' + 1) (2 * (k' : Int) + 1) (by lia) ?_ (by walk_at "lk") (by walk_at "lk") (by walk_at "lk") (by walk_at "lk") (by walk_at "lk") (by walk_at "lk")) (fun f st₂ hf => by cases f with | next => exact hf | _ => exact hf.elim)
          unfold supc; rw [if_neg (by simp at hq; simp [hq])]
      · refine ⟨fun hq => (by cases hq), fun _ => ?_⟩
        refine x_nil ?_
        have hr' : ¬ 2 * k' + 1 + 1 < xs'.length := by have := of_decide_eq_false hr; lia
        refine J.mono (go _ (2 * k' + 1) (2 * (k' : Int) + 1) (by lia) ?_ (by walk_at "lk") (by walk_at "lk") (by walk_at "lk") (by walk_at "lk") (by walk_at "lk") (by walk_at "lk")) (fun f st₂ hf => by cases f with | next => exact hf | _ => exact hf.elim)
        unfold supc; rw [if_neg (by simp [hr'])]
    · have hc' : ¬ 2 * k' + 1 < xs'.length := by have := of_decide_eq_false hc; lia
      have hs : sup lt k' xs' = (xs', k') := by rw [sup, dif_neg hc']
      rw [hs] at h8
      refine x_nil ?_
      refine x_cons (x_SetItem ?_)
      walk_at "e"
      walk_at "e"
      walk_at "e"
      refine set_obj (upd_self ..) (by lia) (by lia) (by lia) ?_
      refine x_cons (x_Expr ?_)
      refine ev_CallFn hg F (by rfl) ?_
      refine l_cons ?_
      walk_at "e"
      refine l_cons ?_
      walk_at "e"
      refine l_cons ?_
      walk_at "e"
      refine l_nil ?_
      rw [upd_upd, Int.toNat_natCast]
      refine call_fn F (by show d < 1000; exact Nat.lt_of_le_of_lt hd (by decide)) rfl ?_
      refine siftdown_body P lt hlt _ hfs (by show d + 1 ≤ 800; exact Nat.succ_le_of_lt (Nat.lt_of_le_of_lt hd (by decide))) (by show u + 3 ≤ 5000; exact Nat.le_trans (Nat.add_le_add_right hu 3) (by decide)) _ n (xs'.set k' x) k' x rfl (upd_self ..) (by rw [List.getElem?_set_self h5]) (fun z hz => ?_) (by simp; lia) _ (fun vs => ?_)
      · rcases List.mem_or_eq_of_mem_set hz with q | q
        · exact h7 z q
        · rw [q]; exact hPx
      · refine ⟨rfl, x_nil ?_⟩
        have := h vars
        rw [← h8] at this
        dsimp only
        rw [upd_upd]
        exact this
-- MHeap3

set_option maxRecDepth 100000
set_option maxHeartbeats 8000000
open PySem PySem.W PyProof.Rows


theorem heappush_body (P : V → Prop) (lt : V → V → Bool) (hlt : LtOk P lt) (C : Fx) (hsc : C.sc = scopeAt pb 4) (hd : C.d ≤ 700) (hu : C.u ≤ 4000) (a : Addr) (fd : FuncData) (hg : Glo C.base "_siftdown" (.ref a)) (F : Fn C.base a fd (bodyAt pb 6) ["heap", "startpos", "pos"]) (hfs : fd.scope = scopeAt pb 6)
    (hlen : Blt C.base "len" (.builtin "len"))
    (st : St) (n : Nat) (xs : List V) (x : V)
    (hv : st.vars = [(("heap" : Str), V.obj n), (("item" : Str), x)]) (hh : st.heap n = some (.list xs)) (hP : ∀ y ∈ xs, P y) (hPx : P x) (hsz : xs.length < 1000)
    (Q : FlowA → St → Prop) (h : Q .next { st with heap := upd st.heap n (.list (sdown lt x xs.length (xs ++ [x]))) }) : JX C (bodyAt pb 4) st Q := by
  obtain ⟨prog, w, os, base, d, u, sc, gp, pin⟩ := C
  obtain rfl : sc = scopeAt pb 4 := hsc
  obtain ⟨vars, heap, nx⟩ := st
  obtain rfl : vars = _ := hv
  refine x_cons (x_Expr ?_)
  refine ev_MethO PySem.F.slot_list_append PySem.F.type_list_append ?_
  walk_at "e"
  refine ⟨⟨n, xs, rfl, hh⟩, ?_⟩
  refine l_cons ?_
  walk_at "e"
  refine l_nil ?_
  refine m_append hh (by have : sizeLine ≥ 1000 := by decide
                         lia) ?_
  refine ⟨rfl, ?_⟩
  refine x_cons (x_Expr ?_)
  refine ev_CallFn hg F (by rfl) ?_
  refine l_cons ?_
  walk_at "e"
  refine l_cons ?_
  walk_at "e"
  refine l_cons ?_
  walk_at "e"
  refine ev_CallB hlen (by rfl) ?_
  refine l_cons ?_
  walk_at "e"
  refine l_nil ?_
  refine b_len (xs := xs ++ [x]) (upd_self ..) (by simp; lia) ?_
  walk_at "e"
  walk_at "e"
  refine l_nil ?_
  have e1 : (((xs ++ [x]).length : Nat) : Int) - 1 = (xs.length : Nat) := by simp
  rw [e1]
  refine call_fn F (by show d < 1000; exact Nat.lt_of_le_of_lt hd (by decide)) rfl ?_
  refine siftdown_body P lt hlt _ hfs (by show d + 1 ≤ 800; exact Nat.succ_le_of_lt (Nat.lt_of_le_of_lt hd (by decide))) (by show u + 3 ≤ 5000; exact Nat.le_trans (Nat.add_le_add_right hu 3) (by decide)) _ n (xs ++ [x]) xs.length x rfl (upd_self ..) (by simp) (fun z hz => ?_) (by simp; lia) _ (fun vs => ?_)
  · rcases List.mem_append.mp hz with q | q
    · exact hP z q
    · rw [List.mem_singleton.mp q]; exact hPx
  · refine ⟨rfl, x_nil ?_⟩
    dsimp only
    rw [upd_upd]
    exact h
-- MHeap4

set_option maxRecDepth 100000
set_option maxHeartbeats 8000000
open PySem PySem.W PyProof.Rows

theorem tr_list {C : Fx} {st : St} {v : V} {xs : List V} {Q : Bool → St → Prop} (hv : Lis st v xs) (hsz : xs.length < 2 ^ 62) (h : Q (!xs.isEmpty) st) : JV C rBool [v] (one truthy) st Q :=
  fun env Z R ρ s ws hs hw => by
    obtain ⟨x, rfl, h1⟩ := inv1 hw
    obtain ⟨a, its, k, rfl, ho, ri⟩ := hv.at_ hs h1
    have hl := ri.toArr
    have e : (!its.isEmpty) = !xs.isEmpty := by
      cases xs with
      | nil => have : its.size = 0 := hl.symm; simp [Array.isEmpty, this]
      | cons y r => have : its.size = r.length + 1 := hl.symm; simp [Array.isEmpty, this]
    refine wpAny_truthy_list ⟨_, ho, rfl, _, rfl⟩ (by lia) ?_
    exact SR.post (hs.tok _) e h

-- one step of an expression
local macro_rules | `(tactic| walk_at "e") => `(tactic| first
  | refine ev_Name (by walk_at "lk") (by rfl) ?_
  | refine ev_Const_int ?_
  | refine ev_Subscript ?_)

noncomputable def popped (lt : V → V → Bool) (xs : List V) (l : V) : List V := sdown lt l (sup lt 0 (xs.set 0 l)).2 ((sup lt 0 (xs.set 0 l)).1.set (sup lt 0 (xs.set 0 l)).2 l)

theorem heappop_body (P : V → Prop) (lt : V → V → Bool) (hlt : LtOk P lt) (C : Fx) (hsc : C.sc = scopeAt pb 5) (hd : C.d ≤ 600) (hu : C.u ≤ 3000) (a a' : Addr) (fd fd' : FuncData) (hg : Glo C.base "_siftdown" (.ref a)) (F : Fn C.base a fd (bodyAt pb 6) ["heap", "startpos", "pos"]) (hfs : fd.scope = scopeAt pb 6)
    (hg' : Glo C.base "_siftup" (.ref a')) (F' : Fn C.base a' fd' (bodyAt pb 7) ["heap", "pos"]) (hfs' : fd'.scope = scopeAt pb 7) (hlen : Blt C.base "len" (.builtin "len"))
    (st : St) (n : Nat) (xs : List V) (l : V)
    (hv : st.vars = [(("heap" : Str), V.obj n)]) (hh : st.heap n = some (.list (xs ++ [l]))) (hP : ∀ y ∈ xs, P y) (hPl : P l) (hsz : xs.length < 1000)
    (Q : FlowA → St → Prop) (h0 : xs = [] → ∀ vars, Q (.ret l) { st with vars := vars, heap := upd st.heap n (.list []) })
    (h : ∀ y r, xs = y :: r → ∀ vars, Q (.ret y) { st with vars := vars, heap := upd st.heap n (.list (popped lt xs l)) }) : JX C (bodyAt pb 5) st Q := by
  obtain ⟨prog, w, os, base, d, u, sc, gp, pin⟩ := C
  obtain rfl : sc = scopeAt pb 5 := hsc
  obtain ⟨vars, heap, nx⟩ := st
  obtain rfl : vars = _ := hv
  refine x_cons (x_Assign ?_ (by rfl))
  refine ev_MethO PySem.F.slot_list_pop PySem.F.type_list_pop ?_
  walk_at "e"
  refine ⟨⟨n, _, rfl, hh⟩, ?_⟩
  refine l_nil ?_
  refine m_pop hh (by have : sizeLine ≥ 1000 := by decide
                      lia) ?_
  refine x_cons (x_If (tt_value ?_))
  walk_at "e"
  refine tr_list (xs := xs) (upd_self ..) (by lia) ?_
  refine ⟨fun hc => ?_, fun hc => ?_⟩
  · cases xs with
    | nil => simp at hc
    | cons y r =>
      refine x_cons (x_Assign ?_ (by rfl))
      walk_at "e"
      walk_at "e"
      walk_at "e"
      refine sub_obj (upd_self ..) (by lia) rfl (by lia) ?_
      refine x_cons (x_SetItem ?_)
      walk_at "e"
      walk_at "e"
      walk_at "e"
      refine set_obj (upd_self ..) (by lia) (by simp) (by lia) ?_
      refine x_cons (x_Expr ?_)
      refine ev_CallFn hg' F' (by rfl) ?_
      refine l_cons ?_
      walk_at "e"
      refine l_cons ?_
      walk_at "e"
      refine l_nil ?_
      dsimp only
      rw [upd_upd]
      refine call_fn F' (by show d < 1000; exact Nat.lt_of_le_of_lt hd (by decide)) rfl ?_
      refine siftup_body P lt hlt (Fx.into ⟨prog, w, os, base, d, u, scopeAt pb 5, gp, pin⟩ fd'.scope) hfs' (by show d + 1 ≤ 700; exact Nat.succ_le_of_lt (Nat.lt_of_le_of_lt hd (by decide))) (by show u + 3 ≤ 4000; exact Nat.le_trans (Nat.add_le_add_right hu 3) (by decide)) a a fd hg F hfs hlen _ n ((y :: r).set 0 l) l rfl (upd_self ..) rfl (fun z hz => ?_) (by simp at hsz ⊢; lia) _ (fun vs => ?_)
      · rcases List.mem_or_eq_of_mem_set hz with q | q
        · exact hP z q
        · rw [q]; exact hPl
      · refine ⟨rfl, ?_⟩
        refine x_cons (x_Return ?_)
        walk_at "e"
        dsimp only
        rw [upd_upd]
        exact h y r rfl _
  · have hx : xs = [] := by simpa using hc
    subst hx
    refine x_nil ?_
    refine x_cons (x_Return ?_)
    walk_at "e"
    exact h0 rfl _
-- MHm

open PySem PySem.W PyProof.Rows

theorem sdown_perm (lt : V → V → Bool) (x : V) : ∀ (k : Nat) (xs : List V), k < xs.length → (sdown lt x k xs).Perm (xs.set k x) := by
  intro k
  induction k using Nat.strongRecOn with
  | ind k ih =>
    intro xs hk
    unfold sdown
    by_cases h : k = 0
    · rw [dif_pos h]; subst h; exact List.Perm.refl _
    · rw [dif_neg h]
      have hp : (k - 1) / 2 < xs.length := by omega
      have hne : k ≠ (k - 1) / 2 := by omega
      simp only [List.getElem?_eq_getElem hp]
      split
      · refine (ih ((k - 1) / 2) (by omega) (xs.set k xs[(k - 1) / 2]) (by simpa using hp)).trans ?_
        have := List.set_set_perm (as := xs.set k x) (i := k) (j := (k - 1) / 2) (by simpa using hk) (by simpa using hp)
        simpa [List.getElem_set_ne hne, List.set_set] using this
      · exact List.Perm.refl _
theorem sup_perm (lt : V → V → Bool) (x : V) : ∀ (m k : Nat) (xs : List V), xs.length - k = m → k < xs.length → (sup lt k xs).2 < (sup lt k xs).1.length ∧ (sup lt k xs).1.length = xs.length ∧ ((sup lt k xs).1.set (sup lt k xs).2 x).Perm (xs.set k x) := by
  intro m
  induction m using Nat.strongRecOn with
  | ind m ih =>
    intro k xs hm hk
    rw [sup]
    by_cases h : 2 * k + 1 < xs.length
    · rw [dif_pos h]
      obtain ⟨s1, s2⟩ := supc_lt lt xs h
      generalize supc lt xs (2 * k + 1) = c at *
      have hne : k ≠ c := by omega
      obtain ⟨q1, q2, q3⟩ := ih (xs.length - c) (by omega) c (xs.set k (xs.getD c .none)) (by simp) (by simpa using s1)
      refine ⟨q1, by rw [q2]; simp, q3.trans ?_⟩
      have e : xs.getD c .none = xs[c] := by rw [List.getD_eq_getElem?_getD, List.getElem?_eq_getElem s1]; rfl
      rw [e]
      have := List.set_set_perm (as := xs.set k x) (i := k) (j := c) (by simpa using hk) (by simpa using s1)
      simpa [List.getElem_set_ne hne, List.set_set] using this
    · rw [dif_neg h]
      exact ⟨hk, rfl, List.Perm.refl _⟩
theorem popped_perm (lt : V → V → Bool) (y l : V) (r : List V) : (y :: popped lt (y :: r) l).Perm (y :: r ++ [l]) := by
  unfold popped
  obtain ⟨q1, q2, q3⟩ := sup_perm lt l _ 0 ((y :: r).set 0 l) rfl (by simp)
  refine List.Perm.cons y ?_
  have p1 := sdown_perm lt l (sup lt 0 ((y :: r).set 0 l)).2 ((sup lt 0 ((y :: r).set 0 l)).1.set (sup lt 0 ((y :: r).set 0 l)).2 l) (by simpa using q1)
  rw [List.set_set] at p1
  refine p1.trans (q3.trans ?_)
  simp only [List.set_cons_zero]
  exact (List.perm_append_singleton l r).symm
theorem push_perm (lt : V → V → Bool) (x : V) (xs : List V) : (sdown lt x xs.length (xs ++ [x])).Perm (x :: xs) := by
  refine (sdown_perm lt x xs.length (xs ++ [x]) (by simp)).trans ?_
  have : (xs ++ [x]).set xs.length x = xs ++ [x] := by simp
  rw [this]
  exact List.perm_append_singleton x xs
-- MHo

open PySem PySem.W PyProof.Rows

structure Swo (P : V → Prop) (lt : V → V → Bool) : Prop where
  irr : ∀ a, P a → lt a a = false
  asym : ∀ a b, P a → P b → lt a b = true → lt b a = false
  tr : ∀ a b c, P a → P b → P c → lt b a = false → lt c b = false → lt c a = false

noncomputable def HO (lt : V → V → Bool) (xs : List V) : Prop := ∀ i (h : i < xs.length), 0 < i → lt xs[i] (xs[(i - 1) / 2]'(by lia)) = false
noncomputable def HO' (lt : V → V → Bool) (k : Nat) (xs : List V) : Prop :=
  (∀ i (h : i < xs.length), 0 < i → i ≠ k → (i - 1) / 2 ≠ k → lt xs[i] (xs[(i - 1) / 2]'(by lia)) = false) ∧
  (∀ i (h : i < xs.length) (hk : k < xs.length), 0 < i → (i - 1) / 2 = k → 0 < k → lt xs[i] (xs[(k - 1) / 2]'(by lia)) = false)

theorem pl {i : Nat} (h : 0 < i) : (i - 1) / 2 < i := by lia
theorem sdown_ho (P : V → Prop) (lt : V → V → Bool) (W : Swo P lt) (x : V) (hx : P x) : ∀ (k : Nat) (xs : List V), k < xs.length → (∀ y ∈ xs, P y) → HO' lt k xs → (∀ i (h : i < xs.length), 0 < i → (i - 1) / 2 = k → lt xs[i] x = false) → HO lt (sdown lt x k xs) := by
  intro k
  induction k using Nat.strongRecOn with
  | ind k ih =>
    intro xs hk hP hH hc
    unfold sdown
    by_cases h : k = 0
    · rw [dif_pos h]; subst h
      intro i hi h0
      simp only [List.length_set] at hi
      rw [List.getElem_set_ne (Nat.ne_of_lt h0)]
      by_cases q : (i - 1) / 2 = 0
      · simp only [q, List.getElem_set_self]; exact hc i hi h0 q
      · rw [List.getElem_set_ne (Ne.symm q)]; exact hH.1 i hi h0 (Nat.ne_of_gt h0) q
    · rw [dif_neg h]
      have k0 := Nat.pos_of_ne_zero h
      have hp : (k - 1) / 2 < xs.length := Nat.lt_trans (pl k0) hk
      have hne : k ≠ (k - 1) / 2 := Nat.ne_of_gt (pl k0)
      simp only [List.getElem?_eq_getElem hp]
      have Py : P xs[(k - 1) / 2] := hP _ (List.getElem_mem hp)
      cases hlt : lt x xs[(k - 1) / 2] with
      | true =>
        rw [if_pos rfl]
        refine ih ((k - 1) / 2) (pl k0) (xs.set k xs[(k - 1) / 2]) (by simpa using hp) (fun z hz => ?_) ⟨fun i hi h0 h1 h2 => ?_, fun i hi hk' h0 h1 h2 => ?_⟩ (fun i hi h0 h1 => ?_)
        · rcases List.mem_or_eq_of_mem_set hz with q | q
          · exact hP z q
          · rw [q]; exact Py
        · simp only [List.length_set] at hi
          by_cases q : i = k
          · subst q; exact absurd rfl h2
          · rw [List.getElem_set_ne (Ne.symm q)]
            by_cases q2 : (i - 1) / 2 = k
            · simp only [q2, List.getElem_set_self]; exact hH.2 i hi hk h0 q2 k0
            · rw [List.getElem_set_ne (Ne.symm q2)]; exact hH.1 i hi h0 q q2
        · simp only [List.length_set] at hi hk'
          have p2 := pl h2
          have pp : ((k - 1) / 2 - 1) / 2 ≠ k := Nat.ne_of_lt (Nat.lt_trans p2 (pl k0))
          have base : lt xs[(k - 1) / 2] (xs[((k - 1) / 2 - 1) / 2]'(Nat.lt_trans p2 hp)) = false := hH.1 _ hp h2 (Ne.symm hne) pp
          rw [List.getElem_set_ne (Ne.symm pp)]
          by_cases q : i = k
          · subst q; rw [List.getElem_set_self]; exact base
          · rw [List.getElem_set_ne (Ne.symm q)]
            have := hH.1 i hi h0 q (fun z => hne (z.symm.trans h1))
            simp only [h1] at this
            exact W.tr _ _ _ (hP _ (List.getElem_mem _)) Py (hP _ (List.getElem_mem _)) base this
        · simp only [List.length_set] at hi
          by_cases q : i = k
          · subst q; rw [List.getElem_set_self]; exact W.asym _ _ hx Py hlt
          · rw [List.getElem_set_ne (Ne.symm q)]
            have := hH.1 i hi h0 q (fun z => hne (z.symm.trans h1))
            simp only [h1] at this
            exact W.tr _ _ _ hx Py (hP _ (List.getElem_mem _)) (W.asym _ _ hx Py hlt) this
      | false =>
        rw [if_neg (by simp)]
        intro i hi h0
        simp only [List.length_set] at hi
        by_cases q : i = k
        · subst q; rw [List.getElem_set_self, List.getElem_set_ne hne]; exact hlt
        · rw [List.getElem_set_ne (Ne.symm q)]
          by_cases q2 : (i - 1) / 2 = k
          · simp only [q2, List.getElem_set_self]; exact hc i hi h0 q2
          · rw [List.getElem_set_ne (Ne.symm q2)]; exact hH.1 i hi h0 q q2

theorem sup_ho (P : V → Prop) (lt : V → V → Bool) (W : Swo P lt) : ∀ (m k : Nat) (xs : List V), xs.length - k = m → k < xs.length → (∀ y ∈ xs, P y) → HO' lt k xs →
    HO' lt (sup lt k xs).2 (sup lt k xs).1 ∧ (∀ i, i < (sup lt k xs).1.length → 0 < i → (i - 1) / 2 ≠ (sup lt k xs).2) := by
  intro m
  induction m using Nat.strongRecOn with
  | ind m ih =>
    intro k xs hm hk hP hH
    rw [sup]
    by_cases h : 2 * k + 1 < xs.length
    · rw [dif_pos h]
      obtain ⟨s1, s2⟩ := supc_lt lt xs h
      have best : ∀ i (hi : i < xs.length), 0 < i → (i - 1) / 2 = k → lt xs[i] (xs[supc lt xs (2 * k + 1)]'s1) = false := by
        intro i hi h0 hp
        have hi2 : i = 2 * k + 1 ∨ i = 2 * k + 2 := by lia
        have Pm : ∀ j (hj : j < xs.length), P xs[j] := fun j hj => hP _ (List.getElem_mem hj)
        by_cases q : 2 * k + 1 + 1 < xs.length ∧ lt (xs.getD (2 * k + 1) .none) (xs.getD (2 * k + 1 + 1) .none) = false
        · have e : supc lt xs (2 * k + 1) = 2 * k + 1 + 1 := by unfold supc; rw [if_pos q]
          have q2 := q.2
          rw [List.getD_eq_getElem?_getD, List.getD_eq_getElem?_getD, List.getElem?_eq_getElem h, List.getElem?_eq_getElem q.1] at q2
          simp only [Option.getD_some] at q2
          simp only [e]
          rcases hi2 with rfl | rfl
          · exact q2
          · exact W.irr _ (Pm _ _)
        · have e : supc lt xs (2 * k + 1) = 2 * k + 1 := by unfold supc; rw [if_neg q]
          simp only [e]
          rcases hi2 with rfl | rfl
          · exact W.irr _ (Pm _ _)
          · have q3 : ¬ lt (xs.getD (2 * k + 1) .none) (xs.getD (2 * k + 1 + 1) .none) = false := fun z => q ⟨hi, z⟩
            rw [List.getD_eq_getElem?_getD, List.getD_eq_getElem?_getD, List.getElem?_eq_getElem h, List.getElem?_eq_getElem hi] at q3
            simp only [Option.getD_some, Bool.not_eq_false] at q3
            exact W.asym _ _ (Pm _ _) (Pm _ _) q3
      have par : (supc lt xs (2 * k + 1) - 1) / 2 = k := by unfold supc; split <;> lia
      generalize supc lt xs (2 * k + 1) = c at *
      have hne : k ≠ c := by lia
      have e : xs.getD c .none = xs[c] := by rw [List.getD_eq_getElem?_getD, List.getElem?_eq_getElem s1]; rfl
      rw [e]
      refine ih (xs.length - c) (by lia) c (xs.set k xs[c]) (by simp) (by simpa using s1) (fun z hz => ?_) ⟨fun i hi h0 h1 h2 => ?_, fun i hi hk' h0 h1 h2 => ?_⟩
      · rcases List.mem_or_eq_of_mem_set hz with q | q
        · exact hP z q
        · rw [q]; exact hP _ (List.getElem_mem s1)
      · simp only [List.length_set] at hi
        by_cases q : i = k
        · subst q
          rw [List.getElem_set_self, List.getElem_set_ne (by lia)]
          exact hH.2 c s1 hk (by lia) par h0
        · rw [List.getElem_set_ne (Ne.symm q)]
          by_cases q2 : (i - 1) / 2 = k
          · simp only [q2, List.getElem_set_self]; exact best i hi h0 q2
          · rw [List.getElem_set_ne (Ne.symm q2)]; exact hH.1 i hi h0 q q2
      · simp only [List.length_set] at hi hk'
        simp only [par, List.getElem_set_self]
        rw [List.getElem_set_ne (by lia)]
        have := hH.1 i hi h0 (by lia) (by lia)
        simp only [h1] at this
        exact this
    · rw [dif_neg h]
      exact ⟨hH, fun i hi h0 => by dsimp only at hi ⊢; lia⟩

theorem push_ho (P : V → Prop) (lt : V → V → Bool) (W : Swo P lt) (x : V) (hx : P x) (xs : List V) (hP : ∀ y ∈ xs, P y) (h : HO lt xs) : HO lt (sdown lt x xs.length (xs ++ [x])) := by
  refine sdown_ho P lt W x hx xs.length (xs ++ [x]) (by simp) (fun y hy => ?_) ⟨fun i hi h0 h1 h2 => ?_, fun i hi hk h0 h1 h2 => ?_⟩ (fun i hi h0 h1 => ?_)
  · rcases List.mem_append.mp hy with q | q
    · exact hP y q
    · rw [List.mem_singleton.mp q]; exact hx
  · simp only [List.length_append, List.length_singleton] at hi
    rw [List.getElem_append_left (by lia), List.getElem_append_left (by lia)]
    exact h i (by lia) h0
  · simp only [List.length_append, List.length_singleton] at hi
    lia
  · simp only [List.length_append, List.length_singleton] at hi
    lia

theorem first_least (P : V → Prop) (lt : V → V → Bool) (W : Swo P lt) (xs : List V) (hP : ∀ y ∈ xs, P y) (h : HO lt xs) (h0 : 0 < xs.length) : ∀ i (hi : i < xs.length), lt xs[i] xs[0] = false := by
  intro i
  induction i using Nat.strongRecOn with
  | ind i ih =>
    intro hi
    by_cases q : i = 0
    · subst q; exact W.irr _ (hP _ (List.getElem_mem _))
    · have a := ih ((i - 1) / 2) (by lia) (by lia)
      have b := h i hi (by lia)
      exact W.tr _ _ _ (hP _ (List.getElem_mem _)) (hP _ (List.getElem_mem _)) (hP _ (List.getElem_mem _)) a b

theorem popped_ho (P : V → Prop) (lt : V → V → Bool) (W : Swo P lt) (y l : V) (r : List V) (hP : ∀ z ∈ y :: r ++ [l], P z) (h : HO lt (y :: r ++ [l])) : HO lt (popped lt (y :: r) l) := by
  have Pl : P l := hP l (by simp)
  have hP' : ∀ z ∈ (y :: r).set 0 l, P z := fun z hz => by
    rcases List.mem_or_eq_of_mem_set hz with q | q
    · exact hP z (List.mem_append_left _ q)
    · rw [q]; exact Pl
  have hH : HO' lt 0 ((y :: r).set 0 l) := ⟨fun i hi h0 h1 h2 => by
    simp only [List.length_set] at hi
    rw [List.getElem_set_ne (by lia), List.getElem_set_ne (by lia)]
    have := h i (by simp only [List.length_append]; lia) h0
    rw [List.getElem_append_left (by lia), List.getElem_append_left (by lia)] at this
    exact this, fun i hi hk h0 h1 h2 => absurd h2 (by lia)⟩
  obtain ⟨a, b⟩ := sup_ho P lt W _ 0 ((y :: r).set 0 l) rfl (by simp) hP' hH
  obtain ⟨q1, q2, q3⟩ := sup_perm lt l _ 0 ((y :: r).set 0 l) rfl (by simp)
  unfold popped
  generalize (sup lt 0 ((y :: r).set 0 l)).2 = k at *
  generalize (sup lt 0 ((y :: r).set 0 l)).1 = zs at *
  refine sdown_ho P lt W l Pl k (zs.set k l) (by simpa using q1) (fun z hz => ?_) ⟨fun i hi h0 h1 h2 => ?_, fun i hi hk h0 h1 h2 => ?_⟩ (fun i hi h0 h1 => ?_)
  · have := q3.mem_iff.mp hz
    rw [List.set_set] at this
    exact hP' z this
  · simp only [List.length_set] at hi
    rw [List.getElem_set_ne (Ne.symm h1), List.getElem_set_ne (Ne.symm h2)]
    exact a.1 i hi h0 h1 h2
  · simp only [List.length_set] at hi
    exact absurd h1 (b i hi h0)
  · simp only [List.length_set] at hi
    exact absurd h1 (b i hi h0)
-- MLex3

set_option maxRecDepth 100000
set_option maxHeartbeats 4000000
open PySem PySem.W PyProof.Rows




section
variable {C : Fx} {st : St}
theorem it_close {n m : Nat} {wc buf : Str} {qd : Bool} {tok : Str} {l : Int} {p : Nat} {vars : List (Str × V)} {H₀ H : Nat → Option AO} {nx c : Nat} {Q : FlowA → St → Prop} (L : LC C n m buf) (hv : LVars n qd vars) {q : Nat} (hs : LState H₀ n m wc buf (.str ⟨#[q]⟩) tok l p H)
    (hc : buf.cps.toList[p]? = some q) (hq : q = 39 ∨ q = 34)
    (h : ∀ vars' H', LVars n true vars' → LState H₀ n m wc buf (.str "a") tok l (p + 1) H' → Q .next ⟨vars', H', nx⟩) : JX C tbody ⟨vars, H, nx⟩ Q := by
  refine pre_c L hv hs hc fun vars H hv hx hs => ?_
  rw [if_neg (by lia)] at hs
  obtain ⟨prog, w, os, base, d, u, sc, gp, pin⟩ := C
  obtain ⟨HBc, hsc, hd, hne, hsz⟩ := L
  obtain rfl : sc = scRT := hsc
  obtain ⟨g1, g2, g3⟩ := hv
  obtain ⟨e1, e2, e3⟩ := hs
  refine x_seq ?_
  repeat walk_at "w"
  walk_at "at"
  repeat walk_at "w"
  walk_at "at"
  repeat walk_at "w"
  rw [eq1 q 32 (by decide)]
  refine ⟨fun hh => absurd (of_decide_eq_true hh) (by lia), fun _ => ?_⟩
  repeat walk_at "w"
  walk_at "at"
  repeat walk_at "w"
  walk_at "at"
  refine op_in1t _ l_quo (by simp; lia) ?_
  repeat walk_at "w"
  refine tr_one ?_
  repeat walk_at "w"
  walk_at "at"
  repeat walk_at "w"
  rw [eq1 q q rfl]
  refine ⟨fun _ => ?_, fun hh => absurd rfl (of_decide_eq_false hh)⟩
  repeat walk_at "w"
  walk_at "at"
  repeat walk_at "w"
  walk_at "st"
  repeat walk_at "w"
  refine h _ _ ⟨?_, ?_, ?_⟩ ⟨?_, ?_, fun k h1 h2 => ?_⟩
  · walk_at "lk"
  · walk_at "lk"
  · walk_at "lk"
  · walk_at "hp"
  · walk_at "hp"
  · exact (upd_ne _ _ h1).trans (e3 k h1 h2)

theorem it_ws {n m : Nat} {wc buf : Str} {qd : Bool} {tok : Str} {l : Int} {p : Nat} {vars : List (Str × V)} {H₀ H : Nat → Option AO} {nx c : Nat} {Q : FlowA → St → Prop} (L : LC C n m buf) (hv : LVars n qd vars) (hs : LState H₀ n m wc buf (.str "a") tok l p H)
    (hc : buf.cps.toList[p]? = some c) (hq : c = 32 ∨ c = 10) (hts : tok.length ≤ 100000) (hfull : tok.length ≠ 0 ∨ qd = true)
    (h : ∀ vars' H', LVars n qd vars' → LState H₀ n m wc buf (.str " ") tok (if c = 10 then l + 1 else l) (p + 1) H' → Q .brk ⟨vars', H', nx⟩) : JX C tbody ⟨vars, H, nx⟩ Q := by
  refine pre_c L hv hs hc fun vars H hv hx hs => ?_
  generalize (if c = 10 then l + 1 else l) = l' at *
  obtain ⟨prog, w, os, base, d, u, sc, gp, pin⟩ := C
  obtain ⟨HBc, hsc, hd, hne, hsz⟩ := L
  obtain rfl : sc = scRT := hsc
  obtain ⟨g1, g2, g3⟩ := hv
  obtain ⟨e1, e2, e3⟩ := hs
  refine x_seq ?_
  repeat walk_at "w"
  walk_at "at"
  repeat walk_at "w"
  walk_at "at"
  repeat walk_at "w"
  walk_at "at"
  repeat walk_at "w"
  walk_at "at"
  refine op_in1f _ l_quo (by simp) ?_
  repeat walk_at "w"
  walk_at "at"
  repeat walk_at "w"
  walk_at "at"
  refine op_in1f _ l_esc (by simp) ?_
  repeat walk_at "w"
  walk_at "at"
  refine ev_Tuple ?_
  repeat walk_at "w"
  refine ⟨by decide, ?_⟩
  refine op_inT (ys := [Str.ofString "a", Str.ofString "c"]) ?_
  repeat walk_at "w"
  refine tr_one ?_
  repeat walk_at "w"
  walk_at "at"
  refine op_in1t _ l_ws (by simp; lia) ?_
  repeat walk_at "w"
  walk_at "at"
  repeat walk_at "w"
  walk_at "st"
  repeat walk_at "w"
  walk_at "at"
  refine tr_str (by rw [sizeLine_eq]; lia) ?_
  refine ⟨fun hh => ?_, fun hh => ?_⟩
  · refine ⟨fun _ => ?_, fun hf => by cases hf⟩
    repeat walk_at "w"
    refine h _ _ ⟨?_, ?_, ?_⟩ ⟨?_, ?_, fun k h1 h2 => ?_⟩
    · walk_at "lk"
    · walk_at "lk"
    · walk_at "lk"
    · walk_at "hp"
    · walk_at "hp"
    · exact (upd_ne _ _ h1).trans (e3 k h1 h2)
  · have hqd : qd = true := hfull.resolve_left (by simpa using hh)
    subst hqd
    repeat walk_at "w"
    walk_at "at"
    repeat walk_at "w"
    refine h _ _ ⟨?_, ?_, ?_⟩ ⟨?_, ?_, fun k h1 h2 => ?_⟩
    · walk_at "lk"
    · walk_at "lk"
    · walk_at "lk"
    · walk_at "hp"
    · walk_at "hp"
    · exact (upd_ne _ _ h1).trans (e3 k h1 h2)

theorem it_again {n m : Nat} {wc buf : Str} {qd : Bool} {tok : Str} {l : Int} {p : Nat} {vars : List (Str × V)} {H₀ H : Nat → Option AO} {nx c : Nat} {Q : FlowA → St → Prop} (L : LC C n m buf) (hv : LVars n qd vars) (hs : LState H₀ n m wc buf (.str "a") tok l p H)
    (hc : buf.cps.toList[p]? = some c) (hq : c = 39 ∨ c = 34)
    (h : ∀ vars' H', LVars n qd vars' → LState H₀ n m wc buf (.str ⟨#[c]⟩) tok l (p + 1) H' → Q .next ⟨vars', H', nx⟩) : JX C tbody ⟨vars, H, nx⟩ Q := by
  refine pre_c L hv hs hc fun vars H hv hx hs => ?_
  rw [if_neg (by lia)] at hs
  obtain ⟨prog, w, os, base, d, u, sc, gp, pin⟩ := C
  obtain ⟨HBc, hsc, hd, hne, hsz⟩ := L
  obtain rfl : sc = scRT := hsc
  obtain ⟨g1, g2, g3⟩ := hv
  obtain ⟨e1, e2, e3⟩ := hs
  refine x_seq ?_
  repeat walk_at "w"
  walk_at "at"
  repeat walk_at "w"
  walk_at "at"
  repeat walk_at "w"
  walk_at "at"
  repeat walk_at "w"
  walk_at "at"
  refine op_in1f _ l_quo (by simp) ?_
  repeat walk_at "w"
  walk_at "at"
  repeat walk_at "w"
  walk_at "at"
  refine op_in1f _ l_esc (by simp) ?_
  repeat walk_at "w"
  walk_at "at"
  refine ev_Tuple ?_
  repeat walk_at "w"
  refine ⟨by decide, ?_⟩
  refine op_inT (ys := [Str.ofString "a", Str.ofString "c"]) ?_
  repeat walk_at "w"
  refine tr_one ?_
  repeat walk_at "w"
  walk_at "at"
  refine op_in1f _ l_ws (by simp; lia) ?_
  repeat walk_at "w"
  walk_at "at"
  refine op_in1f _ l_com (by simp; lia) ?_
  repeat walk_at "w"
  walk_at "at"
  repeat walk_at "w"
  walk_at "at"
  repeat walk_at "w"
  walk_at "at"
  refine op_in1t _ l_quo (by simp; lia) ?_
  repeat walk_at "w"
  walk_at "st"
  repeat walk_at "w"
  refine h _ _ ⟨?_, ?_, ?_⟩ ⟨?_, ?_, fun k h1 h2 => ?_⟩
  · walk_at "lk"
  · walk_at "lk"
  · walk_at "lk"
  · walk_at "hp"
  · walk_at "hp"
  · exact (upd_ne _ _ h1).trans (e3 k h1 h2)

theorem it_fin {n m : Nat} {wc buf : Str} {qd : Bool} {tok : Str} {l : Int} {p : Nat} {vars : List (Str × V)} {H₀ H : Nat → Option AO} {nx : Nat} {Q : FlowA → St → Prop} (L : LC C n m buf) (hv : LVars n qd vars) (hs : LState H₀ n m wc buf (.str "a") tok l p H)
    (hp : p = buf.length)
    (h : ∀ vars' H', LVars n qd vars' → LState H₀ n m wc buf .none tok l p H' → Q .brk ⟨vars', H', nx⟩) : JX C tbody ⟨vars, H, nx⟩ Q := by
  refine pre_e L hv hs hp fun vars hv hx => ?_
  obtain ⟨prog, w, os, base, d, u, sc, gp, pin⟩ := C
  obtain ⟨HBc, hsc, hd, hne, hsz⟩ := L
  obtain rfl : sc = scRT := hsc
  obtain ⟨g1, g2, g3⟩ := hv
  obtain ⟨e1, e2, e3⟩ := hs
  refine x_seq ?_
  repeat walk_at "w"
  walk_at "at"
  repeat walk_at "w"
  walk_at "at"
  repeat walk_at "w"
  walk_at "at"
  repeat walk_at "w"
  walk_at "at"
  refine op_in1f _ l_quo (by simp) ?_
  repeat walk_at "w"
  walk_at "at"
  repeat walk_at "w"
  walk_at "at"
  refine op_in1f _ l_esc (by simp) ?_
  repeat walk_at "w"
  walk_at "at"
  refine ev_Tuple ?_
  repeat walk_at "w"
  refine ⟨by decide, ?_⟩
  refine op_inT (ys := [Str.ofString "a", Str.ofString "c"]) ?_
  repeat walk_at "w"
  refine tr_str (by decide) ?_
  repeat walk_at "w"
  walk_at "st"
  repeat walk_at "w"
  refine h _ _ ⟨?_, ?_, ?_⟩ ⟨?_, ?_, fun k h1 h2 => ?_⟩
  · walk_at "lk"
  · walk_at "lk"
  · walk_at "lk"
  · walk_at "hp"
  · walk_at "hp"
  · exact (upd_ne _ _ h1).trans (e3 k h1 h2)

theorem it_none {n m : Nat} {wc buf : Str} {qd : Bool} {tok : Str} {l : Int} {p : Nat} {vars : List (Str × V)} {H₀ H : Nat → Option AO} {nx : Nat} {Q : FlowA → St → Prop} (L : LC C n m buf) (hv : LVars n qd vars) (hs : LState H₀ n m wc buf .none tok l p H)
    (hp : p = buf.length)
    (h : ∀ vars' H', LVars n qd vars' → LState H₀ n m wc buf .none "" l p H' → Q .brk ⟨vars', H', nx⟩) : JX C tbody ⟨vars, H, nx⟩ Q := by
  refine pre_e L hv hs hp fun vars hv hx => ?_
  obtain ⟨prog, w, os, base, d, u, sc, gp, pin⟩ := C
  obtain ⟨HBc, hsc, hd, hne, hsz⟩ := L
  obtain rfl : sc = scRT := hsc
  obtain ⟨g1, g2, g3⟩ := hv
  obtain ⟨e1, e2, e3⟩ := hs
  refine x_seq ?_
  repeat walk_at "w"
  walk_at "at"
  repeat walk_at "w"
  walk_at "st"
  repeat walk_at "w"
  refine h _ _ ⟨?_, ?_, ?_⟩ ⟨?_, ?_, fun k h1 h2 => ?_⟩
  · walk_at "lk"
  · walk_at "lk"
  · walk_at "lk"
  · walk_at "hp"
  · walk_at "hp"
  · exact (upd_ne _ _ h1).trans (e3 k h1 h2)
end
-- MLex4

set_option maxRecDepth 100000
set_option maxHeartbeats 4000000
open PySem PySem.W PyProof.Rows

inductive LS where
  | sp | wd
  | q (c : Nat)
noncomputable def LS.v : LS → V
  | .sp => .str " "
  | .wd => .str "a"
  | .q c => .str ⟨#[c]⟩
noncomputable def lx : LS → Bool → List Nat → List Nat → Option (List Nat × Bool × Bool × List Nat)
  | .wd, qd, tok, [] => if tok ≠ [] ∨ qd = true then some (tok, qd, true, []) else none
  | .wd, qd, tok, c :: r => if c = 32 ∨ c = 10 then (if tok ≠ [] ∨ qd = true then some (tok, qd, false, r) else none) else if c = 39 ∨ c = 34 then lx (.q c) qd tok r else none
  | .q k, qd, tok, c :: r => if c = k then lx .wd true tok r else if c = 92 ∨ c = 10 then none else lx (.q k) true (tok ++ [c]) r
  | .sp, qd, tok, c :: r => if c = 39 then lx (.q 39) qd tok r else if 97 ≤ c ∧ c ≤ 122 then lx .wd qd [c] r else none
  | .q _, _, _, [] => none
  | .sp, _, _, [] => none
noncomputable def LS.ok : LS → Prop
  | .q k => k = 39 ∨ k = 34
  | _ => True
structure WcOk (wc : Str) : Prop where
  letter : ∀ c, 97 ≤ c → c ≤ 122 → c ∈ wc.cps.toList
  mark : 39 ∉ wc.cps.toList




section
variable {C : Fx} {st : St}
theorem strc (l : List Nat) (c : Nat) : (⟨l.toArray⟩ : Str) ++ (⟨#[c]⟩ : Str) = ⟨(l ++ [c]).toArray⟩ := by
  show Str.mk _ = _
  congr 1
  simp
theorem str_len (l : List Nat) : (⟨l.toArray⟩ : Str).length = l.length := by show l.toArray.size = _; simp

inductive RtI (H₀ : Nat → Option AO) (n m nx : Nat) (wc buf : Str) (tok' rest' : List Nat) (qd' e : Bool) (nn : Nat) (st' : St) : Prop
  | mk (ls : LS) (qd : Bool) (tok : List Nat) (l : Int) (p : Nat) (vars : List (Str × V)) (H : Nat → Option AO) (e1 : st' = ⟨vars, H, nx⟩) (e2 : nn = buf.length - p) (hok : LS.ok ls) (hl : lx ls qd tok (buf.cps.toList.drop p) = some (tok', qd', e, rest')) (hp : p ≤ buf.length) (htp : tok.length ≤ p) (hv : LVars n qd vars) (hs : LState H₀ n m wc buf ls.v ⟨tok.toArray⟩ l p H)
theorem rt_loop {n m : Nat} {wc buf : Str} (L : LC C n m buf) (hwc : WcOk wc) {H₀ : Nat → Option AO} {nx : Nat} {Q : FlowA → St → Prop} {tok' rest' : List Nat} {qd' e : Bool} {t : Expr} {o : List Stmt} {pos : Pos}
    (ht : ∃ k cp, t = .Constant (.bool true) k cp)
    (h : ∀ vars' H' l' p', LVars n qd' vars' → LState H₀ n m wc buf (if e then .none else .str " ") ⟨tok'.toArray⟩ l' p' H' → buf.cps.toList.drop p' = rest' → p' ≤ buf.length → Q .next ⟨vars', H', nx⟩)
    {ls : LS} {qd : Bool} {tok : List Nat} {l : Int} {p : Nat} {vars : List (Str × V)} {H : Nat → Option AO} (hok : ls.ok) (hl : lx ls qd tok (buf.cps.toList.drop p) = some (tok', qd', e, rest')) (hp : p ≤ buf.length) (htp : tok.length ≤ p)
    (hv : LVars n qd vars) (hs : LState H₀ n m wc buf ls.v ⟨tok.toArray⟩ l p H) : JX1 C (.While t tbody o pos) ⟨vars, H, nx⟩ Q := by
  obtain ⟨k, cp, rfl⟩ := ht
  have hsz := L.sz
  have hlen : buf.cps.toList.length = buf.length := Array.length_toList
  refine x_While (RtI H₀ n m nx wc buf tok' rest' qd' e) _
    ⟨ls, qd, tok, l, p, vars, H, rfl, rfl, hok, hl, hp, htp, hv, hs⟩ ?_
  rintro nn st' ⟨ls, qd, tok, l, p, vars, H, rfl, rfl, hok, hl, hp, htp, hv, hs⟩
  refine tt_value (ev_Const_bool (tr_bool ⟨fun _ => ?_, fun hf => by cases hf⟩))
  by_cases hlt : p < buf.length
  · obtain ⟨c, hc⟩ : ∃ c, buf.cps.toList[p]? = some c := ⟨_, List.getElem?_eq_getElem (by lia)⟩
    have hd : buf.cps.toList.drop p = c :: buf.cps.toList.drop (p + 1) := by
      rw [List.drop_eq_getElem_cons (by lia)]
      congr 1
      rw [List.getElem?_eq_getElem (by lia)] at hc
      exact Option.some.inj hc
    rw [hd] at hl
    cases ls with
    | sp =>
      unfold lx at hl
      split at hl
      · rename_i h39
        subst h39
        refine it_quote L hv hs hc rfl hwc.mark fun vars' H' hv' hs' => ?_
        exact ⟨buf.length - (p + 1), by lia, .q 39, qd, tok, l, p + 1, vars', H', rfl, rfl, .inl rfl, hl, hlt, by lia, hv', hs'⟩
      · split at hl
        · rename_i hw
          refine it_word L hv hs hc hw.1 hw.2 (hwc.letter c hw.1 hw.2) fun vars' H' hv' hs' => ?_
          exact ⟨buf.length - (p + 1), by lia, .wd, qd, [c], l, p + 1, vars', H', rfl, rfl, trivial, hl, hlt, by simp, hv', hs'⟩
        · cases hl
    | q k =>
      unfold lx at hl
      split at hl
      · rename_i hk
        subst hk
        refine it_close (c := 0) L hv hs hc hok fun vars' H' hv' hs' => ?_
        exact ⟨buf.length - (p + 1), by lia, .wd, true, tok, l, p + 1, vars', H', rfl, rfl, trivial, hl, hlt, by lia, hv', hs'⟩
      · rename_i hk
        split at hl
        · cases hl
        · rename_i h2
          refine it_in L hv hs hc hok hk (fun z => h2 (.inl z)) (fun z => h2 (.inr z)) (by rw [str_len]; lia) fun vars' H' hv' hs' => ?_
          rw [strc] at hs'
          exact ⟨buf.length - (p + 1), by lia, .q k, true, tok ++ [c], l, p + 1, vars', H', rfl, rfl, hok, hl, hlt, by simp; lia, hv', hs'⟩
    | wd =>
      unfold lx at hl
      split at hl
      · rename_i hw
        split at hl
        · rename_i hfull
          cases hl
          refine it_ws L hv hs hc hw (by rw [str_len]; lia) (by rw [str_len]; rcases hfull with z | z; exact .inl (by simpa using z); exact .inr z) fun vars' H' hv' hs' => ?_
          exact h vars' H' _ (p + 1) hv' hs' rfl hlt
        · cases hl
      · split at hl
        · rename_i hw hq
          refine it_again L hv hs hc hq fun vars' H' hv' hs' => ?_
          exact ⟨buf.length - (p + 1), by lia, .q c, qd, tok, l, p + 1, vars', H', rfl, rfl, hq, hl, hlt, by lia, hv', hs'⟩
        · cases hl
  · have hpe : p = buf.length := by lia
    have hd : buf.cps.toList.drop p = [] := List.drop_eq_nil_of_le (by lia)
    rw [hd] at hl
    cases ls with
    | sp => unfold lx at hl; cases hl
    | q k => unfold lx at hl; cases hl
    | wd =>
      unfold lx at hl
      split at hl
      · cases hl
        refine it_fin L hv hs hpe fun vars' H' hv' hs' => ?_
        exact h vars' H' _ p hv' hs' hd hp
      · cases hl

end
section
variable {P : Params} {B : PH}
noncomputable abbrev fd_rt : FuncData := fnF "read_token" "shlex.read_token" (clsBody pb 29) 6 .none (.str (Str.ofString "cpy313.shlex") 1142) (.ref 734)
theorem f_rt (H : BaseK (K P) B) : Fn0 B 735 fd_rt (bodyAt (clsBody pb 29) 6) := H.fn0 (o := fnO "read_token" "shlex.read_token" (clsBody pb 29) 6 .none (.str (Str.ofString "cpy313.shlex") 1142) (.ref 734)) (by kernel_rfl) rfl rfl (by kernel_rfl) (by decide +kernel) rfl rfl rfl rfl
noncomputable abbrev fd_gt : FuncData := fnF "get_token" "shlex.get_token" (clsBody pb 29) 5 .none (.str (Str.ofString "cpy313.shlex") 1142) (.ref 727)
theorem f_gt (H : BaseK (K P) B) : Fn0 B 728 fd_gt (bodyAt (clsBody pb 29) 5) := H.fn0 (o := fnO "get_token" "shlex.get_token" (clsBody pb 29) 5 .none (.str (Str.ofString "cpy313.shlex") 1142) (.ref 727)) (by kernel_rfl) rfl rfl (by kernel_rfl) (by decide +kernel) rfl rfl rfl rfl
end

noncomputable def stv : Option (List Nat) → V
  | some _ => .str " "
  | none => .none
structure LexAt (H : Nat → Option AO) (n m : Nat) (wc buf : Str) (left : Option (List Nat)) : Prop where
  ne : n ≠ m
  sz : buf.length ≤ 100000
  at_ : ∃ l p, H n = some (.ns (LX wc m (stv left) "" l)) ∧ H m = some (.ns (SIO buf (p : Nat))) ∧ p ≤ buf.length ∧ buf.cps.toList.drop p = left.getD []

noncomputable def lxOne (left : Option (List Nat)) : Option (V × Option (List Nat)) := match left with
  | none => some (.none, none)
  | some r => match lx .sp false [] r with
    | some (tok, _, e, r') => some (.str ⟨tok.toArray⟩, if e then none else some r')
    | none => none
theorem lx_end : ∀ {r : List Nat} {ls : LS} {qd : Bool} {tok tok' r' : List Nat} {qd' : Bool}, lx ls qd tok r = some (tok', qd', true, r') → r' = []
  | [], .sp, _, _, _, _, _, h => by unfold lx at h; cases h
  | [], .q _, _, _, _, _, _, h => by unfold lx at h; cases h
  | [], .wd, _, _, _, _, _, h => by
    unfold lx at h
    split at h
    · cases h; rfl
    · cases h
  | c :: r, .sp, _, _, _, _, _, h => by
    unfold lx at h
    split at h
    · exact lx_end h
    · split at h
      · exact lx_end h
      · cases h
  | c :: r, .q k, _, _, _, _, _, h => by
    unfold lx at h
    split at h
    · exact lx_end h
    · split at h
      · cases h
      · exact lx_end h
  | c :: r, .wd, _, _, _, _, _, h => by
    unfold lx at h
    split at h
    · split at h <;> cases h
    · split at h
      · exact lx_end h
      · cases h
theorem lx_full : ∀ {r : List Nat} {ls : LS} {qd : Bool} {tok tok' r' : List Nat} {qd' e : Bool}, lx ls qd tok r = some (tok', qd', e, r') → tok' ≠ [] ∨ qd' = true
  | [], .sp, _, _, _, _, _, _, h => by unfold lx at h; cases h
  | [], .q _, _, _, _, _, _, _, h => by unfold lx at h; cases h
  | [], .wd, _, _, _, _, _, _, h => by
    unfold lx at h
    split at h
    · rename_i q; cases h; exact q
    · cases h
  | c :: r, .sp, _, _, _, _, _, _, h => by
    unfold lx at h
    split at h
    · exact lx_full h
    · split at h
      · exact lx_full h
      · cases h
  | c :: r, .q k, _, _, _, _, _, _, h => by
    unfold lx at h
    split at h
    · exact lx_full h
    · split at h
      · cases h
      · exact lx_full h
  | c :: r, .wd, _, _, _, _, _, _, h => by
    unfold lx at h
    split at h
    · split at h
      · rename_i q; cases h; exact q
      · cases h
    · split at h
      · exact lx_full h
      · cases h

theorem lx_len : ∀ {r : List Nat} {ls : LS} {qd : Bool} {tok tok' r' : List Nat} {qd' e : Bool}, lx ls qd tok r = some (tok', qd', e, r') → tok'.length ≤ tok.length + r.length
  | [], .sp, _, _, _, _, _, _, h => by unfold lx at h; cases h
  | [], .q _, _, _, _, _, _, _, h => by unfold lx at h; cases h
  | [], .wd, _, _, _, _, _, _, h => by
    unfold lx at h
    split at h
    · cases h; exact Nat.le_refl _
    · cases h
  | c :: r, .sp, _, _, _, _, _, _, h => by
    unfold lx at h
    split at h
    · have := lx_len h; simp; lia
    · split at h
      · have := lx_len h; simp at this; simp; lia
      · cases h
  | c :: r, .q k, _, _, _, _, _, _, h => by
    unfold lx at h
    split at h
    · have := lx_len h; simp; lia
    · split at h
      · cases h
      · have := lx_len h; simp at this; simp; lia
  | c :: r, .wd, _, _, _, _, _, _, h => by
    unfold lx at h
    split at h
    · split at h
      · cases h; simp
      · cases h
    · split at h
      · have := lx_len h; simp; lia
      · cases h

theorem c_rt {C : Fx} {st : St} {n m : Nat} {wc buf : Str} (H : HB C) (hd : C.d ≤ 600) (hwc : WcOk wc) {left left' : Option (List Nat)} {v : V} (A : LexAt st.heap n m wc buf left) (hl : lxOne left = some (v, left')) {Q : V → St → Prop}
    (h : ∀ H', LexAt H' n m wc buf left' → (∀ k, k ≠ n → k ≠ m → H' k = st.heap k) → Q v ⟨st.vars, H', st.nx⟩) : JV C VR [.inst 767 n] (fun ws => call (.ref 735) ws) st Q := by
  refine JC.jv (code_fn0 (vars := [("self", .inst 767 n)]) (f_rt H) (by lia) (show parOk fd_rt.scope ["self"] = true by decide +kernel) (fun env Z R ρ s ws hs hw => ?_) ?_)
  · obtain ⟨x, rfl, r1⟩ := inv1 hw
    exact ⟨_, BindsTo.of_eq rfl, .cons r1 .nil⟩
  obtain ⟨ne, sz, l, p, a1, a2, a3, a4⟩ := A
  have L : LC (C.into fd_rt.scope) n m buf := ⟨H, rfl, show C.d + 1 ≤ 700 from dk hd (by decide), ne, sz⟩
  have HBc : HB (C.into fd_rt.scope) := H
  obtain ⟨vars₀, H₀, nx⟩ := st
  dsimp only at a1 a2 h
  -- behind the loop
  have fin : ∀ (vars' : List (Str × V)) (H' : Nat → Option AO) (l' : Int) (p' : Nat) (qd' : Bool) (tok : List Nat) (s' : V), LVars n qd' vars' → LState H₀ n m wc buf s' ⟨tok.toArray⟩ l' p' H' → tok.length ≤ 100000 → p' ≤ buf.length →
      (tok ≠ [] ∨ qd' = true → v = .str ⟨tok.toArray⟩) → (tok = [] → qd' = false → v = .none) → s' = stv left' → buf.cps.toList.drop p' = left'.getD [] →
      JX (C.into fd_rt.scope) ((bodyAt (clsBody pb 29) 6).drop 3) ⟨vars', H', nx⟩ (fun f st' => Q (retV f) ⟨vars₀, st'.heap, st'.nx⟩) := by
    intro vars' H' l' p' qd' tok s' hv hs htl hp' v1 v2 es ed
    obtain ⟨g1, g2, g3⟩ := hv
    obtain ⟨e1, e2, e3⟩ := hs
    refine x_seq ?_
    repeat walk_at "w"
    walk_at "at"
    repeat walk_at "w"
    walk_at "st"
    repeat walk_at "w"
    walk_at "at"
    repeat walk_at "w"
    have done : Q v ⟨vars₀, upd H' n (.ns (LX wc m s' "" l')), nx⟩ := h _ ⟨ne, sz, l', p', by rw [es]; exact upd_self _ _ _, (upd_ne _ _ (Ne.symm ne)).trans e2, hp', ed⟩ fun k h1 h2 => (upd_ne _ _ h1).trans (e3 k h1 h2)
    cases qd' with
    | true =>
      repeat walk_at "w"
      walk_at "at"
      repeat walk_at "w"
      rw [v1 (.inr rfl)] at done
      exact done
    | false =>
      repeat walk_at "w"
      have ee : ((⟨tok.toArray⟩ : Str) == Str.ofString "") = decide (tok = []) := by
        rw [Bool.eq_iff_iff, beq_iff_eq, decide_eq_true_eq]
        constructor
        · intro hh
          have : (⟨tok.toArray⟩ : Str).length = 0 := by rw [hh]; rfl
          rw [str_len] at this
          exact List.eq_nil_of_length_eq_zero this
        · rintro rfl; rfl
      rw [ee]
      refine ⟨fun hh => ?_, fun hh => ?_⟩
      · have hh := of_decide_eq_true hh
        repeat walk_at "w"
        walk_at "at"
        repeat walk_at "w"
        rw [v2 hh rfl] at done
        exact done
      · have hh := of_decide_eq_false hh
        repeat walk_at "w"
        walk_at "at"
        repeat walk_at "w"
        rw [v1 (.inl hh)] at done
        exact done
  refine x_seq ?_
  iterate 6 walk_at "w"
  refine x_seq ?_
  cases left with
  | none =>
    cases hl
    have hpe : p = buf.length := by
      have := congrArg List.length a4
      simp at this
      have h2 : buf.length = buf.cps.size := rfl
      lia
    refine x_While (fun nn st' => st' = ⟨_, H₀, nx⟩) 0 rfl ?_
    rintro nn st' rfl
    refine tt_value (ev_Const_bool (tr_bool ⟨fun _ => ?_, fun hf => by cases hf⟩))
    refine it_none (qd := false) L ⟨?_, ?_, ?_⟩ ⟨a1, a2, fun _ _ _ => rfl⟩ hpe fun vars' H' hv' hs' => ?_
    · walk_at "lk"
    · walk_at "lk"
    · walk_at "lk"
    · refine thn_next ?_
      exact fin vars' H' l p _ [] .none hv' hs' (by simp) a3 (fun hh => by rcases hh with z | z; exact absurd rfl z; cases z) (fun _ _ => rfl) rfl a4
  | some r =>
    unfold lxOne at hl
    dsimp only at hl a4
    cases hlx : lx .sp false [] r with
    | none => rw [hlx] at hl; cases hl
    | some x =>
      obtain ⟨tok, qd', e, r'⟩ := x
      rw [hlx] at hl
      cases hl
      rw [← show buf.cps.toList.drop p = r from a4] at hlx
      refine rt_loop L hwc (H₀ := H₀) ⟨_, _, rfl⟩ (fun vars' H' l' p' hv' hs' hd' hp' => ?_) (ls := .sp) trivial hlx a3 (Nat.zero_le _) ⟨?_, ?_, ?_⟩ ⟨a1, a2, fun _ _ _ => rfl⟩
      · refine thn_next ?_
        have hful := lx_full hlx
        refine fin vars' H' l' p' qd' tok _ hv' hs' ?_ hp' (fun _ => rfl) (fun z1 z2 => ?_) ?_ ?_
        · have := lx_len hlx
          simp at this
          have h2 : buf.length = buf.cps.size := rfl
          lia
        · rcases hful with z | z
          · exact absurd z1 z
          · rw [z2] at z; cases z
        · cases e <;> rfl
        · cases e with
          | true => rw [hd', lx_end hlx]; rfl
          | false => exact hd'
      · walk_at "lk"
      · walk_at "lk"
      · walk_at "lk"

theorem c_gt {C : Fx} {st : St} {n m : Nat} {wc buf : Str} (H : HB C) (hd : C.d ≤ 500) (hwc : WcOk wc) {left left' : Option (List Nat)} {v : V} (A : LexAt st.heap n m wc buf left) (hl : lxOne left = some (v, left')) {Q : V → St → Prop}
    (h : ∀ H', LexAt H' n m wc buf left' → (∀ k, k ≠ n → k ≠ m → H' k = st.heap k) → Q v ⟨st.vars, H', st.nx⟩) : JV C VR [.inst 767 n] (fun ws => call (.ref 728) ws) st Q := by
  refine JC.jv (code_fn0 (vars := [("self", .inst 767 n)]) (f_gt H) (by lia) (show parOk fd_gt.scope ["self"] = true by decide +kernel) (fun env Z R ρ s ws hs hw => ?_) ?_)
  · obtain ⟨x, rfl, r1⟩ := inv1 hw
    exact ⟨_, BindsTo.of_eq rfl, .cons r1 .nil⟩
  have HBc : HB (C.into fd_gt.scope) := H
  obtain ⟨vars₀, H₀, nx⟩ := st
  obtain ⟨ne, sz, l, p, a1, a2, a3, a4⟩ := id A
  dsimp only at a1 a2 h
  refine x_seq ?_
  repeat walk_at "w"
  walk_at "at"
  repeat walk_at "w"
  refine ev_MethI HBc cls_shl m_rdtok.find m_rdtok.typ m_rdtok.keep ?_
  repeat walk_at "w"
  refine ⟨⟨n, _, rfl, a1, by rfl⟩, ?_⟩
  repeat walk_at "w"
  refine c_rt (C := C.into fd_gt.scope) H (show C.d + 1 ≤ 600 from dk hd (by decide)) hwc (by exact A) hl fun H' A' hk => ?_
  have hfin := h H' A' hk
  obtain ⟨ne', sz', l', p', a1', a2', a3', a4'⟩ := id A'
  repeat walk_at "w"
  walk_at "at"
  repeat walk_at "w"
  refine x_While (fun _ st' => st' = ⟨_, H', nx⟩) 0 rfl ?_
  rintro nn st' rfl
  repeat walk_at "w"
  walk_at "at"
  cases left with
  | none =>
    cases hl
    repeat walk_at "w"
    walk_at "at"
    repeat walk_at "w"
    walk_at "at"
    repeat walk_at "w"
    exact hfin
  | some r =>
    unfold lxOne at hl
    dsimp only at hl
    cases hlx : lx .sp false [] r with
    | none => rw [hlx] at hl; cases hl
    | some x =>
      obtain ⟨tok, qd', e, r'⟩ := x
      rw [hlx] at hl
      cases hl
      repeat walk_at "w"
      walk_at "at"
      repeat walk_at "w"
      exact hfin
-- MLexI

set_option maxRecDepth 100000
set_option maxHeartbeats 4000000
open PySem PySem.W PyProof.Rows




local macro_rules | `(tactic| walk_at "ss") => `(tactic| (refine at_set (by assumption) cls_sio (sio_none (by kernel_rfl)) (by walk_at "hp") (by first | (show 0 ≤ 900; decide) | (show 1 ≤ 900; decide) | (show 2 ≤ 900; decide) | (show 3 ≤ 900; decide)) ?_))
local macro_rules | `(tactic| walk_at "sa") => `(tactic| (refine at_get (by assumption) cls_sio (sio_none (by kernel_rfl)) (by walk_at "hp") (by rfl) ?_))
theorem updd {α : Type} (H : Nat → Option α) (n : Nat) (x y : α) : upd (upd H n x) n y = upd H n y := by
  funext k; unfold upd; split <;> rfl
section
variable {P : Params} {B : PH}
noncomputable abbrev fd_trans : FuncData := fnF "__translated" "StringIO.__translated" (clsBody pb 19) 2 .none (.str (Str.ofString "io") 426) (.ref 408)
theorem f_trans (H : BaseK (K P) B) : Fn0 B 409 fd_trans (bodyAt (clsBody pb 19) 2) := H.fn0 (o := fnO "__translated" "StringIO.__translated" (clsBody pb 19) 2 .none (.str (Str.ofString "io") 426) (.ref 408)) (by kernel_rfl) rfl rfl (by kernel_rfl) (by decide +kernel) rfl rfl rfl rfl
noncomputable abbrev fd_sini : FuncData := fnF "__init__" "StringIO.__init__" (clsBody pb 19) 1 (.ref 395) (.str (Str.ofString "io") 426) (.ref 401)
theorem f_sini (H : BaseK (K P) B) : Fn0 B 402 fd_sini (bodyAt (clsBody pb 19) 1) := H.fn0 (o := fnO "__init__" "StringIO.__init__" (clsBody pb 19) 1 (.ref 395) (.str (Str.ofString "io") 426) (.ref 401)) (by kernel_rfl) rfl rfl (by kernel_rfl) (by decide +kernel) rfl rfl rfl rfl
noncomputable abbrev fd_snew : FuncData := fnF "__new__" "IOBase.__new__" (clsBody pb 15) 1 .none (.str (Str.ofString "io") 426) (.ref 124)
theorem f_snew (H : BaseK (K P) B) : Fn0 B 125 fd_snew (bodyAt (clsBody pb 15) 1) := H.fn0 (o := fnO "__new__" "IOBase.__new__" (clsBody pb 15) 1 .none (.str (Str.ofString "io") 426) (.ref 124)) (by kernel_rfl) rfl rfl (by kernel_rfl) (by decide +kernel) rfl rfl rfl rfl
theorem g_sio (H : BaseK (K P) B) : Glo B "StringIO" (.ref 632) := H.glo (by kernel_rfl)
theorem g_bio (H : BaseK (K P) B) : Glo B "BytesIO" (.ref 385) := H.glo (by kernel_rfl)
theorem sio_make (M : Model) (h : Heap) (X : (K P).In h) : Makes2 M h 632 := makes2_of X (by kernel_rfl) (fun S => by kernel_rfl) (fun S => by kernel_rfl) (fun S => by kernel_rfl)
theorem sio_n1 : ∀ S n tk, pk (K P) S (checkBuiltinCall "object.__new__" ⟨[.ref 632], []⟩) n tk [] = some ((), [], tk) := fun S n tk => by kernel_rfl
theorem sio_n2 : ∀ S n tk, pk (K P) S (Builtin.«object.__new__» ⟨[.ref 632], []⟩) n tk [] = some (.done (.ret (.ref (n + 1))), [emptyDict, instObj 632 n], tk) := fun S n tk => by kernel_rfl
theorem snew_find : findCls (K P) (.ref 632) (.type "type") "__new__" = some (.get (.builtin "staticmethod.__get__") (.ref 129) .none (.ref 632)) := by kernel_rfl
theorem onew_find : findCls (K P) (.type "object") (.type "type") "__new__" = some (.val (.builtin "object.__new__")) := by kernel_rfl
theorem sio_reads : readsIn (K P) 632 (.type "type") = true := by kernel_rfl
theorem sio_keep : keepIn (K P) (.ref 632) = true := by kernel_rfl
theorem m_sinit : MethK (K P) 632 "__init__" 402 := ⟨by kernel_rfl, by kernel_rfl, by kernel_rfl⟩
end

section
variable {C : Fx} {st : St}
theorem c_trans (H : HB C) (hd : C.d ≤ 900) {n : Nat} {fs : List (Str × V)} {s : Str} (hn : st.heap n = some (.ns fs)) (hf : fs.lookup ("_StringIO__newline" : Str) = some (.str "\n")) {Q : V → St → Prop} (h : Q (.str s) st) : JV C VR [.inst 632 n, .str s] (fun ws => call (.ref 409) ws) st Q := by
  refine JC.jv (code_fn0 (vars := [("self", .inst 632 n), ("s", .str s)]) (f_trans H) (by lia) (show parOk fd_trans.scope ["self", "s"] = true by decide +kernel) (fun env Z R ρ s ws hs hw => ?_) ?_)
  · obtain ⟨x, y, rfl, r1, r2⟩ := inv2 hw
    exact ⟨_, BindsTo.of_eq rfl, .cons r1 (.cons r2 .nil)⟩
  have HBc : HB (C.into fd_trans.scope) := H
  refine x_seq ?_
  repeat walk_at "w"
  refine at_get HBc cls_sio (sio_none (by kernel_rfl)) (by exact hn) (by exact hf) ?_
  repeat walk_at "w"
  exact h

theorem c_sini (H : HB C) (hd : C.d ≤ 800) {n : Nat} {s : Str} (hn : st.heap n = some (.ns [])) {Q : V → St → Prop} (h : Q .none { st with heap := upd st.heap n (.ns (SIO s 0)) }) : JC C 402 [.inst 632 n, .str s] [] st Q := by
  refine code_fn0 (vars := [("self", .inst 632 n), ("initial_value", .str s), ("newline", .str "\n")]) (f_sini H) (by lia) (show parOk fd_sini.scope ["self", "initial_value", "newline"] = true by decide +kernel) (fun env Z R ρ s ws hs hw => ?_) ?_
  · obtain ⟨x, y, rfl, r1, r2⟩ := inv2 hw
    exact ⟨_, binds_K (hs.knows H.inK) rfl (show (K C.w.params).lookup 395 = some _ from rfl) rfl rfl rfl, .cons r1 (.cons r2 (.cons (.str _ _) .nil))⟩
  have HBc : HB (C.into fd_sini.scope) := H
  refine x_seq ?_
  repeat walk_at "w"
  refine ev_CallT (t_type (by exact HBc)) (by rfl) ?_
  repeat walk_at "w"
  refine ty_str ?_
  refine ev_Blt (t_str (by exact HBc)) (by rfl) ?_
  repeat walk_at "w"
  refine ev_CallT (t_type (by exact HBc)) (by rfl) ?_
  repeat walk_at "w"
  refine ty_str ?_
  refine ev_Blt (t_str (by exact HBc)) (by rfl) ?_
  repeat walk_at "w"
  walk_at "ss"
  repeat walk_at "w"
  walk_at "ss"
  repeat walk_at "w"
  walk_at "ss"
  repeat walk_at "w"
  refine ev_MethI HBc cls_sio m_trans.find m_trans.typ m_trans.keep ?_
  repeat walk_at "w"
  refine ⟨⟨n, _, rfl, upd_self _ _ _, by rfl⟩, ?_⟩
  repeat walk_at "w"
  refine c_trans (C := C.into fd_sini.scope) H (show C.d + 1 ≤ 900 from dk hd (by decide)) (by exact upd_self _ _ _) (by rfl) ?_
  repeat walk_at "w"
  walk_at "ss"
  repeat walk_at "w"
  simp only [updd]
  exact h

theorem c_snew (H : HB C) (hd : C.d ≤ 800) {s : Str} {Q : V → St → Prop} (h : Q (.inst 632 (st.nx + 1)) ⟨st.vars, upd (upd st.heap st.nx (.ns [])) (st.nx + 1) (.ns []), st.nx + 2⟩) : JC C 125 [.val (.ref 632), .str s] [] st Q := by
  refine code_fn (st₁ := ⟨st.vars, upd st.heap st.nx (.ns []), st.nx + 1⟩) (vars := [("cls", .val (.ref 632)), ("args", .tup [.str s]), ("kwargs", .obj st.nx)]) (f_snew H) (by lia) (show parOk fd_snew.scope ["cls", "args", "kwargs"] = true by decide +kernel) (fun env Z R ρ sh ws hs hw => ?_) ?_
  · obtain ⟨x, y, rfl, r1, r2⟩ := inv2 hw
    have e : bindArgs fd_snew ⟨[x, y], []⟩ = (newTuple [y] >>= fun t => alloc { cls := .type "dict", data := .dict #[] } >>= fun d => pure [(Str.ofString "cls", x), (Str.ofString "args", t), (Str.ofString "kwargs", .ref d)]) := by rfl
    rw [e]
    obtain ⟨le, k⟩ := hs.allocZ (tobj #[y] 0) sh.toks
    have k2 := k.allocO emptyDict (.ns []) sh.toks (.ns (n := 0) .nil)
    have hnx : ρ.length = st.nx := let ⟨_, k⟩ := hs; k.nx
    refine wpAny_bind (wpAny_newTuple ?_ (by show 1 ≤ _; rw [sizeLine_eq]; decide))
    refine wpAny_bind (wpAny_alloc (wpAny_pure ?_))
    refine ⟨_, _, le, Ext.snoc _ _, k2, .cons (r1.mono le (Ext.snoc _ _)) (.cons ?_ (.cons ?_ .nil))⟩
    · exact .tup (ws := #[y]) (n := 0) (PH.put_self ..) (.cons (r2.mono le (Ext.snoc _ _)) .nil)
    · exact .obj (by rw [List.getElem?_append_right (by rw [hnx]; exact Nat.le_refl _), hnx, Nat.sub_self]; rfl)
  have HBc : HB (C.into fd_snew.scope) := H
  refine x_seq ?_
  repeat walk_at "w"
  refine ev_Glo (g_bio (by exact HBc)) (by rfl) ?_
  refine isnot_refs (by exact HBc) (show (K C.w.params).lookup 632 = some _ from rfl) (show (K C.w.params).lookup 385 = some _ from rfl) (by simp) ?_
  repeat walk_at "w"
  refine ev_Glo (g_sio (by exact HBc)) (by rfl) ?_
  refine isnot_refs (by exact HBc) (show (K C.w.params).lookup 632 = some _ from rfl) (show (K C.w.params).lookup 632 = some _ from rfl) (by simp) ?_
  repeat walk_at "w"
  refine ev_ObjNew (by exact HBc) (t_object (by exact HBc)) (by rfl) onew_find ?_
  repeat walk_at "w"
  refine new_obj (by exact HBc) sio_n1 sio_n2 ?_
  repeat walk_at "w"
  exact h

theorem c_sio (H : HB C) (hd : C.d ≤ 700) {s : Str} {Q : V → St → Prop} (h : Q (.inst 632 (st.nx + 1)) ⟨st.vars, upd (upd st.heap st.nx (.ns [])) (st.nx + 1) (.ns (SIO s 0)), st.nx + 2⟩) : JV C VR [.str s] (fun ws => call (.ref 632) ws) st Q := by
  refine mk_inst2 (kws := []) H (fun M h X => sio_make M h X) sio_reads snew_find (show recIn (K C.w.params) 129 "staticmethod" = some (.ref 125 :: []) by kernel_rfl) m_sinit.find m_sinit.typ ?_
  refine c_snew (C := C.make) H (show C.d + 1 ≤ 800 from dk hd (by decide)) ?_
  refine ⟨st.nx + 1, [], rfl, upd_self _ _ _, ?_⟩
  refine c_sini (C := C.make) H (show C.d + 1 ≤ 800 from dk hd (by decide)) (by exact upd_self _ _ _) ?_
  refine ⟨rfl, ?_⟩
  rw [updd]
  exact h
end

section
variable {P : Params} {B : PH}
noncomputable abbrev fd_lini : FuncData := fnF "__init__" "shlex.__init__" (clsBody pb 29) 0 (.ref 684) (.str (Str.ofString "cpy313.shlex") 1142) (.ref 690)
theorem f_lini (H : BaseK (K P) B) : Fn0 B 691 fd_lini (bodyAt (clsBody pb 29) 0) := H.fn0 (o := fnO "__init__" "shlex.__init__" (clsBody pb 29) 0 (.ref 684) (.str (Str.ofString "cpy313.shlex") 1142) (.ref 690)) (by kernel_rfl) rfl rfl (by kernel_rfl) (by decide +kernel) rfl rfl rfl rfl
theorem m_linit : MethK (K P) 767 "__init__" 691 := ⟨by kernel_rfl, by kernel_rfl, by kernel_rfl⟩
theorem g_shl (H : BaseK (K P) B) : Glo B "shlex" (.ref 767) := H.glo (by kernel_rfl)
theorem shl_makes : makesIn (K P) 767 = true := by kernel_rfl
theorem shl_keep : keepIn (K P) (.ref 767) = true := by kernel_rfl
end
theorem setv_new (x : Str) (v : V) : ∀ l : List (Str × V), l.lookup x = none → setv x v l = l ++ [(x, v)]
  | [], _ => rfl
  | (y, u) :: r, h => by
    rw [List.lookup_cons] at h
    unfold setv
    by_cases q : (y == x) = true
    · have := beq_iff_eq.mp q
      subst this
      simp at h
    · have q2 : (x == y) = false := by
        rw [Bool.not_eq_true] at q
        rw [beq_eq_false_iff_ne] at q ⊢
        exact Ne.symm q
      rw [q2] at h
      rw [if_neg q, setv_new x v r h]
      rfl
theorem at_setN {C : Fx} {st : St} {K : Frag} {c : Addr} {n : Nat} {fs : List (Str × V)} {x : Str} {u : V} {Q : Unit → St → Prop} (H : BaseK K C.base) (k : ClsK K c) (ha : findIn K (.ref c) x = some none) (hh : st.heap n = some (.ns fs)) (hno : fs.lookup x = none) (hz : fs.length ≤ 900)
    (h : Q () { st with heap := upd st.heap n (.ns (fs ++ [(x, u)])) }) : JV C rUnit [.inst c n, u] (two fun a b => setAttr a x b) st Q :=
  at_set H k ha hh hz (by rw [setv_new x u fs hno]; exact h)
theorem at_setE {C : Fx} {st : St} {K : Frag} {c : Addr} {n : Nat} {fs : List (Str × V)} {x : Str} {u : V} {Q : Unit → St → Prop} (fs' : List (Str × V)) (H : BaseK K C.base) (k : ClsK K c) (ha : findIn K (.ref c) x = some none) (hh : st.heap n = some (.ns fs)) (hs : setv x u fs = fs') (hz : fs.length ≤ 900)
    (h : Q () { st with heap := upd st.heap n (.ns fs') }) : JV C rUnit [.inst c n, u] (two fun a b => setAttr a x b) st Q :=
  at_set H k ha hh hz (by rw [hs]; exact h)
local macro_rules | `(tactic| walk_at "sl") => `(tactic| (refine at_setN (by assumption) cls_shl (shl_none (by kernel_rfl)) (by walk_at "hp") (by rfl) (by exact Nat.le_of_ble_eq_true rfl) ?_; simp only [List.cons_append, List.nil_append, updd]))
section
variable {C : Fx} {st : St}
theorem ev_CallTG {f : Str} {p pos : Pos} {es : List Expr} {id : String} {Q : V → St → Prop} (hg : Glo C.base f (.type id)) (hk : C.sc.names.lookup f = some .globalImplicit)
    (h : JL C pos es st fun vs st₁ => JV C VR vs (fun ws => call (.type id) ws) st₁ Q)
    (he : ∀ env, (backTo pos (starEach es env)).any (·.1) = false := by intro _; rfl) (hd : (f == ("__debug__" : Str)) = false := by decide) : J C VR (eval (.Call (.Name f p) es [] pos)) st Q :=
  fun env Z R ρ s hs => by
    refine wpAny_Call_NameR (wp_use (ev_Glo (Q := fun v st' => v = .val (.type id) ∧ st' = st) hg hk ⟨rfl, rfl⟩ hd env Z R ρ s hs) (fun w s₁ v st₁ Z₁ ρ₁ hz hr rv hs₁ ⟨e1, e2⟩ => ?_))
    subst e1; subst e2
    cases rv
    refine PyProof.Rows.callWith_type (he env) (wpAny_mono (args_ h he hs₁ (.type id)) (fun ar s₂ ⟨hkw, pp⟩ => pp.ex fun vs st₂ Z₂ ρ₂ hz2 hr2 rvs hs₂ h₂ => ?_) fun _ _ e => e)
    rw [hkw]
    exact wp_up (hz.trans hz2) (hr.trans hr2) (h₂ env Z₂ R ρ₂ s₂ ar.pos hs₂ rvs)
theorem wcOk_of {wc : Str} (h : ((List.range 26).all fun k => wc.cps.toList.contains (97 + k)) && !wc.cps.toList.contains 39 = true) : WcOk wc := by
  rw [Bool.and_eq_true, List.all_eq_true] at h
  refine ⟨fun c h1 h2 => ?_, fun hm => ?_⟩
  · have := h.1 (c - 97) (List.mem_range.mpr (by lia))
    rw [show 97 + (c - 97) = c by lia] at this
    exact List.contains_iff_mem.mp this
  · have := h.2
    rw [List.contains_iff_mem.mpr hm] at this
    cases this
theorem c_lini (H : HB C) (hd : C.d ≤ 600) {n : Nat} {s : Str} (hn : st.heap n = some (.ns [])) (hlt : n < st.nx) {Q : V → St → Prop} (h : ∀ wc, WcOk wc → Q .none ⟨st.vars, upd (upd (upd st.heap st.nx (.ns [])) (st.nx + 1) (.ns (SIO s 0))) n (.ns (LX wc (st.nx + 1) (.str " ") "" 1)), st.nx + 2⟩) :
    JC C 691 [.inst 767 n, .str s] [(("posix" : Str), .bool true)] st Q := by
  refine code_fn0 (vars := [("self", .inst 767 n), ("instream", .str s), ("infile", .none), ("posix", .bool true), ("punctuation_chars", .bool false)]) (f_lini H) (by lia) (show parOk fd_lini.scope ["self", "instream", "infile", "posix", "punctuation_chars"] = true by decide +kernel) (fun env Z R ρ s ws hs hw => ?_) ?_
  · obtain ⟨x, y, rfl, r1, r2⟩ := inv2 hw
    exact ⟨_, binds_K (hs.knows H.inK) rfl (show (K C.w.params).lookup 684 = some _ from rfl) rfl rfl rfl, .cons r1 (.cons r2 (.cons .none (.cons (.bool _) (.cons (.bool _) .nil))))⟩
  have HBc : HB (C.into fd_lini.scope) := H
  refine x_seq ?_
  repeat walk_at "w"
  refine tt_value ?_
  refine ev_CallB (t_isinst (by exact HBc)) (by rfl) ?_
  repeat walk_at "w"
  refine ev_Blt (t_str (by exact HBc)) (by rfl) ?_
  repeat walk_at "w"
  refine isi_str ?_
  repeat walk_at "w"
  refine ev_CallC (by exact HBc) (g_sio (by exact HBc)) sio_keep (by rfl) ?_
  repeat walk_at "w"
  refine c_sio (C := C.into fd_lini.scope) H (show C.d + 1 ≤ 700 from dk hd (by decide)) ?_
  repeat walk_at "w"
  have q1 : n ≠ st.nx := by lia
  have q2 : n ≠ st.nx + 1 := by lia
  iterate 5 (walk_at "sl"; repeat walk_at "w")
  walk_at "sl"
  repeat walk_at "w"
  walk_at "at"
  repeat walk_at "w"
  walk_at "at"
  repeat walk_at "w"
  refine ip_addS (by decide +kernel) ?_
  refine at_setE [("instream", .inst 632 (st.nx + 1)), ("infile", .none), ("posix", .bool true), ("eof", .none), ("commenters", .str "#"), ("wordchars", .str _)] (by exact HBc) cls_shl (shl_none (by kernel_rfl)) (by walk_at "hp") (by rfl) (by exact Nat.le_of_ble_eq_true rfl) ?_
  rw [updd]
  repeat walk_at "w"
  iterate 6 (walk_at "sl"; repeat walk_at "w")
  refine ev_CallTG (g_deque (by exact HBc)) (by rfl) ?_
  repeat walk_at "w"
  refine mk_deq ?_
  repeat walk_at "w"
  iterate 4 (walk_at "sl"; repeat walk_at "w")
  refine ev_CallTG (g_deque (by exact HBc)) (by rfl) ?_
  repeat walk_at "w"
  refine mk_deq ?_
  repeat walk_at "w"
  iterate 3 (walk_at "sl"; repeat walk_at "w")
  refine tr_str (by decide) ?_
  repeat walk_at "w"
  exact h _ (wcOk_of (by decide +kernel))

theorem c_shl (H : HB C) (hd : C.d ≤ 500) {s : Str} (hsz : s.length ≤ 100000) {Q : V → St → Prop} (h : ∀ wc H', WcOk wc → LexAt H' st.nx (st.nx + 2) wc s (some s.cps.toList) → (∀ k, k < st.nx → H' k = st.heap k) → Q (.inst 767 st.nx) ⟨st.vars, H', st.nx + 3⟩) :
    JV C VR [.str s] (fun ws => call (.ref 767) ws [(("posix" : Str), .bool true)]) st Q := by
  refine mk_inst H shl_makes m_linit.find m_linit.typ ?_
  refine c_lini (C := C.make) H (show C.d + 1 ≤ 600 from dk hd (by decide)) (by exact upd_self _ _ _) (Nat.lt_succ_self _) (fun wc hwc => ⟨rfl, ?_⟩)
  refine h wc _ hwc ⟨by lia, hsz, 1, 0, upd_self _ _ _, ?_, Nat.zero_le _, rfl⟩ (fun k hk => ?_)
  · exact (upd_ne _ _ (by show st.nx + 2 ≠ st.nx; lia)).trans (upd_self _ _ _)
  · dsimp only
    rw [upd_ne _ _ (by lia), upd_ne _ _ (by lia), upd_ne _ _ (by lia), upd_ne _ _ (by lia)]

theorem ev_Shl {p pos kp cpos : Pos} {e₀ : Expr} {ck : Nat} {Q : V → St → Prop} (H : HB C) (hk : C.sc.names.lookup ("shlex" : Str) = some .globalImplicit)
    (h : JL C pos [e₀] st fun vs st₁ => JV C VR vs (fun ws => call (.ref 767) ws [(("posix" : Str), .bool true)]) st₁ Q)
    (he : ∀ env, (backTo pos (starEach [e₀] env)).any (·.1) = false := by intro _; rfl) (hx : ∀ env, ∃ x r, backTo pos (starEach [e₀] env) = (false, x) :: r := by intro _; exact ⟨_, _, rfl⟩)
    (hkw : ∀ env, ∃ t, backToKw pos (keywordEach [⟨some ("posix" : Str), .Constant (.bool true) ck cpos, kp⟩] env) = [(some ("posix" : Str), t)] ∧ ∀ (M : Model) A Q E s, Q (.bool true) s → wpAny M A t Q E s := by intro _; exact ⟨_, rfl, fun M A Q E s h => wpAny_bind (wpAny_Constant_bool (wpAny_bind (wpAny_standAt (wpAny_pure h))))⟩) :
    J C VR (eval (.Call (.Name "shlex" p) [e₀] [⟨some "posix", .Constant (.bool true) ck cpos, kp⟩] pos)) st Q :=
  ev_CallCk H (g_shl H) shl_keep hk h he hx hkw
end
-- MQt

set_option maxRecDepth 100000
set_option maxHeartbeats 4000000
open PySem PySem.W PyProof.Rows


noncomputable def isM : Option (Fin × List Obj × Tok) → Bool
  | some (.done (.ret (.ref _)), _, _) => true
  | _ => false
noncomputable def isN : Option (Fin × List Obj × Tok) → Bool
  | some (.done (.ret .none), _, _) => true
  | _ => false
theorem isM_ex {x : Option (Fin × List Obj × Tok)} (h : isM x = true) : ∃ r os tk, x = some (.done (.ret (.ref r)), os, tk) := by
  unfold isM at h
  split at h
  · exact ⟨_, _, _, rfl⟩
  · cases h
theorem isN_ex {x : Option (Fin × List Obj × Tok)} (h : isN x = true) : ∃ os tk, x = some (.done (.ret .none), os, tk) := by
  unfold isN at h
  split at h
  · exact ⟨_, _, rfl⟩
  · cases h
section
variable {C : Fx} {st : St} {K : Frag}
theorem ev_CallKp {f : Str} {p pos : Pos} {es : List Expr} {a : Addr} {Q : V → St → Prop} (H : BaseK K C.base) (hg : Glo C.base f (.ref a)) (hkeep : ∀ S, peek K S (keeperOf (.ref a)) = some .machine) (hk : C.sc.names.lookup f = some .globalImplicit)
    (h : JL C pos es st fun vs st₁ => JV C VR vs (fun ws => call (.ref a) ws) st₁ Q)
    (he : ∀ env, (backTo pos (starEach es env)).any (·.1) = false := by intro _; rfl) (hd : (f == ("__debug__" : Str)) = false := by decide) : J C VR (eval (.Call (.Name f p) es [] pos)) st Q :=
  fun env Z R ρ s hs => by
    refine wpAny_Call_NameR (wp_use (ev_Glo (Q := fun v st' => v = .val (.ref a) ∧ st' = st) hg hk ⟨rfl, rfl⟩ hd env Z R ρ s hs) (fun w s₁ v st₁ Z₁ ρ₁ hz hr rv hs₁ ⟨e1, e2⟩ => ?_))
    subst e1; subst e2
    cases rv
    refine callWith_of (P := K.In) (by rw [he env]; rfl) (fun h X => ⟨_, .inr (.inl rfl), Looks.of_peek X (hkeep _)⟩) (wpAny_mono (args_ h he hs₁ (.ref a)) (fun ar s₂ ⟨hkw, pp⟩ => pp.ex fun vs st₂ Z₂ ρ₂ hz2 hr2 rvs hs₂ h₂ => ?_) fun _ _ e => e)
    rw [hkw]
    exact ⟨hs₂.knows H.inK, wp_up (hz.trans hz2) (hr.trans hr2) (h₂ env Z₂ R ρ₂ s₂ ar.pos hs₂ rvs)⟩
theorem call_bound {a self : Addr} {o : Obj} {id : String} {b : Builtin} {x : Str} {Q : V → St → Prop} (H : BaseK K C.base)
    (ho : K.lookup a = some o) (hd : o.data = .fields #[.builtin id, .ref self]) (hc : o.cls = .type "builtin_function_or_method") (hq : plainId id = true) (hb : entryFor table id = some b)
    (h1 : ∀ S t, peek K S (checkBoundCall id ⟨[.ref self, .str x t], []⟩) = some ())
    (h2 : ∀ S t n tk, (isM (pk K S (b ⟨[.ref self, .str x t], []⟩) n tk []) = true ∧ Q .ref st) ∨ (isN (pk K S (b ⟨[.ref self, .str x t], []⟩) n tk []) = true ∧ Q .none st)) :
    JV C VR [.str x] (fun ws => call (.ref a) ws) st Q :=
  fun env Z R ρ s ws hs hw => by
    obtain ⟨y, rfl, r⟩ := inv1 hw
    obtain ⟨t, rfl⟩ := inv_str r
    have X := hs.knows H.inK
    refine wpAny_call (codeAny_of_tree ?_)
    show wpAny _ _ (callAny (.ref a) _) _ _ s
    simp only [callAny]
    refine wpAny_bind (wpAny_load (X _ _ ho) ?_)
    simp only [hd, hc]
    show wpAny _ _ (do checkBoundCall id ⟨[.ref self, .str x t], []⟩; again (.builtin id ⟨[.ref self, .str x t], []⟩)) _ _ s
    refine wpAny_bind ((Looks.of_peek X (h1 _ t)).here ?_)
    refine wpAny_pure (And.intro (plainId_quiet hq _) (codeAny_builtin hb ?_))
    rcases h2 ⟨C.prog, C.w.params⟩ t s.heap.objs.size s.toks with ⟨e, q⟩ | ⟨e, q⟩
    · obtain ⟨r, os, tk, e⟩ := isM_ex e
      refine any_of_pk X e ?_
      have hs' : SR C env Z R ρ st { s with heap := pushes s.heap os, toks := tk } := hs.keep (fun b o e => pushes_keep _ _ _ _ e)
      exact SR.post hs' (.ref _) q
    · obtain ⟨os, tk, e⟩ := isN_ex e
      refine any_of_pk X e ?_
      have hs' : SR C env Z R ρ st { s with heap := pushes s.heap os, toks := tk } := hs.keep (fun b o e => pushes_keep _ _ _ _ e)
      exact SR.post hs' .none q
end

section
variable {C : Fx} {st : St}
theorem inv3' {Z : PH} {ρ : List Addr} {a b c : V} {ws : List Value} (h : VRs Z ρ [a, b, c] ws) : ∃ x y z, ws = [x, y, z] ∧ VR Z ρ a x ∧ VR Z ρ b y ∧ VR Z ρ c z := by
  cases h with | cons h t => cases t with | cons h' t => cases t with | cons h'' t => cases t; exact ⟨_, _, _, rfl, h, h', h''⟩
theorem rep_none {x y z : Str} {Q : V → St → Prop} (hx : (Builtin.Str.occurrences x y 0 x.length (x.length + 1)).isEmpty = true) (h : Q (.str x) st) : JV C VR [.str x, .str y, .str z] (fun ws => call (.builtin "str.replace") ws) st Q :=
  fun env Z R ρ s ws hs hw => by
    obtain ⟨a, b, c, rfl, h1, h2, h3⟩ := inv3' hw
    obtain ⟨t, rfl⟩ := inv_str h1
    obtain ⟨u, rfl⟩ := inv_str h2
    obtain ⟨v, rfl⟩ := inv_str h3
    have hc : ((Builtin.Str.occurrences x y 0 x.length (x.length + 1)).isEmpty || (y.length == 0 && z.length == 0)) = true := by rw [hx]; rfl
    refine call_gives F.slot_str_replace (typeIs_str _ _ _) F.entry_str_replace (F.args_str_replace_3 _ _ _)
      (gives_str_replace x y z t u v fun e => by rw [hc] at e; cases e) ?_
    rw [hc]
    exact SR.post hs (.str _ _) h
theorem ev_MethS {o : Expr} {name : Str} {apos pos : Pos} {es : List Expr} {id : String} {Q : V → St → Prop} (slot : Slot "str" name id) (hty : typeOf (.builtin id) = pure (.type "method_descriptor"))
    (h : J C VR (eval o) st fun ov st₁ => (∃ x, ov = .str x) ∧ JL C pos es st₁ fun vs st₂ => JV C VR (ov :: vs) (fun ws => call (.builtin id) ws) st₂ Q)
    (hbase : ∀ env, attributeBase o name env (eval o env) = eval o env := by intro _; rfl) (hline : (apos.endLine == pos.line) = true := by rfl)
    (he : ∀ env, (backTo pos (starEach es env)).any (·.1) = false := by intro _; rfl)
    (hfew : ∀ env, ((backTo pos (starEach es env)).all (fun x => !x.1) && (backToKw pos (keywordEach [] env)).all (fun x => x.1.isSome) && decide (es.length + ([] : List Keyword).length + (if ([] : List Keyword).isEmpty then 0 else 1) < 30)) = true := by intro _; rfl) :
    J C VR (eval (.Call (.Attribute o name apos) es [] pos)) st Q :=
  fun env Z R ρ s hs => by
    refine wpAny_Call_method (hbase env) (hfew env) hline PySem.F.plainAttrs_str slot hty (wpAny_mono (h env Z R ρ s hs) (fun w s₁ ⟨v, st₁, Z₁, ρ₁, hz, hr, rv, hs₁, ⟨x, e1⟩, h₁⟩ => ?_) fun _ _ e => e)
    subst e1
    obtain ⟨t, rfl⟩ := inv_str rv
    refine ⟨typeIs_str _ _ _, (fun b e => nomatch e), ?_⟩
    refine Calls.callWith_builtin (he env) (wpAny_mono (args_ h₁ he hs₁ (.builtin id)) (fun ar s₂ ⟨hkw, pp⟩ => pp.ex fun vs st₂ Z₂ ρ₂ hz2 hr2 rvs hs₂ h₂ => ?_) fun _ _ e => e)
    rw [hkw]
    exact wp_up (hz.trans hz2) (hr.trans hr2) (h₂ env Z₂ R ρ₂ s₂ (.str x t :: ar.pos) hs₂ (.cons (rv.mono hz2 hr2) rvs))
end

section
variable {P : Params} {B : PH}
noncomputable abbrev fd_quote : FuncData := fnF "quote" "quote" pb 33 .none (.str (Str.ofString "cpy313.shlex") 1142) (.ref 785)
theorem f_quote (H : BaseK (K P) B) : Fn0 B 786 fd_quote (bodyAt pb 33) := H.fn0 (o := fnO "quote" "quote" pb 33 .none (.str (Str.ofString "cpy313.shlex") 1142) (.ref 785)) (by kernel_rfl) rfl rfl (by kernel_rfl) (by decide +kernel) rfl rfl rfl rfl
theorem g_quote (H : BaseK (K P) B) : Glo B "quote" (.ref 786) := H.glo (by kernel_rfl)
theorem g_find (H : BaseK (K P) B) : Glo B "_find_unsafe" (.ref 779) := H.glo (by kernel_rfl)
theorem find_keep (S : Setting) : peek (K P) S (keeperOf (.ref 779)) = some .machine := by kernel_rfl
end
inductive Qt : Str → Str → Prop
  | nil : Qt ⟨#[]⟩ "''"
  | safe {x : Str} (h0 : x.length ≠ 0) (hz : x.length ≤ 100) (h : ∀ (P : Params) S t n tk, isN (pk (K P) S (Builtin.«re.Pattern.search» ⟨[.ref 84, .str x t], []⟩) n tk []) = true) (hc : ∀ (P : Params) S t, peek (K P) S (checkBoundCall "re.Pattern.search" ⟨[.ref 84, .str x t], []⟩) = some ()) : Qt x x
  | odd {x : Str} (h0 : x.length ≠ 0) (hz : x.length ≤ 100) (h : ∀ (P : Params) S t n tk, isM (pk (K P) S (Builtin.«re.Pattern.search» ⟨[.ref 84, .str x t], []⟩) n tk []) = true) (hc : ∀ (P : Params) S t, peek (K P) S (checkBoundCall "re.Pattern.search" ⟨[.ref 84, .str x t], []⟩) = some ()) (ho : (Builtin.Str.occurrences x "'" 0 x.length (x.length + 1)).isEmpty = true) : Qt x ("'" ++ x ++ "'")
theorem qt_h : Qt "#" ("'" ++ "#" ++ "'") := .odd (by decide) (by decide) (fun P S t n tk => by kernel_rfl) (fun P S t => by kernel_rfl) (by decide +kernel)

section
variable {C : Fx} {st : St}
theorem b_quote (H : HB C) (hd : C.d ≤ 900) {x y : Str} (q : Qt x y) {Q : V → St → Prop} (h : Q (.str y) { st with vars := [("s", .str x)] }) : JX (C.into fd_quote.scope) (bodyAt pb 33) { st with vars := [("s", .str x)] } fun f st' => Q (retV f) st' := by
  have HBc : HB (C.into fd_quote.scope) := H
  cases q with
  | nil =>
    refine x_seq ?_
    repeat walk_at "w"
    refine tr_str (by decide) ?_
    repeat walk_at "w"
    exact h
  | safe h0 hz hs hc =>
    refine x_seq ?_
    repeat walk_at "w"
    refine tr_str (Nat.le_trans hz (by decide)) ?_
    rw [show (x.length != 0) = true from bne_iff_ne.mpr h0]
    repeat walk_at "w"
    refine ev_CallKp (by exact HBc) (g_find (by exact HBc)) find_keep (by rfl) ?_
    repeat walk_at "w"
    refine call_bound (by exact HBc) (show (K _).lookup 779 = some _ from rfl) rfl rfl (by decide +kernel) (entryFor_of_tree (by kernel_rfl)) (fun S t => hc _ S t) (fun S t n tk => .inr ⟨hs _ S t n tk, ?_⟩)
    repeat walk_at "w"
    exact h
  | odd h0 hz hs hc ho =>
    refine x_seq ?_
    repeat walk_at "w"
    refine tr_str (Nat.le_trans hz (by decide)) ?_
    rw [show (x.length != 0) = true from bne_iff_ne.mpr h0]
    repeat walk_at "w"
    refine ev_CallKp (by exact HBc) (g_find (by exact HBc)) find_keep (by rfl) ?_
    repeat walk_at "w"
    refine call_bound (by exact HBc) (show (K _).lookup 779 = some _ from rfl) rfl rfl (by decide +kernel) (entryFor_of_tree (by kernel_rfl)) (fun S t => hc _ S t) (fun S t n tk => .inl ⟨hs _ S t n tk, ?_⟩)
    repeat walk_at "w"
    refine ev_MethS F.slot_str_replace F.type_str_replace ?_
    repeat walk_at "w"
    refine ⟨⟨_, rfl⟩, ?_⟩
    repeat walk_at "w"
    refine rep_none ho ?_
    have l1 : (("'" : Str)).length = 1 := by decide
    refine op_addS (by rw [l1]; exact Nat.le_trans (Nat.add_le_add_left hz 1) (by decide)) ?_
    repeat walk_at "w"
    refine op_addS (by rw [l1, show ("'" ++ x : Str).length = ("'" : Str).length + x.length from by show (_ ++ _ : Array Nat).size = _; rw [Array.size_append]; rfl, l1]; exact Nat.le_trans (Nat.add_le_add_right (Nat.add_le_add_left hz 1) 1) (by decide)) ?_
    repeat walk_at "w"
    exact h
end
-- MBook

set_option maxRecDepth 100000
/-! lines of quoted words, and what the lexer makes of them (plain) -/
open PySem PySem.W PyProof.Rows

inductive Lexes : List Str → Option (List Nat) → Prop
  | nil : Lexes [] none
  | cons {w : Str} {ws : List Str} {left left' : Option (List Nat)} : lxOne left = some (.str w, left') → Lexes ws left' → Lexes (w :: ws) left
structure Wd (x y : Str) : Prop where
  sep : ∀ c r, c = 32 ∨ c = 10 → lxOne (some (y.cps.toList ++ c :: r)) = some (.str x, some r)
  fin : lxOne (some y.cps.toList) = some (.str x, none)
inductive Wds : List Str → List Str → Prop
  | nil : Wds [] []
  | cons {x y : Str} {xs ys : List Str} : Wd x y → Wds xs ys → Wds (x :: xs) (y :: ys)

noncomputable def joinC (c : Nat) : List (List Nat) → List Nat
  | [] => []
  | [x] => x
  | x :: y :: r => x ++ c :: joinC c (y :: r)
theorem cps_append (a b : Str) : (a ++ b).cps.toList = a.cps.toList ++ b.cps.toList := by
  show (a.cps ++ b.cps).toList = _
  simp
theorem joinC_cons (c : Nat) (x y : List Nat) (r : List (List Nat)) : joinC c (x :: y :: r) = x ++ c :: joinC c (y :: r) := rfl
theorem joinS_cps (sep : Str) (c : Nat) (hs : sep.cps.toList = [c]) : ∀ ys : List Str, (Str.join sep ys).cps.toList = joinC c (ys.map fun y => y.cps.toList)
  | [] => rfl
  | [y] => rfl
  | x :: y :: r => by
    have ih := joinS_cps sep c hs (y :: r)
    rw [show Str.join sep (x :: y :: r) = x ++ sep ++ Str.join sep (y :: r) from rfl, cps_append, cps_append, ih, hs, List.map_cons, List.map_cons, List.map_cons, joinC_cons, List.append_assoc]
    rfl
theorem join_cps (sep : Str) (c : Nat) (hs : sep.cps.toList = [c]) (ys : List Str) : (Txt.join sep ys).cps.toList = joinC c (ys.map fun y => y.cps.toList) := by
  rw [show Txt.join sep ys = Str.join sep ys from StrLaws.glued_eq_join sep ys]
  exact joinS_cps sep c hs ys

theorem lexes_line {xs ys : List Str} (h : Wds xs ys) (hne : xs ≠ []) {ws : List Str} : ∀ {tail : List Nat}, ((tail = [] ∧ ws = []) ∨ ∃ r, tail = 10 :: r ∧ Lexes ws (some r)) →
    Lexes (xs ++ ws) (some (joinC 32 (ys.map fun y => y.cps.toList) ++ tail)) := by
  induction h with
  | nil => exact absurd rfl hne
  | @cons x y xs ys hw ht ih =>
    intro tail hc
    cases ht with
    | nil =>
      show Lexes (x :: ws) (some (y.cps.toList ++ tail))
      rcases hc with ⟨rfl, rfl⟩ | ⟨r, rfl, hr⟩
      · rw [List.append_nil]; exact .cons hw.fin .nil
      · exact .cons (hw.sep 10 r (.inr rfl)) hr
    | @cons x' y' xs' ys' hw' ht' =>
      rw [List.map_cons, List.map_cons, joinC_cons, List.append_assoc]
      exact .cons (hw.sep 32 _ (.inl rfl)) (ih (List.cons_ne_nil _ _) hc)
theorem lexes_book : ∀ (rows : List (List Str × List Str)), (∀ p ∈ rows, Wds p.1 p.2 ∧ p.1 ≠ []) → rows ≠ [] → Lexes (rows.flatMap (·.1)) (some (joinC 10 (rows.map fun p => joinC 32 (p.2.map fun y => y.cps.toList))))
  | [], _, h => absurd rfl h
  | [p], h, _ => by
    have hp := h p (.head _)
    have := lexes_line hp.1 hp.2 (ws := []) (tail := []) (.inl ⟨rfl, rfl⟩)
    rw [List.append_nil] at this
    simpa [joinC] using this
  | p :: q :: r, h, _ => by
    have hp := h p (.head _)
    have ih := lexes_book (q :: r) (fun x hx => h x (.tail _ hx)) (List.cons_ne_nil _ _)
    have := lexes_line hp.1 hp.2 (ws := (q :: r).flatMap (·.1)) (.inr ⟨_, rfl, ih⟩)
    rw [List.flatMap_cons]
    exact this

theorem lex_wd {left left' : List Nat} {x : Str} {qd e : Bool} (h : lx .sp false [] left = some (x.cps.toList, qd, e, left')) : lxOne (some left) = some (.str x, if e then none else some left') := by
  unfold lxOne
  dsimp only
  rw [h]
-- MJoin

set_option maxRecDepth 100000
set_option maxHeartbeats 4000000
open PySem PySem.W PyProof.Rows

theorem upd_eta {α : Type} {H : Nat → Option α} {n : Nat} {x : α} (h : H n = some x) : upd H n x = H := by
  funext k; unfold upd; split
  · rename_i e; subst e; exact h.symm
  · rfl

section
variable {C : Fx} {st : St}
theorem code_fnE {a : Addr} {fd : FuncData} {body : List Stmt} {vs : List V} {kws : List (Str × Value)} {vars : List (Str × V)} {Q : V → St → Prop} (F : Fn0 C.base a fd body) (hd : C.d < 1000)
    (hp : parOk fd.scope (vars.map (·.1)) = true)
    (hb : ∀ (env : Env) (Z R : PH) (ρ : List Addr) (s : Shared) (ws : List Value), SR C env Z R ρ st s → VRs Z ρ vs ws → ∃ binds, BindsTo s fd ⟨ws, kws⟩ binds ∧ BR Z ρ vars binds)
    (h : ∀ env Z R ρ s, env.code = fd.code → SR (C.into fd.scope) env Z R ρ { st with vars := vars } s → wpAny C.M (C.into fd.scope).A (execs body env) (Post (C.into fd.scope) env Z R ρ rFlow fun f st' => Q (retV f) { st' with vars := st.vars }) noE s) : JC C a vs kws st Q :=
  code_fnX F hd hp (fun env Z R ρ s ws hs hw => let ⟨binds, h1, h2⟩ := hb env Z R ρ s ws hs hw; h1 _ _ _ _ ⟨Z, ρ, PH.le.refl _, Ext.refl _, hs, h2⟩) h
end

theorem leaf_quote {C : Fx} (H : HB C) {A' : Around} {E' : Value → Shared → Prop} (hA : A'.handled = none) (hD : A'.depth ≤ 900) {cenv : Env} {t : Shared} {m₂ : Str → Option Value} {x y : Str} {tk : Tok} {p1 p2 p3 : Pos}
    (kfn : cenv.scope.kind = .function) (kq : cenv.kindOf "quote" = some .globalImplicit) (ka : cenv.kindOf "arg" = some .local) (hg : cenv.globals = mainGlobals) (hn : t.heap.Ns cenv.locals m₂) (hv : m₂ "arg" = some (.str x tk))
    (hb : ∀ a o, C.base a = some o → t.heap.get? a = some o) (q : Qt x y) :
    wpAny C.M A' (eval (.Call (.Name "quote" p1) [.Name "arg" p2] [] p3) cenv) (fun r t' => (∃ tk', r = .str y tk') ∧ Keeps t t') E' t := by
  obtain ⟨mg, h1, h2⟩ := g_quote H t.heap hb
  refine wpAny_Call_NameR (Calls.Name_function_global kfn kq (Calls.loadGlobal_global (by rw [hg]; exact h1) h2 ?_) (by decide))
  obtain ⟨o, ho, hdata, _⟩ := (f_quote H).at_
  refine Calls.callWith_function (o := o) (fd := fd_quote) (Calls.evalArgs_plain (Calls.spliced_cons (wpAny_Name (wpAny_loadName_local kfn ka hn hv (Calls.spliced_nil ⟨⟨hb _ _ ho, hdata⟩, ?_⟩)))))
  show wpAny C.M A' (call (.ref 786) [.str x tk]) _ E' t
  let C2 : Fx := { C with os := t.os, d := A'.depth, u := A'.units, gp := fun g d => g = t.gens ∧ d = t.drawn, pin := none }
  have H2 : HB C2 := H
  refine wpAny_weaker (A := C2.A) hA.symm (Nat.le_refl _) rfl rfl (Nat.le_refl _) ?_
  refine wpAny_call (codeAny_mono (call_raw (C := C2) (Z := C.base) (vars := [("s", .str x)]) (Q := fun v st' => v = .str y) (f_quote H2) (by show A'.depth < 1000; lia) (show parOk fd_quote.scope ["s"] = true by decide +kernel) (PH.le.refl _) hb (fun p e => nomatch e) rfl ⟨rfl, rfl⟩ (BindsTo.of_eq rfl) (.cons (.str x tk) .nil)
    (b_quote (Q := fun v _ => v = .str y) (st := ⟨[], pinned none, 0⟩) H2 hD q rfl)) fun r s' hr => ?_)
  obtain ⟨v, w, st', Z', ρ', rfl, _, _, rv, kk, e1, ⟨e2, e3⟩, _, hv'⟩ := hr
  subst hv'
  obtain ⟨u, rfl⟩ := inv_str rv
  refine ⟨⟨u, rfl⟩, s'.heap, s'.toks, ?_, fun b o e => kk b o (by intro z; cases z) e⟩
  obtain ⟨hh, g, d, tt, os⟩ := s'
  obtain ⟨hh0, g0, d0, tt0, os0⟩ := t
  dsimp only at e1 e2 e3
  subst e2; subst e3
  rw [e1]

section
variable {P : Params} {B : PH}
noncomputable abbrev fd_join : FuncData := fnF "join" "join" pb 30 .none (.str (Str.ofString "cpy313.shlex") 1142) (.ref 777)
theorem f_join (H : BaseK (K P) B) : Fn0 B 778 fd_join (bodyAt pb 30) := H.fn0 (o := fnO "join" "join" pb 30 .none (.str (Str.ofString "cpy313.shlex") 1142) (.ref 777)) (by kernel_rfl) rfl rfl (by kernel_rfl) (by decide +kernel) rfl rfl rfl rfl
theorem g_joins (H : BaseK (K P) B) : Glo B "join_shlex" (.ref 778) := H.glo (by kernel_rfl)
end

theorem code_of {C : Fx} (H : HB C) {env : Env} {Z R : PH} {ρ : List Addr} {st : St} {s : Shared} (hs : SR C env Z R ρ st s) (hp : C.pin = some 773) (h0 : st.heap 0 = some .codes) : ∃ ps, s.heap.IsCode 777 773 ps ∧ s.heap.TableAt 777 773 ps := by
  have X := hs.knows H.inK
  obtain ⟨T, k⟩ := hs
  obtain ⟨a, e1, _, o, e3, e4⟩ := k.objs 0 _ h0
  rw [k.pin _ hp] at e1; cases e1
  cases e4 with
  | codes hd ht =>
    subst hd
    have h7 := X _ _ (show (K C.w.params).lookup 777 = some _ from rfl)
    exact ⟨_, ⟨_, _, _, _, _, _, _, _, _, _, h7, rfl, rfl, rfl, rfl, rfl, rfl, e3, rfl, ht, by decide⟩, ⟨_, _, h7, rfl, rfl, rfl⟩, e3⟩
theorem isCode_tri {h : Heap} {c P : Addr} {ps : Array Value} (x : h.IsCode c P ps) : TriplesOk ps.toList :=
  x.elim fun _ x => x.elim fun _ x => x.elim fun _ x => x.elim fun _ x => x.elim fun _ x => x.elim fun _ x => x.elim fun _ x => x.elim fun _ x => x.elim fun _ x => x.elim fun _ x => x.2.2.2.2.2.2.2.2.2.1
theorem genexprCodeT {M : Model} {A : Around} {E : Value → Shared → Prop} {s : Shared} {env : Env} {c P : Addr} {ps : Array Value} {pos : Pos} {qualname : Str} {scope : Scope} {Q : Value → Shared → Prop} (hc : env.code = .ref c) (hok : s.heap.IsCode c P ps ∧ s.heap.TableAt c P ps)
    (hQ : ∀ code h' tk ps', Heap.ExtBut P s.heap h' → h'.IsCode c P ps' ∧ h'.TableAt c P ps' → Q code { s with heap := h', toks := tk }) :
    wpAny M A (genexprCode env pos qualname scope) Q E s := by
  cases hnf : codeAmong pos ps.toList with
  | some cv => exact wpAny_genexprCode_hit hc hok.1 hnf (hQ cv s.heap s.toks ps (Heap.ExtBut.refl _ _) hok)
  | none => exact wpAny_genexprCodeX hc hok.1 hok.2 hnf fun c' h' tk hx _ _ h1 _ h2 _ => hQ _ _ _ _ hx ⟨h1, h2⟩

inductive Qts : List Str → List Str → Prop
  | nil : Qts [] []
  | cons {x y : Str} {xs ys : List Str} : Qt x y → Qts xs ys → Qts (x :: xs) (y :: ys)
theorem Qts.length : ∀ {xs ys : List Str}, Qts xs ys → xs.length = ys.length
  | _, _, .nil => rfl
  | _, _, .cons _ t => by rw [List.length_cons, List.length_cons, t.length]
theorem Qts.get : ∀ {xs ys : List Str}, Qts xs ys → ∀ (i : Nat) (x : Str), xs[i]? = some x → ∃ y, ys[i]? = some y ∧ Qt x y
  | _, _, .nil, i, x, h => by simp at h
  | _, _, .cons q t, 0, x, h => by simp at h; subst h; exact ⟨_, rfl, q⟩
  | _, _, .cons q t, i + 1, x, h => by simpa using t.get i x (by simpa using h)
theorem VRs.strsAt {Z : PH} {ρ : List Addr} {xs : List Str} {ws : List Value} (h : VRs Z ρ (xs.map .str) ws) (i : Nat) (v : Value) (e : ws[i]? = some v) : ∃ x t, xs[i]? = some x ∧ v = .str x t := by
  have hl := h.length
  rw [List.length_map] at hl
  have hi : i < xs.length := by rw [hl]; exact (List.getElem?_eq_some_iff.mp e).1
  obtain ⟨y, e1, r⟩ := h.get i (.str xs[i]) (by simp [hi])
  rw [e] at e1; cases e1
  obtain ⟨t, rfl⟩ := inv_str r
  exact ⟨_, t, List.getElem?_eq_getElem hi, rfl⟩
theorem SR.pin_ne {C : Fx} {env : Env} {Z R : PH} {ρ : List Addr} {st : St} {s : Shared} (hs : SR C env Z R ρ st s) {p : Addr} (hp : C.pin = some p) {ao : AO} (h0 : st.heap 0 = some ao) {b : Addr} {o : Obj} (e : Z b = some o) : b ≠ p := fun z => by
  obtain ⟨T, k⟩ := hs
  obtain ⟨a, e1, e2, _⟩ := k.objs 0 _ h0
  rw [k.pin _ hp] at e1; cases e1
  have := (k.z b o e).1
  rw [z, e2] at this; cases this

theorem passing_all (n : Nat) : passing (fun _ => true) n 0 = List.range n := by
  unfold passing; rw [List.drop_zero]; exact List.filter_eq_self.mpr fun _ _ => rfl

theorem b_join {C : Fx} (H : HB C) (hd : C.d ≤ 800) (hgp : C.gp = fun g _ => AllBare g) (hpin : C.pin = some 773) {st : St} (h0 : st.heap 0 = some .codes) {xs ys : List Str} (hq : Qts xs ys) (hjo : JoinOk " " ys = true) (hl' : xs.length ≤ 1000)
    {k : Nat} {cp ap p1 p2 p3 px ip gp pos : Pos} {sc : Scope} (hk : C.sc.names.lookup ("split_command" : Str) = some .local)
    (hsc : sc.kind = .function) (hco : sc.isCoroutine = false) (hcl : ∀ env, closureFor sc env = pure []) (hcell : ∀ y ∈ sc.names, y.2 ≠ .cell) (hn0 : sc.names.lookup (".0" : Str) = some NameKind.local) (hna : sc.names.lookup ("arg" : Str) = some .local) (hnq : sc.names.lookup ("quote" : Str) = some .globalImplicit)
    (hline : (ap.endLine == pos.line) = true) (hv : st.vars.lookup ("split_command" : Str) = some (.lst (xs.map .str)))
    {Q : V → St → Prop} (h : Q (.str (Txt.join " " ys)) st) {env : Env} {Z R : PH} {ρ : List Addr} {s : Shared} (hcode : env.code = .ref 777) (hs : SR C env Z R ρ st s) :
    wpAny C.M C.A (eval (.Call (.Attribute (.Constant (.str " ") k cp) "join" ap) [.GeneratorExp (.Call (.Name "quote" p1) [.Name "arg" p2] [] p3) [⟨.Name "arg" px, .Name "split_command" ip, [], 0⟩] sc gp] [] pos) env) (Post C env Z R ρ VR Q) noE s := by
  refine wpAny_Call_method (by rfl) (by rfl) hline PySem.F.plainAttrs_str F.slot_str_join F.type_str_join (wp_use (ev_Const_str (x := " ") (Q := fun v st' => v = .str " " ∧ st' = st) ⟨rfl, rfl⟩ env Z R ρ s hs) (fun w s₁ v st₁ Z₁ ρ₁ hz hr rv hs₁ ⟨e1, e2⟩ => ?_))
  subst e1; subst e2
  obtain ⟨t, rfl⟩ := inv_str rv
  refine ⟨typeIs_str _ _ _, (fun b e => nomatch e), ?_⟩
  refine Calls.callWith_builtin (by rfl) (evalArgs_any _ (by rfl) (wpAny_items_cons ?_ (by rfl)))
  refine wpAny_GeneratorExp_walksQD rfl hco (hcl env) hcell hn0 hna hsc (show C.d < 1000 by lia) ?_ (fun x => rfl)
  refine wp_use (ev_Name (Q := fun v st' => v = .lst (xs.map .str) ∧ st' = st₁) hv hk ⟨rfl, rfl⟩ (by decide) (by decide) (by decide) env Z₁ R ρ₁ s₁ hs₁) (fun w s₂ v st₂ Z₂ ρ₂ hz2 hr2 rv2 hs₂ ⟨e1, e2⟩ => ?_)
  subst e1; subst e2
  obtain ⟨a, its, m, rfl, hzo, ri⟩ := rv2.lst_inv
  have hl := hs₂.z_ hzo
  obtain ⟨ps, hcd⟩ := code_of H hs₂ hpin h0
  have X := hs₂.knows H.inK
  refine wpAny_pyIter_list ⟨_, hl, rfl, _, rfl⟩ ?_
  have hnl : (s₂.heap.push { cls := .type "list_iterator", data := .fields #[.ref a, .int 0 0] }).NoLimit := (hs₂.knows H.nl).keeps fun b o e => Heap.get?_push_of_some _ e
  refine ⟨hnl, genexprCodeT hcode ⟨hcd.1.push _, hcd.2.push _⟩ fun code h₃ tk₃ ps' hx₃ ⟨hcd₃, htb₃⟩ => ?_⟩
  have kp₃ : ∀ b o, b ≠ 773 → s₂.heap.get? b = some o → h₃.get? b = some o := fun b o hb e => hx₃ b o hb (Heap.get?_push_of_some _ e)
  have hbs : ∀ b o, C.base b = some o → s₂.heap.get? b = some o ∧ b ≠ 773 := fun b o e => ⟨hs₂.base_ e, by obtain ⟨T, k⟩ := id hs₂; exact hs₂.pin_ne hpin h0 (k.base b o e)⟩
  have hb3 : ∀ b o, C.base b = some o → h₃.get? b = some o := fun b o e => kp₃ b o (hbs b o e).2 (hbs b o e).1
  have hgl : env.globals = mainGlobals := let ⟨_, k⟩ := hs₂; k.globals
  have h773 : (773 : Addr) < s₂.heap.objs.size := Heap.lt_size hcd.2.2
  have hIne : s₂.heap.objs.size ≠ 773 := Nat.ne_of_gt h773
  have hane : a ≠ s₂.heap.objs.size := Nat.ne_of_lt (Heap.lt_size hl)
  have h2lt : cStatics < s₂.heap.objs.size := let ⟨_, hn, _⟩ := (hs₂.knows H.nl); hn.lt
  obtain ⟨mg, g1, g2⟩ := (H.glo (by kernel_rfl) : Glo C.base "__builtins__" (.ref 4)) h₃ hb3
  refine wpAny_builtinsFor (by rw [hgl]; exact g1) g2 (by decide) (H.inK h₃ hb3 4 _ rfl) rfl rfl rfl ?_
  have hit₃ : h₃.get? s₂.heap.objs.size = some { cls := .type "list_iterator", data := .fields #[.ref a, .int 0 0] } := hx₃ _ _ hIne (Heap.get?_push_size _ rfl)
  have hl₃ := kp₃ a _ (hs₂.pin_ne hpin h0 hzo) hl
  refine ⟨s₂.heap.objs.size, [s₂.heap.objs.size, a], [s₂.heap.objs.size], its.size, _, _, fun _ => true, fun i v => ∃ y tk, ys[i]? = some y ∧ v = .str y tk, rfl, fun A' hA => Walks.list hA _ a hane its, ⟨⟨_, hit₃, rfl, rfl⟩, ⟨_, hl₃, rfl, _, rfl⟩⟩, ?_, H.nl h₃ hb3, ?_, fun href hhref => ⟨?_, ?_⟩, ?_⟩
  · intro b hb
    simp at hb
    rcases hb with rfl | rfl
    · exact Heap.lt_size hit₃
    · exact Heap.lt_size hl₃
  · simp; exact Nat.ne_of_lt h2lt
  · intro A' E' i v t' m₂ _ _ _ _ _ _ _
    exact wpAny_pure ⟨rfl, t'.heap, t'.toks, rfl, fun _ _ e => e⟩
  · intro A' E' i v t' m₂ hA hD hU hP _ hn hm hkp
    obtain ⟨x, tk, e1, rfl⟩ := ri.strsAt i v (by simpa using hP)
    obtain ⟨y, e2, q⟩ := hq.get i x e1
    refine wpAny_mono (leaf_quote H hA (by have : C.A.depth = C.d := rfl; lia) (hn := hn) (hv := hm) (kfn := hsc) (kq := hnq) (ka := hna) (hg := hgl) (q := q) fun b o e => ?_) (fun r t'' ⟨⟨tk', e⟩, hk⟩ => ⟨⟨y, tk', e2, e⟩, hk⟩) fun _ _ e => e
    refine hkp b (List.mem_range.mpr (Heap.lt_size (hb3 b o e))) (by simp; exact Nat.ne_of_lt (Heap.lt_size (hbs b o e).1)) o (hhref b o (hb3 b o e))
  · intro a' h₅ tk₅ gs hgb hlt hsz hk₅ W hat
    refine wpAny_items_nil ?_
    show wpAny C.M C.A (call (.builtin "str.join") [.str " " t, .ref a']) _ _ _
    have hys : its.size = ys.length := by
      have := ri.length
      rw [List.length_map, hq.length] at this
      simpa using this.symm
    refine SC.joinGen (W.of_in1.of_in1) (fun i s st => st.1.typeIs) hat ?_ List.mem_cons_self (fun i v ⟨j, _, y, tk, _, e⟩ => ⟨y, tk, e⟩) ?_ ?_
    · intro b hb
      show b < h₅.objs.size
      rw [hsz]
      have hlt' : h₃.objs.size < a' := hlt
      simp at hb
      rcases hb with rfl | rfl | hb
      · exact Nat.lt_succ_self _
      · exact Nat.lt_succ_of_lt hlt'
      · exact Nat.lt_succ_of_lt (Nat.lt_trans hb hlt')
    · intro s' l hm hit
      have el : l.map (·.1) = ys := by
        obtain ⟨e1, e2⟩ := hit
        rw [passing_all, List.length_range] at e1
        simp [strValues] at e1
        refine List.ext_getElem? fun i => ?_
        cases e3 : l[i]? with
        | none =>
          have := List.getElem?_eq_none_iff.mp e3
          rw [List.getElem?_eq_none_iff.mpr (by simp; lia), List.getElem?_eq_none_iff.mpr (by lia)]
        | some p =>
          obtain ⟨j, ej, y, tk, ey, ev⟩ := e2 i (.str p.1 p.2) (by simp [strValues, e3])
          rw [passing_all] at ej
          obtain ⟨hj1, hj2⟩ := List.getElem?_eq_some_iff.mp ej
          simp at hj2
          subst hj2
          cases ev
          rw [ey]; simp [e3]
      rw [el]
      refine ⟨hjo, fun t' k' => ?_⟩
      have q8 := htb₃.2
      have q10 := isCode_tri hcd₃
      have hL : (773 : Addr) < h₃.objs.size := Heap.lt_size q8
      have keep : ∀ b o, b ≠ 773 → s₂.heap.get? b = some o → s'.heap.get? b = some o := fun b o hb e => hm.heap b o (by
        have l1 := Heap.lt_size e
        have l2 := Heap.lt_size (kp₃ b o hb e)
        simp; exact ⟨Nat.ne_of_lt l2, Nat.ne_of_lt l1⟩) (hk₅ b o (kp₃ b o hb e))
      have hs' : SR C env Z₂ R ρ₂ { st₂ with heap := upd st₂.heap 0 .codes } { s' with toks := k' } := hs₂.extO (s' := { s' with toks := k' }) h0 (by obtain ⟨T, k⟩ := id hs₂; exact k.pin _ hpin) keep (hm.heap 773 _ (by simp; exact ⟨Nat.ne_of_lt hL, Nat.ne_of_lt h773⟩) (hk₅ 773 _ q8)) (.codes rfl q10) (by rw [hm.os]) (by
        rw [hgp]
        have hg0 : AllBare s₂.gens := by obtain ⟨T, k⟩ := id hs₂; have := k.gens; rw [hgp] at this; exact this
        exact hm.gens.bare (hg0.push hgb))
      rw [upd_eta h0] at hs'
      exact ⟨_, _, _, _, hz.trans hz2, hr.trans hr2, .str _ _, hs', h⟩
    · rw [passing_all, List.length_range, hys, ← hq.length]; exact Nat.le_trans hl' (by decide)

theorem c_join {C : Fx} (H : HB C) (hd : C.d ≤ 700) (hgp : C.gp = fun g _ => AllBare g) (hpin : C.pin = some 773) {st : St} (h0 : st.heap 0 = some .codes) {xs ys : List Str} (hq : Qts xs ys) (hjo : JoinOk " " ys = true) (hl : xs.length ≤ 1000) {Q : V → St → Prop} (h : Q (.str (Txt.join " " ys)) st) : JC C 778 [.lst (xs.map .str)] [] st Q := by
  refine code_fnE (vars := [("split_command", .lst (xs.map .str))]) (f_join H) (by lia) (show parOk fd_join.scope ["split_command"] = true by decide +kernel) (fun env Z R ρ s ws hs hw => ?_) fun env Z R ρ s hcode hs => ?_
  · obtain ⟨x, rfl, r1⟩ := inv1 hw
    exact ⟨_, BindsTo.of_eq rfl, .cons r1 .nil⟩
  have HBc : HB (C.into fd_join.scope) := H
  refine wpAny_execs_cons (wpAny_Return_some ?_)
  let st₁ : St := { st with vars := [("split_command", .lst (xs.map .str))] }
  refine wp_use (b_join (C := C.into fd_join.scope) (st := st₁) (Q := fun v st' => v = .str (Txt.join " " ys) ∧ st' = st₁) (env := env) (Z := Z) (R := R) (ρ := ρ) (s := s) HBc (show C.d + 1 ≤ 800 from dk hd (by decide)) hgp hpin h0 hq hjo hl rfl rfl rfl (fun _ => rfl) (by decide) rfl rfl rfl rfl rfl ⟨rfl, rfl⟩ hcode hs) (fun w s' v st' Z' ρ' hz hr rv hs' ⟨e1, e2⟩ => ?_)
  subst e1; subst e2
  exact ⟨_, _, Z', ρ', hz, hr, .ret rv, hs', h⟩
-- MVar

set_option maxRecDepth 100000
set_option maxHeartbeats 4000000
open PySem PySem.W PyProof.Rows



noncomputable def dg (m : Nat) (acc : List Int) : List Int := if h : 63 < m then dg (m / 64) (((m / 64 % 64 : Nat) + 64 : Int) :: acc) else acc
termination_by m
decreasing_by lia
noncomputable def octs (n : Nat) : List Int := match dg n [((n % 64 : Nat) : Int)] with
  | h :: t => (h + 128) :: t
  | [] => []
inductive Rd : Int → Int → List Int → Int → List Int → Prop
  | done {v b : Int} {t : List Int} : b / 64 % 2 = 0 → Rd v b t v t
  | more {v b b' n : Int} {r t : List Int} : b / 64 % 2 = 1 → 0 ≤ b' → b' < 256 → Rd (v * 64 + b' % 64) b' r n t → Rd v b (b' :: r) n t
theorem dg_rd (n : Nat) (t : List Int) : ∀ (m : Nat) (o : Int) (acc : List Int), 0 ≤ o → o < 128 → o % 64 = ((m % 64 : Nat) : Int) → Rd m o (acc ++ t) n t → ∃ o' acc', dg m (o :: acc) = o' :: acc' ∧ 0 ≤ o' ∧ o' < 128 ∧ Rd (o' % 64) o' (acc' ++ t) n t := by
  intro m
  induction m using Nat.strongRecOn with
  | ind m ih =>
    intro o acc h0 h1 h2 hr
    unfold dg
    by_cases q : 63 < m
    · rw [dif_pos q]
      refine ih (m / 64) (by lia) _ (o :: acc) (by lia) (by lia) (by lia) ?_
      have e : (m : Int) = ((m / 64 : Nat) : Int) * 64 + o % 64 := by rw [h2]; lia
      exact .more (by lia) h0 (by lia) (by rw [← e]; exact hr)
    · rw [dif_neg q]
      refine ⟨o, acc, rfl, h0, h1, ?_⟩
      have e : o % 64 = (m : Int) := by rw [h2]; lia
      rw [e]; exact hr
theorem octs_rd (n : Nat) (t : List Int) : ∃ b r, octs n ++ t = b :: r ∧ 0 ≤ b ∧ b < 256 ∧ Rd (b % 64) b r n t := by
  obtain ⟨o, acc, e, h0, h1, hr⟩ := dg_rd n t n ((n % 64 : Nat) : Int) [] (by lia) (by lia) (by lia) (.done (by lia))
  refine ⟨o + 128, acc ++ t, by unfold octs; rw [e]; rfl, by lia, by lia, ?_⟩
  have e1 : (o + 128) % 64 = o % 64 := by lia
  rw [e1]
  generalize hl : acc ++ t = l at hr
  generalize o % 64 = v at hr
  cases hr with
  | done h => exact .done (by lia)
  | more h a b c => exact .more (by lia) a b c
theorem dg_len (m : Nat) (acc : List Int) : (dg m acc).length ≤ acc.length + m.log2 := by
  induction m using Nat.strongRecOn generalizing acc with
  | ind m ih =>
    unfold dg
    split
    · rename_i q
      refine Nat.le_trans (ih (m / 64) (by lia) _) ?_
      have e1 : m.log2 = (m / 2).log2 + 1 := by rw [Nat.log2_def, if_pos (by lia)]
      have e2 : (m / 2).log2 = (m / 4).log2 + 1 := by rw [Nat.log2_def, if_pos (by lia), Nat.div_div_eq_div_mul]
      have e3 : (m / 64).log2 ≤ (m / 4).log2 := by
        rcases Nat.eq_zero_or_pos (m / 64) with z | z
        · rw [z]; exact Nat.zero_le _
        · rw [Nat.le_log2 (by lia)]
          exact Nat.le_trans (Nat.log2_self_le (by lia)) (by lia)
      rw [List.length_cons]; lia
    · lia

section
variable {P : Params} {B : PH}
noncomputable abbrev fd_oct : FuncData := fnF "_law_octets" "_law_octets" pb 35 .none (.str (Str.ofString "law_oy0341_03") 1300) (.ref 792)
theorem f_oct (H : BaseK (K P) B) : Fn0 B 793 fd_oct (bodyAt pb 35) := H.fn0 (o := fnO "_law_octets" "_law_octets" pb 35 .none (.str (Str.ofString "law_oy0341_03") 1300) (.ref 792)) (by kernel_rfl) rfl rfl (by kernel_rfl) (by decide +kernel) rfl rfl rfl rfl
theorem g_oct (H : BaseK (K P) B) : Glo B "_law_octets" (.ref 793) := H.glo (by kernel_rfl)
noncomputable abbrev fd_var : FuncData := fnF "_parse_varint" "_parse_varint" pb 9 .none (.str (Str.ofString "cpy313.dis") 375) (.ref 78)
theorem f_var (H : BaseK (K P) B) : Fn0 B 79 fd_var (bodyAt pb 9) := H.fn0 (o := fnO "_parse_varint" "_parse_varint" pb 9 .none (.str (Str.ofString "cpy313.dis") 375) (.ref 78)) (by kernel_rfl) rfl rfl (by kernel_rfl) (by decide +kernel) rfl rfl rfl rfl
theorem g_var (H : BaseK (K P) B) : Glo B "_parse_varint" (.ref 79) := H.glo (by kernel_rfl)
theorem t_next (H : BaseK (K P) B) : Blt B "next" (.builtin "next") := H.blt (by kernel_rfl) (by kernel_rfl) (by decide)
end

inductive OctI (n : Nat) (st : St) (k : Nat) (st' : St) : Prop
  | mk (m : Nat) (acc : List Int) (vars' : List (Str × V)) (e1 : st' = ⟨vars', st.heap, st.nx⟩) (e2 : k = m) (v1 : gv vars' "number" = some (.int (m : Int))) (v2 : gv vars' "octets" = some (.lst (acc.map .int))) (e : dg m acc = dg n [((n % 64 : Nat) : Int)]) (hl : acc.length + m.log2 ≤ 1 + n.log2) (hne : acc ≠ [])
inductive VarI (k : Nat) (xs : List Int) (n : Int) (t : List Int) (st : St) (m : Nat) (st' : St) : Prop
  | mk (i : Nat) (v b : Int) (r : List Int) (vars' : List (Str × V)) (e1 : st' = ⟨vars', upd st.heap k (.iter (xs.map .int) i), st.nx⟩) (e2 : m = r.length) (v1 : gv vars' "iterator" = some (.obj k)) (v2 : gv vars' "val" = some (.int v)) (v3 : gv vars' "b" = some (.int b)) (hd : xs.drop i = r) (h0 : 0 ≤ b) (h1 : b < 256) (hv0 : 0 ≤ v) (hr : Rd v b r n t)
section
variable {C : Fx} {st : St}
theorem b_oct (H : HB C) (n : Nat) (hn : n.log2 ≤ 1000) {vars : List (Str × V)} (hv : vars = [(("number" : Str), .int (n : Int))]) {Q : FlowA → St → Prop}
    (h : ∀ vars, Q (.ret (.lst ((octs n).map .int))) { st with vars := vars }) : JX (C.into fd_oct.scope) (bodyAt pb 35) { st with vars := vars } Q := by
  have HBc : HB (C.into fd_oct.scope) := H
  subst hv
  refine x_seq ?_
  repeat walk_at "w"
  refine ⟨Nat.le_of_ble_eq_true rfl, ?_⟩
  repeat walk_at "w"
  refine x_While (OctI n st) n ⟨n, [((n % 64 : Nat) : Int)], _, rfl, rfl, by walk_at "lk", by walk_at "lk", rfl, Nat.le_refl _, by simp⟩ ?_
  rintro k st' ⟨m, acc, vars', rfl, rfl, v1, v2, e, hl, hne⟩
  repeat walk_at "w"
  refine ⟨fun hc => ?_, fun hc => ?_⟩
  · have hm : 63 < k := by have := of_decide_eq_true hc; lia
    repeat walk_at "w"
    refine ⟨Nat.le_of_ble_eq_true rfl, ?_⟩
    repeat walk_at "w"
    have e1 : k.log2 = (k / 2).log2 + 1 := by rw [Nat.log2_def, if_pos (by lia)]
    have e2 : (k / 64).log2 ≤ (k / 2).log2 := by
      rcases Nat.eq_zero_or_pos (k / 64) with z | z
      · rw [z]; exact Nat.zero_le _
      · rw [Nat.le_log2 (by lia)]
        exact Nat.le_trans (Nat.log2_self_le (by lia)) (by lia)
    refine op_cat (xs := [_]) (ys := acc.map .int) rfl rfl ?_ ?_
    · rw [List.length_map]
      exact Nat.le_trans (show 1 + acc.length ≤ 2002 by lia) (by decide)
    repeat walk_at "w"
    refine ⟨k / 64, by lia, k / 64, ((k / 64 % 64 : Nat) + 64 : Int) :: acc, _, rfl, rfl, by walk_at "lk", by walk_at "lk", ?_, by rw [List.length_cons]; lia, by simp⟩
    rw [← e]
    conv => rhs; unfold dg
    rw [dif_pos hm]
  · have hm : ¬ 63 < k := by have := of_decide_eq_false hc; lia
    have ea : dg n [((n % 64 : Nat) : Int)] = acc := by rw [← e]; unfold dg; rw [dif_neg hm]
    cases acc with
    | nil => exact absurd rfl hne
    | cons o acc =>
    repeat walk_at "w"
    refine sub_lst (x := .int o) (by decide) rfl (by decide) ?_
    repeat walk_at "w"
    refine ⟨Nat.le_of_ble_eq_true rfl, ?_⟩
    repeat walk_at "w"
    refine ev_Slice ?_
    repeat walk_at "w"
    refine p_some ?_
    repeat walk_at "w"
    refine ⟨_, rfl, p_none ?_⟩
    refine ⟨_, rfl, ?_, ?_⟩
    · rw [List.length_map]
      exact Nat.le_trans (show (o :: acc).length ≤ 2002 by lia) (by decide)
    refine op_cat (xs := [_]) (ys := _) rfl rfl ?_ ?_
    · rw [show sl (some 1) none ((o :: acc).map V.int) = ((o :: acc).map V.int).drop 1 from sl_from 1 _, List.length_drop, List.length_map]
      exact Nat.le_trans (show 1 + ((o :: acc).length - 1) ≤ 2002 by lia) (by decide)
    repeat walk_at "w"
    have := h vars'
    unfold octs at this
    rw [ea] at this
    rw [show sl (some 1) none ((o :: acc).map V.int) = ((o :: acc).map V.int).drop 1 from sl_from 1 _]
    exact this
theorem c_oct (H : HB C) (hd : C.d ≤ 900) (n : Nat) (hn : n.log2 ≤ 1000) {Q : V → St → Prop} (h : Q (.lst ((octs n).map .int)) st) : JC C 793 [.int (n : Int)] [] st Q := by
  refine code_fn0 (vars := [("number", .int (n : Int))]) (f_oct H) (by lia) (show parOk fd_oct.scope ["number"] = true by decide +kernel) (fun env Z R ρ s ws hs hw => ?_) ?_
  · obtain ⟨x, rfl, r1⟩ := inv1 hw
    exact ⟨_, BindsTo.of_eq rfl, .cons r1 .nil⟩
  exact b_oct H n hn rfl fun vars => h
end

theorem Rd.le {v b n : Int} {r t : List Int} (h : Rd v b r n t) (hv : 0 ≤ v) : v ≤ n := by
  induction h with
  | done _ => exact Int.le_refl _
  | more _ _ _ _ ih => have := ih (by lia); lia
theorem bits_le {a n : Int} (h0 : 0 ≤ a) (h : a ≤ n) (hn : n.natAbs.log2 ≤ 1000) : (Builtin.Int.intBits a : Int) + 6 ≤ 2 ^ 27 := by
  have : Builtin.Int.intBits a ≤ 1001 := by
    unfold Builtin.Int.intBits
    split
    · lia
    · have : a.natAbs.log2 ≤ n.natAbs.log2 := by
        rename_i q
        have ha : a.natAbs ≠ 0 := by intro z; apply q; simp [Int.natAbs_eq_zero.mp z]
        rw [Nat.le_log2 (by lia)]
        exact Nat.le_trans (Nat.log2_self_le ha) (by lia)
      lia
  have e : (2 : Int) ^ 27 = 134217728 := by decide
  rw [e]; lia
section
variable {C : Fx} {st : St}
theorem b_var (H : HB C) {k i : Nat} {xs : List Int} {b n : Int} {r t : List Int} (hk : st.heap k = some (.iter (xs.map .int) i)) (hx : xs.drop i = b :: r) (h0 : 0 ≤ b) (h1 : b < 256) (hr : Rd (b % 64) b r n t) (hn : n.natAbs.log2 ≤ 1000)
    {vars : List (Str × V)} (hv : vars = [(("iterator" : Str), .obj k)]) {Q : FlowA → St → Prop}
    (h : ∀ vars j, xs.drop j = t → Q (.ret (.int n)) { st with vars := vars, heap := upd st.heap k (.iter (xs.map .int) j) }) : JX (C.into fd_var.scope) (bodyAt pb 9) { st with vars := vars } Q := by
  have HBc : HB (C.into fd_var.scope) := H
  subst hv
  have get : ∀ {i : Nat} {b : Int} {r : List Int}, xs.drop i = b :: r → (xs.map V.int)[i]? = some (.int b) ∧ xs.drop (i + 1) = r := fun {i b r} e => by
    have : xs[i]? = some b := by rw [← List.head?_drop, e]; rfl
    exact ⟨by rw [List.getElem?_map, this]; rfl, by rw [← List.tail_drop, e]; rfl⟩
  refine x_seq ?_
  repeat walk_at "w"
  refine ev_CallB (t_next (by exact HBc)) (by rfl) ?_
  repeat walk_at "w"
  refine b_next (by exact hk) (get hx).1 ?_
  repeat walk_at "w"
  rw [band63 h0]
  refine x_While (VarI k xs n t st) r.length ⟨i + 1, b % 64, b, r, _, rfl, rfl, by walk_at "lk", by walk_at "lk", by walk_at "lk", (get hx).2, h0, h1, by lia, hr⟩ ?_
  rintro m st' ⟨i, v, b, r, vars', rfl, rfl, v1, v2, v3, hd, h0, h1, hv0, hr⟩
  refine tt_value ?_
  repeat walk_at "w"
  refine tr_int ?_
  rw [band64 h0 h1]
  refine ⟨fun hc => ?_, fun hc => ?_⟩
  · have hb := of_decide_eq_true hc
    cases hr with
    | done q => exact absurd hb (by lia)
    | more _ g0 g1 hr =>
      rename_i b' r' _
      repeat walk_at "w"
      refine ip_shl (by decide) (bits_le hv0 (by have := hr.le (by lia); lia) hn) ?_
      repeat walk_at "w"
      refine ev_CallB (t_next (by exact HBc)) (by rfl) ?_
      repeat walk_at "w"
      refine b_next (by walk_at "hp") (get hd).1 ?_
      repeat walk_at "w"
      rw [band63 g0, show (v * 2 ^ (6 : Int).toNat : Int) = v * 64 from rfl, bor_low hv0 (by lia) (by lia)]
      refine ⟨r'.length, Nat.lt_succ_self _, i + 1, v * 64 + b' % 64, b', r', _, (by rw [updd]), rfl, by walk_at "lk", by walk_at "lk", by walk_at "lk", (get hd).2, g0, g1, by lia, hr⟩
  · have hb := of_decide_eq_false hc
    cases hr with
    | more q _ _ _ => exact absurd q hb
    | done q =>
      repeat walk_at "w"
      exact h vars' i hd
theorem c_var (H : HB C) (hd : C.d ≤ 900) {k i : Nat} {xs : List Int} {b n : Int} {r t : List Int} (hk : st.heap k = some (.iter (xs.map .int) i)) (hx : xs.drop i = b :: r) (h0 : 0 ≤ b) (h1 : b < 256) (hr : Rd (b % 64) b r n t) (hn : n.natAbs.log2 ≤ 1000)
    {Q : V → St → Prop} (h : ∀ j, xs.drop j = t → Q (.int n) { st with heap := upd st.heap k (.iter (xs.map .int) j) }) : JC C 79 [.obj k] [] st Q := by
  refine code_fn0 (vars := [("iterator", .obj k)]) (f_var H) (by lia) (show parOk fd_var.scope ["iterator"] = true by decide +kernel) (fun env Z R ρ s ws hs hw => ?_) ?_
  · obtain ⟨x, rfl, r1⟩ := inv1 hw
    exact ⟨_, BindsTo.of_eq rfl, .cons r1 .nil⟩
  exact b_var H hk hx h0 h1 hr hn rfl fun vars j e => h j e
end
-- MBal

set_option maxRecDepth 100000
set_option maxHeartbeats 4000000
open PySem PySem.W PyProof.Rows



theorem eqv_int (a b : Int) : PyData.eqv (.int a) (.int b) = decide (a = b) := by
  first | rfl | (simp [PyData.eqv]) | (show (a == b) = _; exact beq_eq_decide ..)
theorem okDs_int (l : List Int) : okDs (l.map .int) = true := by
  induction l with
  | nil => rfl
  | cons a r ih => simp [okDs, okD, ih]
theorem depth_int (l : List Int) : PyData.depthAll (toDs (l.map .int)) ≤ 1 := by
  induction l with
  | nil => decide
  | cons a r ih => simp [toDs, toD, PyData.depthAll, PyData.depth] at ih ⊢; lia
section
variable {C : Fx} {st : St}
theorem op_eqI {a b : Int} {Q : V → St → Prop} (hu : C.u ≤ 9000) (h : Q (.bool (decide (a = b))) st) : JV C VR [.int a, .int b] (two (compareOp .Eq)) st Q :=
  op_eqD rfl rfl (Nat.lt_of_le_of_lt (show _ ≤ 9000 + 1 by have : min (toD (.int a)).depth (toD (.int b)).depth ≤ 1 := Nat.le_trans (Nat.min_le_left _ _) (show PyData.depth (.int a) ≤ 1 by simp [PyData.depth]); lia) (by decide)) (by show Q (.bool (PyData.eqv (.int a) (.int b))) st; rw [eqv_int]; exact h)
theorem op_neI {a b : Int} {Q : V → St → Prop} (hu : C.u ≤ 9000) (h : Q (.bool (!decide (a = b))) st) : JV C VR [.int a, .int b] (two (compareOp .NotEq)) st Q :=
  op_neD rfl rfl (Nat.lt_of_le_of_lt (show _ ≤ 9000 + 1 by have : min (toD (.int a)).depth (toD (.int b)).depth ≤ 1 := Nat.le_trans (Nat.min_le_left _ _) (show PyData.depth (.int a) ≤ 1 by simp [PyData.depth]); lia) (by decide)) (by show Q (.bool (!PyData.eqv (.int a) (.int b))) st; rw [eqv_int]; exact h)
theorem m_indexI {v : V} {xs : List Int} {x : Int} {j : Nat} {Q : V → St → Prop} (hv : Lis st v (xs.map .int)) (hj : xs[j]? = some x) (hno : ∀ m, m < j → xs[m]? ≠ some x) (hsz : xs.length < 2 ^ 62) (hu : C.u ≤ 5000) (h : Q (.int (j : Int)) st) :
    JV C VR [v, .int x] (fun ws => call (.builtin "list.index") ws) st Q := by
  obtain ⟨hl, e⟩ := List.getElem?_eq_some_iff.mp hj
  refine m_index (j := j) hv (by simpa using hl) (by simpa using hsz) (okDs_int _) rfl ?_ ?_ (fun m hm hlt => ?_) h
  · have := depth_int xs
    have e2 : cLine = cLine := rfl
    exact Nat.lt_of_le_of_lt (show _ ≤ 5000 + 1 + 1 by lia) (by decide)
  · rw [List.getElem_map]; show PyData.eqv (.int _) (.int _) = true
    rw [eqv_int, e]; simp
  · rw [List.getElem_map]; show PyData.eqv (.int _) (.int _) = false
    rw [eqv_int]
    have h1 := hno m hlt
    have hm' : m < xs.length := by simpa using hm
    rw [List.getElem?_eq_getElem hm'] at h1
    exact decide_eq_false fun z => h1 (by rw [z])
end
noncomputable def insI (l : List Int) (k : Nat) (x : Int) : List Int := l.take k ++ x :: l.drop k
theorem ins_map (l : List Int) (k : Nat) (x : Int) : (l.map V.int).take k ++ V.int x :: (l.map V.int).drop k = (insI l k x).map .int := by
  simp [insI, List.map_take, List.map_drop]
theorem insI_len (l : List Int) (k : Nat) (x : Int) : (insI l k x).length = l.length + 1 := by
  unfold insI
  rw [List.length_append, List.length_cons, List.length_take, List.length_drop]; lia
theorem em0 (n : Int) {m : Int} (h : 0 < m) : 0 ≤ n % m := Int.emod_nonneg n (Int.ne_of_gt h)
theorem em1 (n : Int) {m : Int} (h : 0 < m) (k : m ≤ 2 ^ 63) : n % m < 2 ^ 63 := Int.lt_of_lt_of_le (Int.emod_lt_of_pos n h) k
noncomputable def row3 (n : Int) : List Int := insI (insI (insI [0] (n % 2).toNat 1) (n / 2 % 3).toNat 2) (n / 6 % 4).toNat 3
noncomputable def rowOf (n : Int) : List Int := insI (row3 n) (n / 6 % 4 + n / 24 % 2).toNat 4
noncomputable def votersOf (n : Int) : Int := 1 + n / 48 / 2 % (if n / 48 % 2 = 1 then 4 else 10 ^ 30)
theorem row3_at (n : Int) : (row3 n)[(n / 6 % 4).toNat]? = some 3 ∧ (∀ m, m < (n / 6 % 4).toNat → (row3 n)[m]? ≠ some 3) ∧ (row3 n).length = 4 := by
  have key : ∀ (a : Fin 2) (b : Fin 3) (c : Fin 4), (insI (insI (insI [0] a 1) b 2) c 3)[(c : Nat)]? = some 3 ∧ (∀ m : Fin 4, m < c → (insI (insI (insI [0] a 1) b 2) c 3)[(m : Nat)]? ≠ some 3) ∧ (insI (insI (insI [0] a 1) b 2) c 3).length = 4 := by decide +kernel
  obtain ⟨h1, h2, h3⟩ := key ⟨(n % 2).toNat, by lia⟩ ⟨(n / 2 % 3).toNat, by lia⟩ ⟨(n / 6 % 4).toNat, by lia⟩
  exact ⟨h1, fun m hm => h2 ⟨m, by lia⟩ hm, h3⟩
theorem votersOf_pos (n : Int) : 1 ≤ votersOf n ∧ votersOf n ≤ 10 ^ 30 := by
  unfold votersOf
  split
  · have := Int.emod_nonneg (n / 48 / 2) (show (4 : Int) ≠ 0 by decide)
    have := Int.emod_lt_of_pos (n / 48 / 2) (show (0 : Int) < 4 by decide)
    have e : (10 : Int) ^ 30 = 1000000000000000000000000000000 := by decide
    rw [e]; lia
  · have e : (10 : Int) ^ 30 = 1000000000000000000000000000000 := by decide
    rw [e]; lia

section
variable {P : Params} {B : PH}
noncomputable abbrev fd_bal : FuncData := fnF "_law_ballot" "_law_ballot" pb 36 .none (.str (Str.ofString "law_oy0341_03") 1300) (.ref 799)
theorem f_bal (H : BaseK (K P) B) : Fn0 B 800 fd_bal (bodyAt pb 36) := H.fn0 (o := fnO "_law_ballot" "_law_ballot" pb 36 .none (.str (Str.ofString "law_oy0341_03") 1300) (.ref 799)) (by kernel_rfl) rfl rfl (by kernel_rfl) (by decide +kernel) rfl rfl rfl rfl
theorem g_bal (H : BaseK (K P) B) : Glo B "_law_ballot" (.ref 800) := H.glo (by kernel_rfl)
end
section
variable {C : Fx} {st : St}
theorem b_bal (H : HB C) (hu : C.u ≤ 4000) (n : Int) {vars : List (Str × V)} (hv : vars = [(("number" : Str), .int n)]) {Q : FlowA → St → Prop}
    (h : ∀ vars H' nx, (∀ k, k < st.nx → H' k = st.heap k) → Q (.ret (.tup [.lst ((rowOf n).map .int), .int (votersOf n)])) ⟨vars, H', nx⟩) : JX (C.into fd_bal.scope) (bodyAt pb 36) { st with vars := vars } Q := by
  have HBc : HB (C.into fd_bal.scope) := H
  subst hv
  refine x_seq ?_
  refine x_Assign ?_ (by rfl)
  refine ev_ListO ?_
  repeat walk_at "w"
  refine ⟨Nat.le_of_ble_eq_true rfl, ?_⟩
  repeat walk_at "w"
  refine ev_MethO PySem.F.slot_list_insert PySem.F.type_list_insert ?_
  repeat walk_at "w"
  refine ⟨⟨_, _, rfl, by walk_at "hp"⟩, ?_⟩
  repeat walk_at "w"
  refine m_insert (by walk_at "hp") (by decide) (em0 _ (by decide)) (em1 _ (by decide) (by decide)) ?_
  repeat walk_at "w"
  refine ⟨rfl, ?_⟩
  rw [show (List.take (n % 2).toNat [V.int 0] ++ V.int 1 :: List.drop (n % 2).toNat [V.int 0]) = (insI [0] (n % 2).toNat 1).map .int from ins_map [0] _ 1]
  dsimp only
  rw [updd]
  repeat walk_at "w"
  refine ev_MethO PySem.F.slot_list_insert PySem.F.type_list_insert ?_
  repeat walk_at "w"
  refine ⟨⟨_, _, rfl, by walk_at "hp"⟩, ?_⟩
  repeat walk_at "w"
  refine m_insert (by walk_at "hp") (by rw [List.length_map]; simp only [insI_len]; decide) (em0 _ (by decide)) (em1 _ (by decide) (by decide)) ?_
  repeat walk_at "w"
  refine ⟨rfl, ?_⟩
  rw [ins_map]
  dsimp only
  rw [updd]
  repeat walk_at "w"
  refine ev_MethO PySem.F.slot_list_insert PySem.F.type_list_insert ?_
  repeat walk_at "w"
  refine ⟨⟨_, _, rfl, by walk_at "hp"⟩, ?_⟩
  repeat walk_at "w"
  refine m_insert (by walk_at "hp") (by rw [List.length_map]; simp only [insI_len]; decide) (em0 _ (by decide)) (em1 _ (by decide) (by decide)) ?_
  repeat walk_at "w"
  refine ⟨rfl, ?_⟩
  rw [ins_map]
  dsimp only
  rw [updd]
  have e3 : insI (insI (insI [0] (n % 2).toNat 1) (n / 2 % 3).toNat 2) (n / 6 % 4).toNat 3 = row3 n := rfl
  rw [e3]
  obtain ⟨r1, r2, r3⟩ := row3_at n
  repeat walk_at "w"
  refine ev_MethO PySem.F.slot_list_insert PySem.F.type_list_insert ?_
  repeat walk_at "w"
  refine ⟨⟨_, _, rfl, by walk_at "hp"⟩, ?_⟩
  repeat walk_at "w"
  refine ev_MethO PySem.F.slot_list_index PySem.F.type_list_index ?_
  repeat walk_at "w"
  refine ⟨⟨_, _, rfl, by walk_at "hp"⟩, ?_⟩
  repeat walk_at "w"
  refine m_indexI (xs := row3 n) (j := (n / 6 % 4).toNat) (by exact upd_self _ _ _) r1 r2 (by rw [r3]; decide) (show C.u + 3 ≤ 5000 from dk hu (by decide)) ?_
  repeat walk_at "w"
  refine m_insert (by walk_at "hp") (by rw [List.length_map, r3]; decide) (by rw [Int.toNat_of_nonneg (em0 _ (by decide))]; exact Int.add_nonneg (em0 _ (by decide)) (em0 _ (by decide))) (by rw [Int.toNat_of_nonneg (em0 _ (by decide))]; exact Int.lt_of_lt_of_le (Int.add_lt_add (Int.emod_lt_of_pos _ (by decide)) (Int.emod_lt_of_pos _ (by decide))) (by decide)) ?_
  repeat walk_at "w"
  refine ⟨rfl, ?_⟩
  rw [Int.toNat_of_nonneg (em0 _ (by decide)), ins_map]
  dsimp only
  rw [updd]
  refine thn_next ?_
  refine x_seq ?_
  refine x_Assign ?_ (by rfl)
  refine ev_BinOp ?_
  iterate 3 walk_at "w"
  refine thn_next ?_
  dsimp only
  refine x_seq ?_
  refine x_Return ?_
  refine ev_Tuple ?_
  refine l_cons ?_
  refine j_freeze ?_
  walk_at "w"
  refine ⟨_, _, rfl, by walk_at "hp", ?_⟩
  repeat walk_at "w"
  refine op_eqI (show C.u + 3 ≤ 9000 from dk hu (by decide)) ?_
  repeat walk_at "w"
  refine ⟨fun hc => ?_, fun hc => ?_⟩
  · have hc := of_decide_eq_true hc
    repeat walk_at "w"
    refine ⟨by simp [sizeLine], ?_⟩
    repeat walk_at "w"
    have := h (setv "rest" (V.int (n / 48)) (setv "row" (V.obj st.nx) [(("number" : Str), V.int n)])) (del (upd st.heap st.nx (AO.list (List.map V.int (insI (row3 n) (n / 6 % 4 + n / 24 % 2).toNat 4)))) st.nx) (st.nx + 1) (fun k hk => by rw [del_ne _ (Nat.ne_of_lt hk), upd_ne _ _ (Nat.ne_of_lt hk)])
    unfold votersOf at this
    rw [if_pos hc] at this
    exact this
  · have hc := of_decide_eq_false hc
    repeat walk_at "w"
    refine op_pow (by decide) (by decide) ?_
    rw [show ((10 : Int) ^ (30 : Int).toNat) = 10 ^ 30 from rfl]
    refine op_mod (by decide) ?_
    repeat walk_at "w"
    refine ⟨by simp [sizeLine], ?_⟩
    repeat walk_at "w"
    have := h (setv "rest" (V.int (n / 48)) (setv "row" (V.obj st.nx) [(("number" : Str), V.int n)])) (del (upd st.heap st.nx (AO.list (List.map V.int (insI (row3 n) (n / 6 % 4 + n / 24 % 2).toNat 4)))) st.nx) (st.nx + 1) (fun k hk => by rw [del_ne _ (Nat.ne_of_lt hk), upd_ne _ _ (Nat.ne_of_lt hk)])
    unfold votersOf at this
    rw [if_neg hc] at this
    exact this
theorem c_bal (H : HB C) (hd : C.d ≤ 900) (hu : C.u ≤ 4000) (n : Int) {Q : V → St → Prop} (h : ∀ H' nx, (∀ k, k < st.nx → H' k = st.heap k) → Q (.tup [.lst ((rowOf n).map .int), .int (votersOf n)]) ⟨st.vars, H', nx⟩) : JC C 800 [.int n] [] st Q := by
  refine code_fn0 (vars := [("number", .int n)]) (f_bal H) (by lia) (show parOk fd_bal.scope ["number"] = true by decide +kernel) (fun env Z R ρ s ws hs hw => ?_) ?_
  · obtain ⟨x, rfl, r1⟩ := inv1 hw
    exact ⟨_, BindsTo.of_eq rfl, .cons r1 .nil⟩
  exact b_bal H hu n rfl fun vars H' nx hk => h H' nx hk
end
-- MPq

set_option maxRecDepth 100000
set_option maxHeartbeats 4000000
open PySem PySem.W PyProof.Rows

noncomputable abbrev eV (p : Int × Int) : V := .tup [.int p.1, .int p.2]
noncomputable def PairP (v : V) : Prop := ∃ p : Int × Int, v = eV p
noncomputable def prV : V → Option (Int × Int)
  | .tup [.int a, .int b] => some (a, b)
  | _ => none
noncomputable def ltV (u v : V) : Bool := ((prV u).bind fun p => (prV v).map fun q => pairLt p.1 p.2 q.1 q.2).getD false
theorem pair_ltok : LtOk PairP ltV := fun C st Q a b hd hu ⟨p, ha⟩ ⟨q, hb⟩ h => by
  subst ha; subst hb
  exact op_lt2 (Nat.lt_of_le_of_lt hu (by decide)) h
theorem pl_no {a b c d : Int} : pairLt a b c d = false ↔ c < a ∨ (a = c ∧ d ≤ b) := by
  unfold pairLt
  by_cases e : a = c
  · rw [if_pos e, decide_eq_false_iff_not]; lia
  · rw [if_neg e, decide_eq_false_iff_not]; lia
theorem ltV_eV (p q : Int × Int) : ltV (eV p) (eV q) = pairLt p.1 p.2 q.1 q.2 := rfl
theorem pair_swo : Swo PairP ltV where
  irr := fun a ⟨p, ha⟩ => by subst ha; exact pl_no.mpr (.inr ⟨rfl, Int.le_refl _⟩)
  asym := fun a b ⟨p, ha⟩ ⟨q, hb⟩ h => by
    subst ha; subst hb
    rw [ltV_eV] at h ⊢
    rw [pl_no]
    have h' : ¬ pairLt p.1 p.2 q.1 q.2 = false := by rw [h]; decide
    rw [pl_no] at h'
    clear h; lia
  tr := fun a b c ⟨p, ha⟩ ⟨q, hb⟩ ⟨r, hc⟩ h1 h2 => by
    subst ha; subst hb; subst hc
    rw [ltV_eV, pl_no] at *
    lia
theorem len2 {α : Type} {l : List α} (h : l.length = 2) : ∃ a b, l = [a, b] := by
  match l, h with
  | [a, b], _ => exact ⟨a, b, rfl⟩
theorem len3 {α : Type} {l : List α} (h : l.length = 3) : ∃ a b c, l = [a, b, c] := by
  match l, h with
  | [a, b, c], _ => exact ⟨a, b, c, rfl⟩
section
variable {P : Params} {B : PH}
noncomputable abbrev fd_hpush : FuncData := fnF "heappush" "heappush" pb 4 .none (.str (Str.ofString "cpy313.heapq") 331) (.ref 50)
theorem f_hpush (H : BaseK (K P) B) : Fn0 B 51 fd_hpush (bodyAt pb 4) := H.fn0 (o := fnO "heappush" "heappush" pb 4 .none (.str (Str.ofString "cpy313.heapq") 331) (.ref 50)) (by kernel_rfl) rfl rfl (by kernel_rfl) (by decide +kernel) rfl rfl rfl rfl
theorem g_hpush (H : BaseK (K P) B) : Glo B "heappush" (.ref 51) := H.glo (by kernel_rfl)
noncomputable abbrev fd_hpop : FuncData := fnF "heappop" "heappop" pb 5 .none (.str (Str.ofString "cpy313.heapq") 331) (.ref 57)
theorem f_hpop (H : BaseK (K P) B) : Fn0 B 58 fd_hpop (bodyAt pb 5) := H.fn0 (o := fnO "heappop" "heappop" pb 5 .none (.str (Str.ofString "cpy313.heapq") 331) (.ref 57)) (by kernel_rfl) rfl rfl (by kernel_rfl) (by decide +kernel) rfl rfl rfl rfl
theorem g_hpop (H : BaseK (K P) B) : Glo B "heappop" (.ref 58) := H.glo (by kernel_rfl)
noncomputable abbrev fd_sdn : FuncData := fnF "_siftdown" "_siftdown" pb 6 .none (.str (Str.ofString "cpy313.heapq") 331) (.ref 64)
theorem f_sdn (H : BaseK (K P) B) : Fn B 65 fd_sdn (bodyAt pb 6) ["heap", "startpos", "pos"] :=
  (H.fn0 (o := fnO "_siftdown" "_siftdown" pb 6 .none (.str (Str.ofString "cpy313.heapq") 331) (.ref 64)) (by kernel_rfl) rfl rfl (by kernel_rfl) (by decide +kernel) rfl rfl rfl rfl : Fn0 B 65 fd_sdn (bodyAt pb 6)).fn (by decide +kernel) (fun ws h => by
    obtain ⟨a, b, c, e⟩ := len3 h
    rw [e]; rfl)
theorem g_sdn (H : BaseK (K P) B) : Glo B "_siftdown" (.ref 65) := H.glo (by kernel_rfl)
noncomputable abbrev fd_sup : FuncData := fnF "_siftup" "_siftup" pb 7 .none (.str (Str.ofString "cpy313.heapq") 331) (.ref 71)
theorem f_sup (H : BaseK (K P) B) : Fn B 72 fd_sup (bodyAt pb 7) ["heap", "pos"] :=
  (H.fn0 (o := fnO "_siftup" "_siftup" pb 7 .none (.str (Str.ofString "cpy313.heapq") 331) (.ref 71)) (by kernel_rfl) rfl rfl (by kernel_rfl) (by decide +kernel) rfl rfl rfl rfl : Fn0 B 72 fd_sup (bodyAt pb 7)).fn (by decide +kernel) (fun ws h => by
    obtain ⟨a, b, e⟩ := len2 h
    rw [e]; rfl)
theorem g_sup (H : BaseK (K P) B) : Glo B "_siftup" (.ref 72) := H.glo (by kernel_rfl)
end
section
variable {C : Fx} {st : St}
theorem c_hpush (H : HB C) (hd : C.d ≤ 600) (hu : C.u ≤ 3000) {n : Nat} {xs : List V} {p : Int × Int} (hh : st.heap n = some (.list xs)) (hP : ∀ y ∈ xs, PairP y) (ho : HO ltV xs) (hsz : xs.length < 1000)
    {Q : V → St → Prop} (h : ∀ xs', xs'.Perm (eV p :: xs) → HO ltV xs' → Q .none { st with heap := upd st.heap n (.list xs') }) : JC C 51 [.obj n, eV p] [] st Q := by
  refine code_fn0 (vars := [("heap", .obj n), ("item", eV p)]) (f_hpush H) (by lia) (show parOk fd_hpush.scope ["heap", "item"] = true by decide +kernel) (fun env Z R ρ s ws hs hw => ?_) ?_
  · obtain ⟨x, y, rfl, r1, r2⟩ := inv2 hw
    exact ⟨_, BindsTo.of_eq rfl, .cons r1 (.cons r2 .nil)⟩
  refine heappush_body PairP ltV pair_ltok (C.into fd_hpush.scope) rfl (show C.d + 1 ≤ 700 from dk hd (by decide)) (show C.u + 3 ≤ 4000 from dk hu (by decide)) 65 fd_sdn (g_sdn H) (f_sdn H) rfl (t_len H) { st with vars := [("heap", .obj n), ("item", eV p)] } n xs (eV p) rfl hh hP ⟨p, rfl⟩ hsz _ ?_
  exact h _ (push_perm ltV (eV p) xs) (push_ho PairP ltV pair_swo (eV p) ⟨p, rfl⟩ xs hP ho)
theorem c_hpop (H : HB C) (hd : C.d ≤ 500) (hu : C.u ≤ 2500) {n : Nat} {xs : List V} (hh : st.heap n = some (.list xs)) (hP : ∀ y ∈ xs, PairP y) (ho : HO ltV xs) (hsz : xs.length < 1000) (hne : xs ≠ [])
    {Q : V → St → Prop} (h : ∀ x xs', (x :: xs').Perm xs → HO ltV xs' → (∀ y ∈ xs, ltV y x = false) → Q x { st with heap := upd st.heap n (.list xs') }) : JC C 58 [.obj n] [] st Q := by
  refine code_fn0 (vars := [("heap", .obj n)]) (f_hpop H) (by lia) (show parOk fd_hpop.scope ["heap"] = true by decide +kernel) (fun env Z R ρ s ws hs hw => ?_) ?_
  · obtain ⟨x, rfl, r1⟩ := inv1 hw
    exact ⟨_, BindsTo.of_eq rfl, .cons r1 .nil⟩
  obtain ⟨ys, l, rfl⟩ : ∃ ys l, xs = ys ++ [l] := ⟨_, _, (List.dropLast_concat_getLast hne).symm⟩
  have hPy : ∀ y ∈ ys, PairP y := fun y hy => hP y (by simp [hy])
  have hPl : PairP l := hP l (by simp)
  have least := first_least PairP ltV pair_swo (ys ++ [l]) hP ho (by simp)
  have least' : ∀ y ∈ ys ++ [l], ltV y ((ys ++ [l])[0]'(by simp)) = false := fun y hy => by
    obtain ⟨i, hi, rfl⟩ := List.mem_iff_getElem.mp hy
    exact least i hi
  refine heappop_body PairP ltV pair_ltok (C.into fd_hpop.scope) rfl (show C.d + 1 ≤ 600 from dk hd (by decide)) (show C.u + 3 ≤ 3000 from dk hu (by decide)) 65 72 fd_sdn fd_sup (g_sdn H) (f_sdn H) rfl (g_sup H) (f_sup H) rfl (t_len H) { st with vars := [("heap", .obj n)] } n ys l rfl hh hPy hPl (by simp at hsz; lia) _ (fun e vars => ?_) (fun y r e vars => ?_)
  · subst e
    exact h l [] (.refl _) (fun i hi => by simp at hi) least'
  · subst e
    exact h y _ (popped_perm ltV y l r) (popped_ho PairP ltV pair_swo y l r hP ho) least'
end
-- MDij

open PySem PySem.W PyProof.Rows

theorem eV_inj {p q : Int × Int} (h : eV p = eV q) : p = q := by
  obtain ⟨a, b⟩ := p; obtain ⟨c, d⟩ := q
  simp only [eV, V.tup.injEq, List.cons.injEq, V.int.injEq, and_true] at h
  rw [h.1, h.2]
structure Inv (L : Int → Int → Int) (s : Int) (R0 : Int → Prop) (R : Int × Int → Int → Prop) (es : List (Int × Int)) (xs : List V) : Prop where
  pr : ∀ y ∈ xs, ∃ l k : Int, y = eV (l, k) ∧ k ∈ idxs 5 ∧ k ≠ s ∧ Way L s k (-l)
  ho : HO ltV xs
  fin : ∀ p ∈ es, p.1 ∈ idxs 5 ∧ p.1 ≠ s ∧ Way L s p.1 p.2
  nd : (es.map (·.1)).Nodup
  cov0 : ∀ k ∈ idxs 5, k ≠ s → k ∉ es.map (·.1) → R0 k → ∃ l, eV (l, k) ∈ xs ∧ L s k ≤ -l
  cov : ∀ k ∈ idxs 5, k ≠ s → k ∉ es.map (·.1) → ∀ p ∈ es, R p k → ∃ l, eV (l, k) ∈ xs ∧ min p.2 (L p.1 k) ≤ -l
  mono : ∀ l k, eV (l, k) ∈ xs → ∀ p ∈ es, -l ≤ p.2
  clo : ∀ p ∈ es, L s p.1 ≤ p.2 ∧ ∀ q ∈ es, q.1 ≠ p.1 → min q.2 (L q.1 p.1) ≤ p.2
variable {L : Int → Int → Int} {s : Int} {R0 R0' : Int → Prop} {R R' : Int × Int → Int → Prop} {es : List (Int × Int)} {xs xs' : List V}
theorem Inv.weaken (h : Inv L s R0 R es xs) (h0 : ∀ k ∈ idxs 5, k ≠ s → k ∉ es.map (·.1) → R0' k → R0 k) (h1 : ∀ k ∈ idxs 5, k ≠ s → k ∉ es.map (·.1) → ∀ p ∈ es, R' p k → R p k) : Inv L s R0' R' es xs :=
  { h with
    cov0 := fun k a b c d => h.cov0 k a b c (h0 k a b c d)
    cov := fun k a b c p hp d => h.cov k a b c p hp (h1 k a b c p hp d) }
theorem Inv.push (h : Inv L s R0 R es xs) {l k : Int} (hk : k ∈ idxs 5) (hs : k ≠ s) (hw : Way L s k (-l)) (hm : ∀ p ∈ es, -l ≤ p.2) (hp : xs'.Perm (eV (l, k) :: xs)) (ho : HO ltV xs') :
    Inv L s (fun k' => R0 k' ∨ (k' = k ∧ L s k ≤ -l)) (fun p k' => R p k' ∨ (k' = k ∧ min p.2 (L p.1 k) ≤ -l)) es xs' where
  pr := fun y hy => by
    rcases List.mem_cons.mp (hp.mem_iff.mp hy) with rfl | hy
    · exact ⟨l, k, rfl, hk, hs, hw⟩
    · exact h.pr y hy
  ho := ho
  fin := h.fin
  nd := h.nd
  cov0 := fun k' a b c d => by
    rcases d with d | ⟨rfl, d⟩
    · obtain ⟨l', m, q⟩ := h.cov0 k' a b c d
      exact ⟨l', hp.mem_iff.mpr (.tail _ m), q⟩
    · exact ⟨l, hp.mem_iff.mpr (.head _), d⟩
  cov := fun k' a b c p hpp d => by
    rcases d with d | ⟨rfl, d⟩
    · obtain ⟨l', m, q⟩ := h.cov k' a b c p hpp d
      exact ⟨l', hp.mem_iff.mpr (.tail _ m), q⟩
    · exact ⟨l, hp.mem_iff.mpr (.head _), d⟩
  mono := fun l' k' hy p hpp => by
    rcases List.mem_cons.mp (hp.mem_iff.mp hy) with e | hy
    · have := eV_inj e; cases this; exact hm p hpp
    · exact h.mono l' k' hy p hpp
  clo := h.clo
theorem lt_le {l k l' k' : Int} (h : ltV (eV (l', k')) (eV (l, k)) = false) : l ≤ l' := by
  rw [ltV_eV, pl_no] at h
  dsimp only at h
  lia
theorem Inv.popOld (h : Inv L s R0 R es xs) {l k : Int} (hin : k ∈ es.map (·.1)) (hp : (eV (l, k) :: xs').Perm xs) (ho : HO ltV xs') : Inv L s R0 R es xs' where
  pr := fun y hy => h.pr y (hp.mem_iff.mp (.tail _ hy))
  ho := ho
  fin := h.fin
  nd := h.nd
  cov0 := fun k' a b c d => by
    obtain ⟨l', m, q⟩ := h.cov0 k' a b c d
    rcases List.mem_cons.mp (hp.mem_iff.mpr m) with e | m
    · have := eV_inj e; cases this; exact absurd hin c
    · exact ⟨l', m, q⟩
  cov := fun k' a b c p hpp d => by
    obtain ⟨l', m, q⟩ := h.cov k' a b c p hpp d
    rcases List.mem_cons.mp (hp.mem_iff.mpr m) with e | m
    · have := eV_inj e; cases this; exact absurd hin c
    · exact ⟨l', m, q⟩
  mono := fun l' k' hy => h.mono l' k' (hp.mem_iff.mp (.tail _ hy))
  clo := h.clo
theorem Inv.popNew (h : Inv L s (fun _ => True) (fun _ _ => True) es xs) {l k : Int} (hin : k ∉ es.map (·.1)) (hp : (eV (l, k) :: xs').Perm xs) (ho : HO ltV xs') (hl : ∀ y ∈ xs, ltV y (eV (l, k)) = false) :
    Inv L s (fun _ => True) (fun p _ => p ∈ es) (es ++ [(k, -l)]) xs' := by
  have hmem : eV (l, k) ∈ xs := hp.mem_iff.mp (.head _)
  obtain ⟨l0, k0, e0, hk, hs, hw⟩ := h.pr _ hmem
  have := eV_inj e0; cases this
  have le : ∀ l' k', eV (l', k') ∈ xs → l ≤ l' := fun l' k' m => lt_le (hl _ m)
  have keys : (es ++ [(k, -l)]).map (·.1) = es.map (·.1) ++ [k] := by simp
  refine { pr := fun y hy => h.pr y (hp.mem_iff.mp (.tail _ hy)), ho := ho, fin := fun p hpp => ?_, nd := ?_, cov0 := fun k' a b c _ => ?_, cov := fun k' a b c p _ d => ?_, mono := fun l' k' hy p hpp => ?_, clo := fun p hpp => ?_ }
  · rcases List.mem_append.mp hpp with q | q
    · exact h.fin p q
    · rw [List.mem_singleton] at q; subst q; exact ⟨hk, hs, hw⟩
  · rw [keys, List.nodup_append]
    refine ⟨h.nd, by simp, fun a ha b hb => ?_⟩
    rw [List.mem_singleton] at hb; subst hb
    rintro rfl; exact hin ha
  · rw [keys, List.mem_append, not_or] at c
    obtain ⟨l', m, q⟩ := h.cov0 k' a b c.1 trivial
    rcases List.mem_cons.mp (hp.mem_iff.mpr m) with e | m
    · have := eV_inj e; cases this; exact absurd (List.mem_singleton.mpr rfl) c.2
    · exact ⟨l', m, q⟩
  · rw [keys, List.mem_append, not_or] at c
    obtain ⟨l', m, q⟩ := h.cov k' a b c.1 p d trivial
    rcases List.mem_cons.mp (hp.mem_iff.mpr m) with e | m
    · have := eV_inj e; cases this; exact absurd (List.mem_singleton.mpr rfl) c.2
    · exact ⟨l', m, q⟩
  · have hy' := hp.mem_iff.mp (.tail _ hy)
    rcases List.mem_append.mp hpp with q | q
    · exact h.mono l' k' hy' p q
    · rw [List.mem_singleton] at q; subst q
      have := le l' k' hy'
      show -l' ≤ -l
      lia
  · rcases List.mem_append.mp hpp with q | q
    · refine ⟨(h.clo p q).1, fun r hr ne => ?_⟩
      rcases List.mem_append.mp hr with z | z
      · exact (h.clo p q).2 r z ne
      · rw [List.mem_singleton] at z; subst z
        have := h.mono l k hmem p q
        show min (-l) _ ≤ p.2
        lia
    · rw [List.mem_singleton] at q; subst q
      refine ⟨?_, fun r hr ne => ?_⟩
      · obtain ⟨l', m, q⟩ := h.cov0 k hk hs hin trivial
        have := le l' k m
        show L s k ≤ -l
        lia
      · rcases List.mem_append.mp hr with z | z
        · obtain ⟨l', m, q⟩ := h.cov k hk hs hin r z trivial
          have := le l' k m
          show min r.2 (L r.1 k) ≤ -l
          lia
        · rw [List.mem_singleton] at z; subst z; exact absurd rfl ne
-- MDij2

open PySem PySem.W PyProof.Rows

theorem len_sub : ∀ (l m : List Int), l.Nodup → (∀ x ∈ l, x ∈ m) → l.length ≤ m.length
  | [], m, _, _ => Nat.zero_le _
  | a :: r, m, hn, hs => by
    obtain ⟨h1, h2⟩ := List.nodup_cons.mp hn
    have ha : a ∈ m := hs a (.head _)
    have := len_sub r (m.erase a) h2 (fun x hx => by
      have ne : x ≠ a := fun e => h1 (e ▸ hx)
      exact (List.mem_erase_of_ne ne).mpr (hs x (.tail _ hx)))
    rw [List.length_erase_of_mem ha] at this
    have : 0 < m.length := List.length_pos_of_mem ha
    rw [List.length_cons]; lia
noncomputable def others (s : Int) : List Int := (idxs 5).filter fun k => decide (k ≠ s)
theorem others_len : ∀ s ∈ idxs 5, (others s).length = 4 ∧ (others s).Nodup := by decide
theorem mem_others {s k : Int} : k ∈ others s ↔ k ∈ idxs 5 ∧ k ≠ s := by
  unfold others; rw [List.mem_filter, decide_eq_true_iff]
variable {L : Int → Int → Int} {s : Int} {R0 : Int → Prop} {R : Int × Int → Int → Prop} {es : List (Int × Int)} {xs : List V}
theorem Inv.es_le (h : Inv L s R0 R es xs) (hs : s ∈ idxs 5) : es.length ≤ 4 := by
  have := len_sub (es.map (·.1)) (others s) h.nd (fun x hx => by
    obtain ⟨p, hp, rfl⟩ := List.mem_map.mp hx
    exact mem_others.mpr ⟨(h.fin p hp).1, (h.fin p hp).2.1⟩)
  rw [(others_len s hs).1, List.length_map] at this
  exact this
theorem Inv.ne (h : Inv L s (fun _ => True) R es xs) (hs : s ∈ idxs 5) (hl : es.length < 4) : xs ≠ [] := by
  obtain ⟨o1, o2⟩ := others_len s hs
  have : ∃ k ∈ others s, k ∉ es.map (·.1) := by
    refine Classical.byContradiction fun hc => ?_
    have := len_sub (others s) (es.map (·.1)) o2 (fun x hx => Classical.byContradiction fun hn => hc ⟨x, hx, hn⟩)
    rw [o1, List.length_map] at this; lia
  obtain ⟨k, hk, hn⟩ := this
  obtain ⟨k1, k2⟩ := mem_others.mp hk
  obtain ⟨l, m, _⟩ := h.cov0 k k1 k2 hn trivial
  exact List.ne_nil_of_mem m
theorem lookup_mem : ∀ {es : List (Int × Int)} {k d : Int}, (es.map (·.1)).Nodup → (k, d) ∈ es → es.lookup k = some d
  | (a, b) :: r, k, d, hn, hm => by
    rw [List.map_cons, List.nodup_cons] at hn
    rw [List.lookup_cons]
    rcases List.mem_cons.mp hm with e | hm'
    · cases e; simp
    · have ne : (k == a) = false := by
        rw [beq_eq_false_iff_ne]
        rintro rfl
        exact hn.1 (List.mem_map.mpr ⟨(k, d), hm', rfl⟩)
      rw [ne]; exact lookup_mem hn.2 hm'
theorem lookup_none {es : List (Int × Int)} {k : Int} (h : k ∉ es.map (·.1)) : es.lookup k = none := by
  cases e : es.lookup k with
  | none => rfl
  | some d =>
    exfalso
    apply h
    induction es with
    | nil => cases e
    | cons p r ih =>
      rw [List.lookup_cons] at e
      split at e
      · rename_i q; rw [beq_iff_eq] at q; subst q; simp
      · rw [List.map_cons, List.mem_cons]
        exact .inr (ih (fun z => h (by rw [List.map_cons]; exact .tail _ z)) e)
noncomputable def dOf (es : List (Int × Int)) (k : Int) : Int := (es.lookup k).getD 0
theorem Inv.widest (h : Inv L s (fun _ => True) R es xs) (hs : s ∈ idxs 5) (hl : 4 ≤ es.length) : Widest L s (dOf es) := by
  obtain ⟨o1, o2⟩ := others_len s hs
  have all : ∀ k ∈ idxs 5, k ≠ s → ∃ d, (k, d) ∈ es := fun k hk hn => by
    refine Classical.byContradiction fun hc => ?_
    have hnk : k ∉ es.map (·.1) := fun hm => by
      obtain ⟨p, hp, rfl⟩ := List.mem_map.mp hm
      exact hc ⟨p.2, hp⟩
    have := len_sub (k :: es.map (·.1)) (others s) (List.nodup_cons.mpr ⟨hnk, h.nd⟩) (fun x hx => by
      rcases List.mem_cons.mp hx with rfl | hx
      · exact mem_others.mpr ⟨hk, hn⟩
      · obtain ⟨p, hp, rfl⟩ := List.mem_map.mp hx
        exact mem_others.mpr ⟨(h.fin p hp).1, (h.fin p hp).2.1⟩)
    rw [o1, List.length_cons, List.length_map] at this; lia
  have dk : ∀ {k d : Int}, (k, d) ∈ es → dOf es k = d := fun hm => by unfold dOf; rw [lookup_mem h.nd hm]; rfl
  refine Widest.of ?_ (fun k hk hn => ?_) (fun k hk hn => ?_) (fun j hj hjs k hk hn => ?_)
  · unfold dOf
    rw [lookup_none]; rfl
    intro hm
    obtain ⟨p, hp, e⟩ := List.mem_map.mp hm
    exact (h.fin p hp).2.1 e
  · obtain ⟨d, hm⟩ := all k hk hn
    rw [dk hm]; exact (h.fin _ hm).2.2
  · obtain ⟨d, hm⟩ := all k hk hn
    rw [dk hm]; exact (h.clo _ hm).1
  · obtain ⟨d, hm⟩ := all k hk hn
    obtain ⟨e, hm'⟩ := all j hj hjs
    rw [dk hm, dk hm']
    by_cases q : j = k
    · subst q
      have := dk hm; rw [dk hm'] at this; lia
    · exact (h.clo _ hm).2 _ hm' q
theorem Inv.start (ho : HO ltV []) : Inv L s (fun _ => False) (fun _ _ => True) [] [] where
  pr := fun y hy => (nomatch hy)
  ho := ho
  fin := fun y hy => (nomatch hy)
  nd := .nil
  cov0 := fun _ _ _ _ h => h.elim
  cov := fun _ _ _ _ y hy => (nomatch hy)
  mono := fun _ _ h => (nomatch h)
  clo := fun y hy => (nomatch hy)
-- MLead

set_option maxRecDepth 100000
set_option maxHeartbeats 4000000
open PySem PySem.W PyProof.Rows



noncomputable abbrev bV (b : List Int × Int) : V := .tup [.lst (b.1.map .int), .int b.2]
noncomputable def toI : V → Int
  | .int i => i
  | _ => 0
theorem toI_map (l : List Int) : (l.map V.int).map toI = l := by simp [Function.comp_def, toI]
noncomputable def idx (x : Int) : List Int → Nat
  | [] => 0
  | y :: r => if y = x then 0 else idx x r + 1
theorem idx_spec (x : Int) : ∀ l : List Int, x ∈ l → l[idx x l]? = some x ∧ ∀ m, m < idx x l → l[m]? ≠ some x
  | [], h => by simp at h
  | y :: r, h => by
    unfold idx
    split
    · rename_i e; subst e; exact ⟨rfl, fun m hm => by lia⟩
    · rename_i e
      have h' : x ∈ r := by
        rcases List.mem_cons.mp h with z | z
        · exact absurd z.symm e
        · exact z
      obtain ⟨h1, h2⟩ := idx_spec x r h'
      refine ⟨by simpa using h1, fun m hm => ?_⟩
      cases m with
      | zero => simpa using e
      | succ m => simpa using h2 m (by lia)
noncomputable def leadOf (bs : List (List Int × Int)) (i j : Int) : Int := (bs.map fun b => if idx i b.1 < idx j b.1 then b.2 else -b.2).sum
noncomputable def leadF (i j : Int) : V → Option V
  | .tup [.lst row, .int v] => some (.int (if idx i (row.map toI) < idx j (row.map toI) then v else -v))
  | _ => none
theorem leadF_map (bs : List (List Int × Int)) (i j : Int) : (bs.map bV).filterMap (leadF i j) = (bs.map fun b => if idx i b.1 < idx j b.1 then b.2 else -b.2).map .int := by
  induction bs with
  | nil => rfl
  | cons b r ih => rw [List.map_cons, List.filterMap_cons, ih]; simp only [bV, leadF, toI_map, List.map_cons]
section
variable {P : Params} {B : PH}
noncomputable abbrev fd_lead : FuncData := fnF "_law_lead" "_law_lead" pb 38 .none (.str (Str.ofString "law_oy0341_03") 1300) (.ref 809)
theorem f_lead (H : BaseK (K P) B) : Fn0 B 810 fd_lead (bodyAt pb 38) := H.fn0 (o := fnO "_law_lead" "_law_lead" pb 38 .none (.str (Str.ofString "law_oy0341_03") 1300) (.ref 809)) (by kernel_rfl) rfl rfl (by kernel_rfl) (by decide +kernel) rfl rfl rfl rfl
theorem g_lead (H : BaseK (K P) B) : Glo B "_law_lead" (.ref 810) := H.glo (by kernel_rfl)
theorem t_sum (H : BaseK (K P) B) : Blt B "sum" (.builtin "sum") := H.blt (by kernel_rfl) (by kernel_rfl) (by decide)
end
section
variable {C : Fx} {st : St}
theorem b_lead (H : HB C) (hu : C.u ≤ 4000) (bs : List (List Int × Int)) (i j : Int) (hb : ∀ b ∈ bs, i ∈ b.1 ∧ j ∈ b.1 ∧ b.1.length ≤ 1000) (hl : bs.length ≤ 1000) {vars : List (Str × V)} (hv : vars = [(("ballots" : Str), .lst (bs.map bV)), (("i" : Str), .int i), (("j" : Str), .int j)]) {Q : FlowA → St → Prop}
    (h : Q (.ret (.int (leadOf bs i j))) { st with vars := vars }) : JX (C.into fd_lead.scope) (bodyAt pb 38) { st with vars := vars } Q := by
  have HBc : HB (C.into fd_lead.scope) := H
  subst hv
  refine x_seq ?_
  repeat walk_at "w"
  refine ev_CallB (t_sum (by exact HBc)) (by rfl) ?_
  repeat walk_at "w"
  refine ev_ListComp (by kernel_rfl) ?_
  repeat walk_at "w"
  refine comp_p2 (bs.map bV) (leadF i j) rfl (by rw [List.length_map]; exact Nat.le_trans hl (by decide)) (fun a ha => ?_) (by decide) rfl (.inl rfl) rfl (.inl rfl) (fun u w hm => ?_) ?_
  · obtain ⟨b, _, rfl⟩ := List.mem_map.mp ha; exact ⟨_, _, rfl⟩
  · obtain ⟨⟨row, v⟩, hbm, e⟩ := List.mem_map.mp hm
    cases e
    refine ts_nil ⟨fun _ => ?_, fun e => by cases e⟩
    obtain ⟨hi, hj, hz⟩ := hb _ hbm
    obtain ⟨i1, i2⟩ := idx_spec i row hi
    obtain ⟨j1, j2⟩ := idx_spec j row hj
    repeat walk_at "w"
    refine ev_MethL PySem.F.slot_list_index PySem.F.type_list_index ?_
    repeat walk_at "w"
    refine ⟨⟨_, rfl⟩, ?_⟩
    repeat walk_at "w"
    refine m_indexI (xs := row) (by rfl) i1 i2 (Nat.lt_of_le_of_lt hz (by decide)) (show C.u + 3 ≤ 5000 from dk hu (by decide)) ?_
    repeat walk_at "w"
    refine ev_MethL PySem.F.slot_list_index PySem.F.type_list_index ?_
    repeat walk_at "w"
    refine ⟨⟨_, rfl⟩, ?_⟩
    repeat walk_at "w"
    refine m_indexI (xs := row) (by rfl) j1 j2 (Nat.lt_of_le_of_lt hz (by decide)) (show C.u + 3 ≤ 5000 from dk hu (by decide)) ?_
    repeat walk_at "w"
    refine ⟨fun hc => ?_, fun hc => ?_⟩
    · have hc := of_decide_eq_true hc
      repeat walk_at "w"
      refine ⟨rfl, ?_⟩
      simp only [leadF, toI_map]
      rw [if_pos (by lia)]
    · have hc := of_decide_eq_false hc
      repeat walk_at "w"
      refine ⟨rfl, ?_⟩
      simp only [leadF, toI_map]
      rw [if_neg (by lia)]
  · rw [leadF_map]
    repeat walk_at "w"
    refine b_sum (by rfl) ?_
    repeat walk_at "w"
    exact h
theorem c_lead (H : HB C) (hd : C.d ≤ 900) (hu : C.u ≤ 4000) (bs : List (List Int × Int)) (i j : Int) (hb : ∀ b ∈ bs, i ∈ b.1 ∧ j ∈ b.1 ∧ b.1.length ≤ 1000) (hl : bs.length ≤ 1000) {Q : V → St → Prop} (h : Q (.int (leadOf bs i j)) st) : JC C 810 [.lst (bs.map bV), .int i, .int j] [] st Q := by
  refine code_fn0 (vars := [("ballots", .lst (bs.map bV)), ("i", .int i), ("j", .int j)]) (f_lead H) (by lia) (show parOk fd_lead.scope ["ballots", "i", "j"] = true by decide +kernel) (fun env Z R ρ s ws hs hw => ?_) ?_
  · obtain ⟨x, y, z, rfl, r1, r2, r3⟩ := inv3 hw
    exact ⟨_, BindsTo.of_eq rfl, .cons r1 (.cons r2 (.cons r3 .nil))⟩
  exact b_lead H hu bs i j hb hl rfl h
end
-- MRow

set_option maxRecDepth 100000
open PySem PySem.W PyProof.Rows
/-! what a ballot's row is (plain) -/
noncomputable def rowTest (r : List Int) : Bool :=
  r.length == 5 && r.all (fun i => (idxs 5).contains i) && (idxs 5).all (fun i => r.contains i) &&
  (idxs 5).all (fun i => (idxs 5).all fun j => i == j || idx i r != idx j r) &&
  (idxs 3).all fun k => (decide (idx k r < idx 3 r) == decide (idx k r < idx 4 r)) && (decide (idx 3 r < idx k r) == decide (idx 4 r < idx k r))
theorem rowOf_test (n : Int) : rowTest (rowOf n) = true := by
  have key : ∀ (a : Fin 2) (b : Fin 3) (c : Fin 4) (d : Fin 2), rowTest (insI (insI (insI (insI [0] a 1) b 2) c 3) (c + d : Nat) 4) = true := by decide +kernel
  have := key ⟨(n % 2).toNat, by lia⟩ ⟨(n / 2 % 3).toNat, by lia⟩ ⟨(n / 6 % 4).toNat, by lia⟩ ⟨(n / 24 % 2).toNat, by lia⟩
  unfold rowOf row3
  rw [show (n / 6 % 4 + n / 24 % 2).toNat = (n / 6 % 4).toNat + (n / 24 % 2).toNat from by lia]
  exact this
structure RowOk (r : List Int) : Prop where
  len : r.length = 5
  ins : ∀ i ∈ r, i ∈ idxs 5
  all : ∀ i ∈ idxs 5, i ∈ r
  ne : ∀ i ∈ idxs 5, ∀ j ∈ idxs 5, i ≠ j → idx i r ≠ idx j r
  to_ : ∀ k ∈ idxs 3, idx k r < idx 3 r ↔ idx k r < idx 4 r
  from_ : ∀ k ∈ idxs 3, idx 3 r < idx k r ↔ idx 4 r < idx k r
theorem rowOf_ok (n : Int) : RowOk (rowOf n) := by
  have h := rowOf_test n
  unfold rowTest at h
  simp only [Bool.and_eq_true, List.all_eq_true, beq_iff_eq, List.contains_iff_mem, Bool.or_eq_true, bne_iff_ne, decide_eq_decide] at h
  obtain ⟨⟨⟨⟨h1, h2⟩, h3⟩, h4⟩, h5⟩ := h
  exact ⟨h1, h2, h3, fun i hi j hj e => (h4 i hi j hj).resolve_left e, fun k hk => (h5 k hk).1, fun k hk => (h5 k hk).2⟩

theorem lead_anti (bs : List (List Int × Int)) (hb : ∀ b ∈ bs, RowOk b.1) {i j : Int} (hi : i ∈ idxs 5) (hj : j ∈ idxs 5) (e : i ≠ j) : leadOf bs j i = - leadOf bs i j := by
  unfold leadOf
  induction bs with
  | nil => rfl
  | cons b r ih =>
    rw [List.map_cons, List.map_cons, List.sum_cons, List.sum_cons, ih fun x hx => hb x (.tail _ hx)]
    have := (hb b (.head _)).ne i hi j hj e
    by_cases q : idx i b.1 < idx j b.1
    · rw [if_pos q, if_neg (by lia)]; lia
    · rw [if_neg q, if_pos (by lia)]; lia
theorem lead_twin (bs : List (List Int × Int)) (hb : ∀ b ∈ bs, RowOk b.1) : Twin (leadOf bs) := by
  intro k hk h3 h4
  have hk3 : k ∈ idxs 3 := by
    obtain ⟨a, b⟩ := mem_idxs.mp hk
    exact mem_idxs.mpr ⟨a, by lia⟩
  unfold leadOf
  refine ⟨congrArg List.sum (List.map_congr_left fun b h => ?_), congrArg List.sum (List.map_congr_left fun b h => ?_)⟩
  · simp only [(hb b h).from_ k hk3]
  · simp only [(hb b h).to_ k hk3]
-- MTab

set_option maxRecDepth 100000
set_option maxHeartbeats 4000000
open PySem PySem.W PyProof.Rows



section
variable {P : Params} {B : PH}
noncomputable abbrev fd_tab : FuncData := fnF "_law_table" "_law_table" pb 40 .none (.str (Str.ofString "law_oy0341_03") 1300) (.ref 819)
theorem f_tab (H : BaseK (K P) B) : Fn0 B 820 fd_tab (bodyAt pb 40) := H.fn0 (o := fnO "_law_table" "_law_table" pb 40 .none (.str (Str.ofString "law_oy0341_03") 1300) (.ref 819)) (by kernel_rfl) rfl rfl (by kernel_rfl) (by decide +kernel) rfl rfl rfl rfl
theorem g_tab (H : BaseK (K P) B) : Glo B "_law_table" (.ref 820) := H.glo (by kernel_rfl)
theorem t_range (H : BaseK (K P) B) : Blt B "range" (.type "range") := H.blt (by kernel_rfl) (by kernel_rfl) (by decide)
theorem t_max (H : BaseK (K P) B) : Blt B "max" (.builtin "max") := H.blt (by kernel_rfl) (by kernel_rfl) (by decide)
theorem t_min (H : BaseK (K P) B) : Blt B "min" (.builtin "min") := H.blt (by kernel_rfl) (by kernel_rfl) (by decide)
end
theorem take_idxs (n k : Nat) (h : k ≤ n) : (idxs n).take k = idxs k := by
  unfold idxs
  rw [← List.map_take, List.take_range, Nat.min_eq_left h]
local macro_rules | `(tactic| walk_at "rg") => `(tactic| (refine ev_CallT (t_range (by assumption)) (by rfl) ?_; (repeat walk_at "w"); (refine b_range1 ?_)))
-- m[i][j]
local macro_rules | `(tactic| walk_at "ij") => `(tactic| ((repeat walk_at "w"); refine sub_lst (by lia) (idxs_at (by assumption) _) (by lia) ?_; (repeat walk_at "w"); refine sub_lst (by lia) (idxs_at (by assumption) _) (by lia) ?_; (repeat walk_at "w")))
section
variable {C : Fx} {st : St}
theorem x_AssignK {x : Str} {px pos lp : Pos} {elt : Expr} {gens : List Comprehension} {scope : Scope} {Q : FlowA → St → Prop} (h : J C VR (eval (.ListComp elt gens scope lp)) st fun v st₁ => Q .next { st₁ with vars := setv x v st₁.vars }) (hk : C.sc.names.lookup x = some .cell) :
    JX1 C (.Assign [.Name x px] (.ListComp elt gens scope lp) pos) st Q :=
  fun env Z R ρ s hs => wpAny_Assign_Name (wp_use (h env Z R ρ s hs) (fun w s₁ v st₁ Z₁ ρ₁ hz hr rv hs₁ h₁ =>
    wp_use (store_ (Q := fun _ st' => Q .next st') hk h₁ (.inr rfl) hs₁ rv) (fun _ _ _ st₂ Z₂ ρ₂ hz2 hr2 _ hs₂ h₂ => ⟨_, st₂, Z₂, ρ₂, hz.trans hz2, hr.trans hr2, .next, hs₂, h₂⟩))) (by
      have e2 := (hs.kindOf_ x).trans hk
      unfold swapsWith
      dsimp only
      rw [e2]
      have e3 : ((some NameKind.cell == some NameKind.local) = false) := by decide
      rw [e3]
      simp)
theorem b_tab (H : HB C) (hu : C.u ≤ 4000) (f : Int → Int → Int) {vars : List (Str × V)} (hv : vars = [(("leads" : Str), matV 5 f)]) {Q : FlowA → St → Prop}
    (h : ∀ vars, Q (.ret (matV 4 (tabOf f))) { st with vars := vars }) : JX (C.into fd_tab.scope) (bodyAt pb 40) { st with vars := vars } Q := by
  have HBc : HB (C.into fd_tab.scope) := H
  subst hv
  refine x_seq ?_
  refine x_AssignK ?_ (by rfl)
  refine ev_ListComp (by kernel_rfl) ?_
  refine ev_Slice ?_
  repeat walk_at "w"
  refine p_none ?_
  refine p_some ?_
  repeat walk_at "w"
  refine ⟨_, rfl, _, rfl, by rw [List.length_map, idxs_len]; decide, ?_⟩
  rw [show (sl none (some 4) ((idxs 5).map fun i => V.lst ((idxs 5).map fun j => .int (f i j)))) = (idxs 4).map (fun i => V.lst ((idxs 5).map fun j => .int (f i j))) from by rw [show (some 4 : Option Int) = some ((4 : Nat) : Int) from rfl, sl_upto, ← List.map_take, take_idxs 5 4 (by decide)]]
  refine comp_pN ((idxs 4).map (fun i => V.lst ((idxs 5).map fun j => .int (f i j)))) (fun a => match a with | .lst r => some (.lst (r.take 4)) | _ => none) rfl (by rw [List.length_map, idxs_len]; decide) (by rfl) (.inl rfl) (fun a ha => ts_nil ⟨fun _ => ?_, fun e => by cases e⟩) ?_
  · obtain ⟨i, hi, rfl⟩ := List.mem_map.mp ha
    refine ev_Slice ?_
    repeat walk_at "w"
    refine p_none ?_
    refine p_some ?_
    repeat walk_at "w"
    refine ⟨_, rfl, _, rfl, by rw [List.length_map, idxs_len]; decide, rfl, ?_⟩
    rw [show (some 4 : Option Int) = some ((4 : Nat) : Int) from rfl, sl_upto]
  rw [show (((idxs 4).map (fun i => V.lst ((idxs 5).map fun j => V.int (f i j)))).filterMap (fun a => match a with | .lst r => some (.lst (r.take 4)) | _ => none)) = (idxs 4).map (fun i => V.lst ((idxs 4).map fun j => V.int (f i j))) from by
    rw [List.filterMap_map]
    rw [show ((fun a => match a with | V.lst r => some (V.lst (r.take 4)) | _ => none) ∘ fun i => V.lst ((idxs 5).map fun j => V.int (f i j))) = some ∘ (fun i => V.lst ((idxs 4).map fun j => V.int (f i j))) from by
      funext i
      show some (V.lst (List.take 4 ((idxs 5).map fun j => V.int (f i j)))) = _
      rw [← List.map_take, take_idxs 5 4 (by decide)]; rfl]
    rw [← List.filterMap_map, List.filterMap_eq_map', List.map_id'] <;> rfl]
  repeat walk_at "w"
  refine x_For ?_
  walk_at "rg"
  refine ⟨(idxs 4).map .int, fun i st' => ∃ vars', st' = ⟨vars', st.heap, st.nx⟩ ∧ gv vars' "table" = some (matV 4 (wars f i)), ⟨_, rfl, by walk_at "lk"⟩, fun _ st' _ => itb_rng st' (by decide) (by decide), ?_, ?_⟩
  · rintro i x st' hx ⟨vars', rfl, ht⟩
    have hi : i < 4 := by
      have := (List.getElem?_eq_some_iff.mp hx).1
      rw [List.length_map, idxs_len] at this; exact this
    have hx' : ((idxs 4).map V.int)[((i : Int)).toNat]? = some (.int (i : Int)) := idxs_at (mem_idxs.mpr ⟨by lia, by lia⟩) _
    rw [Int.toNat_natCast, hx] at hx'
    cases hx'
    have mk : ((i : Nat) : Int) ∈ idxs 4 := mem_idxs.mpr ⟨by lia, by lia⟩
    refine a_Name ?_ (by rfl) (by first | exact .inl rfl | exact .inr rfl)
    refine x_seq ?_
    refine x_AssignK ?_ (by rfl)
    refine ev_ListComp (by kernel_rfl) ?_
    walk_at "rg"
    refine comp_all (idxs 4) (fun a => .lst ((idxs 4).map fun b => .int (wars f (i + 1) a b))) (itb_rng _ (by decide) (by decide)) (by rw [idxs_len]; decide) (by rfl) (by first | exact .inl rfl | exact .inr rfl) (fun a ma => ?_) ?_
    · have ra := mem_idxs.mp ma
      refine ev_ListComp (by kernel_rfl) ?_
      walk_at "rg"
      refine comp_all (idxs 4) (fun b => .int (wars f (i + 1) a b)) (itb_rng _ (by decide) (by decide)) (by rw [idxs_len]; decide) (by rfl) (by first | exact .inl rfl | exact .inr rfl) (fun b mb => ?_) ?_
      · have rb := mem_idxs.mp mb
        refine ev_CallB (t_max (by exact HBc)) (by rfl) ?_
        have rk := mem_idxs.mp mk
        walk_at "ij"
        refine ev_CallB (t_min (by exact HBc)) (by rfl) ?_
        walk_at "ij"
        walk_at "ij"
        refine b_min2 ?_
        repeat walk_at "w"
        refine b_max2 ?_
        exact ⟨rfl, rfl⟩
      · exact ⟨rfl, rfl⟩
    · repeat walk_at "w"
      exact ⟨_, rfl, by walk_at "lk"⟩
  · rintro st' ⟨vars', rfl, ht⟩
    rw [List.length_map, idxs_len] at ht
    repeat walk_at "w"
    refine ev_ListComp (by kernel_rfl) ?_
    walk_at "rg"
    refine comp_all (idxs 4) (fun a => .lst ((idxs 4).map fun b => .int (tabOf f a b))) (itb_rng _ (by decide) (by decide)) (by rw [idxs_len]; decide) (by rfl) (by first | exact .inl rfl | exact .inr rfl) (fun a ma => ?_) ?_
    · have ra := mem_idxs.mp ma
      refine ev_ListComp (by kernel_rfl) ?_
      walk_at "rg"
      refine comp_all (idxs 4) (fun b => .int (tabOf f a b)) (itb_rng _ (by decide) (by decide)) (by rw [idxs_len]; decide) (by rfl) (by first | exact .inl rfl | exact .inr rfl) (fun b mb => ?_) ?_
      · have rb := mem_idxs.mp mb
        repeat walk_at "w"
        refine op_neI (show C.u + 3 ≤ 9000 from dk hu (by decide)) ?_
        repeat walk_at "w"
        refine ⟨fun hc => ?_, fun hc => ?_⟩
        · walk_at "ij"
          refine ⟨?_, rfl⟩
          unfold tabOf
          rw [if_neg (by simpa using hc)]
        · repeat walk_at "w"
          refine ⟨?_, rfl⟩
          unfold tabOf
          rw [if_pos (by simpa using hc)]
      · exact ⟨rfl, rfl⟩
    · repeat walk_at "w"
      exact h _
theorem c_tab (H : HB C) (hd : C.d ≤ 900) (hu : C.u ≤ 4000) (f : Int → Int → Int) {Q : V → St → Prop} (h : Q (matV 4 (tabOf f)) st) : JC C 820 [matV 5 f] [] st Q := by
  refine code_fn0 (vars := [("leads", matV 5 f)]) (f_tab H) (by lia) (show parOk fd_tab.scope ["leads"] = true by decide +kernel) (fun env Z R ρ s ws hs hw => ?_) ?_
  · obtain ⟨x, rfl, r1⟩ := inv1 hw
    exact ⟨_, BindsTo.of_eq rfl, .cons r1 .nil⟩
  exact b_tab H hu f rfl fun vars => h
end
-- MRead

set_option maxRecDepth 100000
set_option maxHeartbeats 4000000
open PySem PySem.W PyProof.Rows


noncomputable def hdV : List Str → V
  | [] => .none
  | w :: _ => .str w
theorem Lexes.step {ws : List Str} {left : Option (List Nat)} (h : Lexes ws left) : ∃ left', lxOne left = some (hdV ws, left') ∧ Lexes ws.tail left' := by
  cases h with
  | nil => exact ⟨none, rfl, .nil⟩
  | cons h t => exact ⟨_, h, t⟩

noncomputable def names5 : List Str := ["a", "b", "c", "", "#"]
noncomputable def nm (i : Int) : Str := (names5[i.toNat]?).getD ""
theorem mem5 {i : Int} (h : i ∈ idxs 5) : i = 0 ∨ i = 1 ∨ i = 2 ∨ i = 3 ∨ i = 4 := by
  have := mem_idxs.mp h; lia
section
variable {P : Params} {B : PH}
noncomputable abbrev fd_lread : FuncData := fnF "_law_read" "_law_read" pb 37 .none (.str (Str.ofString "law_oy0341_03") 1300) (.ref 804)
theorem f_lread (H : BaseK (K P) B) : Fn0 B 805 fd_lread (bodyAt pb 37) := H.fn0 (o := fnO "_law_read" "_law_read" pb 37 .none (.str (Str.ofString "law_oy0341_03") 1300) (.ref 804)) (by kernel_rfl) rfl rfl (by kernel_rfl) (by decide +kernel) rfl rfl rfl rfl
theorem g_lread (H : BaseK (K P) B) : Glo B "_law_read" (.ref 805) := H.glo (by kernel_rfl)
end
theorem at_opt (l : List V) (j : Nat) (h : j < l.length) : l[j] = (l[j]?).getD .none := by rw [List.getElem?_eq_getElem h]; rfl
section
variable {C : Fx} {st : St}
theorem m_index5 {i : Int} (hi : i ∈ idxs 5) {Q : V → St → Prop} (hu : C.u ≤ 5000) (h : Q (.int i) st) :
    JV C VR [.lst (names5.map .str), .str (nm i)] (fun ws => call (.builtin "list.index") ws) st Q := by
  have hc : ∀ i : Int, i ∈ idxs 5 → i.toNat < 5 ∧ ((i.toNat : Nat) : Int) = i := fun i hi => by have := mem_idxs.mp hi; lia
  refine m_index (xs := names5.map .str) (j := i.toNat) rfl (by have := (hc i hi).1; simpa [names5] using this) (by decide) (by decide +kernel) ?_ ?_ ?_ (fun m hm hlt => ?_) (by rw [(hc i hi).2]; exact h)
  · rcases mem5 hi with rfl | rfl | rfl | rfl | rfl <;> decide +kernel
  · exact Nat.lt_of_le_of_lt (show _ ≤ 5000 + 1 + 1 from by
      have : min (PyData.depthAll (toDs (names5.map .str))) (toD (.str (nm i))).depth ≤ 1 := Nat.le_trans (Nat.min_le_left _ _) (by decide +kernel)
      lia) (by decide)
  · rw [at_opt]
    rcases mem5 hi with rfl | rfl | rfl | rfl | rfl <;> decide +kernel
  · rw [at_opt]
    have hm' : m < 5 := by simpa [names5] using hm
    rcases mem5 hi with rfl | rfl | rfl | rfl | rfl <;> (first | (exfalso; exact absurd hlt (by decide)) | skip)
    all_goals (obtain rfl | rfl | rfl | rfl | rfl : m = 0 ∨ m = 1 ∨ m = 2 ∨ m = 3 ∨ m = 4 := by lia) <;> first | (exfalso; exact absurd hlt (by decide)) | decide +kernel

noncomputable abbrev bksW (bs : List (List Int × Int)) : List Str := bs.flatMap fun b => b.1.map nm
noncomputable abbrev bksO (bs : List (List Int × Int)) : List Int := bs.flatMap fun b => octs b.2.toNat
theorem var_keep {P : Params} : keepIn (K P) (.ref 79) = true := by kernel_rfl
theorem read_keep {P : Params} : keepIn (K P) (.ref 805) = true := by kernel_rfl
theorem ev_gt {o : Expr} {apos pos : Pos} {n m : Nat} {wc buf : Str} {left : Option (List Nat)} {ws : List Str} {Q : V → St → Prop} (H : HB C) (hd : C.d ≤ 500) (hwc : WcOk wc) (A : LexAt st.heap n m wc buf left) (hx : Lexes ws left)
    (ho : J C VR (eval o) st fun ov st₁ => ov = .inst 767 n ∧ st₁ = st)
    (h : ∀ H' left', LexAt H' n m wc buf left' → Lexes ws.tail left' → (∀ k, k ≠ n → k ≠ m → H' k = st.heap k) → Q (hdV ws) ⟨st.vars, H', st.nx⟩)
    (hbase : ∀ env, attributeBase o "get_token" env (eval o env) = eval o env := by intro _; rfl) (hline : (apos.endLine == pos.line) = true := by rfl) :
    J C VR (eval (.Call (.Attribute o "get_token" apos) [] [] pos)) st Q := by
  refine ev_MethI H cls_shl m_gettok.find m_gettok.typ m_gettok.keep (J.mono ho fun ov st₁ ⟨e1, e2⟩ => ?_) hbase hline
  subst e1; subst e2
  obtain ⟨l, p, a1, _⟩ := A.at_
  refine ⟨⟨n, _, rfl, a1, by rfl⟩, l_nil ?_⟩
  obtain ⟨left', hl, hx'⟩ := hx.step
  exact c_gt H hd hwc A hl fun H' A' hk => h H' left' A' hx' hk

theorem LexAt.of {H H' : Nat → Option AO} {n m : Nat} {wc buf : Str} {left : Option (List Nat)} (A : LexAt H n m wc buf left) (h1 : H' n = H n) (h2 : H' m = H m) : LexAt H' n m wc buf left :=
  let ⟨a, b, l, p, c1, c2, c3⟩ := A
  ⟨a, b, l, p, h1.trans c1, h2.trans c2, c3⟩
theorem free3 {a b c x : Str} (h : ([(a, NameKind.local), (b, NameKind.local), (c, NameKind.free)] : List (Str × NameKind)).lookup x = some .free) : x = c := by
  simp only [List.lookup] at h
  split at h
  · cases h
  · split at h
    · cases h
    · split at h
      · rename_i q; exact eq_of_beq q
      · cases h

inductive ReadI (bs : List (List Int × Int)) (wc book : Str) (k : Nat) (st : St) (mm : Nat) (st' : St) : Prop
  | mk (vars' : List (Str × V)) (H' : Nat → Option AO) (dn rest : List (List Int × Int)) (left : Option (List Nat)) (i : Nat) (e1 : st' = ⟨vars', H', st.nx + 4⟩) (e2 : mm = rest.length) (hbs : bs = dn ++ rest) (v1 : gv vars' "lexer" = some (.inst 767 st.nx)) (v2 : gv vars' "ballots" = some (.obj (st.nx + 3))) (v3 : gv vars' "octets" = some (.obj k))
    (v4 : gv vars' "names" = some (.lst (names5.map .str))) (v5 : gv vars' "word" = some (hdV (bksW rest))) (hA : LexAt H' st.nx (st.nx + 2) wc book left) (hL : Lexes (bksW rest).tail left) (g1 : H' (st.nx + 3) = some (.list (dn.map bV)))
    (g2 : H' k = some (.iter ((bksO bs).map .int) i)) (hdr : (bksO bs).drop i = bksO rest) (g3 : ∀ j, j < st.nx → j ≠ k → H' j = st.heap j)
inductive ReadC (row' : List Int) (wr : List Str) (H' : Nat → Option AO) (wc book : Str) (st : St) (j : Nat) (ys : List V) (st' : St) : Prop
  | mk (hj : j ≤ 4) (e : ys = ((row'.map nm).take j).map .str) (vs : List (Str × V)) (H'' : Nat → Option AO) (left' : Option (List Nat)) (e1 : st' = ⟨vs, H'', st.nx + 4⟩) (w1 : gv vs "lexer" = some (.inst 767 st.nx)) (hA : LexAt H'' st.nx (st.nx + 2) wc book left') (hL : Lexes ((row'.map nm).drop j ++ wr) left') (hk : ∀ q, q ≠ st.nx → q ≠ st.nx + 2 → H'' q = H' q)
theorem b_lread (H : HB C) (hd : C.d ≤ 400) (hu : C.u ≤ 2000) (bs : List (List Int × Int)) (hrow : ∀ b ∈ bs, b.1.length = 5 ∧ ∀ i ∈ b.1, i ∈ idxs 5) (hvot : ∀ b ∈ bs, 0 ≤ b.2 ∧ b.2.natAbs.log2 ≤ 1000) (hlen : bs.length ≤ 1000) {book : Str} (hsz : book.length ≤ 100000)
    (hbk : Lexes (bksW bs) (some book.cps.toList)) {k : Nat} (hkn : k < st.nx) (hk : st.heap k = some (.iter ((bksO bs).map .int) 0)) {vars : List (Str × V)} (hv : vars = [(("book" : Str), .str book), (("octets" : Str), .obj k), (("names" : Str), .lst (names5.map .str))]) {Q : FlowA → St → Prop}
    (h : ∀ vars H' nx n i, st.nx ≤ n → n < nx → H' n = some (.list (bs.map bV)) → (∀ j, j < st.nx → j ≠ k → H' j = st.heap j) → H' k = some (.iter ((bksO bs).map .int) i) → (bksO bs).drop i = [] → Q (.ret (.obj n)) ⟨vars, H', nx⟩) :
    JX (C.into fd_lread.scope) (bodyAt pb 37) { st with vars := vars } Q := by
  have HBc : HB (C.into fd_lread.scope) := H
  subst hv
  refine x_seq ?_
  refine x_Assign ?_ (by rfl)
  refine ev_Shl (by exact HBc) (by rfl) ?_
  repeat walk_at "w"
  refine c_shl (C := C.into fd_lread.scope) H (show C.d + 1 ≤ 500 from dk hd (by decide)) hsz fun wc H1 hwc A1 hk1 => ?_
  refine thn_next ?_
  dsimp only
  refine x_seq ?_
  refine x_Assign ?_ (by rfl)
  refine ev_ListO ?_
  repeat walk_at "w"
  refine ⟨Nat.le_of_ble_eq_true rfl, ?_⟩
  refine thn_next ?_
  dsimp only
  refine x_seq ?_
  refine x_Assign ?_ (by rfl)
  dsimp only at A1 hk1
  refine ev_gt (n := st.nx) (m := st.nx + 2) (C := C.into fd_lread.scope) HBc (show C.d + 1 ≤ 500 from dk hd (by decide)) hwc (A1.of (upd_ne _ _ (by lia)) (upd_ne _ _ (by lia))) hbk (by repeat walk_at "w"; exact ⟨rfl, rfl⟩) fun H2 left2 A2 hx2 hk2 => ?_
  refine thn_next ?_
  dsimp only
  refine x_seq ?_
  refine x_While (ReadI bs wc book k st) bs.length
    ⟨_, _, [], bs, _, 0, rfl, rfl, rfl, by walk_at "lk", by walk_at "lk", by walk_at "lk", by walk_at "lk", by walk_at "lk", A2, hx2, (hk2 _ (by lia) (by lia)).trans (upd_self _ _ _), (hk2 _ (by lia) (by lia)).trans ((upd_ne _ _ (by lia)).trans ((hk1 _ hkn).trans hk)), rfl,
      fun j hj hjk => (hk2 _ (by lia) (by lia)).trans ((upd_ne _ _ (by lia)).trans (hk1 _ hj))⟩ ?_
  rintro mm st' ⟨vars', H', dn, rest, left, i, rfl, rfl, hbs, v1, v2, v3, v4, v5, hA, hL, g1, g2, hdr, g3⟩
  clear A1 A2 hx2 hk2 hk1 H1 H2 left2
  have nostr : ∀ u, hdV (bksW rest) ≠ .val u := fun u e => by cases q : bksW rest <;> (rw [q] at e; cases e)
  refine tt_Compare ?_
  repeat walk_at "w"
  refine isnot_none ?_ nostr
  cases rest with
  | nil =>
    repeat walk_at "w"
    rw [List.append_nil] at hbs
    subst hbs
    exact h _ _ _ _ i (by lia) (by lia) g1 g3 g2 hdr
  | cons b rest =>
    have hb : b ∈ bs := by rw [hbs]; simp
    obtain ⟨hb5, hbi⟩ := hrow b hb
    obtain ⟨row, vot⟩ := b
    have hW : bksW ((row, vot) :: rest) = row.map nm ++ bksW rest := rfl
    have hO : bksO ((row, vot) :: rest) = octs vot.toNat ++ bksO rest := rfl
    dsimp only at hb5 hbi
    obtain ⟨i0, row', rfl⟩ : ∃ i0 r, row = i0 :: r := by
      cases row with
      | nil => cases hb5
      | cons a r => exact ⟨_, _, rfl⟩
    have l4 : row'.length = 4 := by simpa using hb5
    have hh : hdV (bksW ((i0 :: row', vot) :: rest)) = .str (nm i0) := rfl
    have ht : (bksW ((i0 :: row', vot) :: rest)).tail = row'.map nm ++ bksW rest := rfl
    rw [hh] at v5 ⊢
    rw [ht] at hL
    repeat walk_at "w"
    refine ⟨Nat.le_of_ble_eq_true rfl, ?_⟩
    repeat walk_at "w"
    refine ev_ListComp (by kernel_rfl) ?_
    walk_at "rg"
    refine comp_1 ((idxs 4).map .int) (ReadC row' (bksW rest) H' wc book st)
      (itb_rng _ (by decide) (by decide)) ⟨Nat.zero_le _, rfl, _, _, left, rfl, by walk_at "lk", hA, hL, fun _ _ _ => rfl⟩ (fun _ _ st' _ => itb_rng st' (by decide) (by decide)) ?_ ?_
    · rintro j ys x st' hx ⟨hj, rfl, vs, H'', left', rfl, w1, hA', hL', hk'⟩
      have hj4 : j < 4 := by
        have := (List.getElem?_eq_some_iff.mp hx).1
        rw [List.length_map, idxs_len] at this; exact this
      refine a_Name ?_ (by rfl) (by first | exact .inl rfl | exact .inr rfl)
      refine ts_nil ⟨fun _ => e_emit ?_, fun e => by cases e⟩
      refine ev_gt (n := st.nx) (m := st.nx + 2) HBc (show C.d + 1 ≤ 500 from dk hd (by decide)) hwc hA' hL' (by repeat walk_at "w"; exact ⟨rfl, rfl⟩) fun H3 left3 A3 hx3 hk3 => ?_
      refine ⟨?_, hj4, ?_, _, _, left3, rfl, by walk_at "lk", A3, ?_, fun q q1 q2 => (hk3 q q1 q2).trans (hk' q q1 q2)⟩
      · have : (4 : Nat) ≤ sizeLine := by decide
        rw [List.length_map, List.length_take]; lia
      · have hjl : j < (row'.map nm).length := by rw [List.length_map]; lia
        rw [List.drop_eq_getElem_cons hjl, List.take_add_one, List.getElem?_eq_getElem hjl, List.map_append]
        rfl
      · have hjl : j < (row'.map nm).length := by rw [List.length_map]; lia
        rw [List.drop_eq_getElem_cons hjl] at hx3
        exact hx3
    · rintro ys st' ⟨_, rfl, vs, H'', left', rfl, w1, hA', hL', hk'⟩
      rw [List.length_map, idxs_len] at hL' ⊢
      rw [List.drop_of_length_le (by rw [List.length_map]; lia), List.nil_append] at hL'
      rw [List.take_of_length_le (by rw [List.length_map]; lia)]
      refine ⟨fun x v hx e => ?_, ?_⟩
      · obtain rfl := free3 hx
        exact w1.trans (v1.symm.trans e)
      dsimp only
      refine op_cat (xs := [_]) (ys := (row'.map nm).map .str) rfl rfl (by have : (5 : Nat) ≤ sizeLine := by decide
                                                                           simp; lia) ?_
      rw [show [V.str (nm i0)] ++ (row'.map nm).map .str = (i0 :: row').map (fun i => V.str (nm i)) from by simp]
      repeat walk_at "w"
      refine ev_MethO PySem.F.slot_list_append PySem.F.type_list_append ?_
      repeat walk_at "w"
      have g1' : H'' (st.nx + 3) = some (.list (dn.map bV)) := (hk' _ (by lia) (by lia)).trans g1
      have g2' : H'' k = some (.iter ((bksO bs).map .int) i) := (hk' _ (by lia) (by lia)).trans g2
      refine ⟨⟨_, _, rfl, g1'⟩, ?_⟩
      repeat walk_at "w"
      refine ev_ListComp (by kernel_rfl) ?_
      repeat walk_at "w"
      refine comp_map (i0 :: row') (fun i => .str (nm i)) .int rfl (by lia) (by rfl) (.inl rfl) (fun q hq => ?_) ?_
      · refine ev_MethL PySem.F.slot_list_index PySem.F.type_list_index ?_
        repeat walk_at "w"
        refine ⟨⟨_, rfl⟩, ?_⟩
        repeat walk_at "w"
        exact m_index5 (hbi q hq) (show C.u + 3 ≤ 5000 from dk hu (by decide)) ⟨rfl, rfl⟩
      repeat walk_at "w"
      refine ev_CallC (by exact HBc) (g_var (by exact HBc)) var_keep (by rfl) ?_
      repeat walk_at "w"
      obtain ⟨hv0, hv1⟩ := hvot _ hb
      obtain ⟨b₀, r₀, e₀, p0, p1, pr⟩ := octs_rd vot.toNat (bksO rest)
      refine JC.jv (c_var (C := C.into fd_lread.scope) H (show C.d + 1 ≤ 900 from dk hd (by decide)) (xs := bksO bs) (i := i) (n := vot) (t := bksO rest) (by exact g2') (hdr.trans (hO.trans e₀)) p0 p1 ?_ hv1 fun i' hi' => ?_)
      · have := pr
        rw [Int.toNat_of_nonneg hv0] at this
        exact this
      repeat walk_at "w"
      refine ⟨Nat.le_of_ble_eq_true rfl, ?_⟩
      repeat walk_at "w"
      refine m_append ((upd_ne _ _ (by lia)).trans g1') ?_ ?_
      · have : (1000 : Nat) ≤ sizeLine := by decide
        have : dn.length ≤ bs.length := by rw [hbs]; simp
        rw [List.length_map]; lia
      refine ⟨rfl, ?_⟩
      refine thn_next ?_
      dsimp only
      refine x_seq ?_
      refine x_Assign ?_ (by rfl)
      refine ev_gt (n := st.nx) (m := st.nx + 2) HBc (show C.d + 1 ≤ 500 from dk hd (by decide)) hwc (hA'.of ((upd_ne _ _ (by lia)).trans (upd_ne _ _ (by lia))) ((upd_ne _ _ (by lia)).trans (upd_ne _ _ (by lia)))) hL' (by repeat walk_at "w"; exact ⟨rfl, rfl⟩) fun H3 left3 A3 hx3 hk3 => ?_
      refine thn_next ?_
      refine x_nil ?_
      dsimp only
      refine ⟨rest.length, by simp, _, _, dn ++ [(i0 :: row', vot)], rest, left3, i', rfl, rfl, by rw [hbs]; simp, by walk_at "lk", by walk_at "lk", by walk_at "lk", by walk_at "lk", by walk_at "lk", A3, hx3, ?_, ?_, hi', fun j hj hjk => ?_⟩
      · rw [List.map_append]; exact (hk3 _ (by lia) (by lia)).trans (upd_self _ _ _)
      · exact (hk3 _ (by lia) (by lia)).trans ((upd_ne _ _ (by lia)).trans (upd_self _ _ _))
      · exact (hk3 _ (by lia) (by lia)).trans ((upd_ne _ _ (by lia)).trans ((upd_ne _ _ hjk).trans ((hk' _ (by lia) (by lia)).trans (g3 j hj hjk))))
end
-- MNames

set_option maxRecDepth 100000
/-! the five names, as they are quoted -/
open PySem PySem.W PyProof.Rows
theorem joinC_len (c B : Nat) : ∀ l : List (List Nat), (∀ x ∈ l, x.length ≤ B) → (joinC c l).length ≤ l.length * (B + 1)
  | [], _ => Nat.zero_le _
  | [x], h => by have := h x (.head _); simp [joinC]; lia
  | x :: y :: r, h => by
    have h1 := h x (.head _)
    have h2 := joinC_len c B (y :: r) fun z hz => h z (.tail _ hz)
    rw [joinC_cons, List.length_append, List.length_cons, List.length_cons, Nat.succ_mul]
    lia
theorem cps_len (x : Str) : x.length = x.cps.toList.length := by simp [Str.length]
theorem join_len {sep : Str} {c B : Nat} (hs : sep.cps.toList = [c]) {ys : List Str} (h : ∀ y ∈ ys, y.length ≤ B) : (Txt.join sep ys).length ≤ ys.length * (B + 1) := by
  rw [cps_len, join_cps sep c hs]
  have := joinC_len c B (ys.map fun y => y.cps.toList) (fun x hx => by obtain ⟨y, hy, rfl⟩ := List.mem_map.mp hx; rw [← cps_len]; exact h y hy)
  rwa [List.length_map] at this

noncomputable def qnames5 : List Str := ["a", "b", "c", "''", "'" ++ "#" ++ "'"]
noncomputable def qn (i : Int) : Str := (qnames5[i.toNat]?).getD ""
theorem qn_len (i : Int) : (qn i).length ≤ 3 := by
  unfold qn
  have : ∀ o ∈ qnames5, o.length ≤ 3 := by decide +kernel
  cases h : qnames5[i.toNat]? with
  | none => decide
  | some o => exact this o (List.mem_of_getElem? h)
theorem qt_nm {i : Int} (h : i ∈ idxs 5) : Qt (nm i) (qn i) := by
  rcases mem5 h with rfl | rfl | rfl | rfl | rfl
  · exact .safe (by decide) (by decide) (fun P S t n tk => by kernel_rfl) (fun P S t => by kernel_rfl)
  · exact .safe (by decide) (by decide) (fun P S t n tk => by kernel_rfl) (fun P S t => by kernel_rfl)
  · exact .safe (by decide) (by decide) (fun P S t n tk => by kernel_rfl) (fun P S t => by kernel_rfl)
  · exact .nil
  · exact qt_h
theorem qts_nm : ∀ {row : List Int}, (∀ i ∈ row, i ∈ idxs 5) → Qts (row.map nm) (row.map qn)
  | [], _ => .nil
  | i :: r, h => .cons (qt_nm (h i (.head _))) (qts_nm fun j hj => h j (.tail _ hj))
theorem wd_nm {i : Int} (h : i ∈ idxs 5) : Wd (nm i) (qn i) := by
  have key : ∀ (x y : Str) (a b : List Nat), x.cps.toList = a → y.cps.toList = b → (∀ c r, c = 32 ∨ c = 10 → ∃ qd, lx .sp false [] (b ++ c :: r) = some (a, qd, false, r)) → (∃ qd, lx .sp false [] b = some (a, qd, true, [])) → Wd x y := by
    rintro x y a b rfl rfl h1 ⟨qd, h2⟩
    refine ⟨fun c r hc => ?_, ?_⟩
    · obtain ⟨qd, h⟩ := h1 c r hc
      exact lex_wd h
    · exact lex_wd h2
  rcases mem5 h with rfl | rfl | rfl | rfl | rfl
  · refine key _ _ [97] [97] (by decide) (by decide) (fun c r hc => ⟨false, ?_⟩) ⟨_, rfl⟩
    rcases hc with rfl | rfl <;> rfl
  · refine key _ _ [98] [98] (by decide) (by decide) (fun c r hc => ⟨false, ?_⟩) ⟨_, rfl⟩
    rcases hc with rfl | rfl <;> rfl
  · refine key _ _ [99] [99] (by decide) (by decide) (fun c r hc => ⟨false, ?_⟩) ⟨_, rfl⟩
    rcases hc with rfl | rfl <;> rfl
  · refine key _ _ [] [39, 39] (by decide) (by decide) (fun c r hc => ⟨true, ?_⟩) ⟨_, rfl⟩
    rcases hc with rfl | rfl <;> rfl
  · refine key _ _ [35] [39, 35, 39] (by decide) (by decide) (fun c r hc => ⟨true, ?_⟩) ⟨_, rfl⟩
    rcases hc with rfl | rfl <;> rfl
theorem wds_nm : ∀ {row : List Int}, (∀ i ∈ row, i ∈ idxs 5) → Wds (row.map nm) (row.map qn)
  | [], _ => .nil
  | i :: r, h => .cons (wd_nm (h i (.head _))) (wds_nm fun j hj => h j (.tail _ hj))

noncomputable def lineOf (row : List Int) : Str := Txt.join " " (row.map qn)
noncomputable def bookOf (bs : List (List Int × Int)) : Str := Txt.join "\n" (bs.map fun b => lineOf b.1)
theorem line_ok (row : List Int) (h : row.length ≤ 5) : JoinOk " " (row.map qn) = true := by
  have := joinOk_few (sep := " ") (as := row) (pz := fun _ => true) (f := qn) (by lia) (fun a => Nat.le_trans (qn_len a) (by decide)) (by decide)
  rwa [List.filter_eq_self.mpr fun _ _ => rfl] at this
theorem line_len (row : List Int) (h : row.length ≤ 5) : (lineOf row).length ≤ 20 := by
  have := join_len (sep := " ") (c := 32) (B := 3) (by decide) (ys := row.map qn) fun y hy => by obtain ⟨i, _, rfl⟩ := List.mem_map.mp hy; exact qn_len i
  rw [List.length_map] at this
  exact Nat.le_trans this (by lia)
theorem book_lex (bs : List (List Int × Int)) (hb : ∀ b ∈ bs, RowOk b.1) (hne : bs ≠ []) : Lexes (bksW bs) (some (bookOf bs).cps.toList) := by
  have h := lexes_book (bs.map fun b => (b.1.map nm, b.1.map qn)) (fun p hp => by
    obtain ⟨b, hb', rfl⟩ := List.mem_map.mp hp
    refine ⟨wds_nm (hb b hb').ins, fun e => ?_⟩
    have := (hb b hb').len
    rw [List.map_eq_nil_iff.mp e] at this; cases this) (fun e => hne (List.map_eq_nil_iff.mp e))
  rw [List.flatMap_map, List.map_map] at h
  unfold bookOf
  rw [join_cps "\n" 10 (by decide), List.map_map]
  have e : ((fun y : Str => y.cps.toList) ∘ fun b : List Int × Int => lineOf b.1) = ((fun p : List Str × List Str => joinC 32 (p.2.map fun y => y.cps.toList)) ∘ fun b : List Int × Int => (b.1.map nm, b.1.map qn)) := by
    funext b
    exact join_cps " " 32 (by decide) _
  rw [e]
  exact h
theorem book_len (bs : List (List Int × Int)) (hb : ∀ b ∈ bs, RowOk b.1) (hl : bs.length ≤ 100) : (bookOf bs).length ≤ 100000 := by
  have := join_len (sep := "\n") (c := 10) (B := 20) (by decide) (ys := bs.map fun b => lineOf b.1) fun y hy => by
    obtain ⟨b, hb', rfl⟩ := List.mem_map.mp hy; exact line_len _ (by rw [(hb b hb').len]; lia)
  rw [List.length_map] at this
  exact Nat.le_trans this (by lia)
theorem sum_le (B : Nat) : ∀ l : List Str, (∀ y ∈ l, y.length ≤ B) → (l.map (·.length)).sum ≤ l.length * B
  | [], _ => Nat.zero_le _
  | x :: r, h => by
    have h1 := h x (.head _)
    have h2 := sum_le B r fun y hy => h y (.tail _ hy)
    rw [List.map_cons, List.sum_cons, List.length_cons, Nat.succ_mul]
    lia
theorem octs_len (n : Nat) : (octs n).length ≤ 1 + n.log2 := by
  have := dg_len n [((n % 64 : Nat) : Int)]
  unfold octs
  split <;> (rename_i h; rw [h] at this; simpa using this)
theorem log_le {n : Nat} (h : (n : Int) ≤ 10 ^ 30) : n.log2 ≤ 99 := by
  have h : n ≤ 10 ^ 30 := by lia
  rcases Nat.eq_zero_or_pos n with e | e
  · rw [e]; decide
  · have := (Nat.log2_lt (k := 100) (by lia)).mpr (Nat.lt_of_le_of_lt h (by decide))
    lia
theorem flat_len {α β : Type} (B : Nat) (f : α → List β) : ∀ l : List α, (∀ a ∈ l, (f a).length ≤ B) → (l.flatMap f).length ≤ l.length * B
  | [], _ => Nat.zero_le _
  | x :: r, h => by
    have h1 := h x (.head _)
    have h2 := flat_len B f r fun y hy => h y (.tail _ hy)
    rw [List.flatMap_cons, List.length_append, List.length_cons, Nat.succ_mul]
    lia
theorem ok_bs (bs : List (List Int × Int)) : okD (.lst (bs.map bV)) = true := by
  rw [okD, okDs_all, List.all_map, List.all_eq_true]
  intro b _
  show okD (.tup [.lst (b.1.map .int), .int b.2]) = true
  simp [okD, okDs, okDs_int]
theorem dep_bs (bs : List (List Int × Int)) : (toD (.lst (bs.map bV))).depth ≤ 4 := by
  have : PyData.depthAll (toDs (bs.map bV)) ≤ 3 := by
    induction bs with
    | nil => decide
    | cons b r ih =>
      have := depth_int b.1
      rw [List.map_cons]
      simp [toDs, toD, PyData.depthAll, PyData.depth, bV] at ih ⊢
      lia
  simp [toD, PyData.depth]; lia
theorem ok_mat (n m : List Int) (f : Int → Int → Int) : okD (.lst (n.map fun i => .lst (m.map fun j => .int (f i j)))) = true := by
  rw [okD, okDs_all, List.all_map, List.all_eq_true]
  intro i _
  show okD (.lst (m.map fun j => V.int (f i j))) = true
  rw [okD, okDs_all, List.all_map, List.all_eq_true]
  intro j _; rfl
theorem dep_ints (l : List Int) : (toD (.lst (l.map .int))).depth ≤ 2 := by
  have := depth_int l
  simp [toD, PyData.depth]; lia
theorem dep_mat (n m : List Int) (f : Int → Int → Int) : (toD (.lst (n.map fun i => .lst (m.map fun j => .int (f i j))))).depth ≤ 3 := by
  have : PyData.depthAll (toDs (n.map fun i => .lst (m.map fun j => .int (f i j)))) ≤ 2 := by
    induction n with
    | nil => exact (show PyData.depthAll (toDs []) ≤ 2 by decide)
    | cons i r ih =>
      have := dep_ints (m.map fun j => f i j)
      rw [List.map_map] at this
      rw [List.map_cons]
      simp only [toDs, PyData.depthAll] at ih ⊢
      exact Nat.max_le.mpr ⟨this, ih⟩
  simp [toD, PyData.depth] at this ⊢; lia
theorem Widest.uniq {L : Int → Int → Int} {s : Int} {D D' : Int → Int} (h : Widest L s D) (h' : Widest L s D') : ∀ k ∈ idxs 5, D k = D' k := fun k hk => by
  by_cases e : k = s
  · subst e; rw [h.zero, h'.zero]
  · exact Int.le_antisymm (h'.top k hk e _ (h.way k hk e)) (h.top k hk e _ (h'.way k hk e))
-- MSnd

set_option maxRecDepth 100000
set_option maxHeartbeats 4000000
open PySem PySem.W PyProof.Rows



section
variable {C : Fx} {st : St}
theorem any_int (l : List Int) (x : Int) : (toDs (l.map .int)).any (fun y => PyData.eqv y (toD (.int x))) = decide (x ∈ l) := by
  induction l with
  | nil => rfl
  | cons a r ih =>
    show (PyData.eqv (.int a) (.int x) || (toDs (r.map .int)).any _) = _
    rw [ih, eqv_int]
    by_cases h : a = x
    · subst h; simp
    · simp [h, Ne.symm h]
theorem op_notInI {v : V} {l : List Int} {x : Int} {Q : V → St → Prop} (hv : Lis st v (l.map .int)) (hu : C.u ≤ 9000) (h : Q (.bool (!decide (x ∈ l))) st) : JV C VR [.int x, v] (two (compareOp .NotIn)) st Q := by
  refine op_notIn hv (okDs_int _) rfl ?_ (by rw [any_int]; exact h)
  have := depth_int l
  exact Nat.lt_of_le_of_lt (show _ ≤ 9000 + 1 + 1 by lia) (by decide)
theorem op_neNil {Q : V → St → Prop} (hu : C.u ≤ 9000) (h : Q (.bool false) st) : JV C VR [.lst [], .lst []] (two (compareOp .NotEq)) st Q := by
  refine op_neD rfl rfl ?_ (by rw [show PyData.eqv (toD (.lst [])) (toD (.lst [])) = true from by decide +kernel]; exact h)
  have : min (toD (.lst [])).depth (toD (.lst [])).depth ≤ 10 := Nat.le_trans (Nat.min_le_left _ _) (by decide +kernel)
  exact Nat.lt_of_le_of_lt (show _ ≤ 9000 + 10 by lia) (by decide)
end
noncomputable def aheadL (W : Int → Int → Int) (i : Int) : List Int := (idxs 5).filter fun j => decide (W j i < W i j)
noncomputable abbrev ahV (W : Int → Int → Int) : V := .lst ((idxs 5).map fun i => .lst ((aheadL W i).map .int))
theorem mem_aheadL {W : Int → Int → Int} {i j : Int} : j ∈ aheadL W i ↔ j ∈ idxs 5 ∧ W j i < W i j := by
  unfold aheadL; rw [List.mem_filter, decide_eq_true_iff]
noncomputable def smL (c : Int) : List Int := (idxs 5).filter fun k => decide (c / 2 ^ k.toNat % 2 = 1)
section
variable {P : Params} {B : PH}
noncomputable abbrev fd_snd : FuncData := fnF "_law_sound" "_law_sound" pb 41 .none (.str (Str.ofString "law_oy0341_03") 1300) (.ref 824)
theorem f_snd (H : BaseK (K P) B) : Fn0 B 825 fd_snd (bodyAt pb 41) := H.fn0 (o := fnO "_law_sound" "_law_sound" pb 41 .none (.str (Str.ofString "law_oy0341_03") 1300) (.ref 824)) (by kernel_rfl) rfl rfl (by kernel_rfl) (by decide +kernel) rfl rfl rfl rfl
theorem g_snd (H : BaseK (K P) B) : Glo B "_law_sound" (.ref 825) := H.glo (by kernel_rfl)
end
noncomputable def prL (c : Int) : List (Int × Int) := (smL c).flatMap fun i => ((idxs 5).filter fun j => !decide (j ∈ smL c)).map fun j => (i, j)
noncomputable abbrev pV (p : Int × Int) : V := .tup [.int p.1, .int p.2]
theorem prL_V (c : Int) : ((smL c).flatMap fun i => ((idxs 5).filter fun j => !decide (j ∈ smL c)).map fun j => V.tup [.int i, .int j]) = (prL c).map pV := by
  unfold prL
  rw [List.map_flatMap]
  simp only [List.map_map]; rfl
theorem mem_prL {c : Int} {p : Int × Int} (h : p ∈ prL c) : p.1 ∈ smL c ∧ p.2 ∈ idxs 5 ∧ p.2 ∉ smL c := by
  unfold prL at h
  obtain ⟨i, hi, h⟩ := List.mem_flatMap.mp h
  obtain ⟨j, hj, rfl⟩ := List.mem_map.mp h
  obtain ⟨h1, h2⟩ := List.mem_filter.mp hj
  exact ⟨hi, h1, by simpa using h2⟩
theorem prL_of {c i j : Int} (hi : i ∈ smL c) (hj : j ∈ idxs 5) (hn : j ∉ smL c) : (i, j) ∈ prL c := by
  unfold prL
  exact List.mem_flatMap.mpr ⟨i, hi, List.mem_map.mpr ⟨j, List.mem_filter.mpr ⟨hj, by simpa using hn⟩, rfl⟩⟩
theorem prL_size : ∀ n : Fin 30, 0 < (prL (1 + ((n : Nat) : Int))).length ∧ (prL (1 + ((n : Nat) : Int))).length ≤ 100 ∧ (smL (1 + ((n : Nat) : Int))).length ≤ 10 := by decide +kernel
theorem smL_idx {c i : Int} (h : i ∈ smL c) : i ∈ idxs 5 := (List.mem_filter.mp h).1
section
variable {C : Fx} {st : St}
theorem b_snd (H : HB C) (hu : C.u ≤ 4000) (L W : Int → Int → Int)
    (H1 : ∀ i ∈ idxs 5, ∀ j ∈ idxs 5, ∀ k ∈ idxs 5, W j i < W i j → W k j < W j k → W k i < W i k)
    (H2 : ∀ S : List Int, (∀ i ∈ S, i ∈ idxs 5) → (∀ i ∈ S, ∀ j ∈ idxs 5, j ∉ S → 0 < L i j) → ∀ i ∈ S, ∀ j ∈ idxs 5, j ∉ S → W j i < W i j)
    {vars : List (Str × V)} (hv : vars = [(("leads" : Str), matV 5 L), (("ways" : Str), matV 5 W)]) {Q : FlowA → St → Prop}
    (h : ∀ vars, Q (.ret (.bool true)) { st with vars := vars }) : JX (C.into fd_snd.scope) (bodyAt pb 41) { st with vars := vars } Q := by
  have HBc : HB (C.into fd_snd.scope) := H
  subst hv
  refine x_seq ?_
  refine x_AssignK ?_ (by rfl)
  refine ev_ListComp (by kernel_rfl) ?_
  walk_at "rg"
  refine comp_all (idxs 5) (fun a => .lst ((aheadL W a).map .int)) (itb_rng _ (by decide) (by decide)) (by rw [idxs_len]; decide) (by rfl) (by first | exact .inl rfl | exact .inr rfl) (fun a ma => ?_) ?_
  · have ra := mem_idxs.mp ma
    refine ev_ListComp (by kernel_rfl) ?_
    walk_at "rg"
    refine comp_ints (idxs 5) (fun j => decide (W j a < W a j)) (fun j => .int j) (itb_rng _ (by decide) (by decide)) (by rw [idxs_len]; decide) (by rfl) (by first | exact .inl rfl | exact .inr rfl) (fun b mb => ts_one ?_) (fun b mb _ => ?_) ?_
    · have rb := mem_idxs.mp mb
      walk_at "ij"
      walk_at "ij"
      exact ⟨rfl, rfl⟩
    · repeat walk_at "w"
      exact ⟨rfl, rfl⟩
    · exact ⟨rfl, rfl⟩
  repeat walk_at "w"
  refine x_For ?_
  walk_at "rg"
  refine ⟨(idxs 5).map .int, fun i st' => ∃ vars', st' = ⟨vars', st.heap, st.nx⟩ ∧ gv vars' "ahead" = some (ahV W) ∧ gv vars' "leads" = some (matV 5 L), ⟨_, rfl, by walk_at "lk", by walk_at "lk"⟩, fun _ st' _ => itb_rng st' (by decide) (by decide), ?_, ?_⟩
  · rintro n x st' hx ⟨vars', rfl, h1, h2⟩
    rw [List.getElem?_map] at hx
    obtain ⟨i, hi, rfl⟩ := Option.map_eq_some_iff.mp hx
    have mi : i ∈ idxs 5 := List.mem_of_getElem? hi
    have ri := mem_idxs.mp mi
    refine a_Name ?_ (by rfl) (by first | exact .inl rfl | exact .inr rfl)
    refine x_seq ?_
    refine x_For ?_
    repeat walk_at "w"
    refine sub_lst (by lia) (idxs_at (by assumption) _) (by lia) ?_
    refine ⟨(aheadL W i).map .int, fun m st' => ∃ vars', st' = ⟨vars', st.heap, st.nx⟩ ∧ gv vars' "ahead" = some (ahV W) ∧ gv vars' "leads" = some (matV 5 L) ∧ gv vars' "i" = some (.int i), ⟨_, rfl, by walk_at "lk", by walk_at "lk", by walk_at "lk"⟩, fun _ _ _ => rfl, ?_, ?_⟩
    · rintro m x st' hx ⟨vars', rfl, h1, h2, h3⟩
      rw [List.getElem?_map] at hx
      obtain ⟨j, hj, rfl⟩ := Option.map_eq_some_iff.mp hx
      have aj : j ∈ aheadL W i := List.mem_of_getElem? hj
      obtain ⟨mj, wj⟩ := mem_aheadL.mp aj
      have rj := mem_idxs.mp mj
      refine a_Name ?_ (by rfl) (by first | exact .inl rfl | exact .inr rfl)
      repeat walk_at "w"
      refine ev_ListComp (by kernel_rfl) ?_
      repeat walk_at "w"
      refine sub_lst (by lia) (idxs_at (by assumption) _) (by lia) ?_
      refine comp_ints (aheadL W j) (fun k => !decide (k ∈ aheadL W i)) (fun j => .int j) rfl (by unfold aheadL; exact Nat.le_trans (List.length_filter_le _ _) (by rw [idxs_len]; decide)) (by rfl) (by first | exact .inl rfl | exact .inr rfl) (fun b mb => ts_one ?_) (fun b mb _ => ?_) ?_
      · repeat walk_at "w"
        refine sub_lst (by lia) (idxs_at (by assumption) _) (by lia) ?_
        refine op_notInI rfl (show C.u + 3 ≤ 9000 from dk hu (by decide)) ?_
        repeat walk_at "w"
        exact ⟨rfl, rfl⟩
      · repeat walk_at "w"
        exact ⟨rfl, rfl⟩
      · rw [show (aheadL W j).filter (fun k => !decide (k ∈ aheadL W i)) = [] from by
          rw [List.filter_eq_nil_iff]
          intro k hk
          obtain ⟨mk, wk⟩ := mem_aheadL.mp hk
          simpa using mem_aheadL.mpr ⟨mk, H1 i mi j mj k mk wj wk⟩]
        repeat walk_at "w"
        refine ⟨by decide, ?_⟩
        refine op_neNil (show C.u + 3 ≤ 9000 from dk hu (by decide)) ?_
        repeat walk_at "w"
        exact ⟨_, rfl, by walk_at "lk", by walk_at "lk", by walk_at "lk"⟩
    · rintro st' ⟨vars', rfl, h1, h2, h3⟩
      repeat walk_at "w"
      exact ⟨_, rfl, h1, h2⟩
  · rintro st' ⟨vars', rfl, h1, h2⟩
    repeat walk_at "w"
    refine x_For ?_
    refine ev_CallT (t_range (by assumption)) (by rfl) ?_
    repeat walk_at "w"
    refine b_range2 ?_
    refine ⟨(List.range (31 - 1 : Int).toNat).map fun i : Nat => V.int (1 + (i : Int)), fun m st' => ∃ vars', st' = ⟨vars', st.heap, st.nx⟩ ∧ gv vars' "ahead" = some (ahV W) ∧ gv vars' "leads" = some (matV 5 L), ⟨_, rfl, h1, h2⟩, fun _ st' _ => ⟨rfl, by decide, by decide, by decide, by decide⟩, ?_, ?_⟩
    · rintro n x st' hx ⟨vars', rfl, h1, h2⟩
      rw [List.getElem?_map] at hx
      obtain ⟨n', hn, rfl⟩ := Option.map_eq_some_iff.mp hx
      have hn30 : n' < 30 := List.mem_range.mp (List.mem_of_getElem? hn)
      obtain ⟨z1, z2, z3⟩ := prL_size ⟨n', hn30⟩
      dsimp only at z1 z2 z3
      generalize (1 + (n' : Int)) = c at z1 z2 z3
      refine a_Name ?_ (by rfl) (by first | exact .inl rfl | exact .inr rfl)
      refine x_seq ?_
      refine x_AssignK ?_ (by rfl)
      refine ev_ListComp (by kernel_rfl) ?_
      walk_at "rg"
      refine comp_ints (idxs 5) (fun k => decide (c / 2 ^ k.toNat % 2 = 1)) (fun j => .int j) (itb_rng _ (by decide) (by decide)) (by rw [idxs_len]; decide) (by rfl) (by first | exact .inl rfl | exact .inr rfl) (fun b mb => ts_one ?_) (fun b mb _ => ?_) ?_
      · have rb := mem_idxs.mp mb
        have eb : b = 0 ∨ b = 1 ∨ b = 2 ∨ b = 3 ∨ b = 4 := by lia
        have e1 : (0 : Int) < 2 ^ b.toNat := by rcases eb with rfl | rfl | rfl | rfl | rfl <;> decide
        have e2 : ((2 : Int) ^ b.toNat).natAbs.log2 < 9000 := by rcases eb with rfl | rfl | rfl | rfl | rfl <;> decide
        have e3 : (Builtin.Int.intBits 2 : Int) * b ≤ 2 ^ 27 := by rcases eb with rfl | rfl | rfl | rfl | rfl <;> decide
        repeat walk_at "w"
        refine op_pow (by lia) e3 ?_
        refine op_fdiv e1 e2 ?_
        repeat walk_at "w"
        refine op_eqI (show C.u + 3 ≤ 9000 from dk hu (by decide)) ?_
        repeat walk_at "w"
        exact ⟨rfl, rfl⟩
      · repeat walk_at "w"
        exact ⟨rfl, rfl⟩
      refine thn_next ?_
      dsimp only
      refine x_seq ?_
      refine x_AssignComp (by kernel_rfl) (by rfl) (by exact ⟨rfl, rfl, rfl⟩) ?_
      repeat walk_at "w"
      refine comp_pairs (smL c) (idxs 5) (fun i j => !decide (j ∈ smL c)) (fun i j => .tup [.int i, .int j]) (by rfl) (by lia) (by rw [idxs_len]; decide) (by rfl) (by first | exact .inl rfl | exact .inr rfl) (by rfl) (by first | exact .inl rfl | exact .inr rfl) (by decide) ?_ ?_ ?_ ?_
      · intro i mi vs hf hx
        walk_at "rg"
        exact ⟨rfl, fun vs' => itb_rng _ (by decide) (by decide)⟩
      · intro i mi j mj vs hf hx hy
        have hs := (hf "some" (by rfl)).trans (show _ = some (V.lst ((smL c).map .int)) by walk_at "lk")
        refine ts_one ?_
        repeat walk_at "w"
        refine op_notInI rfl (show C.u + 3 ≤ 9000 from dk hu (by decide)) ?_
        repeat walk_at "w"
        exact ⟨rfl, rfl⟩
      · intro i mi j mj _ vs hf hx hy
        repeat walk_at "w"
        refine ⟨by simp [sizeLine], rfl, rfl⟩
      rw [prL_V]
      repeat walk_at "w"
      refine ev_CallB (t_min (by exact HBc)) (by rfl) ?_
      repeat walk_at "w"
      refine ev_ListComp (by kernel_rfl) ?_
      repeat walk_at "w"
      refine comp_p2 ((prL c).map pV) (fun a => some (.int (L (asI (pfst a)) (asI (psnd a))))) (by rfl) (by rw [List.length_map]; exact Nat.le_trans z2 (by decide)) (fun a ha => ?_) (by decide) (by rfl) (.inl rfl) (by rfl) (.inl rfl) (fun u w hm => ?_) ?_
      · obtain ⟨p, _, rfl⟩ := List.mem_map.mp ha; exact ⟨_, _, rfl⟩
      · obtain ⟨⟨i, j⟩, hp, e⟩ := List.mem_map.mp hm
        cases e
        obtain ⟨m1, mj, m3⟩ := mem_prL hp
        dsimp only at m1 mj m3
        have mi := smL_idx m1
        have ri := mem_idxs.mp mi
        have rj := mem_idxs.mp mj
        refine ts_nil ⟨fun _ => ?_, fun e => by cases e⟩
        walk_at "ij"
        exact ⟨rfl, rfl⟩
      rw [show ((prL c).map pV).filterMap (fun a => some (V.int (L (asI (pfst a)) (asI (psnd a))))) = ((prL c).map fun p => L p.1 p.2).map .int from by
        rw [List.filterMap_map, List.map_map]
        rw [show ((fun a => some (V.int (L (asI (pfst a)) (asI (psnd a))))) ∘ pV) = some ∘ (V.int ∘ fun p : Int × Int => L p.1 p.2) from rfl]
        rw [List.filterMap_eq_map]]
      repeat walk_at "w"
      refine b_minL (ns := (prL c).map fun p => L p.1 p.2) (by rfl) (by simpa using z1) (fun m hm hle => ?_)
      repeat walk_at "w"
      refine ⟨fun hc => ?_, fun hc => ?_⟩
      · have hc := of_decide_eq_true hc
        have pos : ∀ i ∈ smL c, ∀ j ∈ idxs 5, j ∉ smL c → 0 < L i j := fun i hi j hj hn => Int.lt_of_lt_of_le hc (hle _ (List.mem_map.mpr ⟨(i, j), prL_of hi hj hn, rfl⟩))
        have win := H2 (smL c) (fun i hi => smL_idx hi) pos
        repeat walk_at "w"
        refine ev_ListComp (by kernel_rfl) ?_
        repeat walk_at "w"
        refine comp_p2 ((prL c).map pV) (fun a => if asI (psnd a) ∈ aheadL W (asI (pfst a)) then none else some (pfst a)) (by rfl) (by rw [List.length_map]; exact Nat.le_trans z2 (by decide)) (fun a ha => ?_) (by decide) (by rfl) (.inl rfl) (by rfl) (.inl rfl) (fun u w hm => ?_) ?_
        · obtain ⟨p, _, rfl⟩ := List.mem_map.mp ha; exact ⟨_, _, rfl⟩
        · obtain ⟨⟨i, j⟩, hp, e⟩ := List.mem_map.mp hm
          cases e
          obtain ⟨m1, mj, m3⟩ := mem_prL hp
          dsimp only at m1 mj m3
          have mi := smL_idx m1
          have ri := mem_idxs.mp mi
          have rj := mem_idxs.mp mj
          refine ts_one ?_
          repeat walk_at "w"
          refine sub_lst (by lia) (idxs_at (by assumption) _) (by lia) ?_
          refine op_notInI rfl (show C.u + 3 ≤ 9000 from dk hu (by decide)) ?_
          repeat walk_at "w"
          refine ⟨fun e => ?_, fun e => ⟨rfl, ?_⟩⟩
          · repeat walk_at "w"
            refine ⟨rfl, ?_⟩
            show (if j ∈ aheadL W i then none else some (V.int i)) = _
            rw [if_neg (by simpa using e)]
          · show (if j ∈ aheadL W i then none else some (V.int i)) = _
            rw [if_pos (by simpa using e)]
        rw [show ((prL c).map pV).filterMap (fun a => if asI (psnd a) ∈ aheadL W (asI (pfst a)) then none else some (pfst a)) = [] from by
          rw [List.filterMap_eq_nil_iff]
          intro a ha
          obtain ⟨⟨i, j⟩, hp, rfl⟩ := List.mem_map.mp ha
          obtain ⟨m1, mj, m3⟩ := mem_prL hp
          exact if_pos (mem_aheadL.mpr ⟨mj, win i m1 j mj m3⟩)]
        repeat walk_at "w"
        refine ⟨by decide, ?_⟩
        refine op_neNil (show C.u + 3 ≤ 9000 from dk hu (by decide)) ?_
        repeat walk_at "w"
        exact ⟨_, rfl, by walk_at "lk", by walk_at "lk"⟩
      · repeat walk_at "w"
        exact ⟨_, rfl, by walk_at "lk", by walk_at "lk"⟩
    · rintro st' ⟨vars', rfl, h1, h2⟩
      repeat walk_at "w"
      exact h _
theorem c_snd (H : HB C) (hd : C.d ≤ 900) (hu : C.u ≤ 4000) (L W : Int → Int → Int)
    (H1 : ∀ i ∈ idxs 5, ∀ j ∈ idxs 5, ∀ k ∈ idxs 5, W j i < W i j → W k j < W j k → W k i < W i k)
    (H2 : ∀ S : List Int, (∀ i ∈ S, i ∈ idxs 5) → (∀ i ∈ S, ∀ j ∈ idxs 5, j ∉ S → 0 < L i j) → ∀ i ∈ S, ∀ j ∈ idxs 5, j ∉ S → W j i < W i j)
    {Q : V → St → Prop} (h : Q (.bool true) st) : JC C 825 [matV 5 L, matV 5 W] [] st Q := by
  refine code_fn0 (vars := [("leads", matV 5 L), ("ways", matV 5 W)]) (f_snd H) (by lia) (show parOk fd_snd.scope ["leads", "ways"] = true by decide +kernel) (fun env Z R ρ s ws hs hw => ?_) ?_
  · obtain ⟨x, y, rfl, r1, r2⟩ := inv2 hw
    exact ⟨_, BindsTo.of_eq rfl, .cons r1 (.cons r2 .nil)⟩
  exact b_snd H hu L W H1 H2 rfl fun vars => h
end
-- MWays

set_option maxRecDepth 100000
set_option maxHeartbeats 4000000
open PySem PySem.W PyProof.Rows



noncomputable abbrev esV (es : List (Int × Int)) : List (Int × V) := es.map fun p => (p.1, V.int p.2)
theorem esV_lookup (k : Int) : ∀ es : List (Int × Int), (esV es).lookup k = (es.lookup k).map .int
  | [] => rfl
  | (a, b) :: r => by
    show List.lookup k ((a, V.int b) :: esV r) = _
    rw [List.lookup_cons, List.lookup_cons]
    split
    · rfl
    · exact esV_lookup k r
section
variable {P : Params} {B : PH}
noncomputable abbrev fd_ways : FuncData := fnF "_law_ways" "_law_ways" pb 39 .none (.str (Str.ofString "law_oy0341_03") 1300) (.ref 814)
theorem f_ways (H : BaseK (K P) B) : Fn0 B 815 fd_ways (bodyAt pb 39) := H.fn0 (o := fnO "_law_ways" "_law_ways" pb 39 .none (.str (Str.ofString "law_oy0341_03") 1300) (.ref 814)) (by kernel_rfl) rfl rfl (by kernel_rfl) (by decide +kernel) rfl rfl rfl rfl
theorem g_ways (H : BaseK (K P) B) : Glo B "_law_ways" (.ref 815) := H.glo (by kernel_rfl)
theorem hpush_keep : keepIn (K P) (.ref 51) = true := by kernel_rfl
theorem hpop_keep : keepIn (K P) (.ref 58) = true := by kernel_rfl
end
inductive WaysF (L : Int → Int → Int) (s : Int) (st : St) (i : Nat) (st' : St) : Prop
  | mk (vars' : List (Str × V)) (xs : List V) (e : st' = ⟨vars', upd st.heap st.nx (.list xs), st.nx + 1⟩) (h1 : gv vars' "heap" = some (.obj st.nx)) (h2 : gv vars' "leads" = some (matV 5 L)) (h3 : gv vars' "start" = some (.int s)) (hl : xs.length ≤ i) (hI : Inv L s (fun k => k < i) (fun _ _ => True) [] xs)
inductive WaysW (L : Int → Int → Int) (s : Int) (st : St) (m : Nat) (st' : St) : Prop
  | mk (vars' : List (Str × V)) (xs : List V) (es : List (Int × Int)) (H' : Nat → Option AO) (e : st' = ⟨vars', H', st.nx + 2⟩) (e2 : m = (4 - es.length) * 10 + xs.length) (h1 : gv vars' "heap" = some (.obj st.nx)) (h2 : gv vars' "leads" = some (matV 5 L)) (h3 : gv vars' "start" = some (.int s)) (h4 : gv vars' "strong" = some (.obj (st.nx + 1)))
    (g1 : H' st.nx = some (.list xs)) (g2 : H' (st.nx + 1) = some (.dict (esV es))) (g3 : ∀ k, k < st.nx → H' k = st.heap k) (hl : xs.length ≤ 5 + 5 * es.length) (hI : Inv L s (fun _ => True) (fun _ _ => True) es xs)
inductive WaysG (L : Int → Int → Int) (s : Int) (st : St) (l k : Int) (es es' : List (Int × Int)) (xs' : List V) (i : Nat) (st' : St) : Prop
  | mk (vars'' : List (Str × V)) (ys : List V) (H'' : Nat → Option AO) (e : st' = ⟨vars'', H'', st.nx + 2⟩) (h1 : gv vars'' "heap" = some (.obj st.nx)) (h2 : gv vars'' "leads" = some (matV 5 L)) (h3 : gv vars'' "start" = some (.int s)) (h4 : gv vars'' "strong" = some (.obj (st.nx + 1))) (h5 : gv vars'' "less" = some (.int l)) (h6 : gv vars'' "place" = some (.int k))
    (g1 : H'' st.nx = some (.list ys)) (g2 : H'' (st.nx + 1) = some (.dict (esV es'))) (g3 : ∀ k, k < st.nx → H'' k = st.heap k) (hl : ys.length ≤ xs'.length + i) (hI : Inv L s (fun _ => True) (fun p k' => p ∈ es ∨ k' < (i : Int)) es' ys)
section
variable {C : Fx} {st : St}
theorem b_ways (H : HB C) (hd : C.d ≤ 400) (hu : C.u ≤ 2000) (hsm : ∃ o, C.base sysModules = some o) (L : Int → Int → Int) (s : Int) (hs : s ∈ idxs 5) {vars : List (Str × V)} (hv : vars = [(("leads" : Str), matV 5 L), (("start" : Str), .int s)]) {Q : FlowA → St → Prop}
    (h : ∀ vars H' nx D, (∀ k, k < st.nx → H' k = st.heap k) → Widest L s D → Q (.ret (.lst ((idxs 5).map fun k => .int (D k)))) ⟨vars, H', nx⟩) : JX (C.into fd_ways.scope) (bodyAt pb 39) { st with vars := vars } Q := by
  have HBc : HB (C.into fd_ways.scope) := H
  subst hv
  have rs := mem_idxs.mp hs
  refine x_seq ?_
  refine x_Assign ?_ (by rfl)
  refine ev_ListO ?_
  repeat walk_at "w"
  refine ⟨Nat.le_of_ble_eq_true rfl, ?_⟩
  repeat walk_at "w"
  refine x_For ?_
  walk_at "rg"
  refine ⟨(idxs 5).map .int, WaysF L s st,
    ⟨_, [], rfl, by walk_at "lk", by walk_at "lk", by walk_at "lk", Nat.le_refl _, (Inv.start (fun i hi => by simp at hi)).weaken (fun k hk _ _ q => by have := (mem_idxs.mp hk).1; lia) (fun _ _ _ _ _ _ q => q)⟩, fun _ st' _ => itb_rng st' (by decide) (by decide), ?_, ?_⟩
  · rintro n x st' hx ⟨vars', xs, rfl, h1, h2, h3, hlen, hI⟩
    have hn5 : n < 5 := by
      have := (List.getElem?_eq_some_iff.mp hx).1
      rw [List.length_map, idxs_len] at this; exact this
    have mk : (n : Int) ∈ idxs 5 := mem_idxs.mpr ⟨by lia, by lia⟩
    have rk := mem_idxs.mp mk
    have hx' : ((idxs 5).map V.int)[((n : Int)).toNat]? = some (.int (n : Int)) := idxs_at mk _
    rw [Int.toNat_natCast, hx] at hx'
    cases hx'
    refine a_Name ?_ (by rfl) (by first | exact .inl rfl | exact .inr rfl)
    repeat walk_at "w"
    refine op_neI (show C.u + 3 ≤ 9000 from dk hu (by decide)) ?_
    repeat walk_at "w"
    refine ⟨fun hc => ?_, fun hc => ?_⟩
    · have hne : (n : Int) ≠ s := by simpa using hc
      repeat walk_at "w"
      refine ev_CallC (by exact HBc) (g_hpush (by exact HBc)) hpush_keep (by rfl) ?_
      walk_at "ij"
      refine ⟨Nat.le_of_ble_eq_true rfl, ?_⟩
      repeat walk_at "w"
      refine JC.jv (c_hpush (C := C.into fd_ways.scope) (p := (-(L s n), (n : Int))) H (show C.d + 1 ≤ 600 from dk hd (by decide)) (show C.u + 3 ≤ 3000 from dk hu (by decide)) (xs := xs) (by walk_at "hp") (fun y hy => ?_) hI.ho (by lia) (fun xs' hp ho => ?_))
      · obtain ⟨l, k, e, _⟩ := hI.pr y hy; exact ⟨_, e⟩
      repeat walk_at "w"
      refine ⟨rfl, ?_⟩
      repeat walk_at "w"
      refine ⟨_, xs', (by rw [upd_upd]), by walk_at "lk", by walk_at "lk", by walk_at "lk", by rw [hp.length_eq, List.length_cons]; lia, ?_⟩
      refine (hI.push mk hne (by rw [Int.neg_neg]; exact .one mk) (fun p hp => (nomatch hp)) hp ho).weaken (fun k hk hks _ q => ?_) (fun _ _ _ _ _ _ q => .inl q)
      by_cases e : k < (n : Int)
      · exact .inl e
      · exact .inr ⟨by lia, by lia⟩
    · have he : (n : Int) = s := by simpa using hc
      repeat walk_at "w"
      exact ⟨_, xs, rfl, by walk_at "lk", by walk_at "lk", by walk_at "lk", by lia, hI.weaken (fun k hk hks _ q => by lia) (fun _ _ _ _ _ _ q => q)⟩
  · rintro st' ⟨vars', xs, rfl, h1, h2, h3, hlen, hI⟩
    rw [List.length_map, idxs_len] at hlen hI
    have hI0 : Inv L s (fun _ => True) (fun _ _ => True) [] xs := hI.weaken (fun k hk _ _ _ => by have := (mem_idxs.mp hk).2; lia) (fun _ _ _ _ _ _ q => q)
    repeat walk_at "w"
    refine ev_Dict0 ?_
    repeat walk_at "w"
    refine x_While (WaysW L s st) (40 + xs.length)
      ⟨_, xs, [], _, rfl, by simp, by walk_at "lk", by walk_at "lk", by walk_at "lk", by walk_at "lk", (upd_ne _ _ (by lia)).trans (upd_self _ _ _), upd_self _ _ _, fun k hk => by rw [upd_ne _ _ (by lia), upd_ne _ _ (by lia)], by simpa using hlen, hI0⟩ ?_
    clear hI hI0 hlen h1 h2 h3 xs
    rintro m st' ⟨vars', xs, es, H', rfl, rfl, h1, h2, h3, h4, g1, g2, g3, hlen, hI⟩
    have hle := hI.es_le hs
    repeat walk_at "w"
    refine ev_CallB (t_len (by exact HBc)) (by rfl) ?_
    repeat walk_at "w"
    refine b_lenD hsm (by walk_at "hp") (by rw [List.length_map]; lia) ?_
    repeat walk_at "w"
    refine ⟨fun hc => ?_, fun hc => ?_⟩
    · have hl4 : es.length < 4 := by have := of_decide_eq_true hc; rw [List.length_map] at this; lia
      have hne := hI.ne hs hl4
      refine x_seq ?_
      refine x_AssignT ?_
      refine ev_CallC (by exact HBc) (g_hpop (by exact HBc)) hpop_keep (by rfl) ?_
      repeat walk_at "w"
      refine JC.jv (c_hpop (C := C.into fd_ways.scope) H (show C.d + 1 ≤ 500 from dk hd (by decide)) (show C.u + 3 ≤ 2500 from dk hu (by decide)) (xs := xs) (by walk_at "hp") (fun y hy => ?_) hI.ho (by lia) hne (fun x xs' hp ho hleast => ?_))
      · obtain ⟨l, k, e, _⟩ := hI.pr y hy; exact ⟨_, e⟩
      obtain ⟨l, k, e, hk, hks, hway⟩ := hI.pr x (hp.mem_iff.mp (.head _))
      subst e
      refine a_Tup2 ?_ (by rfl) (by rfl) (by first | exact .inl rfl | exact .inr rfl) (by first | exact .inl rfl | exact .inr rfl)
      repeat walk_at "w"
      have l1 : xs'.length + 1 = xs.length := by have := hp.length_eq; simpa using this
      have u1 : upd H' st.nx (AO.list xs') (st.nx + 1) = some (.dict (esV es)) := (upd_ne _ _ (by lia)).trans g2
      refine op_notInD hsm u1 ?_
      rw [esV_lookup]
      repeat walk_at "w"
      refine ⟨fun hc2 => ?_, fun hc2 => ?_⟩
      · have hno : es.lookup k = none := by
          cases q : es.lookup k with
          | none => rfl
          | some d => rw [q] at hc2; cases hc2
        have hin : k ∉ es.map (·.1) := fun hm => by
          obtain ⟨p, hp, e⟩ := List.mem_map.mp hm
          have := lookup_mem hI.nd (k := p.1) (d := p.2) hp
          rw [e, hno] at this; cases this
        have hN := hI.popNew hin hp ho hleast
        have rk := mem_idxs.mp hk
        repeat walk_at "w"
        refine x_SetItem ?_
        repeat walk_at "w"
        refine set_dict hsm (by exact u1) (by rw [esV_lookup, hno]; rfl) (by rw [List.length_map]; lia) ?_
        have e1 : esV es ++ [(k, V.int (-l))] = esV (es ++ [(k, -l)]) := by simp [esV]
        rw [e1]
        repeat walk_at "w"
        generalize hes : es ++ [(k, -l)] = es' at hN
        have hel : es'.length = es.length + 1 := by rw [← hes]; simp
        have hmem : ∀ p ∈ es', p ∈ es ∨ p = (k, -l) := fun p hp => by rw [← hes] at hp; simpa using hp
        have hml : ∀ p ∈ es', -l ≤ p.2 := fun p hpp => by
          rcases hmem p hpp with q | q
          · exact hI.mono l k (hp.mem_iff.mp (.head _)) p q
          · subst q; exact Int.le_refl _
        refine x_For ?_
        walk_at "rg"
        refine ⟨(idxs 5).map .int, WaysG L s st l k es es' xs',
          ⟨_, xs', _, rfl, by walk_at "lk", by walk_at "lk", by walk_at "lk", by walk_at "lk", by walk_at "lk", by walk_at "lk", (upd_ne _ _ (by lia)).trans (upd_self _ _ _), by first | exact upd_self _ _ _ | (rw [hes]; exact upd_self _ _ _), fun q hq => by rw [upd_ne _ _ (by lia), upd_ne _ _ (by lia)]; exact g3 q hq, Nat.le_refl _, hN.weaken (fun _ _ _ _ q => q) (fun k' hk' _ _ p _ q => by
            rcases q with q | q
            · exact q
            · have := (mem_idxs.mp hk').1; lia)⟩, fun _ st' _ => itb_rng st' (by decide) (by decide), ?_, ?_⟩
        · rintro n x st' hx ⟨vars'', ys, H'', rfl, v1, v2, v3, v4, v5, v6, w1, w2, w3, hyl, hY⟩
          have hn5 : n < 5 := by
            have := (List.getElem?_eq_some_iff.mp hx).1
            rw [List.length_map, idxs_len] at this; exact this
          have mn : (n : Int) ∈ idxs 5 := mem_idxs.mpr ⟨by lia, by lia⟩
          have rn := mem_idxs.mp mn
          have hx' : ((idxs 5).map V.int)[((n : Int)).toNat]? = some (.int (n : Int)) := idxs_at mn _
          rw [Int.toNat_natCast, hx] at hx'
          cases hx'
          have skip : (n : Int) = s ∨ (n : Int) ∈ es'.map (·.1) → Inv L s (fun _ => True) (fun p k' => p ∈ es ∨ k' < ((n + 1 : Nat) : Int)) es' ys := fun hsk => hY.weaken (fun _ _ _ _ q => q) (fun k' hk' h1 h2 p _ q => by
            rcases q with q | q
            · exact .inl q
            · by_cases e : k' = (n : Int)
              · subst e; rcases hsk with z | z <;> contradiction
              · exact .inr (by lia))
          refine a_Name ?_ (by rfl) (by first | exact .inl rfl | exact .inr rfl)
          repeat walk_at "w"
          refine op_neI (show C.u + 3 ≤ 9000 from dk hu (by decide)) ?_
          repeat walk_at "w"
          refine ⟨fun hc3 => ?_, fun hc3 => ?_⟩
          · have hns : (n : Int) ≠ s := by simpa using hc3
            repeat walk_at "w"
            refine op_notInD hsm (by exact w2) ?_
            rw [esV_lookup]
            repeat walk_at "w"
            refine ⟨fun hc4 => ?_, fun hc4 => ?_⟩
            · repeat walk_at "w"
              refine ev_CallC (by exact HBc) (g_hpush (by exact HBc)) hpush_keep (by rfl) ?_
              repeat walk_at "w"
              refine ev_CallB (t_max (by exact HBc)) (by rfl) ?_
              walk_at "ij"
              refine b_max2 ?_
              repeat walk_at "w"
              refine ⟨Nat.le_of_ble_eq_true rfl, ?_⟩
              repeat walk_at "w"
              refine JC.jv (c_hpush (C := C.into fd_ways.scope) (p := (max l (-(L k n)), (n : Int))) H (show C.d + 1 ≤ 600 from dk hd (by decide)) (show C.u + 3 ≤ 3000 from dk hu (by decide)) (xs := ys) (by exact w1) (fun y hy => ?_) hY.ho (by lia) (fun ys' hp' ho' => ?_))
              · obtain ⟨l, k, e, _⟩ := hY.pr y hy; exact ⟨_, e⟩
              repeat walk_at "w"
              refine ⟨rfl, ?_⟩
              repeat walk_at "w"
              have em : -(max l (-(L k n))) = min (-l) (L k n) := by lia
              refine ⟨_, ys', _, rfl, by walk_at "lk", by walk_at "lk", by walk_at "lk", by walk_at "lk", by walk_at "lk", by walk_at "lk", upd_self _ _ _, (upd_ne _ _ (by lia)).trans w2, fun q hq => by rw [upd_ne _ _ (by lia)]; exact w3 q hq, by rw [hp'.length_eq, List.length_cons]; lia, ?_⟩
              refine (hY.push mn hns (by rw [em]; exact .on hway mn) (fun p hpp => by have := hml p hpp; lia) hp' ho').weaken (fun _ _ _ _ _ => .inl trivial) (fun k' hk' h1 h2 p hpp q => ?_)
              by_cases e : k' = (n : Int)
              · subst e
                rcases hmem p hpp with z | z
                · exact .inl (.inl z)
                · subst z; exact .inr ⟨rfl, by rw [em]; exact Int.le_refl _⟩
              · rcases q with q | q
                · exact .inl (.inl q)
                · exact .inl (.inr (by lia))
            · have hnin : (n : Int) ∈ es'.map (·.1) := Classical.byContradiction fun hn => by
                rw [lookup_none hn] at hc4; cases hc4
              repeat walk_at "w"
              exact ⟨_, ys, H'', rfl, by walk_at "lk", by walk_at "lk", by walk_at "lk", by walk_at "lk", by walk_at "lk", by walk_at "lk", w1, w2, w3, by lia, skip (.inr hnin)⟩
          · have hns : (n : Int) = s := by simpa using hc3
            repeat walk_at "w"
            exact ⟨_, ys, H'', rfl, by walk_at "lk", by walk_at "lk", by walk_at "lk", by walk_at "lk", by walk_at "lk", by walk_at "lk", w1, w2, w3, by lia, skip (.inl hns)⟩
        · rintro st' ⟨vars'', ys, H'', rfl, v1, v2, v3, v4, v5, v6, w1, w2, w3, hyl, hY⟩
          rw [List.length_map, idxs_len] at hyl hY
          repeat walk_at "w"
          exact ⟨(4 - es'.length) * 10 + ys.length, by lia, _, ys, es', _, rfl, rfl, v1, v2, v3, v4, w1, w2, w3, by lia, hY.weaken (fun _ _ _ _ q => q) (fun k' hk' _ _ p _ _ => .inr (mem_idxs.mp hk').2)⟩
      · have hin : k ∈ es.map (·.1) := Classical.byContradiction fun hn => by
          rw [lookup_none hn] at hc2; cases hc2
        repeat walk_at "w"
        exact ⟨(4 - es.length) * 10 + xs'.length, by lia, _, xs', es, _, rfl, rfl, by walk_at "lk", by walk_at "lk", by walk_at "lk", by walk_at "lk", upd_self _ _ _, u1, fun q hq => by rw [upd_ne _ _ (by lia)]; exact g3 q hq, by lia, hI.popOld hin hp ho⟩
    · have hl4 : 4 ≤ es.length := by have := of_decide_eq_false hc; rw [List.length_map] at this; lia
      have hW := hI.widest hs hl4
      repeat walk_at "w"
      refine ev_ListComp (by kernel_rfl) ?_
      walk_at "rg"
      refine comp_all (idxs 5) (fun a => .int (dOf es a)) (itb_rng _ (by decide) (by decide)) (by rw [idxs_len]; decide) (by rfl) (by first | exact .inl rfl | exact .inr rfl) (fun a ma => ?_) ?_
      · repeat walk_at "w"
        refine op_inD hsm (by walk_at "hp") ?_
        rw [esV_lookup]
        repeat walk_at "w"
        refine ⟨fun e => ?_, fun e => ?_⟩
        · cases q : es.lookup a with
          | none => rw [q] at e; cases e
          | some d =>
            repeat walk_at "w"
            refine sub_dict hsm (by walk_at "hp") (by rw [esV_lookup, q]; rfl) ?_
            refine ⟨?_, rfl⟩
            unfold dOf; rw [q]; rfl
        · repeat walk_at "w"
          refine ⟨?_, rfl⟩
          unfold dOf
          cases q : es.lookup a with
          | none => rfl
          | some d => rw [q] at e; cases e
      · repeat walk_at "w"
        exact h _ _ _ _ g3 hW
end
-- MLaw

set_option maxRecDepth 100000
set_option maxHeartbeats 4000000
open PySem PySem.W PyProof.Rows


section
variable {C : Fx} {st : St}
theorem c_bal' (H : HB C) (hd : C.d ≤ 900) (hu : C.u ≤ 4000) (hh : ∀ n, (st.heap n).isSome → n < st.nx) (n : Int) {Q : V → St → Prop} (h : Q (bV (rowOf n, votersOf n)) st) : JV C VR [.int n] (fun ws => call (.ref 800) ws) st Q :=
  jv_trunc (JC.jv (c_bal H hd hu n fun H' nx hk => ⟨rfl, by simp [bel, bels, bels_iff], st.heap, Left.same fun k hn => hk k (hh k hn), h⟩))
theorem c_ways (H : HB C) (hd : C.d ≤ 400) (hu : C.u ≤ 2000) (hsm : ∃ o, C.base sysModules = some o) (hh : ∀ n, (st.heap n).isSome → n < st.nx) (L : Int → Int → Int) (s : Int) (hs : s ∈ idxs 5) {Q : V → St → Prop}
    (h : ∀ D, Widest L s D → Q (.lst ((idxs 5).map fun k => .int (D k))) st) : JV C VR [matV 5 L, .int s] (fun ws => call (.ref 815) ws) st Q := by
  refine jv_trunc (JC.jv ?_)
  refine code_fn0 (vars := [("leads", matV 5 L), ("start", .int s)]) (f_ways H) (by lia) (show parOk fd_ways.scope ["leads", "start"] = true by decide +kernel) (fun env Z R ρ s ws hs hw => ?_) ?_
  · obtain ⟨x, y, rfl, r1, r2⟩ := inv2 hw
    exact ⟨_, BindsTo.of_eq rfl, .cons r1 (.cons r2 .nil)⟩
  exact b_ways H hd hu hsm L s hs rfl fun vars H' nx D hk hW => ⟨rfl, by show bel _ (V.lst _); simp [bel, bels_iff], st.heap, Left.same fun k hn => hk k (hh k hn), h D hW⟩
theorem jv_freeze {vs : List V} {f : List Value → Sem Value} {Q : V → St → Prop} (h : JV C VR vs f st fun v st' => ∃ n xs, v = .obj n ∧ st'.heap n = some (.list xs) ∧ Q (.lst xs) { st' with heap := del st'.heap n }) : JV C VR vs f st Q :=
  fun env Z R ρ s ws hs hw => wpAny_mono (h env Z R ρ s ws hs hw) (fun w s' ⟨v, st', Z', ρ', hz, hr, rv, hs', n, xs, e1, e2, hq⟩ => by
    subst e1
    obtain ⟨Z'', le, r2, k⟩ := hs'.freeze e2 rv
    exact ⟨_, _, Z'', ρ', hz.trans le, hr, r2, k, hq⟩) fun _ _ e => e
theorem c_lread (H : HB C) (hd : C.d ≤ 400) (hu : C.u ≤ 2000) (hh : ∀ n, (st.heap n).isSome → n < st.nx) (bs : List (List Int × Int)) (hrow : ∀ b ∈ bs, b.1.length = 5 ∧ ∀ i ∈ b.1, i ∈ idxs 5) (hvot : ∀ b ∈ bs, 0 ≤ b.2 ∧ b.2.natAbs.log2 ≤ 1000) (hlen : bs.length ≤ 1000) {book : Str} (hsz : book.length ≤ 100000)
    (hbk : Lexes (bksW bs) (some book.cps.toList)) {k : Nat} (hk : st.heap k = some (.iter ((bksO bs).map .int) 0)) {Q : V → St → Prop}
    (h : ∀ i, (bksO bs).drop i = [] → Q (.lst (bs.map bV)) { st with heap := upd st.heap k (.iter ((bksO bs).map .int) i) }) :
    JV C VR [.str book, .obj k, .lst (names5.map .str)] (fun ws => call (.ref 805) ws) st Q := by
  have hkn : k < st.nx := hh k (by rw [hk]; rfl)
  refine jv_trunc (jv_freeze (JC.jv ?_))
  refine code_fn0 (vars := [("book", .str book), ("octets", .obj k), ("names", .lst (names5.map .str))]) (f_lread H) (by lia) (show parOk fd_lread.scope ["book", "octets", "names"] = true by decide +kernel) (fun env Z R ρ s ws hs hw => ?_) ?_
  · obtain ⟨x, y, z, rfl, r1, r2, r3⟩ := inv3 hw
    exact ⟨_, BindsTo.of_eq rfl, .cons r1 (.cons r2 (.cons r3 .nil))⟩
  refine b_lread H hd hu bs hrow hvot hlen hsz hbk hkn hk rfl fun vars H' nx n i h1 h2 h3 h4 h5 h6 => ?_
  refine ⟨n, _, rfl, h3, rfl, ?_, upd st.heap k (.iter ((bksO bs).map .int) i), ?_, h i h6⟩
  · rw [bel]
    exact bels_map _ bV (fun b => by simp [bV, bel, bels, bels_iff]) bs
  · intro m ao e
    by_cases q : m = k
    · subst q
      rw [upd_self] at e; cases e
      refine ⟨by rw [hk]; rfl, (del_ne _ (by lia)).trans h5, .inr ?_⟩
      rw [belO]
      exact bels_map _ V.int (fun b => by simp [bel]) _
    · rw [upd_ne _ _ q] at e
      have hm : m < st.nx := hh m (by rw [e]; rfl)
      exact ⟨by rw [e]; rfl, (del_ne _ (by lia)).trans ((h4 m hm q).trans e), .inl e⟩
end
section
variable {P : Params} {B : PH}
noncomputable abbrev fd_law : FuncData := fnF "law" "law" pb 42 .none (.str (Str.ofString "law_oy0341_03") 1300) (.ref 829)
theorem f_law (H : BaseK (K P) B) : Fn0 B 830 fd_law (bodyAt pb 42) := H.fn0 (o := fnO "law" "law" pb 42 .none (.str (Str.ofString "law_oy0341_03") 1300) (.ref 829)) (by kernel_rfl) rfl rfl (by kernel_rfl) (by decide +kernel) rfl rfl rfl rfl
theorem t_list (H : BaseK (K P) B) : Blt B "list" (.type "list") := H.blt (by kernel_rfl) (by kernel_rfl) (by decide)
theorem t_iter (H : BaseK (K P) B) : Blt B "iter" (.builtin "iter") := H.blt (by kernel_rfl) (by kernel_rfl) (by decide)
theorem bal_keep : keepIn (K P) (.ref 800) = true := by kernel_rfl
theorem ways_keep : keepIn (K P) (.ref 815) = true := by kernel_rfl
theorem lead_keep : keepIn (K P) (.ref 810) = true := by kernel_rfl
theorem oct_keep : keepIn (K P) (.ref 793) = true := by kernel_rfl
theorem tab_keep : keepIn (K P) (.ref 820) = true := by kernel_rfl
theorem snd_keep : keepIn (K P) (.ref 825) = true := by kernel_rfl
theorem joins_keep : keepIn (K P) (.ref 778) = true := by kernel_rfl
end
section
variable {C : Fx} {st : St}
noncomputable def nums (few : List Int) : List Int := (few ++ [9521, 7628, 6145]).take (max 3 few.length)
noncomputable def balOf (n : Int) : List Int × Int := (rowOf n, votersOf n)
theorem b_law (H : HB C) (hd : C.d ≤ 301) (hu : C.u ≤ 1000) (hsm : ∃ o, C.base sysModules = some o) (hgp : C.gp = fun g _ => AllBare g) (hpin : C.pin = some 773) (hh : ∀ n, (st.heap n).isSome → n < st.nx) (h0 : st.heap 0 = some .codes)
    (ns : List Int) {vars : List (Str × V)} (hv : vars = [(("script" : Str), .lst (ns.map .int))]) (hl : ns.length ≤ 100) {Q : FlowA → St → Prop} (h : ∀ st', st'.heap 0 = some .codes → Q (.ret (.bool true)) st') : JX (C.into fd_law.scope) (bodyAt pb 42) { st with vars := vars } Q := by
  have HBc : HB (C.into fd_law.scope) := H
  subst hv
  refine x_seq ?_
  refine x_Assign ?_ (by rfl)
  refine ev_Slice ?_
  repeat walk_at "w"
  refine p_none ?_
  refine p_some ?_
  repeat walk_at "w"
  refine ⟨_, rfl, _, rfl, by rw [List.length_map]; exact Nat.le_trans hl (by decide), ?_⟩
  rw [show (some 5 : Option Int) = some ((5 : Nat) : Int) from rfl, sl_upto, ← List.map_take]
  generalize hfew : ns.take 5 = few
  have hf5 : few.length ≤ 5 := by rw [← hfew, List.length_take]; lia
  refine thn_next ?_
  dsimp only
  refine x_seq ?_
  refine x_AssignComp (by kernel_rfl) (by rfl) (by exact ⟨rfl, rfl, rfl⟩) ?_
  refine ev_SliceG ?_
  refine ev_BinOp ?_
  repeat walk_at "w"
  refine ⟨Nat.le_of_ble_eq_true rfl, ?_⟩
  refine op_cat (xs := few.map .int) (ys := [.int 9521, .int 7628, .int 6145]) rfl rfl (by rw [List.length_map]; exact Nat.le_trans (Nat.add_le_add_right hf5 3) (by decide)) ?_
  refine p_none ?_
  refine p_some ?_
  refine ev_CallB (t_max (by exact HBc)) (by rfl) ?_
  repeat walk_at "w"
  refine ev_CallB (t_len (by exact HBc)) (by rfl) ?_
  repeat walk_at "w"
  refine b_len (xs := few.map .int) rfl (by rw [List.length_map]; lia) ?_
  repeat walk_at "w"
  refine b_max2 ?_
  have e1 : few.map V.int ++ [.int 9521, .int 7628, .int 6145] = (few ++ [9521, 7628, 6145]).map .int := by simp
  rw [e1, List.length_map]
  refine ⟨_, rfl, _, rfl, by rw [List.length_map, List.length_append]; exact Nat.le_trans (Nat.add_le_add_right hf5 3) (by decide), ?_⟩
  rw [show (some (max (3 : Int) (few.length : Int))) = some ((max 3 few.length : Nat) : Int) from by congr 1; lia, sl_upto, ← List.map_take]
  have hn5 : (nums few).length ≤ 5 := by unfold nums; rw [List.length_take]; lia
  have hn3 : nums few ≠ [] := by
    intro e
    have : (nums few).length = 0 := by rw [e]; rfl
    unfold nums at this
    rw [List.length_take, List.length_append] at this
    simp at this
  show CompIn _ _ _ _ _ _ (.lst ((nums few).map .int)) _
  generalize nums few = ms at hn5 hn3
  refine comp_map ms .int (fun n => bV (balOf n)) rfl (by lia) (by rfl) (.inl rfl) (fun n hn => ?_) ?_
  · refine ev_CallC (by exact HBc) (g_bal (by exact HBc)) bal_keep (by rfl) ?_
    repeat walk_at "w"
    refine c_bal' (by exact HBc) (show C.d + 1 ≤ 900 from dk hd (by decide)) (show C.u + 3 ≤ 4000 from dk hu (by decide)) (by exact hh) n ?_
    exact ⟨rfl, rfl⟩
  rw [show ms.map (fun n => bV (balOf n)) = (ms.map balOf).map bV from by rw [List.map_map]; rfl]
  have hb5 : (ms.map balOf).length ≤ 5 := by rw [List.length_map]; exact hn5
  have hbne : ms.map balOf ≠ [] := fun e => hn3 (List.map_eq_nil_iff.mp e)
  have hrow : ∀ b ∈ ms.map balOf, RowOk b.1 := fun b hb => by obtain ⟨n, _, rfl⟩ := List.mem_map.mp hb; exact rowOf_ok n
  have hvot : ∀ b ∈ ms.map balOf, 1 ≤ b.2 ∧ b.2 ≤ 10 ^ 30 := fun b hb => by obtain ⟨n, _, rfl⟩ := List.mem_map.mp hb; exact votersOf_pos n
  generalize ms.map balOf = bs at hb5 hbne hrow hvot
  clear hn3 hn5 e1 hfew hf5 hl
  refine thn_next ?_
  dsimp only
  refine x_seq ?_
  refine x_Assign ?_ (by rfl)
  refine ev_List ?_
  repeat walk_at "w"
  refine ⟨Nat.le_of_ble_eq_true rfl, ?_⟩
  refine thn_next ?_
  dsimp only
  refine x_seq ?_
  refine x_Assign ?_ (by rfl)
  refine ev_MethS F.slot_str_join F.type_str_join ?_
  repeat walk_at "w"
  refine ⟨⟨_, rfl⟩, ?_⟩
  refine l_cons ?_
  refine ev_ListComp (by kernel_rfl) ?_
  repeat walk_at "w"
  refine comp_map2 bs (fun b => .lst (b.1.map .int)) (fun b => .int b.2) (fun b => .str (lineOf b.1)) rfl (by lia) (by decide) (by rfl) (.inl rfl) (by rfl) (.inl rfl) (fun b hb => ?_) ?_
  · have hr := hrow b hb
    refine ev_CallC (by exact HBc) (g_joins (by exact HBc)) joins_keep (by rfl) ?_
    refine l_cons ?_
    refine ev_ListComp (by kernel_rfl) ?_
    repeat walk_at "w"
    refine comp_map b.1 .int (fun i => .str (nm i)) rfl (by have := hr.len; lia) (by rfl) (.inl rfl) (fun i hi => ?_) ?_
    · repeat walk_at "w"
      have hi5 := hr.ins i hi
      have ri := mem_idxs.mp hi5
      refine sub_lst (x := .str (nm i)) ri.1 ?_ (by lia) ?_
      · rcases mem5 hi5 with rfl | rfl | rfl | rfl | rfl <;> rfl
      · exact ⟨rfl, rfl⟩
    repeat walk_at "w"
    rw [show b.1.map (fun i => V.str (nm i)) = (b.1.map nm).map .str from by rw [List.map_map]; rfl]
    refine JC.jv (c_join (by exact HBc) (show C.d + 1 ≤ 700 from dk hd (by decide)) (by exact hgp) (by exact hpin) (by exact h0) (qts_nm hr.ins) (line_ok _ (by have := hr.len; lia)) (by rw [List.length_map]; have := hr.len; lia) ?_)
    exact ⟨rfl, rfl⟩
  repeat walk_at "w"
  rw [show bs.map (fun b => V.str (lineOf b.1)) = (bs.map fun b => lineOf b.1).map .str from by rw [List.map_map]; rfl]
  refine m_joinL (by decide) ?_ ?_
  · have := sum_le 20 (bs.map fun b => lineOf b.1) fun y hy => by obtain ⟨b, hb, rfl⟩ := List.mem_map.mp hy; exact line_len _ (by rw [(hrow b hb).len]; lia)
    rw [List.length_map] at this ⊢
    lia
  refine thn_next ?_
  dsimp only
  refine x_seq ?_
  refine x_Assign ?_ (by rfl)
  refine ev_CallB (t_iter (by exact HBc)) (by rfl) ?_
  refine l_cons ?_
  refine ev_ListComp (by kernel_rfl) ?_
  repeat walk_at "w"
  have hlg : ∀ b ∈ bs, b.2.toNat.log2 ≤ 99 := fun b hb => log_le (by have := hvot b hb; rw [Int.toNat_of_nonneg (by lia)]; exact this.2)
  refine comp_flat bs (fun b => .lst (b.1.map .int)) (fun b => .int b.2) (fun b => (octs b.2.toNat).map .int) rfl ?_ (by rfl) (.inl rfl) (by rfl) (.inl rfl) (by rfl) (.inl rfl) (by decide) (fun b hb vs hf hx hy => ?_) (fun b hb o ho vs hz => ?_) ?_
  · have := flat_len 100 (fun b : List Int × Int => (octs b.2.toNat).map V.int) bs fun b hb => by
      have h1 := hlg b hb
      have h2 := octs_len b.2.toNat
      rw [List.length_map]; lia
    lia
  · have h1 := hlg b hb
    have h2 := (hvot b hb).1
    obtain ⟨row, v⟩ := b
    obtain ⟨m, rfl⟩ : ∃ m : Nat, v = m := ⟨v.toNat, by dsimp only at h2; lia⟩
    refine ev_CallC (by exact HBc) (g_oct (by exact HBc)) oct_keep (by rfl) ?_
    repeat walk_at "w"
    refine JC.jv (c_oct (by exact HBc) (show C.d + 1 ≤ 900 from dk hd (by decide)) m (Nat.le_trans h1 (by decide)) ?_)
    exact ⟨rfl, rfl⟩
  · repeat walk_at "w"
    exact ⟨rfl, rfl⟩
  repeat walk_at "w"
  rw [show bs.flatMap (fun b => (octs b.2.toNat).map V.int) = (bksO bs).map .int from (List.map_flatMap ..).symm]
  refine b_iter ?_
  refine thn_next ?_
  dsimp only
  refine x_seq ?_
  refine x_Assign ?_ (by rfl)
  refine ev_CallC (by exact HBc) (g_lread (by exact HBc)) read_keep (by rfl) ?_
  repeat walk_at "w"
  refine c_lread (by exact HBc) (show C.d + 1 ≤ 400 from dk hd (by decide)) (show C.u + 3 ≤ 2000 from dk hu (by decide)) (fun n hn => ?_) bs (fun b hb => ⟨(hrow b hb).len, (hrow b hb).ins⟩) (fun b hb => ⟨by have := (hvot b hb).1; lia, ?_⟩) (by lia) (book_len bs hrow (by lia)) (book_lex bs hrow hbne) (by exact upd_self _ _ _) fun i hi => ?_
  · dsimp only at hn ⊢
    by_cases e : n = st.nx
    · lia
    · rw [upd_ne _ _ e] at hn; have := hh n hn; lia
  · have h1 := hlg b hb
    have h2 := (hvot b hb).1
    rw [show b.2.natAbs = b.2.toNat from by lia]; lia
  refine thn_next ?_
  dsimp only
  rw [upd_upd]
  refine x_seq ?_
  refine x_If ?_
  repeat walk_at "w"
  refine op_neR rfl (ok_bs bs) (by have := dep_bs bs; show C.u + 3 + _ < 9900; lia) ?_
  repeat walk_at "w"
  refine ev_CallT (t_list (by exact HBc)) (by rfl) ?_
  repeat walk_at "w"
  refine b_listI (by exact upd_self _ _ _) ?_ ?_
  · have h2 := flat_len 100 (fun b : List Int × Int => octs b.2.toNat) bs fun b hb => by
      have h1 := hlg b hb
      have h2 := octs_len b.2.toNat
      lia
    have : (1000 : Nat) ≤ sizeLine := by decide
    rw [List.length_map]
    exact Nat.le_trans h2 (by lia)
  repeat walk_at "w"
  refine ⟨Nat.le_of_ble_eq_true rfl, ?_⟩
  refine op_neR (by rw [← List.map_drop, hi]; rfl) (by rw [← List.map_drop, hi]; rfl) (by rw [← List.map_drop, hi]; have := dep_ints []; show C.u + 3 + _ < 9900; lia) ?_
  repeat walk_at "w"
  have hl : ∀ n, (del (upd st.heap st.nx (AO.iter ((bksO bs).map .int) i)) st.nx n).isSome → n < st.nx + 1 := fun n hn => by
    by_cases e : n = st.nx
    · lia
    · rw [del_ne _ e, upd_ne _ _ e] at hn; have := hh n hn; lia
  have hnx : 0 < st.nx := hh 0 (by rw [h0]; rfl)
  have hl0 : del (upd st.heap st.nx (AO.iter ((bksO bs).map .int) i)) st.nx 0 = some .codes := by rw [del_ne _ (by lia), upd_ne _ _ (by lia)]; exact h0
  generalize del (upd st.heap st.nx (AO.iter ((bksO bs).map .int) i)) st.nx = HL at hl hl0
  clear hi hh h0
  refine x_AssignK ?_ (by rfl)
  refine ev_ListComp (by kernel_rfl) ?_
  walk_at "rg"
  refine comp_all (idxs 5) (fun i => .lst ((idxs 5).map fun j => .int (leadOf bs i j))) (itb_rng _ (by decide) (by decide)) (by rw [idxs_len]; decide) (by rfl) (by first | exact .inl rfl | exact .inr rfl) (fun a ma => ?_) ?_
  · refine ev_ListComp (by kernel_rfl) ?_
    walk_at "rg"
    refine comp_all (idxs 5) (fun j => .int (leadOf bs a j)) (itb_rng _ (by decide) (by decide)) (by rw [idxs_len]; decide) (by rfl) (by first | exact .inl rfl | exact .inr rfl) (fun b mb => ?_) ?_
    · refine ev_CallC (by exact HBc) (g_lead (by exact HBc)) lead_keep (by rfl) ?_
      repeat walk_at "w"
      refine JC.jv (c_lead (by exact HBc) (show C.d + 1 ≤ 900 from dk hd (by decide)) (show C.u + 3 ≤ 4000 from dk hu (by decide)) bs a b (fun x hx => ⟨(hrow x hx).all a ma, (hrow x hx).all b mb, by rw [(hrow x hx).len]; decide⟩) (by lia) ?_)
      exact ⟨rfl, rfl⟩
    · exact ⟨rfl, rfl⟩
  refine thn_next ?_
  dsimp only
  refine x_seq ?_
  refine x_AssignComp (by kernel_rfl) (by rfl) (by exact ⟨rfl, rfl, rfl⟩) ?_
  walk_at "rg"
  refine comp_ex (idxs 5) .int (fun s y => ∃ D, Widest (leadOf bs) s D ∧ y = .lst ((idxs 5).map fun k => .int (D k))) (itb_rng _ (by decide) (by decide)) (by rw [idxs_len]; decide) (by rfl) (by first | exact .inl rfl | exact .inr rfl) (fun a ma => ?_) ?_
  · refine ev_CallC (by exact HBc) (g_ways (by exact HBc)) ways_keep (by rfl) ?_
    repeat walk_at "w"
    refine c_ways (by exact HBc) (show C.d + 1 ≤ 400 from dk hd (by decide)) (show C.u + 3 ≤ 2000 from dk hu (by decide)) (by exact hsm) (by exact hl) (leadOf bs) a ma fun D hD => ?_
    exact ⟨⟨D, hD, rfl⟩, rfl⟩
  intro ys hys
  obtain ⟨W, hW⟩ : ∃ W : Int → Int → Int, ∀ s ∈ idxs 5, Widest (leadOf bs) s (W s) := by
    classical
    have : ∀ s, ∃ D, s ∈ idxs 5 → Widest (leadOf bs) s D := fun s => by
      by_cases hs : s ∈ idxs 5
      · obtain ⟨_, D, hD, _⟩ := hys.mem s hs
        exact ⟨D, fun _ => hD⟩
      · exact ⟨fun _ => 0, fun h => absurd h hs⟩
    exact ⟨fun s => (this s).choose, fun s hs => (this s).choose_spec hs⟩
  have eys : ys = (idxs 5).map fun s => .lst ((idxs 5).map fun k => .int (W s k)) := hys.map fun s hs y ⟨D, hD, e⟩ => by
    rw [e]
    exact congrArg V.lst (List.map_congr_left fun k hk => by rw [hD.uniq (hW s hs) k hk])
  subst eys
  have htw := lead_twin bs hrow
  refine thn_next ?_
  dsimp only
  refine x_seq ?_
  refine x_If ?_
  repeat walk_at "w"
  refine ev_ListComp (by kernel_rfl) ?_
  refine ev_SliceG ?_
  repeat walk_at "w"
  refine p_none ?_
  refine p_some ?_
  repeat walk_at "w"
  refine ⟨_, rfl, _, rfl, by rw [List.length_map, idxs_len]; decide, ?_⟩
  rw [show (some 4 : Option Int) = some ((4 : Nat) : Int) from rfl, sl_upto, ← List.map_take, take_idxs 5 4 (by decide)]
  refine comp_map (idxs 4) (fun s => .lst ((idxs 5).map fun k => .int (W s k))) (fun s => .lst ((idxs 4).map fun k => .int (W s k))) rfl (by rw [idxs_len]; decide) (by rfl) (.inl rfl) (fun a ma => ?_) ?_
  · refine ev_SliceG ?_
    repeat walk_at "w"
    refine p_none ?_
    refine p_some ?_
    repeat walk_at "w"
    refine ⟨_, rfl, _, rfl, by rw [List.length_map, idxs_len]; decide, ?_⟩
    rw [show (some 4 : Option Int) = some ((4 : Nat) : Int) from rfl, sl_upto, ← List.map_take, take_idxs 5 4 (by decide)]
    exact ⟨rfl, rfl⟩
  refine ev_CallC (by exact HBc) (g_tab (by exact HBc)) tab_keep (by rfl) ?_
  repeat walk_at "w"
  refine JC.jv (c_tab (by exact HBc) (show C.d + 1 ≤ 900 from dk hd (by decide)) (show C.u + 3 ≤ 4000 from dk hu (by decide)) (leadOf bs) ?_)
  refine op_neR (congrArg V.lst (List.map_congr_left fun a ma => congrArg V.lst (List.map_congr_left fun b mb => by rw [ways_tab hW htw a ma b mb]))) (ok_mat _ _ _) (by have := dep_mat (idxs 4) (idxs 4) W; show C.u + 3 + _ < 9900; lia) ?_
  repeat walk_at "w"
  refine ev_ListComp (by kernel_rfl) ?_
  refine ev_SliceG ?_
  repeat walk_at "w"
  refine p_none ?_
  refine p_some ?_
  repeat walk_at "w"
  refine ⟨_, rfl, _, rfl, by rw [List.length_map, idxs_len]; decide, ?_⟩
  rw [show (some 3 : Option Int) = some ((3 : Nat) : Int) from rfl, sl_upto, ← List.map_take, take_idxs 5 3 (by decide)]
  refine comp_map (idxs 3) (fun s => .lst ((idxs 5).map fun k => .int (W s k))) (fun s => .int (W s 4)) rfl (by rw [idxs_len]; decide) (by rfl) (.inl rfl) (fun a ma => ?_) ?_
  · repeat walk_at "w"
    refine sub_lst (by lia) (idxs_at (i := 4) (mem_idxs.mpr ⟨by decide, by decide⟩) _) (by decide) ?_
    exact ⟨rfl, rfl⟩
  repeat walk_at "w"
  refine ev_ListComp (by kernel_rfl) ?_
  refine ev_SliceG ?_
  repeat walk_at "w"
  refine p_none ?_
  refine p_some ?_
  repeat walk_at "w"
  refine ⟨_, rfl, _, rfl, by rw [List.length_map, idxs_len]; decide, ?_⟩
  rw [show (some 3 : Option Int) = some ((3 : Nat) : Int) from rfl, sl_upto, ← List.map_take, take_idxs 5 3 (by decide)]
  refine comp_map (idxs 3) (fun s => .lst ((idxs 5).map fun k => .int (W s k))) (fun s => .int (W s 3)) rfl (by rw [idxs_len]; decide) (by rfl) (.inl rfl) (fun a ma => ?_) ?_
  · repeat walk_at "w"
    refine sub_lst (by lia) (idxs_at (i := 3) (mem_idxs.mpr ⟨by decide, by decide⟩) _) (by decide) ?_
    exact ⟨rfl, rfl⟩
  repeat walk_at "w"
  refine op_neR (congrArg V.lst (List.map_congr_left fun a ma => by rw [twin_to hW htw ma])) (by rw [show (idxs 3).map (fun s => V.int (W s 4)) = ((idxs 3).map fun s => W s 4).map .int from by rw [List.map_map]; rfl, okD]; exact okDs_int _) (by rw [show (idxs 3).map (fun s => V.int (W s 4)) = ((idxs 3).map fun s => W s 4).map .int from by rw [List.map_map]; rfl]; have := dep_ints ((idxs 3).map fun s => W s 4); show C.u + 3 + _ < 9900; lia) ?_
  repeat walk_at "w"
  refine ev_SliceG ?_
  repeat walk_at "w"
  refine sub_lst (by lia) (idxs_at (i := 4) (mem_idxs.mpr ⟨by decide, by decide⟩) _) (by decide) ?_
  repeat walk_at "w"
  refine p_none ?_
  refine p_some ?_
  repeat walk_at "w"
  refine ⟨_, rfl, _, rfl, by rw [List.length_map, idxs_len]; decide, ?_⟩
  rw [show (some 3 : Option Int) = some ((3 : Nat) : Int) from rfl, sl_upto, ← List.map_take, take_idxs 5 3 (by decide)]
  refine ev_SliceG ?_
  repeat walk_at "w"
  refine sub_lst (by lia) (idxs_at (i := 3) (mem_idxs.mpr ⟨by decide, by decide⟩) _) (by decide) ?_
  repeat walk_at "w"
  refine p_none ?_
  refine p_some ?_
  repeat walk_at "w"
  refine ⟨_, rfl, _, rfl, by rw [List.length_map, idxs_len]; decide, ?_⟩
  rw [show (some 3 : Option Int) = some ((3 : Nat) : Int) from rfl, sl_upto, ← List.map_take, take_idxs 5 3 (by decide)]
  refine op_neR (congrArg V.lst (List.map_congr_left fun a ma => by rw [twin_from hW htw ma])) (by rw [show (idxs 3).map (fun k => V.int (W 4 k)) = ((idxs 3).map fun k => W 4 k).map .int from by rw [List.map_map]; rfl, okD]; exact okDs_int _) (by rw [show (idxs 3).map (fun k => V.int (W 4 k)) = ((idxs 3).map fun k => W 4 k).map .int from by rw [List.map_map]; rfl]; have := dep_ints ((idxs 3).map fun k => W 4 k); show C.u + 3 + _ < 9900; lia) ?_
  repeat walk_at "w"
  refine ev_CallC (by exact HBc) (g_snd (by exact HBc)) snd_keep (by rfl) ?_
  repeat walk_at "w"
  refine JC.jv (c_snd (by exact HBc) (show C.d + 1 ≤ 900 from dk hd (by decide)) (show C.u + 3 ≤ 4000 from dk hu (by decide)) (leadOf bs) W (ahead_trans hW) (chosen_ahead hW fun i hi j hj e => lead_anti bs hrow hi hj e) ?_)
  exact h _ hl0
end
end Mine
end
section -- MEnd
set_option maxRecDepth 100000
set_option maxHeartbeats 400000
open PySem PySem.W PyProof.Rows Mine
namespace Mine
theorem hwit : rr.toRowW.promised := by w_witness2
noncomputable def baseOf (h : Heap) : PH := fun b => if b = 773 then none else h.get? b
theorem baseOf_ne {h : Heap} {b : Addr} {o : Obj} (hb : b ≠ 773) (e : h.get? b = some o) : baseOf h b = some o := (if_neg hb).trans e
theorem baseOf_in {h : Heap} {b : Addr} {o : Obj} (e : baseOf h b = some o) : h.get? b = some o ∧ b ≠ 773 := by
  unfold baseOf at e
  split at e
  · cases e
  · exact ⟨e, by assumption⟩
theorem look_app {A : List (Addr × Obj)} {B : List (Addr × Obj)} {a : Addr} {o : Obj} (h : A.lookup a = some o) : (A ++ B).lookup a = some o := by
  rw [List.lookup_append, h]; rfl
theorem baseK (w : World) {h : Heap} {mg mb : Str → Option Value} (Y : InK Kx w h) (g : h.Ns mainGlobals mg) (b : h.Ns builtinsNs mb) (hb : ∀ x : Str, x ≠ "__name__" → mb x = bootBuiltins x) (nl : h.NoLimit) : BaseK (K w.params) (baseOf h) where
  k := fun a o e => baseOf_ne (fun q => by subst q; exact absurd (e.symm.trans (show (K w.params).lookup 773 = none from by kernel_rfl)) nofun) (Y a o (look_app e))
  nl := fun h' k => let ⟨mc, n1, n2⟩ := nl; ⟨mc, n1.at' fun o e => k _ _ (baseOf_ne (by decide) e), n2⟩
  g := fun h' k => ⟨mg, g.at' fun o e => k _ _ (baseOf_ne (by decide) e)⟩
  b := fun h' k => ⟨mb, b.at' fun o e => k _ _ (baseOf_ne (by decide) e), hb⟩
theorem ints_vrs {Z : PH} {ρ : List Addr} : ∀ {vs : List Value} {ns : List Int}, IntsAre vs ns → VRs Z ρ (ns.map .int) vs
  | _, _, .nil => .nil
  | _, _, .cons n t h => .cons (.int n t) (ints_vrs h)
theorem call : WalkO q loose (XL q []) (InK Kx) rr.toRowW theLaw kwd0 fun f vs => PySem.call f vs := by
  w_on
  intro w s₀ s₁ mg mb G Y fa o pm cd doc dV kV ho hd hcd hD hmg hg args vals as hpre hlay hrd hwl hlo
  refine Ground.open G ?_
  intro T B D TE TW
  wrow_args hpre hlay hrd hwl hlo
  rename_i ns hs0 hlay0 hL1 hr1 hl2 x4 x3 la x1 x0 hL ra w1 r0 hI hr2 hc1 hc2
  have HB0 := baseK w Y T.g T.b T.builtins T.nolimit
  have e830 : fa = 830 := by
    obtain ⟨mg', g1, g2⟩ := (HB0.glo (by kernel_rfl) : Glo (baseOf s₁.heap) "law" (.ref 830)) s₁.heap fun a o e => (baseOf_in e).1
    rw [g1.eq_nsMap, ← T.g.eq_nsMap] at g2
    have : some (Value.ref fa) = some (.ref 830) := hmg.symm.trans g2
    exact Value.ref.inj (Option.some.inj this)
  subst e830
  have hla : s₁.heap.get? la = some { cls := .type "list", data := .seq x1.toArray } := by
    cases w1 with
    | list e _ =>
      obtain ⟨o', q1, _, n, q2⟩ := hL
      rw [e] at q1; cases q1
      cases q2
      exact e
  have h773 : s₁.heap.get? 773 = some ⟨.none, none, .fields #[], #[]⟩ := Y 773 _ (by kernel_rfl)
  have h1 : s₁.heap.get? 1 = some _ := Y 1 _ rfl
  have hne : la ≠ 773 := fun e => by rw [e, h773] at hla; cases hla
  let C : Fx := { prog := rr.prog, w := w, os := s₁.os, base := baseOf s₁.heap, d := 301, u := 4, sc := fd_law.scope, gp := fun g _ => AllBare g, pin := some 773 }
  have HBC : HB C := HB0
  refine wpAny_weaker (A := C.A) rfl (show callerA.depth ≤ 301 by decide) rfl rfl (show callerA.units ≤ 4 by decide) ?_
  refine wpAny_call (codeAny_mono (call_raw (C := C) (Z := C.base) (vars := [("script", .lst (ns.map .int))]) (Q := fun v st' => v = .bool true ∧ st'.heap 0 = some .codes) (f_law HBC) (show 301 < 1000 by decide) (show parOk fd_law.scope ["script"] = true by decide +kernel) (PH.le.refl _) (fun b o e => (baseOf_in e).1) (fun p e => ?_) rfl ?_ (BindsTo.of_eq rfl) (.cons (.lst (baseOf_ne hne hla) (ints_vrs hI)) .nil) ?_) fun r s' hr => ?_)
  · cases e
    exact ⟨show (if (773 : Addr) = 773 then none else s₁.heap.get? 773) = none from if_pos rfl, _, h773, .codes rfl trivial⟩
  · show AllBare s₁.gens
    rw [hg]; exact AllBare.empty
  · refine b_law (C := C) (st := ⟨[], pinned (some 773), 1⟩) HBC (Nat.le_refl 301) (show 4 ≤ 1000 by decide) ⟨_, baseOf_ne (by decide) h1⟩ rfl rfl (fun n hn => ?_) rfl ns rfl (by omega) fun st' h => ⟨rfl, h⟩
    have hn' : (if n = 0 then (some 773 : Option Addr).map fun _ => AO.codes else none).isSome := hn
    by_cases e : n = 0
    · subst e; exact Nat.zero_lt_one
    · rw [if_neg e] at hn'; cases hn'
  · obtain ⟨v, wv, st', Z', ρ', rfl, hz', hr', rv, kk, e1, e2, e3, rfl, e5⟩ := hr
    cases rv
    obtain ⟨oP, hP, hC⟩ := e3 773 rfl _ e5
    have k777 : s₁.heap.get? 777 = some _ := Y 777 _ rfl
    refine ⟨.inl ⟨_, .bool true, [], rfl, fun _ => rfl, .bool true, by wrow_post, fun h => ⟨.nil, fun _ ha => nomatch ha⟩⟩, ⟨fun b o e => ?_, fun b o e => ?_⟩, e1, e2⟩
    · by_cases q : b = 773
      · subst q
        rw [h773] at e; cases e
        cases hC with
        | codes hd ht => exact .inr (.inl ⟨⟨777, _, _, k777, rfl, rfl, rfl⟩, rfl, #[], _, rfl, by rw [hP, hd, Array.empty_append]⟩)
      · exact .inl (kk b o (fun z => q (by cases z; rfl)) e)
    · by_cases q : b = 773
      · subst q; exact ⟨_, hP⟩
      · exact ⟨_, kk b o (fun z => q (by cases z; rfl)) e⟩
end Mine
theorem PySem.Challenge.cw_oy0341_03_holds : PySem.Challenge.rw_oy0341_03.Holds := by
  exact holds_law Mine.wellSaid fun said => Mine.head1 Mine.hwit said Mine.call
end
