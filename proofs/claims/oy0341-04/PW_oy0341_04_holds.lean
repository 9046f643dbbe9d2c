import PyProof.Rows.All
import Wide.All
import OpenK.AllK
import Wide.FinOn
import KE.KDictIter
import PyProof.CollectIter
import PyProof.ListCopy
import PyProof.TupleOfSeq
import PyProof.Rows.SortWalk
import Flt.Gen
import KE.KEqDeep
import Lean
import PySem.Challenge.RW_oy0341_04
set_option Elab.async false
set_option compiler.extract_closed false
set_option linter.all false
set_option bootstrap.genMatcherCode false
set_option genSizeOf false
set_option genSizeOfSpec false
section -- Hd04
set_option maxRecDepth 100000
/-! A head of our own: the whole top (its opening too) run over a tree of objects, in one look of the kernel. -/
namespace Mine
open PySem PySem.W

theorem insOk : ∀ (t : BT) (n : Nat) (o : Obj), (∀ i, i < n → (t.get i).isSome = true) → ((t.ins n o).get n).isSome = true
  | .nil, n, o, h => by
    cases n with
    | zero => rfl
    | succ n => have := h 0 (Nat.succ_pos _); cases this
  | .node v l r, n, o, h => by
    rw [BT.ins_node]
    by_cases h0 : n = 0
    · subst h0; rw [if_pos rfl, BT.get_node, if_pos rfl]; rfl
    · rw [if_neg h0]
      by_cases h1 : n % 2 = 1
      · rw [if_pos h1, BT.get_node, if_neg h0, if_pos h1]
        refine insOk l (n / 2) o fun i hi => ?_
        have := h (2 * i + 1) (by lia)
        rw [BT.get_node, if_neg (by lia), if_pos (by lia)] at this
        rwa [show (2 * i + 1) / 2 = i by lia] at this
      · rw [if_neg h1, BT.get_node, if_neg h0, if_neg h1]
        refine insOk r (n / 2 - 1) o fun i hi => ?_
        have := h (2 * i + 2) (by lia)
        rw [BT.get_node, if_neg (by lia), if_neg (by lia)] at this
        rwa [show (2 * i + 2) / 2 - 1 = i by lia] at this

noncomputable def fillT : List Obj → Nat → BT → BT
  | [], _, t => t
  | o :: r, n, t => fillT r (n + 1) (t.ins n o)

theorem fillT_get : ∀ (l : List Obj) (n : Nat) (t : BT), (∀ i, i < n → (t.get i).isSome = true) →
    (∀ i, i < n → (fillT l n t).get i = t.get i) ∧ ∀ i (h : i < l.length), (fillT l n t).get (n + i) = some l[i]
  | [], n, t, _ => ⟨fun _ _ => rfl, fun i h => absurd h (Nat.not_lt_zero _)⟩
  | o :: r, n, t, h => by
    have hk := insOk t n o h
    have hg := BT.get_ins o t n hk
    have h' : ∀ i, i < n + 1 → ((t.ins n o).get i).isSome = true := fun i hi => by
      rw [hg]
      by_cases e : i = n
      · rw [if_pos e]; rfl
      · rw [if_neg e]; exact h i (by lia)
    obtain ⟨a, b⟩ := fillT_get r (n + 1) (t.ins n o) h'
    refine ⟨fun i hi => ?_, fun i hi => ?_⟩
    · show (fillT r (n + 1) (t.ins n o)).get i = _
      rw [a i (by lia), hg, if_neg (by lia)]
    · show (fillT r (n + 1) (t.ins n o)).get (n + i) = _
      cases i with
      | zero => exact (a n (by lia)).trans (by rw [hg, if_pos rfl]; rfl)
      | succ i =>
        have := b i (by simpa using hi)
        rw [show n + (i + 1) = n + 1 + i by lia, this]; rfl

noncomputable def treeOf (s : Shared) : SharedT := ⟨fillT s.heap.objs.toList 0 .nil, s.heap.objs.size, s.heap.life, s.gens, s.drawn, s.toks, s.os⟩
theorem treeOf_abs (s : Shared) : (treeOf s).abs = s := by
  obtain ⟨⟨objs, life⟩, gens, drawn, toks, os⟩ := s
  have := (fillT_get objs.toList 0 .nil (fun i hi => absurd hi (Nat.not_lt_zero _))).2
  have e : absHeap (fillT objs.toList 0 .nil) objs.size life = ⟨objs, life⟩ := by
    have q : (absHeap (fillT objs.toList 0 .nil) objs.size life).objs = objs := by
      apply Array.ext_getElem?
      intro i
      rw [absHeap_at]
      by_cases h : i < objs.size
      · rw [if_pos h]
        have := this i (by simpa using h)
        rw [Nat.zero_add] at this
        rw [this]
        simp [h]
      · rw [if_neg h]; simp [h]
    show Heap.mk _ _ = Heap.mk _ _
    exact congrArg (Heap.mk · life) q
  exact congrArg (fun x => (⟨x, gens, drawn, toks, os⟩ : Shared)) e

noncomputable def impEndsT (tb : String → Option Builtin) (p : Program) (w : World) : Nat → SharedT → Thread → Option SharedT
  | 0, _, _ => none
  | n + 1, s, t => match t.atExitBegin with
    | some l => match l with
      | [] => some s
      | _ :: _ => none
    | none => match stepT (denote tb) p w s t with
      | some (s', t') => impEndsT tb p w n s' t'
      | none => none
theorem impEndsT_of {tb : String → Option Builtin} {p : Program} {w : World} : ∀ {n : Nat} {s s' : SharedT} {t : Thread}, impEndsT tb p w n s t = some s' → importEnds tb p w n s.abs t = some s'.abs
  | 0, _, _, _, h => by cases h
  | n + 1, s, s', t, h => by
    unfold impEndsT at h
    unfold importEnds
    cases he : t.atExitBegin with
    | some l => rw [he] at h; cases l with
      | nil => cases h; rfl
      | cons a l => cases h
    | none =>
      rw [he] at h
      cases hs : stepT (denote tb) p w s t with
      | none => rw [hs] at h; cases h
      | some r => obtain ⟨s₂, t₂⟩ := r; rw [hs] at h; dsimp only; rw [stepT_spec hs]; exact impEndsT_of h

noncomputable def topRunT (tb : String → Option Builtin) (p : Program) (w : World) (n₀ : Nat) (ann : Option Value) : Nat → SharedT → Thread → Option SharedT
  | 0, _, _ => none
  | n + 1, s, t => match through t with
    | true => some s
    | false => match stepOk n₀ ann t with
      | false => none
      | true => match stepT (denote tb) p w s t with
        | some (s', t') => topRunT tb p w n₀ ann n s' t'
        | none => none
theorem topRunT_of {tb : String → Option Builtin} {p : Program} {w : World} {n₀ : Nat} {ann : Option Value} : ∀ {n : Nat} {s s' : SharedT} {t : Thread}, topRunT tb p w n₀ ann n s t = some s' → topRun tb p w n₀ ann n s.abs t = some s'.abs
  | 0, _, _, _, h => by cases h
  | n + 1, s, s', t, h => by
    unfold topRunT at h
    unfold topRun
    cases he : through t with
    | true => rw [he] at h; cases h; rfl
    | false =>
      rw [he] at h
      cases hk : stepOk n₀ ann t with
      | false => rw [hk] at h; cases h
      | true =>
        rw [hk] at h
        cases hs : stepT (denote tb) p w s t with
        | none => rw [hs] at h; cases h
        | some r => obtain ⟨s₂, t₂⟩ := r; rw [hs] at h; dsimp only; rw [stepT_spec hs]; exact topRunT_of h

noncomputable def headT (tb : String → Option Builtin) (p : Program) (w : World) (N : Nat) : Option SharedT :=
  match impEndsT tb (opening p) w N ⟨.nil, 0, {}, #[], {}, 1, (start (opening p)).1.os⟩ (start (opening p)).2 with
  | none => none
  | some s => match fenceModules? p s.abs with
    | none => none
    | some s₀ => match s₀.heap.isNs mainGlobals && s₀.gens.size == 0 with
      | false => none
      | true => match topRunT tb p w s₀.heap.objs.size (s₀.heap.nsMap mainGlobals "__annotations__") N (treeOf s₀) (topStub p) with
        | none => none
        | some s₁ => match staticsOk (importedModules p.main.body) s₀.heap s₁.abs.heap && namesBound p s₁.abs.heap && gensDone s₁.abs && laidKept s₀.heap s₁.abs.heap with
          | true => some s₁
          | false => none

theorem headT_of {tb : String → Option Builtin} {p : Program} {w : World} {N : Nat} {s : SharedT} (h : headT tb p w N = some s) : openEnds tb p w N = some s.abs := by
  unfold headT at h
  split at h
  · cases h
  · rename_i s₁ h1
    split at h
    · cases h
    · rename_i s₀ h2
      split at h
      · cases h
      · rename_i h3
        split at h
        · cases h
        · rename_i s₂ h4
          split at h
          · rename_i h5
            cases h
            have a := impEndsT_of h1
            have e0 : (⟨.nil, 0, {}, #[], {}, 1, (start (opening p)).1.os⟩ : SharedT).abs = (start (opening p)).1 := rfl
            rw [e0] at a
            have b := topRunT_of h4
            rw [treeOf_abs] at b
            unfold openEnds fencedOpening
            rw [a]
            show (fenceModules? p s₁.abs).bind _ = _
            rw [h2]
            show topFrom tb p w N s₀ = _
            unfold topFrom
            rw [h3]
            dsimp only
            rw [b]
            dsimp only [Option.bind]
            rw [h5]
          · cases h

theorem leftO_of {p q : Program} {loose : List Str} {Xt : Shared → Bool} {α : Type} {Yf : Shared → α} {Ya : World → α} {N : Nat} {g0 : Bool}
    (h : ∀ w, (headT treeTable p w N).map (fun s => (openSeen q loose (importedModules p.main.body) Xt g0 s.abs, Yf s.abs)) = some (openGood q loose, Ya w)) : LeftO p q loose Xt Yf Ya N g0 := fun w => by
  obtain ⟨s, h1, h2⟩ := Option.map_eq_some_iff.mp (h w)
  rw [headT_of h1]
  exact congrArg some h2

noncomputable abbrev pw : Program := PySem.Challenge.pw_oy0341_04
noncomputable def qOf (p : Program) : Program := view p [0, 1, 41]
noncomputable def q : Program := qOf PySem.Challenge.pw_oy0341_04
noncomputable def looseOf (p : Program) : List Str := (p.main.scope.names.filterMap fun x => if x.2 == .local then some x.1 else none).filter fun x => !(["_sre", "deque", "law"] : List Str).contains x
noncomputable def loose : List Str := looseOf PySem.Challenge.pw_oy0341_04
noncomputable def bodyAt : List Stmt → Nat → List Stmt
  | .FunctionDef _ _ body _ _ _ _ _ _ _ :: _, 0 => body
  | _ :: r, n + 1 => bodyAt r n
  | _, _ => []
noncomputable def scopeAt : List Stmt → Nat → Scope
  | .FunctionDef _ _ _ _ _ _ sc _ _ _ :: _, 0 => sc
  | _ :: r, n + 1 => scopeAt r n
  | _, _ => { kind := .function, names := [], isGenerator := false, isCoroutine := false }
noncomputable def paramsAt : List Stmt → Nat → Arguments
  | .FunctionDef _ ps _ _ _ _ _ _ _ _ :: _, 0 => ps
  | _ :: r, n + 1 => paramsAt r n
  | _, _ => ⟨[], [], none, [], [], none, []⟩
noncomputable def clsBody : List Stmt → Nat → List Stmt
  | .ClassDef _ _ _ body _ _ _ _ _ _ _ :: _, 0 => body
  | _ :: r, n + 1 => clsBody r n
  | _, _ => []
noncomputable abbrev pb : List Stmt := PySem.Challenge.pw_oy0341_04.main.body
noncomputable def fnF (name qual : String) (b : List Stmt) (i : Nat) (dV pm cd : Value) : FuncData :=
  { name := Str.ofString name, qualname := Str.ofString qual, params := paramsAt b i, body := .stmts (bodyAt b i), scope := scopeAt b i, globals := 3, closure := [], defaults := dV, kwdefaults := .none, doc := .none, pyModule := pm, annotations := none, code := cd, closureTuple := .none, builtins := 0 }
noncomputable def fnO (name qual : String) (b : List Stmt) (i : Nat) (dV pm cd : Value) : Obj := ⟨.type "function", none, .func (fnF name qual b i dV pm cd), #[]⟩
noncomputable def de (P : Params) (x : String) (t : Nat) (v : Value) : DictEntry := ⟨PyData.keyHash P (Str.ofString x), .str (Str.ofString x) t, v⟩
noncomputable def K (P : Params) : Frag := [
  (2, ⟨.none, none, .dict #[de P "\x69mport.loaded._sre" 183 (.bool true), de P "class._frozen_importlib.BuiltinImporter" 185 (.ref 14), de P "watched.\x69mport" 206 (.ref 18), de P "class._frozen_importlib.ModuleSpec" 216 (.ref 22), de P "sys.modules.booked-epoch" 245 (.int (4) 0), de P "\x69mport.later-laid._sre" 270 (.bool true), de P "watched.library" 272 (.ref 27), de P "watched.library-objects" 0 (.str "\x0c\x1e" 0), de P "watched.library-deep._sre" 273 (.str "\x04\x00\x00\x0b\x04\x00\x00\x0b\x04\x00\x00\x03\x04\x00\x00\x0b\x08\x04dict\x02" 0), de P "\x69mport.loaded._collections" 280 (.bool true), de P "sys.modules.landed._collections" 294 (.bool true), de P "\x69mport.later-laid._collections" 309 (.bool true), de P "watched.library-deep._collections" 311 (.str "\x04\x00\x00\x1d\x04\x00\x00\x1d\x04\x00\x00\x03\x04\x00\x00\x1d\x08\x04dict\x02" 0), de P "type.__subclasses__.OSError.0" 407 (.int (73) 0), de P "type.__subclasses__.OSError.n" 408 (.int (1) 0)] 15, #[]⟩),
  (3, ⟨(.type "dict"), none, .dict #[de P "__name__" 165 (.str "law_oy0341_04" 1300), de P "__doc__" 166 .none, de P "__package__" 167 .none, de P "__loader__" 168 (.builtin "__main__.__loader__#opaque"), de P "__spec__" 169 .none, de P "__annotations__" 170 (.ref 6), de P "__builtins__" 171 (.ref 4), de P "__file__" 173 (.str "/claim/cut.py" 172), de P "__cached__" 174 .none, de P "_sre" 275 (.ref 12), de P "deque" 317 (.type "collections.deque"), de P "_wall" 330 (.ref 44), de P "_twin_re_1" 370 (.ref 49), de P "_whence" 380 (.ref 56), de P "_index" 388 (.ref 63), de P "UnsupportedOperation" 410 (.ref 73), de P "IOBase" 442 (.ref 93), de P "BufferedIOBase" 460 (.ref 108), de P "TextIOBase" 478 (.ref 120), de P "BytesIO" 740 (.ref 350), de P "StringIO" 1027 (.ref 597), de P "_kind" 1038 (.ref 606), de P "_fspath" 1047 (.ref 613), de P "_check_arg_types" 1057 (.ref 620), de P "isabs" 1064 (.ref 627), de P "join" 1075 (.ref 743), de P "join_path" 1076 (.ref 634), de P "dirname" 1086 (.ref 641), de P "shlex" 1227 (.ref 732), de P "join_shlex" 1235 (.ref 743), de P "_find_unsafe" 1237 (.ref 744), de P "quote" 1244 (.ref 751), de P "_parse_varint" 1255 (.ref 758), de P "heappush" 1265 (.ref 765), de P "heappop" 1274 (.ref 772), de P "_siftdown" 1286 (.ref 779), de P "_siftup" 1299 (.ref 786), de P "_law_octets" 1309 (.ref 793), de P "_law_wishes" 1317 (.ref 800), de P "_law_eaten" 1323 (.ref 805), de P "_law_sums" 1329 (.ref 810), de P "_law_dealt" 1335 (.ref 815), de P "_law_envied" 1341 (.ref 820), de P "law" 1347 (.ref 825)] 44, #[]⟩),
  (4, ⟨(.type "module"), (some 0), .plain, #[]⟩),
  (48, ⟨(.type "tuple"), none, .seq #[(.int (14) 0), (.int (17) 0), (.int (4) 0), (.int (1) 0), (.int (1) 0), (.int (21) 0), (.int (9) 0), (.int (0) 0), (.int (604043296) 0), (.int (1) 0), (.int (0) 0), (.int (0) 0), (.int (0) 0), (.int (0) 0), (.int (0) 0), (.int (8) 0), (.int (4) 0), (.int (0) 0), (.int (13) 0), (.int (14) 0), (.int (21) 0), (.int (9) 0), (.int (0) 0), (.int (604043296) 0), (.int (1) 0), (.int (0) 0), (.int (0) 0), (.int (0) 0), (.int (0) 0), (.int (0) 0), (.int (8) 0), (.int (4) 0), (.int (0) 0), (.int (1) 0)] 0, #[]⟩),
  (49, ⟨(.type "re.Pattern"), none, .fields #[(.str "[^\\w@%+=:,./-]" 332), (.int (256) 369), (.int (0) 0), .none, .none, (.ref 48), (.int (0) 0)], #[]⟩),
  (62, ⟨(.type "code"), none, .fields #[(.str "_index" 381), (.str "_index" 382), (.str "/claim/cut.py" 383), (.int (13) 0), (.int (2) 0), (.int (0) 0), (.int (0) 0), (.int (3) 0), (.ref 57), (.bool true), (.int (318) 0), (.ref 58), .none, (.ref 59), (.ref 60), (.ref 61), (.int (386) 0), (.int (13) 0), (.str "/claim/cut.py" 387)], #[]⟩),
  (63, fnO "_index" "_index" pb 6 .none (.str "io" 371) (.ref 62)),
  (89, ⟨(.type "code"), none, .fields #[(.str "__new__" 425), (.str "IOBase.__new__" 426), (.str "/claim/cut.py" 427), (.int (25) 0), (.int (1) 0), (.int (1) 0), (.int (0) 0), (.int (15) 0), (.ref 84), (.bool true), (.int (318) 0), (.ref 85), .none, (.ref 86), (.ref 87), (.ref 88), (.int (431) 0), (.int (25) 0), (.str "/claim/cut.py" 432)], #[]⟩),
  (90, fnO "__new__" "IOBase.__new__" (clsBody pb 8) 1 .none (.str "io" 371) (.ref 89)),
  (92, ⟨(.type "dict"), none, .dict #[de P "__module__" 418 (.str "io" 423), de P "__firstlineno__" 422 (.int (22) 421), de P "__new__" 433 (.ref 94), de P "__static_attributes__" 434 (.ref 91), de P "__dict__" 437 (.ref 95), de P "__weakref__" 439 (.ref 96), de P "__doc__" 440 .none] 4, #[]⟩),
  (93, ⟨(.type "type"), none, .cls { name := "IOBase", bases := [(.type "object")], mro := [(.ref 93), (.type "object")], ns := 92, qualname := "IOBase", hasDict := true, slotNames := [], subclasses := [(.ref 108), (.ref 120)], abstract := false, collection := none, hasDel := false }, #[none, none, some (.str "IOBase" 411), some (.str "IOBase" 419), some .none, some (.bool true)]⟩),
  (94, ⟨(.type "staticmethod"), none, .fields #[(.ref 90)], #[]⟩),
  (119, ⟨(.type "dict"), none, .dict #[de P "__module__" 468 (.str "io" 473), de P "__firstlineno__" 472 (.int (31) 471), de P "__static_attributes__" 475 (.ref 118), de P "__doc__" 476 .none] 2, #[]⟩),
  (120, ⟨(.type "type"), none, .cls { name := "TextIOBase", bases := [(.ref 93)], mro := [(.ref 120), (.ref 93), (.type "object")], ns := 119, qualname := "TextIOBase", hasDict := true, slotNames := [], subclasses := [(.ref 597)], abstract := false, collection := none, hasDel := false }, #[some (.ref 111), none, some (.str "TextIOBase" 461), some (.str "TextIOBase" 469), some .none, some (.bool true)]⟩),
  (349, ⟨(.type "dict"), none, .dict #[de P "__module__" 486 (.str "_io" 491), de P "__firstlineno__" 490 (.int (33) 489), de P "__init__" 500 (.ref 137), de P "_BytesIO__check" 507 (.ref 144), de P "_BytesIO__line" 518 (.ref 151), de P "closed" 526 (.ref 159), de P "close" 533 (.ref 166), de P "__enter__" 540 (.ref 173), de P "__exit__" 548 (.ref 180), de P "readable" 555 (.ref 187), de P "writable" 562 (.ref 194), de P "seekable" 569 (.ref 201), de P "isatty" 576 (.ref 208), de P "flush" 583 (.ref 215), de P "fileno" 590 (.ref 222), de P "detach" 597 (.ref 229), de P "getvalue" 604 (.ref 236), de P "getbuffer" 611 (.ref 243), de P "tell" 618 (.ref 250), de P "seek" 628 (.ref 258), de P "truncate" 636 (.ref 266), de P "read" 648 (.ref 274), de P "read1" 658 (.ref 282), de P "readinto" 668 (.ref 289), de P "readinto1" 676 (.ref 296), de P "readline" 686 (.ref 304), de P "readlines" 694 (.ref 312), de P "__iter__" 701 (.ref 319), de P "__next__" 709 (.ref 326), de P "write" 719 (.ref 333), de P "writelines" 727 (.ref 340), de P "__repr__" 734 (.ref 347), de P "__static_attributes__" 737 (.ref 348), de P "__doc__" 738 .none] 2, #[]⟩),
  (350, ⟨(.type "type"), none, .cls { name := "BytesIO", bases := [(.ref 108)], mro := [(.ref 350), (.ref 108), (.ref 93), (.type "object")], ns := 349, qualname := "BytesIO", hasDict := true, slotNames := [], subclasses := [], abstract := false, collection := none, hasDel := false }, #[some (.ref 123), none, some (.str "BytesIO" 479), some (.str "BytesIO" 487), some .none, some (.bool true)]⟩),
  (360, ⟨(.type "tuple"), none, .seq #[(.str "" 755), (.str "\n" 756)] 0, #[]⟩),
  (366, ⟨(.type "code"), none, .fields #[(.str "__init__" 757), (.str "StringIO.__init__" 758), (.str "/claim/cut.py" 759), (.int (206) 0), (.int (3) 0), (.int (0) 0), (.int (0) 0), (.int (3) 0), (.ref 361), (.bool true), (.int (318) 0), (.ref 362), .none, (.ref 363), (.ref 364), (.ref 365), (.int (763) 0), (.int (206) 0), (.str "/claim/cut.py" 764)], #[]⟩),
  (367, fnO "__init__" "StringIO.__init__" (clsBody pb 12) 1 (.ref 360) (.str "io" 371) (.ref 366)),
  (373, ⟨(.type "code"), none, .fields #[(.str "__translated" 766), (.str "StringIO.__translated" 767), (.str "/claim/cut.py" 768), (.int (219) 0), (.int (2) 0), (.int (0) 0), (.int (0) 0), (.int (3) 0), (.ref 368), (.bool true), (.int (318) 0), (.ref 369), .none, (.ref 370), (.ref 371), (.ref 372), (.int (772) 0), (.int (219) 0), (.str "/claim/cut.py" 773)], #[]⟩),
  (374, fnO "__translated" "StringIO.__translated" (clsBody pb 12) 2 .none (.str "io" 371) (.ref 373)),
  (380, ⟨(.type "code"), none, .fields #[(.str "__check" 775), (.str "StringIO.__check" 776), (.str "/claim/cut.py" 777), (.int (227) 0), (.int (1) 0), (.int (0) 0), (.int (0) 0), (.int (3) 0), (.ref 375), (.bool true), (.int (318) 0), (.ref 376), .none, (.ref 377), (.ref 378), (.ref 379), (.int (779) 0), (.int (227) 0), (.str "/claim/cut.py" 780)], #[]⟩),
  (381, fnO "__check" "StringIO.__check" (clsBody pb 12) 3 .none (.str "io" 371) (.ref 380)),
  (536, ⟨(.type "tuple"), none, .seq #[(.int (-1) 948)] 0, #[]⟩),
  (542, ⟨(.type "code"), none, .fields #[(.str "read" 949), (.str "StringIO.read" 950), (.str "/claim/cut.py" 951), (.int (349) 0), (.int (2) 0), (.int (2) 0), (.int (0) 0), (.int (3) 0), (.ref 537), (.bool true), (.int (318) 0), (.ref 538), .none, (.ref 539), (.ref 540), (.ref 541), (.int (956) 0), (.int (349) 0), (.str "/claim/cut.py" 957)], #[]⟩),
  (543, fnO "read" "StringIO.read" (clsBody pb 12) 25 (.ref 536) (.str "io" 371) (.ref 542)),
  (596, ⟨(.type "dict"), none, .dict #[de P "__module__" 748 (.str "_io" 753), de P "__firstlineno__" 752 (.int (203) 751), de P "__init__" 765 (.ref 367), de P "_StringIO__translated" 774 (.ref 374), de P "_StringIO__check" 781 (.ref 381), de P "_StringIO__check_dot" 788 (.ref 388), de P "_StringIO__line" 803 (.ref 395), de P "closed" 811 (.ref 403), de P "line_buffering" 819 (.ref 411), de P "newlines" 827 (.ref 419), de P "encoding" 835 (.ref 427), de P "errors" 843 (.ref 435), de P "close" 850 (.ref 442), de P "__enter__" 857 (.ref 449), de P "__exit__" 865 (.ref 456), de P "readable" 872 (.ref 463), de P "writable" 879 (.ref 470), de P "seekable" 886 (.ref 477), de P "isatty" 893 (.ref 484), de P "flush" 900 (.ref 491), de P "fileno" 907 (.ref 498), de P "detach" 914 (.ref 505), de P "getvalue" 921 (.ref 512), de P "tell" 928 (.ref 519), de P "seek" 938 (.ref 527), de P "truncate" 946 (.ref 535), de P "read" 958 (.ref 543), de P "readline" 968 (.ref 551), de P "readlines" 978 (.ref 559), de P "__iter__" 985 (.ref 566), de P "__next__" 993 (.ref 573), de P "write" 1005 (.ref 580), de P "writelines" 1013 (.ref 587), de P "__repr__" 1020 (.ref 594), de P "__static_attributes__" 1024 (.ref 595), de P "__doc__" 1025 .none] 2, #[]⟩),
  (597, ⟨(.type "type"), none, .cls { name := "StringIO", bases := [(.ref 120)], mro := [(.ref 597), (.ref 120), (.ref 93), (.type "object")], ns := 596, qualname := "StringIO", hasDict := true, slotNames := [], subclasses := [], abstract := false, collection := none, hasDel := false }, #[some (.ref 353), none, some (.str "StringIO" 741), some (.str "StringIO" 749), some .none, some (.bool true)]⟩),
  (649, ⟨(.type "tuple"), none, .seq #[.none, .none, (.bool false), (.bool false)] 0, #[]⟩),
  (655, ⟨(.type "code"), none, .fields #[(.str "__init__" 1101), (.str "shlex.__init__" 1102), (.str "/claim/cut.py" 1103), (.int (475) 0), (.int (5) 0), (.int (0) 0), (.int (0) 0), (.int (3) 0), (.ref 650), (.bool true), (.int (318) 0), (.ref 651), .none, (.ref 652), (.ref 653), (.ref 654), (.int (1110) 0), (.int (475) 0), (.str "/claim/cut.py" 1111)], #[]⟩),
  (656, fnO "__init__" "shlex.__init__" (clsBody pb 22) 0 (.ref 649) (.str "cpy313.shlex" 1087) (.ref 655)),
  (662, ⟨(.type "code"), none, .fields #[(.str "punctuation_chars" 1113), (.str "shlex.punctuation_chars" 1114), (.str "/claim/cut.py" 1115), (.int (516) 0), (.int (1) 0), (.int (0) 0), (.int (0) 0), (.int (3) 0), (.ref 657), (.bool true), (.int (318) 0), (.ref 658), .none, (.ref 659), (.ref 660), (.ref 661), (.int (1117) 0), (.int (516) 0), (.str "/claim/cut.py" 1118)], #[]⟩),
  (663, fnO "punctuation_chars" "shlex.punctuation_chars" (clsBody pb 22) 1 .none (.str "cpy313.shlex" 1087) (.ref 662)),
  (664, ⟨(.type "property"), none, .fields #[(.ref 663), .none, .none, .none, (.str "punctuation_chars" 1120), (.bool false)], #[]⟩),
  (692, ⟨(.type "code"), none, .fields #[(.str "get_token" 1145), (.str "shlex.get_token" 1146), (.str "/claim/cut.py" 1147), (.int (543) 0), (.int (1) 0), (.int (0) 0), (.int (0) 0), (.int (3) 0), (.ref 687), (.bool true), (.int (318) 0), (.ref 688), .none, (.ref 689), (.ref 690), (.ref 691), (.int (1154) 0), (.int (543) 0), (.str "/claim/cut.py" 1155)], #[]⟩),
  (693, fnO "get_token" "shlex.get_token" (clsBody pb 22) 5 .none (.str "cpy313.shlex" 1087) (.ref 692)),
  (699, ⟨(.type "code"), none, .fields #[(.str "read_token" 1157), (.str "shlex.read_token" 1158), (.str "/claim/cut.py" 1159), (.int (570) 0), (.int (1) 0), (.int (0) 0), (.int (0) 0), (.int (3) 0), (.ref 694), (.bool true), (.int (318) 0), (.ref 695), .none, (.ref 696), (.ref 697), (.ref 698), (.int (1165) 0), (.int (570) 0), (.str "/claim/cut.py" 1166)], #[]⟩),
  (700, fnO "read_token" "shlex.read_token" (clsBody pb 22) 6 .none (.str "cpy313.shlex" 1087) (.ref 699)),
  (731, ⟨(.type "dict"), none, .dict #[de P "__module__" 1096 (.str "cpy313.shlex" 1087), de P "__firstlineno__" 1100 (.int (473) 1099), de P "__init__" 1112 (.ref 656), de P "punctuation_chars" 1120 (.ref 664), de P "push_token" 1128 (.ref 671), de P "push_source" 1137 (.ref 679), de P "pop_source" 1144 (.ref 686), de P "get_token" 1156 (.ref 693), de P "read_token" 1167 (.ref 700), de P "sourcehook" 1175 (.ref 707), de P "error_leader" 1184 (.ref 715), de P "__iter__" 1191 (.ref 722), de P "__next__" 1199 (.ref 729), de P "__static_attributes__" 1220 (.ref 730), de P "__dict__" 1222 (.ref 733), de P "__weakref__" 1224 (.ref 734), de P "__doc__" 1225 .none] 4, #[]⟩),
  (732, ⟨(.type "type"), none, .cls { name := "shlex", bases := [(.type "object")], mro := [(.ref 732), (.type "object")], ns := 731, qualname := "shlex", hasDict := true, slotNames := [], subclasses := [], abstract := false, collection := none, hasDel := false }, #[none, none, some (.str "shlex" 1089), some (.str "shlex" 1097), some (.builtin "object.__new__"), some (.bool true)]⟩),
  (742, ⟨(.type "code"), none, .fields #[(.str "join" 1228), (.str "join" 1229), (.str "/claim/cut.py" 1230), (.int (725) 0), (.int (1) 0), (.int (0) 0), (.int (0) 0), (.int (3) 0), (.ref 737), (.bool true), (.int (318) 0), (.ref 738), .none, (.ref 739), (.ref 740), (.ref 741), (.int (1232) 0), (.int (725) 0), (.str "/claim/cut.py" 1233)], #[]⟩),
  (743, fnO "join" "join" pb 23 .none (.str "cpy313.shlex" 1087) (.ref 742)),
  (744, ⟨(.type "builtin_function_or_method"), none, .fields #[(.builtin "re.Pattern.search"), (.ref 49)], #[]⟩),
  (750, ⟨(.type "code"), none, .fields #[(.str "quote" 1238), (.str "quote" 1239), (.str "/claim/cut.py" 1240), (.int (729) 0), (.int (1) 0), (.int (0) 0), (.int (0) 0), (.int (3) 0), (.ref 745), (.bool true), (.int (318) 0), (.ref 746), .none, (.ref 747), (.ref 748), (.ref 749), (.int (1242) 0), (.int (729) 0), (.str "/claim/cut.py" 1243)], #[]⟩),
  (751, fnO "quote" "quote" pb 26 .none (.str "cpy313.shlex" 1087) (.ref 750)),
  (757, ⟨(.type "code"), none, .fields #[(.str "_parse_varint" 1247), (.str "_parse_varint" 1248), (.str "/claim/cut.py" 1249), (.int (736) 0), (.int (1) 0), (.int (0) 0), (.int (0) 0), (.int (3) 0), (.ref 752), (.bool true), (.int (318) 0), (.ref 753), .none, (.ref 754), (.ref 755), (.ref 756), (.int (1253) 0), (.int (736) 0), (.str "/claim/cut.py" 1254)], #[]⟩),
  (758, fnO "_parse_varint" "_parse_varint" pb 28 .none (.str "cpy313.dis" 1245) (.ref 757)),
  (764, ⟨(.type "code"), none, .fields #[(.str "heappush" 1258), (.str "heappush" 1259), (.str "/claim/cut.py" 1260), (.int (745) 0), (.int (2) 0), (.int (0) 0), (.int (0) 0), (.int (3) 0), (.ref 759), (.bool true), (.int (318) 0), (.ref 760), .none, (.ref 761), (.ref 762), (.ref 763), (.int (1263) 0), (.int (745) 0), (.str "/claim/cut.py" 1264)], #[]⟩),
  (765, fnO "heappush" "heappush" pb 30 .none (.str "cpy313.heapq" 1256) (.ref 764)),
  (771, ⟨(.type "code"), none, .fields #[(.str "heappop" 1266), (.str "heappop" 1267), (.str "/claim/cut.py" 1268), (.int (748) 0), (.int (1) 0), (.int (0) 0), (.int (0) 0), (.int (3) 0), (.ref 766), (.bool true), (.int (318) 0), (.ref 767), .none, (.ref 768), (.ref 769), (.ref 770), (.int (1272) 0), (.int (748) 0), (.str "/claim/cut.py" 1273)], #[]⟩),
  (772, fnO "heappop" "heappop" pb 31 .none (.str "cpy313.heapq" 1256) (.ref 771)),
  (778, ⟨(.type "code"), none, .fields #[(.str "_siftdown" 1275), (.str "_siftdown" 1276), (.str "/claim/cut.py" 1277), (.int (756) 0), (.int (3) 0), (.int (0) 0), (.int (0) 0), (.int (3) 0), (.ref 773), (.bool true), (.int (318) 0), (.ref 774), .none, (.ref 775), (.ref 776), (.ref 777), (.int (1284) 0), (.int (756) 0), (.str "/claim/cut.py" 1285)], #[]⟩),
  (779, fnO "_siftdown" "_siftdown" pb 32 .none (.str "cpy313.heapq" 1256) (.ref 778)),
  (785, ⟨(.type "code"), none, .fields #[(.str "_siftup" 1287), (.str "_siftup" 1288), (.str "/claim/cut.py" 1289), (.int (767) 0), (.int (2) 0), (.int (0) 0), (.int (0) 0), (.int (3) 0), (.ref 780), (.bool true), (.int (318) 0), (.ref 781), .none, (.ref 782), (.ref 783), (.ref 784), (.int (1297) 0), (.int (767) 0), (.str "/claim/cut.py" 1298)], #[]⟩),
  (786, fnO "_siftup" "_siftup" pb 33 .none (.str "cpy313.heapq" 1256) (.ref 785)),
  (792, ⟨(.type "code"), none, .fields #[(.str "_law_octets" 1302), (.str "_law_octets" 1303), (.str "/claim/cut.py" 1304), (.int (782) 0), (.int (1) 0), (.int (0) 0), (.int (0) 0), (.int (3) 0), (.ref 787), (.bool true), (.int (318) 0), (.ref 788), .none, (.ref 789), (.ref 790), (.ref 791), (.int (1307) 0), (.int (782) 0), (.str "/claim/cut.py" 1308)], #[]⟩),
  (793, fnO "_law_octets" "_law_octets" pb 35 .none (.str "law_oy0341_04" 1300) (.ref 792)),
  (799, ⟨(.type "code"), none, .fields #[(.str "_law_wishes" 1310), (.str "_law_wishes" 1311), (.str "/claim/cut.py" 1312), (.int (788) 0), (.int (1) 0), (.int (0) 0), (.int (0) 0), (.int (3) 0), (.ref 794), (.bool true), (.int (318) 0), (.ref 795), .none, (.ref 796), (.ref 797), (.ref 798), (.int (1315) 0), (.int (788) 0), (.str "/claim/cut.py" 1316)], #[]⟩),
  (800, fnO "_law_wishes" "_law_wishes" pb 36 .none (.str "law_oy0341_04" 1300) (.ref 799)),
  (804, ⟨(.type "code"), none, .fields #[(.str "_law_eaten" 1318), (.str "_law_eaten" 1319), (.str "/claim/cut.py" 1320), (.int (794) 0), (.int (3) 0), (.int (0) 0), (.int (0) 0), (.int (3) 0), (.ref 801), (.bool true), (.int (318) 0), (.ref 802), .none, .none, .none, (.ref 803), (.int (1321) 0), (.int (794) 0), (.str "/claim/cut.py" 1322)], #[]⟩),
  (805, fnO "_law_eaten" "_law_eaten" pb 37 .none (.str "law_oy0341_04" 1300) (.ref 804)),
  (809, ⟨(.type "code"), none, .fields #[(.str "_law_sums" 1324), (.str "_law_sums" 1325), (.str "/claim/cut.py" 1326), (.int (824) 0), (.int (2) 0), (.int (0) 0), (.int (0) 0), (.int (3) 0), (.ref 806), (.bool true), (.int (318) 0), (.ref 807), .none, .none, .none, (.ref 808), (.int (1327) 0), (.int (824) 0), (.str "/claim/cut.py" 1328)], #[]⟩),
  (810, fnO "_law_sums" "_law_sums" pb 38 .none (.str "law_oy0341_04" 1300) (.ref 809)),
  (814, ⟨(.type "code"), none, .fields #[(.str "_law_dealt" 1330), (.str "_law_dealt" 1331), (.str "/claim/cut.py" 1332), (.int (827) 0), (.int (2) 0), (.int (0) 0), (.int (0) 0), (.int (3) 0), (.ref 811), (.bool true), (.int (318) 0), (.ref 812), .none, .none, .none, (.ref 813), (.int (1333) 0), (.int (827) 0), (.str "/claim/cut.py" 1334)], #[]⟩),
  (815, fnO "_law_dealt" "_law_dealt" pb 39 .none (.str "law_oy0341_04" 1300) (.ref 814)),
  (819, ⟨(.type "code"), none, .fields #[(.str "_law_envied" 1336), (.str "_law_envied" 1337), (.str "/claim/cut.py" 1338), (.int (837) 0), (.int (2) 0), (.int (0) 0), (.int (0) 0), (.int (3) 0), (.ref 816), (.bool true), (.int (318) 0), (.ref 817), .none, .none, .none, (.ref 818), (.int (1339) 0), (.int (837) 0), (.str "/claim/cut.py" 1340)], #[]⟩),
  (820, fnO "_law_envied" "_law_envied" pb 40 .none (.str "law_oy0341_04" 1300) (.ref 819)),
  (824, ⟨(.type "code"), none, .fields #[(.str "law" 1342), (.str "law" 1343), (.str "/claim/cut.py" 1344), (.int (844) 0), (.int (1) 0), (.int (0) 0), (.int (0) 0), (.int (3) 0), (.ref 821), (.bool true), (.int (318) 0), (.ref 822), .none, .none, .none, (.ref 823), (.int (1345) 0), (.int (844) 0), (.str "/claim/cut.py" 1346)], #[]⟩),
  (825, fnO "law" "law" pb 41 .none (.str "law_oy0341_04" 1300) (.ref 824))]
noncomputable def Kx (P : Params) : Frag := K P ++ [(738, ⟨.none, none, .fields #[], #[]⟩),
  (1, ⟨(.type "dict"), none, .dict #[de P "builtins" 162 (.ref 4), de P "__main__" 163 (.ref 5), de P "_sre" 244 (.ref 12), de P "_collections" 292 (.ref 30)] 4, #[]⟩)]
noncomputable def obsA : List Addr := [2, 3, 4, 48, 49, 62, 63, 89, 90, 92, 93, 94, 119, 120, 349, 350, 360, 366, 367, 373, 374, 380, 381, 536, 542, 543, 596, 597, 649, 655, 656, 662, 663, 664, 692, 693, 699, 700, 731, 732, 742, 743, 744, 750, 751, 757, 758, 764, 765, 771, 772, 778, 779, 785, 786, 792, 793, 799, 800, 804, 805, 809, 810, 814, 815, 819, 820, 824, 825, 738, 1]
noncomputable def obs (s : Shared) : List (Option Obj) := obsA.map s.heap.get?
noncomputable def lhs (p : Program) (w : World) := (headT treeTable p w 6000).map fun s => (openSeen (qOf p) (looseOf p) (importedModules p.main.body) (fun s => xlAt (qOf p) [] s && recOk [] s) true s.abs, obs s.abs)
noncomputable def rhs (p : Program) (k : Params → Frag) (w : World) := some (openGood (qOf p) (looseOf p), (k w.params).map fun p => some p.2)
noncomputable def kp {α : Type _} (_ : α) : Bool := true
theorem twins : kp (lhs, rhs) = true := by k_qdec
theorem look (w : World) : lhs PySem.Challenge.pw_oy0341_04 w = rhs PySem.Challenge.pw_oy0341_04 Kx w :=
  (congrFun (congrFun PySem.W.Fast.te14720033549999066060 PySem.Challenge.pw_oy0341_04) w).trans ((by kernel_rfl : PySem.W.Fast.tw14720033549999066060 PySem.Challenge.pw_oy0341_04 w = PySem.W.Fast.tw1938990355778164159 PySem.Challenge.pw_oy0341_04 Kx w).trans (congrFun (congrFun (congrFun PySem.W.Fast.te1938990355778164159 PySem.Challenge.pw_oy0341_04) Kx) w).symm)
end Mine
end
section -- Hd04b
open PySem PySem.W PyProof.Rows
set_option maxRecDepth 100000
set_option maxHeartbeats 400000
namespace Mine
noncomputable def kwd0 : List (Str × Expr) := []
noncomputable def theLaw : DefRec := match defOf q "law" with | some d => d.1 | none => ⟨"", ⟨[], [], none, [], [], none, []⟩, [], { kind := .function, names := [], isGenerator := false, isCoroutine := false }, ⟨0,0,0,0⟩⟩
set_option maxHeartbeats 4000000 in
theorem left : LeftO PySem.Challenge.rw_oy0341_04.row.prog q loose (fun s => xlAt q [] s && recOk (RowW.records PySem.Challenge.rw_oy0341_04.row.toRowW) s) (fun s => obs s) (fun w => (Kx w.params).map fun p => some p.2) 6000 :=
  leftO_of look
theorem hp : PySem.Challenge.rw_oy0341_04.row.prog.theDef PySem.Challenge.rw_oy0341_04.row.name = some (theLaw.params, theLaw.body, theLaw.scope) := by kernel_rfl
theorem hdef : defOf q PySem.Challenge.rw_oy0341_04.row.name = some (theLaw, kwd0) := by kernel_rfl
theorem hk : kwWritten? theLaw.params.kwonlyargs theLaw.params.kw_defaults = some kwd0 := by kernel_rfl
theorem okk : (chainsOk q && opensWell PySem.Challenge.rw_oy0341_04.row.prog && (frees PySem.Challenge.rw_oy0341_04.row.toRowW && PySem.Challenge.rw_oy0341_04.row.within.isEmpty)) = true := by kernel_rfl
theorem hbare : PySem.Challenge.rw_oy0341_04.row.prog.bare := ⟨by kernel_rfl, by kernel_rfl, by kernel_rfl, by kernel_rfl, by kernel_rfl, by decide +kernel⟩
theorem obsK (P : Params) : obsA = (Kx P).map (·.1) := rfl

abbrev rr : OpenRow := PySem.Challenge.rw_oy0341_04.row
theorem head1 (hw : rr.toRowW.promised) (said : rr.wellSaid = true)
    (call : WalkO q loose (XL q []) (InK Kx) rr.toRowW theLaw kwd0 fun f vs => PySem.call f vs) : rr.Holds := by
  have h1 := @holds_open rr q loose (fun s => xlAt q [] s && recOk (RowW.records PySem.Challenge.rw_oy0341_04.row.toRowW) s) (XL q []) _ (fun s => obs s) (fun w => (Kx w.params).map fun p => some p.2) (InK Kx) theLaw kwd0 6000
  have h2 := h1 left (fun w s e => InK.of obsK w s e) InK.keeps (fun s e => xl_of s (Bool.and_eq_true_iff.mp e).1) XL.keeps
  have h3 := h2 hdef hp hk (fun s e => recFacts_of (Bool.and_eq_true_iff.mp e).2)
  have h4 := h3 (by kernel_rfl) said okk hbare hw call
  exact h4
end Mine
end
section -- MToks
/-! Of any run: the tokens only grow. -/
namespace Mine
open PySem PySem.W PyProof.Rows
theorem runs_toks {M : Model} {Γ : Ctx} {p : Pos} {t : Sem Fin} {fs : List Frame} {s : Shared} {e : End} {s' : Shared} (h : Runs M Γ p t fs s e s') : s.toks ≤ s'.toks := by
  induction h with
  | done => exact Nat.le_refl _
  | raise => exact Nat.le_refl _
  | yield => exact Nat.le_refl _
  | again _ _ ih => exact ih
  | rule _ ih => exact ih
  | «at» _ ih => exact ih
  | load _ _ ih => exact ih
  | update _ _ ih => exact ih
  | loadIfAlive _ ih => exact ih
  | point _ ih => exact ih
  | alloc _ ih => exact ih
  | fresh _ ih => exact Nat.le_of_succ_le ih
  | ask _ ih => exact ih
  | choose _ _ ih => exact ih
  | os _ ih => exact ih
  | handled _ ih => exact ih
  | genState _ _ ih => exact ih
  | stack _ ih => exact ih
  | thread _ ih => exact ih
  | newGen _ ih => exact ih
  | call _ _ ih1 ih2 => exact Nat.le_trans ih1 ih2
  | callSusp _ ih => exact ih
  | resumeFresh _ _ _ _ ih1 ih2 => exact Nat.le_trans ih1 ih2
  | resumeSuspended _ _ _ _ ih1 ih2 => exact Nat.le_trans ih1 ih2
  | resumeJustStarted _ _ _ ih => exact ih
  | resumeThrowFresh _ _ ih => exact ih
  | resumeRunning _ _ ih => exact ih
  | resumeFinished _ _ ih => exact ih
  | segRet _ _ ih1 ih2 => exact Nat.le_trans ih1 ih2
  | segGen _ _ ih1 ih2 => exact Nat.le_trans ih1 ih2
  | segSuspOut _ _ ih => exact ih
  | segSuspGen _ _ _ _ ih1 ih2 => exact Nat.le_trans ih1 ih2
theorem wakes_toks {M : Model} {Γ : Ctx} {p : Pos} {g : Nat} {r : Resume} {s : Shared} {res : GenResult} {s' : Shared} (h : Wakes M Γ p g r s res s') : s.toks ≤ s'.toks :=
  have ⟨_, _, k⟩ : ∃ e s₁, Runs M Γ p (.resume g r [] fun _ => .pure (.done .next)) [] s e s₁ ∧ s₁.toks = s'.toks := ⟨_, _, (Sem.runs_resume_iff M Γ).mpr ⟨res, s', h, .done⟩, rfl⟩
  k.2 ▸ runs_toks k.1
theorem wp_toks' {α : Type} (M : Model) (Γ : Ctx) (t : Sem α) {Q : α → Pos → Shared → Prop} {E : Value → Pos → Shared → Prop} : ∀ (n : Nat) (p : Pos) (s : Shared), n ≤ s.toks →
    Sem.wp M Γ t (fun a p s' => n ≤ s'.toks → Q a p s') (fun e p s' => n ≤ s'.toks → E e p s') p s → Sem.wp M Γ t Q E p s := by
  induction t with
  | pure a => exact fun n p s hn h => h hn
  | raise e => exact fun n p s hn h => h hn
  | unsupported | finish | yield | fork | await | register => exact fun _ _ _ _ h => h
  | rule _ k ih | «at» _ k ih | alloc _ k ih | loadIfAlive _ k ih | point _ k ih | ask k ih | os _ _ k ih | handled _ k ih | newGen _ k ih | stack k ih | thread k ih => exact fun n p s hn h => ih _ n _ _ hn h
  | fresh k ih => exact fun n p s hn h => ih _ n _ _ (Nat.le_succ_of_le hn) h
  | load a _ k ih | genState a k ih => exact fun n p s hn ⟨o, ho, h⟩ => ⟨o, ho, ih _ n _ _ hn h⟩
  | update a _ f k ih | choose _ _ k ih => exact fun n p s hn ⟨ha, h⟩ => ⟨ha, ih _ n _ _ hn h⟩
  | call c h g l k ih => exact fun n p s hn ⟨r, s', hr, h⟩ => ⟨r, s', hr, ih _ n _ _ (Nat.le_trans hn (runs_toks hr)) h⟩
  | resume g r l k ih => exact fun n p s hn ⟨res, s', hw, h⟩ => ⟨res, s', hw, ih _ n _ _ (Nat.le_trans hn (wakes_toks hw)) h⟩
theorem wp_toks {α : Type} {M : Model} {A : Around} {t : Sem α} {Q : α → Shared → Prop} {E : Value → Shared → Prop} {s : Shared} (h : wpAny M A t (fun a s' => s.toks ≤ s'.toks → Q a s') (fun e s' => s.toks ≤ s'.toks → E e s') s) : wpAny M A t Q E s :=
  fun Γ p hΓ => wp_toks' M Γ t s.toks p s (Nat.le_refl _) (h Γ p hΓ)
end Mine
end
section -- MCore
set_option maxRecDepth 100000
/-! A logic of our own: abstract values, an abstract heap of objects by number, judgements over the kit's wpAny. -/
namespace Mine
open PySem PySem.W PyProof.Rows

inductive V where
  | none
  | bool (b : Bool)
  | int (i : Int)
  | str (s : Str)
  | tup (l : List V)
  | lst (l : List V)
  | rng (lo hi : Int)
  | obj (n : Nat)
  | inst (c : Addr) (n : Nat)
  | deq
  | ref
  | val (v : Value)

noncomputable def IsDeq (o : Obj) : Prop := o.cls = .type "collections.deque" ∧ o.data = .fields #[.none, .int 0 0] ∧ o.dict = none
noncomputable abbrev PH := Addr → Option Obj
noncomputable def PH.le (Z Z' : PH) : Prop := ∀ a o, Z a = some o → Z' a = some o
theorem PH.le.refl (Z : PH) : PH.le Z Z := fun _ _ h => h
theorem PH.le.trans {Z Z' Z'' : PH} (h : PH.le Z Z') (k : PH.le Z' Z'') : PH.le Z Z'' := fun a o e => k a o (h a o e)
noncomputable def PH.put (Z : PH) (a : Addr) (o : Obj) : PH := fun b => if b = a then some o else Z b
theorem PH.put_self (Z : PH) (a : Addr) (o : Obj) : Z.put a o a = some o := if_pos rfl
theorem PH.put_ne (Z : PH) {a b : Addr} (o : Obj) (h : b ≠ a) : Z.put a o b = Z b := if_neg h
theorem PH.le_put {Z : PH} {a : Addr} {o : Obj} (h : Z a = none) : PH.le Z (Z.put a o) := fun b o' e => by
  by_cases q : b = a
  · subst q; rw [h] at e; cases e
  · rw [PH.put_ne _ _ q]; exact e

noncomputable def Ext (ρ ρ' : List Addr) : Prop := ∀ (n : Nat) (a : Addr), ρ[n]? = some a → ρ'[n]? = some a
theorem Ext.refl (ρ : List Addr) : Ext ρ ρ := fun _ _ h => h
theorem Ext.trans {a b c : List Addr} (h : Ext a b) (k : Ext b c) : Ext a c := fun n x e => k n x (h n x e)
theorem Ext.snoc (ρ : List Addr) (a : Addr) : Ext ρ (ρ ++ [a]) := fun n x e => by
  rw [List.getElem?_append_left (List.getElem?_eq_some_iff.mp e).1]; exact e

mutual
inductive VR (Z : PH) (ρ : List Addr) : V → Value → Prop
  | none : VR Z ρ .none .none
  | bool (b : Bool) : VR Z ρ (.bool b) (.bool b)
  | int (i : Int) (t : Tok) : VR Z ρ (.int i) (.int i t)
  | str (x : Str) (t : Tok) : VR Z ρ (.str x) (.str x t)
  | tup {a : Addr} {ws : Array Value} {n : Nat} {vs : List V} : Z a = some { cls := .type "tuple", data := .seq ws n } → VRs Z ρ vs ws.toList → VR Z ρ (.tup vs) (.ref a)
  | lst {a : Addr} {ws : Array Value} {n : Nat} {vs : List V} : Z a = some { cls := .type "list", data := .seq ws n } → VRs Z ρ vs ws.toList → VR Z ρ (.lst vs) (.ref a)
  | rng {a : Addr} {lo hi : Int} {t1 t2 t3 : Tok} : (∀ h : Heap, (∀ o, Z a = some o → h.get? a = some o) → IsRange h a lo hi 1 t1 t2 t3) → VR Z ρ (.rng lo hi) (.ref a)
  | obj {n : Nat} {a : Addr} : ρ[n]? = some a → VR Z ρ (.obj n) (.ref a)
  | inst {x dx c : Addr} {n : Nat} : Z x = some (instObj c dx) → ρ[n]? = some dx → VR Z ρ (.inst c n) (.ref x)
  | deq {x : Addr} {o : Obj} : Z x = some o → IsDeq o → VR Z ρ .deq (.ref x)
  | ref (x : Addr) : VR Z ρ .ref (.ref x)
  | val (v : Value) : VR Z ρ (.val v) v
inductive VRs (Z : PH) (ρ : List Addr) : List V → List Value → Prop
  | nil : VRs Z ρ [] []
  | cons {v : V} {w : Value} {vs : List V} {ws : List Value} : VR Z ρ v w → VRs Z ρ vs ws → VRs Z ρ (v :: vs) (w :: ws)
end

theorem VR.both {Z : PH} {ρ : List Addr} {P : V → Value → Prop} {Q : List V → List Value → Prop} (a1 : P .none .none) (a2 : ∀ b, P (.bool b) (.bool b)) (a3 : ∀ i t, P (.int i) (.int i t)) (a4 : ∀ x t, P (.str x) (.str x t))
    (a5 : ∀ {a ws n vs}, Z a = some { cls := .type "tuple", data := .seq ws n } → VRs Z ρ vs ws.toList → Q vs ws.toList → P (.tup vs) (.ref a)) (a6 : ∀ {a ws n vs}, Z a = some { cls := .type "list", data := .seq ws n } → VRs Z ρ vs ws.toList → Q vs ws.toList → P (.lst vs) (.ref a))
    (a7 : ∀ {a lo hi t1 t2 t3}, (∀ h : Heap, (∀ o, Z a = some o → h.get? a = some o) → IsRange h a lo hi 1 t1 t2 t3) → P (.rng lo hi) (.ref a)) (a8 : ∀ {n a}, ρ[n]? = some a → P (.obj n) (.ref a)) (a9 : ∀ {x dx c n}, Z x = some (instObj c dx) → ρ[n]? = some dx → P (.inst c n) (.ref x))
    (a10 : ∀ {x o}, Z x = some o → IsDeq o → P .deq (.ref x)) (a11 : ∀ x, P .ref (.ref x)) (a12 : ∀ v, P (.val v) v) (b1 : Q [] []) (b2 : ∀ {v w vs ws}, VR Z ρ v w → VRs Z ρ vs ws → P v w → Q vs ws → Q (v :: vs) (w :: ws)) :
    (∀ {v w}, VR Z ρ v w → P v w) ∧ ∀ {vs ws}, VRs Z ρ vs ws → Q vs ws :=
  ⟨fun h => VR.rec (motive_1 := fun v w _ => P v w) (motive_2 := fun v w _ => Q v w) a1 a2 a3 a4 a5 a6 a7 a8 a9 a10 a11 a12 b1 b2 h,
   fun h => VRs.rec (motive_1 := fun v w _ => P v w) (motive_2 := fun v w _ => Q v w) a1 a2 a3 a4 a5 a6 a7 a8 a9 a10 a11 a12 b1 b2 h⟩
theorem VRs.ind {Z : PH} {ρ : List Addr} {Q : List V → List Value → Prop} (b1 : Q [] []) (b2 : ∀ {v w vs ws}, VR Z ρ v w → VRs Z ρ vs ws → Q vs ws → Q (v :: vs) (w :: ws)) {vs : List V} {ws : List Value} (h : VRs Z ρ vs ws) : Q vs ws :=
  (VR.both (P := fun _ _ => True) trivial (fun _ => trivial) (fun _ _ => trivial) (fun _ _ => trivial) (fun _ _ _ => trivial) (fun _ _ _ => trivial) (fun _ => trivial) (fun _ => trivial) (fun _ _ => trivial) (fun _ _ => trivial) (fun _ => trivial) (fun _ => trivial) b1 fun h t _ ih => b2 h t ih).2 h
theorem VR.mono2 {Z Z' : PH} {ρ ρ' : List Addr} (hz : PH.le Z Z') (hr : Ext ρ ρ') : (∀ {v w}, VR Z ρ v w → VR Z' ρ' v w) ∧ ∀ {vs ws}, VRs Z ρ vs ws → VRs Z' ρ' vs ws :=
  VR.both .none .bool .int .str (fun h1 _ ih => .tup (hz _ _ h1) ih) (fun h1 _ ih => .lst (hz _ _ h1) ih) (fun h => .rng fun hh k => h hh fun o e => k o (hz _ _ e)) (fun h => .obj (hr _ _ h)) (fun h k => .inst (hz _ _ h) (hr _ _ k)) (fun h k => .deq (hz _ _ h) k) .ref .val .nil fun _ _ h t => .cons h t
theorem VR.mono {Z Z' : PH} {ρ ρ' : List Addr} (hz : PH.le Z Z') (hr : Ext ρ ρ') {v : V} {w : Value} (h : VR Z ρ v w) : VR Z' ρ' v w := (VR.mono2 hz hr).1 h
theorem VRs.mono {Z Z' : PH} {ρ ρ' : List Addr} (hz : PH.le Z Z') (hr : Ext ρ ρ') {v : List V} {w : List Value} (h : VRs Z ρ v w) : VRs Z' ρ' v w := (VR.mono2 hz hr).2 h

theorem VRs.length {Z : PH} {ρ : List Addr} {v : List V} {w : List Value} (h : VRs Z ρ v w) : v.length = w.length := VRs.ind (Q := fun v w => v.length = w.length) rfl (fun _ _ ih => congrArg Nat.succ ih) h
theorem VRs.append {Z : PH} {ρ : List Addr} {v v' : List V} {w w' : List Value} (h : VRs Z ρ v w) (k : VRs Z ρ v' w') : VRs Z ρ (v ++ v') (w ++ w') := VRs.ind (Q := fun v w => VRs Z ρ (v ++ v') (w ++ w')) k (fun h _ ih => .cons h ih) h
theorem VRs.get {Z : PH} {ρ : List Addr} {v : List V} {w : List Value} (h : VRs Z ρ v w) : ∀ (i : Nat) (x : V), v[i]? = some x → ∃ y, w[i]? = some y ∧ VR Z ρ x y :=
  VRs.ind (Q := fun v w => ∀ (i : Nat) (x : V), v[i]? = some x → ∃ y, w[i]? = some y ∧ VR Z ρ x y) (fun i x h => nomatch h) (fun hv _ ih i x h => by
    cases i with
    | zero => exact ⟨_, rfl, Option.some.inj h ▸ hv⟩
    | succ i => exact ih i x h) h
theorem VRs.set {Z : PH} {ρ : List Addr} {x : V} {y : Value} (r : VR Z ρ x y) {v : List V} {w : List Value} (h : VRs Z ρ v w) : ∀ (i : Nat), VRs Z ρ (v.set i x) (w.set i y) :=
  VRs.ind (Q := fun v w => ∀ (i : Nat), VRs Z ρ (v.set i x) (w.set i y)) (fun _ => .nil) (fun hv t ih i => Nat.casesOn (motive := fun i => VRs Z ρ (List.set _ i x) (List.set _ i y)) i (.cons r t) fun i => .cons hv (ih i)) h
theorem VRs.take {Z : PH} {ρ : List Addr} {v : List V} {w : List Value} (h : VRs Z ρ v w) : ∀ (i : Nat), VRs Z ρ (v.take i) (w.take i) :=
  VRs.ind (Q := fun v w => ∀ (i : Nat), VRs Z ρ (v.take i) (w.take i)) (fun i => by rw [List.take_nil, List.take_nil]; exact .nil) (fun hv t ih i => Nat.casesOn (motive := fun i => VRs Z ρ (List.take i _) (List.take i _)) i .nil fun i => .cons hv (ih i)) h
theorem VRs.drop {Z : PH} {ρ : List Addr} {v : List V} {w : List Value} (h : VRs Z ρ v w) : ∀ (i : Nat), VRs Z ρ (v.drop i) (w.drop i) :=
  VRs.ind (Q := fun v w => ∀ (i : Nat), VRs Z ρ (v.drop i) (w.drop i)) (fun i => by rw [List.drop_nil, List.drop_nil]; exact .nil) (fun hv t ih i => Nat.casesOn (motive := fun i => VRs Z ρ (List.drop i _) (List.drop i _)) i (.cons hv t) fun i => ih i) h

inductive AO where
  | list (xs : List V)
  | dict (es : List (Int × V))
  | iter (xs : List V) (i : Nat)
  | ns (fs : List (Str × V))
  | codes

inductive NsR (Z : PH) (ρ : List Addr) : List (Str × V) → List DictEntry → Prop
  | nil : NsR Z ρ [] []
  | cons {x : Str} {v : V} {e : DictEntry} {fs : List (Str × V)} {es : List DictEntry} : VR Z ρ v e.val → (∃ t, e.key = .str x t) → NsR Z ρ fs es → NsR Z ρ ((x, v) :: fs) (e :: es)
theorem NsR.mono {Z Z' : PH} {ρ ρ' : List Addr} (hz : PH.le Z Z') (hr : Ext ρ ρ') {fs : List (Str × V)} {es : List DictEntry} (h : NsR Z ρ fs es) : NsR Z' ρ' fs es :=
  NsR.rec (motive := fun fs es _ => NsR Z' ρ' fs es) .nil (fun h k _ ih => .cons (h.mono hz hr) k ih) h
inductive KR (Z : PH) (ρ : List Addr) : List (Int × V) → List (Int × Value) → Prop
  | nil : KR Z ρ [] []
  | cons {k : Int} {v : V} {w : Value} {es : List (Int × V)} {kvs : List (Int × Value)} : VR Z ρ v w → KR Z ρ es kvs → KR Z ρ ((k, v) :: es) ((k, w) :: kvs)
theorem KR.mono {Z Z' : PH} {ρ ρ' : List Addr} (hz : PH.le Z Z') (hr : Ext ρ ρ') {es : List (Int × V)} {kvs : List (Int × Value)} (h : KR Z ρ es kvs) : KR Z' ρ' es kvs :=
  KR.rec (motive := fun es kvs _ => KR Z' ρ' es kvs) .nil (fun h _ ih => .cons (h.mono hz hr) ih) h
inductive DE : List (Int × Value) → List DictEntry → Prop
  | nil : DE [] []
  | cons {k : Int} {v : Value} {t : Tok} {kvs : List (Int × Value)} {es : List DictEntry} : DE kvs es → DE ((k, v) :: kvs) (⟨hashInt k, .int k t, v⟩ :: es)
noncomputable def IsD (o : Obj) (kvs : List (Int × Value)) : Prop := ∃ es ep, o.ExactDict ∧ o.data = .dict es ep ∧ DE kvs es.toList ∧ (kvs.map (·.1)).Nodup

inductive OR (P : Params) (Z : PH) (ρ : List Addr) : AO → Obj → Prop
  | list {ws : Array Value} {n : Nat} {xs : List V} : VRs Z ρ xs ws.toList → OR P Z ρ (.list xs) { cls := .type "list", data := .seq ws n }
  | iter {l : Addr} {i : Nat} {o : Obj} {xs : List V} : VR Z ρ (.lst xs) (.ref l) → i ≤ xs.length → o.cls = .type "list_iterator" → o.data = .fields #[.ref l, .int i 0] → OR P Z ρ (.iter xs i) o
  | ns {es : List DictEntry} {n : Nat} {fs : List (Str × V)} : NsR Z ρ fs es → OR P Z ρ (.ns fs) (dictOf es n)
  | dict {o : Obj} {es : List (Int × V)} {kvs : List (Int × Value)} : IsD o kvs → KR Z ρ es kvs → OR P Z ρ (.dict es) o
  | codes {o : Obj} {ps : Array Value} : o = { cls := .none, data := .fields ps } → TriplesOk ps.toList → OR P Z ρ .codes o
theorem OR.mono {P : Params} {Z Z' : PH} {ρ ρ' : List Addr} (hz : PH.le Z Z') (hr : Ext ρ ρ') {ao : AO} {o : Obj} (h : OR P Z ρ ao o) : OR P Z' ρ' ao o := by
  cases h with
  | list h => exact .list (h.mono hz hr)
  | iter h h1 h2 h3 => exact .iter (h.mono hz hr) h1 h2 h3
  | ns h => exact .ns (h.mono hz hr)
  | dict h k => exact .dict h (k.mono hz hr)
  | codes h k => exact .codes h k

structure St where
  vars : List (Str × V)
  heap : Nat → Option AO
  nx : Nat

inductive Tag where
  | free | z | r | fl | fo
  | fc (x : Str)
  | ob (n : Nat)

noncomputable def Tag.k : Tag → Nat
  | .free => 0 | .z => 1 | .r => 2 | .fl => 3 | .fc _ => 4 | .ob _ => 5 | .fo => 6
theorem tne {t a b : Tag} (e : t = a) (h : Nat.beq a.k b.k = false := by rfl) : t ≠ b := fun q => Nat.ne_of_beq_eq_false h (congrArg Tag.k (e.symm.trans q))
structure Fx where
  prog : Program
  w : World
  os : OsState
  base : PH
  d : Nat
  u : Nat
  sc : Scope
  gp : Array GenState → Drawn → Prop
  pin : Option Addr
  tk : Nat
  fr : Option (List Env) := none
  fl : PH := fun _ => none
noncomputable def Fx.A (C : Fx) : Around := { handled := none, depth := C.d, frames := C.fr, guards := none, units := C.u }
noncomputable abbrev Fx.M (C : Fx) : Model := model C.prog C.w

inductive ObjAt (P : Params) (Z : PH) (ρ : List Addr) (h : Heap) (T : Addr → Tag) (n : Nat) (ao : AO) : Prop
  | mk (a : Addr) (h1 : ρ[n]? = some a) (h2 : T a = .ob n) (o : Obj) (h3 : h.get? a = some o) (h4 : OR P Z ρ ao o)
inductive ValAt (Z : PH) (ρ : List Addr) (v : V) (x : Option Value) : Prop
  | mk (w : Value) (h1 : x = some w) (h2 : VR Z ρ v w)
inductive LocAt (sc : Scope) (Z : PH) (ρ : List Addr) (L : Addr) (vars : List (Str × V)) (h : Heap) (T : Addr → Tag) : Prop
  | mk (h1 : T L = .fl) (m : Str → Option Value) (h2 : h.Ns L m) (h3 : ∀ x v, vars.lookup x = some v → sc.names.lookup x = some .local → ValAt Z ρ v (m x))
inductive CellAt (Z : PH) (ρ : List Addr) (cells : List (Str × Addr)) (vars : List (Str × V)) (h : Heap) (T : Addr → Tag) (x : Str) : Prop
  | mk (c : Addr) (o : Option Value) (h1 : cells.lookup x = some c) (h2 : T c = .fc x) (h3 : h.IsCell c o) (h4 : ∀ v, vars.lookup x = some v → ValAt Z ρ v o)
noncomputable def FrOk (fr : Option (List Env)) (fl : PH) (env : Env) : Prop := ∀ l, fr = some l → ∃ outer, l = env :: outer ∧ env.frame = some env.locals ∧ ∀ e ∈ outer, e.scope.kind ≠ .module ∧ ∃ L o, e.frame = some L ∧ fl L = some o ∧ ∀ vs, o.data ≠ .fields vs
theorem FrOk.none_ {fr : Option (List Env)} {fl : PH} {env : Env} (h : fr = none) : FrOk fr fl env := fun l e => by rw [h] at e; cases e
structure SRT (C : Fx) (env : Env) (Z R : PH) (ρ : List Addr) (st : St) (s : Shared) (T : Addr → Tag) : Prop where
  base : PH.le C.base Z
  z : ∀ a o, Z a = some o → T a = .z ∧ s.heap.get? a = some o
  r : ∀ a o, R a = some o → T a = .r ∧ s.heap.get? a = some o
  nx : ρ.length = st.nx
  objs : ∀ n ao, st.heap n = some ao → ObjAt C.w.params Z ρ s.heap T n ao
  scope : env.scope = C.sc
  kind : C.sc.kind = .function
  globals : env.globals = mainGlobals
  builtins : env.builtins = builtinsNs
  loc : LocAt C.sc Z ρ env.locals st.vars s.heap T
  cell : ∀ x k, C.sc.names.lookup x = some k → k = .cell ∨ k = .free → CellAt Z ρ env.cells st.vars s.heap T x
  os : s.os = C.os
  tk : C.tk ≤ s.toks
  gens : C.gp s.gens s.drawn
  pin : ∀ a, C.pin = some a → ρ[0]? = some a
  fl : ∀ a o, C.fl a = some o → T a = .fo ∧ ∃ sl, s.heap.get? a = some { o with slots := sl }
  fr : FrOk C.fr C.fl env
theorem LocAt.fl {sc : Scope} {Z : PH} {ρ : List Addr} {L : Addr} {vars : List (Str × V)} {h : Heap} {T : Addr → Tag} (x : LocAt sc Z ρ L vars h T) : T L = .fl := x.rec fun h _ _ _ => h
noncomputable def SR (C : Fx) (env : Env) (Z R : PH) (ρ : List Addr) (st : St) (s : Shared) : Prop := ∃ T, SRT C env Z R ρ st s T

inductive Post (C : Fx) (env : Env) (Z R : PH) (ρ : List Addr) {α β : Type} (rel : PH → List Addr → β → α → Prop) (Q : β → St → Prop) (a : α) (s' : Shared) : Prop
  | mk (b : β) (st' : St) (Z' : PH) (ρ' : List Addr) (hz : PH.le Z Z') (hr : Ext ρ ρ') (hv : rel Z' ρ' b a) (hs : SR C env Z' R ρ' st' s') (hq : Q b st')
theorem Post.up {C : Fx} {env : Env} {Z Z₁ R : PH} {ρ ρ₁ : List Addr} {α β : Type} {rel : PH → List Addr → β → α → Prop} {Q : β → St → Prop} {a : α} {s' : Shared} (hz : PH.le Z Z₁) (hr : Ext ρ ρ₁)
    (h : Post C env Z₁ R ρ₁ rel Q a s') : Post C env Z R ρ rel Q a s' :=
  let ⟨b, st', Z', ρ', h1, h2, h3, h4, h5⟩ := h; ⟨b, st', Z', ρ', hz.trans h1, hr.trans h2, h3, h4, h5⟩
theorem Post.ex {C : Fx} {env : Env} {Z R : PH} {ρ : List Addr} {α β : Type} {rel : PH → List Addr → β → α → Prop} {Q : β → St → Prop} {a : α} {s' : Shared} {P : Prop} (h : Post C env Z R ρ rel Q a s')
    (k : ∀ b st' Z' ρ', PH.le Z Z' → Ext ρ ρ' → rel Z' ρ' b a → SR C env Z' R ρ' st' s' → Q b st' → P) : P :=
  let ⟨b, st', Z', ρ', h1, h2, h3, h4, h5⟩ := h; k b st' Z' ρ' h1 h2 h3 h4 h5

noncomputable abbrev noE : Value → Shared → Prop := fun _ _ => False
theorem wp_use {C : Fx} {env : Env} {Z R : PH} {ρ : List Addr} {α β : Type} {rel : PH → List Addr → β → α → Prop} {Q : β → St → Prop} {t : Sem α} {s : Shared} (h : wpAny C.M C.A t (Post C env Z R ρ rel Q) noE s) {P : α → Shared → Prop} {E : Value → Shared → Prop}
    (k : ∀ a s' b st' Z' ρ', PH.le Z Z' → Ext ρ ρ' → rel Z' ρ' b a → SR C env Z' R ρ' st' s' → Q b st' → P a s') : wpAny C.M C.A t P E s :=
  wpAny_mono h (fun a s' pp => pp.ex fun b st' Z' ρ' h1 h2 h3 h4 h5 => k a s' b st' Z' ρ' h1 h2 h3 h4 h5) fun _ _ e => e.elim
theorem wp_up {C : Fx} {env : Env} {Z R Z₁ : PH} {ρ ρ₁ : List Addr} {α β : Type} {rel : PH → List Addr → β → α → Prop} {Q : β → St → Prop} {t : Sem α} {s : Shared} (hz : PH.le Z Z₁) (hr : Ext ρ ρ₁) (h : wpAny C.M C.A t (Post C env Z₁ R ρ₁ rel Q) noE s) : wpAny C.M C.A t (Post C env Z R ρ rel Q) noE s :=
  wpAny_mono h (fun _ _ p => p.up hz hr) fun _ _ e => e
theorem wp_gen {α : Type} {M : Model} {A : Around} {t : Sem α} {P₀ : α → Shared → Prop} {E : Value → Shared → Prop} {s : Shared} (h : ∀ P : α → Shared → Prop, (∀ a s', P₀ a s' → P a s') → wpAny M A t P E s) : wpAny M A t P₀ E s := h P₀ fun _ _ x => x
theorem wpAny_weaker {α : Type} {M : Model} {A A' : Around} {t : Sem α} {Q : α → Shared → Prop} {E : Value → Shared → Prop} {s : Shared} (h0 : A.handled = A'.handled) (h1 : A'.depth ≤ A.depth) (h2 : A.frames = none) (h3 : A.guards = none) (h4 : A'.units ≤ A.units) (h : wpAny M A t Q E s) : wpAny M A' t Q E s :=
  fun Γ p x => h Γ p ⟨x.1.trans h0.symm, Nat.le_trans x.2.1 h1, (by rw [h2]; intro l e; cases e), (by rw [h3]; intro l e; cases e), Nat.le_trans x.2.2.2.2 h4⟩
theorem codeAny_weaker {M : Model} {A A' : Around} {c : Code} {R : Result → Shared → Prop} {s : Shared} (h0 : A.handled = A'.handled) (h1 : A'.depth ≤ A.depth) (h2 : A.frames = none) (h3 : A.guards = none) (h4 : A'.units ≤ A.units) (h : codeAny M A c R s) : codeAny M A' c R s :=
  fun Γ p e x => h Γ p e ⟨x.1.trans h0.symm, Nat.le_trans x.2.1 h1, (by rw [h2]; intro l e; cases e), (by rw [h3]; intro l e; cases e), Nat.le_trans x.2.2.2.2 h4⟩
noncomputable def J (C : Fx) {α β : Type} (rel : PH → List Addr → β → α → Prop) (m : Env → Sem α) (st : St) (Q : β → St → Prop) : Prop :=
  ∀ env Z R ρ s, SR C env Z R ρ st s → wpAny C.M C.A (m env) (Post C env Z R ρ rel Q) noE s
noncomputable def JV (C : Fx) {α β : Type} (rel : PH → List Addr → β → α → Prop) (vs : List V) (f : List Value → Sem α) (st : St) (Q : β → St → Prop) : Prop :=
  ∀ env Z R ρ s ws, SR C env Z R ρ st s → VRs Z ρ vs ws → wpAny C.M C.A (f ws) (Post C env Z R ρ rel Q) noE s

noncomputable def rBool (_ : PH) (_ : List Addr) (b a : Bool) : Prop := a = b
noncomputable def rUnit (_ : PH) (_ : List Addr) (_ : Unit) (_ : Unit) : Prop := True

inductive FlowA where
  | next | brk | cont
  | ret (v : V)
inductive rFlow (Z : PH) (ρ : List Addr) : FlowA → Flow → Prop
  | next : rFlow Z ρ .next .next
  | brk : rFlow Z ρ .brk .brk
  | cont : rFlow Z ρ .cont .cont
  | ret {v : V} {w : Value} : VR Z ρ v w → rFlow Z ρ (.ret v) (.ret w)
theorem J.mono {C : Fx} {α β : Type} {rel : PH → List Addr → β → α → Prop} {m : Env → Sem α} {st : St} {Q Q' : β → St → Prop} (h : J C rel m st Q) (k : ∀ b st', Q b st' → Q' b st') : J C rel m st Q' :=
  fun env Z R ρ s hs => wpAny_mono (h env Z R ρ s hs) (fun _ _ ⟨b, st', Z', ρ', h1, h2, h3, h4, h5⟩ => ⟨b, st', Z', ρ', h1, h2, h3, h4, k _ _ h5⟩) fun _ _ e => e
end Mine
end
section -- MOps
set_option maxRecDepth 100000
namespace Mine
open PySem PySem.W PyProof.Rows

noncomputable def upd {α : Type} (H : Nat → Option α) (n : Nat) (x : α) : Nat → Option α := fun k => if k = n then some x else H k
theorem upd_self {α : Type} (H : Nat → Option α) (n : Nat) (x : α) : upd H n x n = some x := if_pos rfl
theorem upd_ne {α : Type} (H : Nat → Option α) {n k : Nat} (x : α) (h : k ≠ n) : upd H n x k = H k := if_neg h

section
variable {C : Fx} {env : Env} {Z R : PH} {ρ : List Addr} {st : St} {s : Shared} {T : Addr → Tag}

theorem SRT.keep0 {s' : Shared} (h : SRT C env Z R ρ st s T) (hk : ∀ b o, s.heap.get? b = some o → s'.heap.get? b = some o) (hos : s'.os = s.os) (hg : C.gp s'.gens s'.drawn) (htk : C.tk ≤ s'.toks) : SRT C env Z R ρ st s' T where
  tk := htk
  base := h.base
  z := fun a o e => ⟨(h.z a o e).1, hk _ _ (h.z a o e).2⟩
  r := fun a o e => ⟨(h.r a o e).1, hk _ _ (h.r a o e).2⟩
  nx := h.nx
  objs := fun n ao e => let ⟨a, h1, h2, o, h3, h4⟩ := h.objs n ao e; ⟨a, h1, h2, o, hk _ _ h3, h4⟩
  scope := h.scope
  kind := h.kind
  globals := h.globals
  builtins := h.builtins
  loc := let ⟨h1, m, h2, h3⟩ := h.loc; ⟨h1, m, h2.keeps hk, h3⟩
  cell := fun x k h1 h2 => let ⟨c, o, h3, h4, h5, h6⟩ := h.cell x k h1 h2; ⟨c, o, h3, h4, h5.keeps hk, h6⟩
  os := hos.trans h.os
  gens := hg
  pin := h.pin
  fl := fun b o e => ⟨(h.fl b o e).1, (h.fl b o e).2.imp fun _ q => hk _ _ q⟩
  fr := h.fr

theorem SRT.keep {s' : Shared} (h : SRT C env Z R ρ st s T) (hk : ∀ b o, s.heap.get? b = some o → s'.heap.get? b = some o) (hos : s'.os = s.os) (hg : C.gp s'.gens s'.drawn) (htk : s.toks ≤ s'.toks := by first | exact Nat.le_refl _ | omega) : SRT C env Z R ρ st s' T := h.keep0 hk hos hg (Nat.le_trans h.tk htk)

theorem SRT.retag (h : SRT C env Z R ρ st s T) {a : Addr} (ha : s.heap.get? a = none) (t : Tag) : SRT C env Z R ρ st s (fun b => if b = a then t else T b) := by
  have ne : ∀ b o, s.heap.get? b = some o → b ≠ a := fun b o e q => by subst q; rw [ha] at e; cases e
  exact {
    tk := h.tk
    base := h.base
    z := fun b o e => ⟨by rw [if_neg (ne b o (h.z b o e).2)]; exact (h.z b o e).1, (h.z b o e).2⟩
    r := fun b o e => ⟨by rw [if_neg (ne b o (h.r b o e).2)]; exact (h.r b o e).1, (h.r b o e).2⟩
    nx := h.nx
    objs := fun n ao e => let ⟨b, h1, h2, o, h3, h4⟩ := h.objs n ao e; ⟨b, h1, by rw [if_neg (ne b o h3)]; exact h2, o, h3, h4⟩
    scope := h.scope
    kind := h.kind
    globals := h.globals
    builtins := h.builtins
    loc := let ⟨h1, m, h2, h3⟩ := h.loc; ⟨by obtain ⟨o, es, ep, ho, _⟩ := h2; rw [if_neg (ne _ _ ho)]; exact h1, m, h2, h3⟩
    cell := fun x k h1 h2 => let ⟨c, o, h3, h4, h5, h6⟩ := h.cell x k h1 h2; ⟨c, o, h3, by obtain ⟨ob, ho, _⟩ := h5; rw [if_neg (ne _ _ ho)]; exact h4, h5, h6⟩
    os := h.os
    gens := h.gens
    pin := h.pin
    fl := fun b o e => (h.fl b o e).2.elim fun sl q => ⟨by rw [if_neg (ne _ _ q)]; exact (h.fl b o e).1, sl, q⟩
    fr := h.fr }

theorem fresh_none (h : Heap) : h.get? h.objs.size = none := by
  cases e : h.get? h.objs.size with
  | none => rfl
  | some o => exact absurd (Heap.lt_size e) (Nat.lt_irrefl _)
theorem SRT.znone (h : SRT C env Z R ρ st s T) {a : Addr} (ha : s.heap.get? a = none) : Z a = none := by
  cases e : Z a with
  | none => rfl
  | some o => have := (h.z a o e).2; rw [ha] at this; cases this

theorem SR.allocZ (h : SR C env Z R ρ st s) (o : Obj) (tk : Nat) (hf : o.isFreed = false := by rfl) (htk : s.toks ≤ tk := by first | exact Nat.le_refl _ | omega) :
    PH.le Z (Z.put s.heap.objs.size o) ∧ SR C env (Z.put s.heap.objs.size o) R ρ st { s with heap := s.heap.push o, toks := tk } := by
  obtain ⟨T, h⟩ := h
  have hn := fresh_none s.heap
  have hz := h.znone hn
  have le := PH.le_put (o := o) hz
  refine ⟨le, fun b => if b = s.heap.objs.size then .z else T b, ?_⟩
  have k := ((h.retag hn .z).keep (s' := { s with heap := s.heap.push o, toks := tk }) (fun b o' e => Heap.get?_push_of_some _ e) rfl h.gens)
  exact { k with
    base := k.base.trans le
    z := fun b o' e => by
      by_cases q : b = s.heap.objs.size
      · subst q; rw [PH.put_self] at e; cases e
        exact ⟨if_pos rfl, Heap.get?_push_size _ hf⟩
      · rw [PH.put_ne _ _ q] at e; exact k.z b o' e
    objs := fun n ao e => let ⟨b, h1, h2, o', h3, h4⟩ := k.objs n ao e; ⟨b, h1, h2, o', h3, h4.mono le (Ext.refl _)⟩
    loc := let ⟨h1, m, h2, h3⟩ := k.loc; ⟨h1, m, h2, fun x v e1 e2 => let ⟨w, e3, e4⟩ := h3 x v e1 e2; ⟨w, e3, e4.mono le (Ext.refl _)⟩⟩
    cell := fun x kk h1 h2 => let ⟨c, o', h3, h4, h5, h6⟩ := k.cell x kk h1 h2; ⟨c, o', h3, h4, h5, fun v e => let ⟨w, e3, e4⟩ := h6 v e; ⟨w, e3, e4.mono le (Ext.refl _)⟩⟩ }

theorem SR.allocO (h : SR C env Z R ρ st s) (o : Obj) (ao : AO) (tk : Nat) (hr : OR C.w.params Z ρ ao o) (hf : o.isFreed = false := by rfl) (htk : s.toks ≤ tk := by first | exact Nat.le_refl _ | omega) :
    SR C env Z R (ρ ++ [s.heap.objs.size]) { st with heap := upd st.heap st.nx ao, nx := st.nx + 1 } { s with heap := s.heap.push o, toks := tk } := by
  obtain ⟨T, h⟩ := h
  have hn := fresh_none s.heap
  have ex := Ext.snoc ρ s.heap.objs.size
  refine ⟨fun b => if b = s.heap.objs.size then .ob st.nx else T b, ?_⟩
  have k := ((h.retag hn (.ob st.nx)).keep (s' := { s with heap := s.heap.push o, toks := tk }) (fun b o' e => Heap.get?_push_of_some _ e) rfl h.gens)
  exact { k with
    nx := by rw [List.length_append, h.nx]; rfl
    pin := fun a e => ex _ _ (k.pin a e)
    objs := fun n ao' e => by
      by_cases q : n = st.nx
      · subst q
        dsimp only at e
        rw [upd_self] at e; cases e
        exact ⟨s.heap.objs.size, by rw [List.getElem?_append_right (by rw [h.nx]; exact Nat.le_refl _), h.nx, Nat.sub_self]; rfl, if_pos rfl, o, Heap.get?_push_size _ hf, hr.mono (PH.le.refl _) ex⟩
      · dsimp only at e
        rw [upd_ne _ _ q] at e
        obtain ⟨b, h1, h2, o', h3, h4⟩ := k.objs n ao' e
        exact ⟨b, ex _ _ h1, h2, o', h3, h4.mono (PH.le.refl _) ex⟩
    loc := let ⟨h1, m, h2, h3⟩ := k.loc; ⟨h1, m, h2, fun x v e1 e2 => let ⟨w, e3, e4⟩ := h3 x v e1 e2; ⟨w, e3, e4.mono (PH.le.refl _) ex⟩⟩
    cell := fun x kk h1 h2 => let ⟨c, o', h3, h4, h5, h6⟩ := k.cell x kk h1 h2; ⟨c, o', h3, h4, h5, fun v e => let ⟨w, e3, e4⟩ := h6 v e; ⟨w, e3, e4.mono (PH.le.refl _) ex⟩⟩ }

theorem SR.keep {s' : Shared} (h : SR C env Z R ρ st s) (hk : ∀ b o, s.heap.get? b = some o → s'.heap.get? b = some o) (hos : s'.os = s.os := by rfl) (hg : s'.gens = s.gens := by rfl) (hdr : s'.drawn = s.drawn := by rfl) (htk : s.toks ≤ s'.toks := by first | exact Nat.le_refl _ | omega) : SR C env Z R ρ st s' := by
  obtain ⟨T, h⟩ := h
  exact ⟨T, h.keep hk hos (by rw [hg, hdr]; exact h.gens)⟩
theorem SR.keep0 {s' : Shared} (h : SR C env Z R ρ st s) (hk : ∀ b o, s.heap.get? b = some o → s'.heap.get? b = some o) (htk : C.tk ≤ s'.toks) (hos : s'.os = s.os := by rfl) (hg : s'.gens = s.gens := by rfl) (hdr : s'.drawn = s.drawn := by rfl) : SR C env Z R ρ st s' := by
  obtain ⟨T, h⟩ := h
  exact ⟨T, h.keep0 hk hos (by rw [hg, hdr]; exact h.gens) htk⟩
theorem SR.tk_ (h : SR C env Z R ρ st s) : C.tk ≤ s.toks := let ⟨_, k⟩ := h; k.tk
theorem SR.tok (h : SR C env Z R ρ st s) (tk : Nat) (htk : s.toks ≤ tk := by first | exact Nat.le_refl _ | omega) : SR C env Z R ρ st { s with toks := tk } := h.keep fun _ _ e => e

theorem SR.obj (h : SR C env Z R ρ st s) {n : Nat} {ao : AO} (e : st.heap n = some ao) : ∃ a o, ρ[n]? = some a ∧ s.heap.get? a = some o ∧ OR C.w.params Z ρ ao o := by
  obtain ⟨T, h⟩ := h
  obtain ⟨a, h1, _, o, h2, h3⟩ := h.objs n ao e
  exact ⟨a, o, h1, h2, h3⟩

theorem SR.extO0 {s' : Shared} (h : SR C env Z R ρ st s) {n : Nat} {ao ao' : AO} {a : Addr} {o' : Obj} (e : st.heap n = some ao) (ea : ρ[n]? = some a)
    (hk : ∀ b o, b ≠ a → s.heap.get? b = some o → s'.heap.get? b = some o) (ho : s'.heap.get? a = some o') (hr : OR C.w.params Z ρ ao' o') (hos : s'.os = s.os) (hg : C.gp s'.gens s'.drawn) (htk : C.tk ≤ s'.toks) : SR C env Z R ρ { st with heap := upd st.heap n ao' } s' := by
  obtain ⟨T, h⟩ := h
  obtain ⟨a', h1, ht, _⟩ := h.objs n ao e
  rw [ea] at h1; cases h1
  have kp : ∀ b o, T b ≠ .ob n → s.heap.get? b = some o → s'.heap.get? b = some o := fun b o q => hk b o (fun z => by subst z; exact q ht)
  refine ⟨T, ?_⟩
  exact {
    tk := htk
    base := h.base
    z := fun b o e => ⟨(h.z b o e).1, kp b o (tne (h.z b o e).1) (h.z b o e).2⟩
    r := fun b o e => ⟨(h.r b o e).1, kp b o (tne (h.r b o e).1) (h.r b o e).2⟩
    nx := h.nx
    objs := fun k ao'' e' => by
      by_cases q : k = n
      · subst q
        dsimp only at e'
        rw [upd_self] at e'; cases e'
        exact ⟨a, ea, ht, o', ho, hr⟩
      · dsimp only at e'
        rw [upd_ne _ _ q] at e'
        obtain ⟨b, h1, h2, o'', h3, h4⟩ := h.objs k ao'' e'
        exact ⟨b, h1, h2, o'', kp b o'' (by rw [h2]; intro z; cases z; exact q rfl) h3, h4⟩
    scope := h.scope
    kind := h.kind
    globals := h.globals
    builtins := h.builtins
    loc := let ⟨h1, m, h2, h3⟩ := h.loc; ⟨h1, m, h2.at' fun o e => kp _ o (tne h1) e, h3⟩
    cell := fun x kk h1 h2 => let ⟨c, o', h3, h4, h5, h6⟩ := h.cell x kk h1 h2; ⟨c, o', h3, h4, let ⟨ob, q1, q2⟩ := h5; ⟨ob, kp c ob (tne h4) q1, q2⟩, h6⟩
    os := hos.trans h.os
    gens := hg
    pin := h.pin
    fl := fun b o e => ⟨(h.fl b o e).1, (h.fl b o e).2.imp fun _ q => kp b _ (tne (h.fl b o e).1) q⟩
    fr := h.fr }

theorem SR.extO {s' : Shared} (h : SR C env Z R ρ st s) {n : Nat} {ao ao' : AO} {a : Addr} {o' : Obj} (e : st.heap n = some ao) (ea : ρ[n]? = some a)
    (hk : ∀ b o, b ≠ a → s.heap.get? b = some o → s'.heap.get? b = some o) (ho : s'.heap.get? a = some o') (hr : OR C.w.params Z ρ ao' o') (hos : s'.os = s.os) (hg : C.gp s'.gens s'.drawn) (htk : s.toks ≤ s'.toks := by first | exact Nat.le_refl _ | omega) : SR C env Z R ρ { st with heap := upd st.heap n ao' } s' :=
  h.extO0 e ea hk ho hr hos hg (Nat.le_trans h.tk_ htk)
theorem SR.updO (h : SR C env Z R ρ st s) {n : Nat} {ao ao' : AO} {a : Addr} {o' : Obj} {h' : Heap} {tk : Nat} (e : st.heap n = some ao) (ea : ρ[n]? = some a) (hs : Heap.SameBut a s.heap h')
    (ho : h'.get? a = some o') (hr : OR C.w.params Z ρ ao' o') (htk : s.toks ≤ tk := by first | exact Nat.le_refl _ | omega) : SR C env Z R ρ { st with heap := upd st.heap n ao' } { s with heap := h', toks := tk } :=
  h.extO e ea (fun b o q e => (hs.2 b q).trans e) ho hr rfl (let ⟨_, k⟩ := h; k.gens)
end
end Mine
end
section -- MRules
set_option maxRecDepth 100000
namespace Mine
open PySem PySem.W PyProof.Rows

noncomputable def one {α : Type} (f : Value → Sem α) : List Value → Sem α
  | [x] => f x
  | _ => unsupported ""
noncomputable def two {α : Type} (f : Value → Value → Sem α) : List Value → Sem α
  | [x, y] => f x y
  | _ => unsupported ""
noncomputable def three {α : Type} (f : Value → Value → Value → Sem α) : List Value → Sem α
  | [x, y, z] => f x y z
  | _ => unsupported ""
section
variable {C : Fx} {st : St}

theorem SR.scope_ {env : Env} {Z R : PH} {ρ : List Addr} {s : Shared} (h : SR C env Z R ρ st s) : env.scope = C.sc := let ⟨_, h⟩ := h; h.scope
theorem SR.kind_ {env : Env} {Z R : PH} {ρ : List Addr} {s : Shared} (h : SR C env Z R ρ st s) : env.scope.kind = .function := let ⟨_, h⟩ := h; h.scope ▸ h.kind
theorem SR.kindOf_ {env : Env} {Z R : PH} {ρ : List Addr} {s : Shared} (h : SR C env Z R ρ st s) (x : Str) : env.kindOf x = C.sc.names.lookup x := by unfold Env.kindOf; rw [h.scope_]
theorem SR.z_ {env : Env} {Z R : PH} {ρ : List Addr} {s : Shared} (h : SR C env Z R ρ st s) {a : Addr} {o : Obj} (e : Z a = some o) : s.heap.get? a = some o := let ⟨_, h⟩ := h; (h.z a o e).2
theorem SR.base_ {env : Env} {Z R : PH} {ρ : List Addr} {s : Shared} (h : SR C env Z R ρ st s) {a : Addr} {o : Obj} (e : C.base a = some o) : s.heap.get? a = some o := let ⟨_, k⟩ := h; h.z_ (k.base a o e)
theorem SR.post {env : Env} {Z R : PH} {ρ : List Addr} {s : Shared} {α β : Type} {rel : PH → List Addr → β → α → Prop} {Q : β → St → Prop} {b : β} {a : α} (h : SR C env Z R ρ st s) (r : rel Z ρ b a) (q : Q b st) : Post C env Z R ρ rel Q a s :=
  ⟨b, st, Z, ρ, PH.le.refl _, Ext.refl _, r, h, q⟩

noncomputable def Knows (B : PH) (P : Heap → Prop) : Prop := ∀ h : Heap, (∀ a o, B a = some o → h.get? a = some o) → P h
theorem SR.knows {env : Env} {Z R : PH} {ρ : List Addr} {s : Shared} (h : SR C env Z R ρ st s) {P : Heap → Prop} (k : Knows C.base P) : P s.heap := k _ fun _ _ e => h.base_ e

noncomputable def Glo (B : PH) (x : Str) (v : Value) : Prop := Knows B fun h => ∃ mg, h.Ns mainGlobals mg ∧ mg x = some v
noncomputable def Blt (B : PH) (x : Str) (v : Value) : Prop := Knows B fun h => ∃ mg mb, h.Ns mainGlobals mg ∧ mg x = none ∧ h.Ns builtinsNs mb ∧ mb x = some v

theorem ev_Const_int {i : Int} {k : Nat} {pos : Pos} {Q : V → St → Prop} (h : Q (.int i) st) : J C VR (eval (.Constant (.int i) k pos)) st Q :=
  fun env Z R ρ s hs => wpAny_Constant_int (SR.post (hs.tok _) (.int i _) h)
theorem ev_Const_str {x : Str} {k : Nat} {pos : Pos} {Q : V → St → Prop} (h : Q (.str x) st) : J C VR (eval (.Constant (.str x) k pos)) st Q :=
  fun env Z R ρ s hs => wpAny_Constant_str (SR.post (hs.tok _) (.str x _) h)
theorem ev_Const_none {k : Nat} {pos : Pos} {Q : V → St → Prop} (h : Q .none st) : J C VR (eval (.Constant .none k pos)) st Q :=
  fun env Z R ρ s hs => wpAny_Constant_none (SR.post hs .none h)
theorem ev_Const_bool {b : Bool} {k : Nat} {pos : Pos} {Q : V → St → Prop} (h : Q (.bool b) st) : J C VR (eval (.Constant (.bool b) k pos)) st Q :=
  fun env Z R ρ s hs => wpAny_Constant_bool (SR.post hs (.bool b) h)

theorem ld_Name {x : Str} {v : V} {k : NameKind} {Q : V → St → Prop} (hv : st.vars.lookup x = some v) (hk : C.sc.names.lookup x = some k) (h : Q v st)
    (hkk : k = .local ∨ k = .cell ∨ k = .free := by decide) (hc : (x == ("__classdict__" : Str)) = false := by decide) : J C VR (fun env => loadName env x) st Q :=
  fun env Z R ρ s hs => by
    obtain ⟨T, hT⟩ := id hs
    have e := (hs.kindOf_ x).trans hk
    rcases hkk with rfl | rfl | rfl
    · obtain ⟨_, m, hn, hm⟩ := hT.loc
      obtain ⟨w, hw, r⟩ := hm x v hv hk
      exact wpAny_loadName_local hs.kind_ e hn hw (SR.post hs r h)
    · obtain ⟨c, o, h1, _, h2, h3⟩ := hT.cell x _ hk (.inl rfl)
      obtain ⟨w, rfl, r⟩ := h3 v hv
      exact wpAny_loadName_cell hs.kind_ e h1 h2 (SR.post hs r h)
    · obtain ⟨c, o, h1, _, h2, h3⟩ := hT.cell x _ hk (.inr rfl)
      obtain ⟨w, rfl, r⟩ := h3 v hv
      exact wpAny_loadName_free hs.kind_ e h1 h2 (SR.post hs r h) hc
theorem ev_Name {x : Str} {pos : Pos} {v : V} {k : NameKind} {Q : V → St → Prop} (hv : st.vars.lookup x = some v) (hk : C.sc.names.lookup x = some k) (h : Q v st)
    (hkk : k = .local ∨ k = .cell ∨ k = .free := by decide) (hc : (x == ("__classdict__" : Str)) = false := by decide) (hd : (x == ("__debug__" : Str)) = false := by decide) : J C VR (eval (.Name x pos)) st Q :=
  fun env Z R ρ s hs => wpAny_Name (ld_Name hv hk h hkk hc env Z R ρ s hs) hd
theorem ev_Glo {x : Str} {pos : Pos} {v : Value} {Q : V → St → Prop} (hg : Glo C.base x v) (hk : C.sc.names.lookup x = some .globalImplicit) (h : Q (.val v) st) (hd : (x == ("__debug__" : Str)) = false := by decide) : J C VR (eval (.Name x pos)) st Q :=
  fun env Z R ρ s hs => by
    obtain ⟨mg, h1, h2⟩ := hs.knows hg
    obtain ⟨T, hT⟩ := id hs
    exact Calls.Name_function_global hs.kind_ ((hs.kindOf_ x).trans hk) (Calls.loadGlobal_global (by rw [hT.globals]; exact h1) h2 (SR.post hs (.val v) h)) hd
theorem ev_Blt {x : Str} {pos : Pos} {v : Value} {Q : V → St → Prop} (hg : Blt C.base x v) (hk : C.sc.names.lookup x = some .globalImplicit) (h : Q (.val v) st) (hd : (x == ("__debug__" : Str)) = false := by decide) : J C VR (eval (.Name x pos)) st Q :=
  fun env Z R ρ s hs => by
    obtain ⟨mg, mb, h1, h2, h3, h4⟩ := hs.knows hg
    obtain ⟨T, hT⟩ := id hs
    exact Calls.Name_function_global hs.kind_ ((hs.kindOf_ x).trans hk) (Calls.loadGlobal_builtin (by rw [hT.globals]; exact h1) h2 (by rw [hT.builtins]; exact h3) h4 (SR.post hs (.val v) h)) hd

theorem ev_BinOp {l r : Expr} {op : Operator} {pos : Pos} {Q : V → St → Prop}
    (h : J C VR (eval l) st fun a st₁ => J C VR (eval r) st₁ fun b st₂ => JV C VR [a, b] (two (binaryOp op)) st₂ Q) : J C VR (eval (.BinOp l op r pos)) st Q :=
  fun env Z R ρ s hs => wpAny_BinOp (wp_use (h env Z R ρ s hs) (fun a s₁ va st₁ Z₁ ρ₁ hz hr ra hs₁ h₁ =>
    wp_use (h₁ env Z₁ R ρ₁ s₁ hs₁) (fun b s₂ vb st₂ Z₂ ρ₂ hz2 hr2 rb hs₂ h₂ =>
      wp_up (hz.trans hz2) (hr.trans hr2) (h₂ env Z₂ R ρ₂ s₂ [a, b] hs₂ (.cons (ra.mono hz2 hr2) (.cons rb .nil))))))
theorem ev_Compare {l r : Expr} {op : CmpOp} {pos : Pos} {Q : V → St → Prop}
    (h : J C VR (eval l) st fun a st₁ => J C VR (eval r) st₁ fun b st₂ => JV C VR [a, b] (two (compareOp op)) st₂ Q) (hm : behindInMarks op r = false := by with_unfolding_all rfl) : J C VR (eval (.Compare l [op] [r] pos)) st Q :=
  fun env Z R ρ s hs => wpAny_Compare1 (wp_use (h env Z R ρ s hs) (fun a s₁ va st₁ Z₁ ρ₁ hz hr ra hs₁ h₁ =>
    wp_use (h₁ env Z₁ R ρ₁ s₁ hs₁) (fun b s₂ vb st₂ Z₂ ρ₂ hz2 hr2 rb hs₂ h₂ =>
      wp_up (hz.trans hz2) (hr.trans hr2) (h₂ env Z₂ R ρ₂ s₂ [a, b] hs₂ (.cons (ra.mono hz2 hr2) (.cons rb .nil)))))) hm
theorem ev_UnaryOp {x : Expr} {op : UnaryOp} {pos : Pos} {Q : V → St → Prop} (h : J C VR (eval x) st fun a st₁ => JV C VR [a] (one (unaryOp op)) st₁ Q) : J C VR (eval (.UnaryOp op x pos)) st Q :=
  fun env Z R ρ s hs => wpAny_UnaryOp (wp_use (h env Z R ρ s hs) (fun a s₁ va st₁ Z₁ ρ₁ hz hr ra hs₁ h₁ =>
    wp_up hz hr (h₁ env Z₁ R ρ₁ s₁ [a] hs₁ (.cons ra .nil))))

noncomputable abbrev JT (C : Fx) (e : Expr) (st : St) (Q : Bool → St → Prop) : Prop := J C rBool (fun env => isTrue e env (eval e env)) st Q
theorem Post.bool {env : Env} {Z R : PH} {ρ : List Addr} {Q : Bool → St → Prop} {a : Bool} {s' : Shared} (p : Post C env Z R ρ rBool Q a s') : ∃ st' Z' ρ', PH.le Z Z' ∧ Ext ρ ρ' ∧ SR C env Z' R ρ' st' s' ∧ Q a st' :=
  p.ex fun b st' Z' ρ' h1 h2 e h3 h4 => ⟨st', Z', ρ', h1, h2, h3, (show a = b from e) ▸ h4⟩
theorem wp_ite {env : Env} {Z R : PH} {ρ : List Addr} {A B : St → Prop} {t : Sem Bool} {s : Shared} (h : wpAny C.M C.A t (Post C env Z R ρ rBool fun c st => (c = true → A st) ∧ (c = false → B st)) noE s) {X Y : Shared → Prop} {E : Value → Shared → Prop}
    (k1 : ∀ s' st' Z' ρ', PH.le Z Z' → Ext ρ ρ' → SR C env Z' R ρ' st' s' → A st' → X s') (k2 : ∀ s' st' Z' ρ', PH.le Z Z' → Ext ρ ρ' → SR C env Z' R ρ' st' s' → B st' → Y s') : wpAny C.M C.A t (fun c s' => if c = true then X s' else Y s') E s :=
  wp_use h fun a s' b st' Z' ρ' h1 h2 h3 h4 h5 => by
    cases show a = b from h3
    cases a with
    | true => exact k1 s' st' Z' ρ' h1 h2 h4 (h5.1 rfl)
    | false => exact k2 s' st' Z' ρ' h1 h2 h4 (h5.2 rfl)

theorem ev_IfExp {t b o : Expr} {pos : Pos} {Q : V → St → Prop} (h : JT C t st fun c st₁ => (c = true → J C VR (eval b) st₁ Q) ∧ (c = false → J C VR (eval o) st₁ Q)) : J C VR (eval (.IfExp t b o pos)) st Q :=
  fun env Z R ρ s hs => wpAny_IfExp (wp_ite (h env Z R ρ s hs) (fun s₁ _ Z₁ ρ₁ hz hr hs₁ h1 => wp_up hz hr (h1 env Z₁ R ρ₁ s₁ hs₁)) fun s₁ _ Z₁ ρ₁ hz hr hs₁ h1 => wp_up hz hr (h1 env Z₁ R ρ₁ s₁ hs₁))

theorem tt_Compare {l r : Expr} {op : CmpOp} {pos : Pos} {Q : Bool → St → Prop}
    (h : J C VR (eval l) st fun a st₁ => J C VR (eval r) st₁ fun b st₂ => JV C VR [a, b] (two (compareOp op)) st₂ fun c st₃ => JV C rBool [c] (one truthy) st₃ Q) (hm : behindInMarks op r = false := by with_unfolding_all rfl) : JT C (.Compare l [op] [r] pos) st Q :=
  fun env Z R ρ s hs => wpAny_isTrue_Compare1 (wp_use (h env Z R ρ s hs) (fun a s₁ va st₁ Z₁ ρ₁ hz hr ra hs₁ h₁ =>
    wp_use (h₁ env Z₁ R ρ₁ s₁ hs₁) (fun b s₂ vb st₂ Z₂ ρ₂ hz2 hr2 rb hs₂ h₂ =>
      wp_use (h₂ env Z₂ R ρ₂ s₂ [a, b] hs₂ (.cons (ra.mono hz2 hr2) (.cons rb .nil))) (fun c s₃ vc st₃ Z₃ ρ₃ hz3 hr3 rc hs₃ h₃ =>
        wp_up ((hz.trans hz2).trans hz3) ((hr.trans hr2).trans hr3) (h₃ env Z₃ R ρ₃ s₃ [c] hs₃ (.cons rc .nil)))))) hm
theorem tt_Not {x : Expr} {pos : Pos} {Q : Bool → St → Prop} (h : JT C x st fun b st₁ => Q (!b) st₁) : JT C (.UnaryOp .Not x pos) st Q :=
  fun env Z R ρ s hs => wpAny_isTrue_Not (wpAny_mono (h env Z R ρ s hs) (fun a s₁ p => by
    obtain ⟨st₁, Z₁, ρ₁, hz, hr, hs₁, h1⟩ := p.bool
    exact ⟨_, st₁, Z₁, ρ₁, hz, hr, rfl, hs₁, h1⟩) fun _ _ e => e)
theorem tt_value {e : Expr} {Q : Bool → St → Prop} (h : J C VR (eval e) st fun a st₁ => JV C rBool [a] (one truthy) st₁ Q)
    (he : ∀ env, isTrue e env (eval e env) = (do let v ← eval e env; standAt e.pos; holding [v] (truthy v)) := by intro _; rfl) : JT C e st Q :=
  fun env Z R ρ s hs => wpAny_isTrue_value (wp_use (h env Z R ρ s hs) (fun a s₁ va st₁ Z₁ ρ₁ hz hr ra hs₁ h₁ =>
    wp_up hz hr (h₁ env Z₁ R ρ₁ s₁ [a] hs₁ (.cons ra .nil)))) (he env)
theorem tt_And2 {x y : Expr} {pos : Pos} {Q : Bool → St → Prop} (h : JT C x st fun b st₁ => (b = true → JT C y st₁ Q) ∧ (b = false → Q false st₁)) : JT C (.BoolOp .And [x, y] pos) st Q :=
  fun env Z R ρ s hs => wpAny_isTrue_BoolOp (wpAny_allTrue_And_cons (wp_ite (h env Z R ρ s hs) (fun s₁ st₁ Z₁ ρ₁ hz hr hs₁ h1 => wpAny_allTrue_And_cons (wp_use (h1 env Z₁ R ρ₁ s₁ hs₁) fun a s₂ b st₂ Z₂ ρ₂ hz2 hr2 e hs₂ h3 => by
      cases show a = b from e
      cases a with
      | false => exact ⟨false, st₂, Z₂, ρ₂, hz.trans hz2, hr.trans hr2, rfl, hs₂, h3⟩
      | true => exact wpAny_allTrue_And_nil ⟨true, st₂, Z₂, ρ₂, hz.trans hz2, hr.trans hr2, rfl, hs₂, h3⟩)) fun s₁ st₁ Z₁ ρ₁ hz hr hs₁ h2 => ⟨false, st₁, Z₁, ρ₁, hz, hr, rfl, hs₁, h2⟩))
end

section
variable {C : Fx} {st : St}
theorem inv_int {Z : PH} {ρ : List Addr} {i : Int} {w : Value} (h : VR Z ρ (.int i) w) : ∃ t, w = .int i t := by cases h; exact ⟨_, rfl⟩
theorem inv_bool {Z : PH} {ρ : List Addr} {i : Bool} {w : Value} (h : VR Z ρ (.bool i) w) : w = .bool i := by cases h; rfl
theorem inv_str {Z : PH} {ρ : List Addr} {i : Str} {w : Value} (h : VR Z ρ (.str i) w) : ∃ t, w = .str i t := by cases h; exact ⟨_, rfl⟩
theorem inv_none {Z : PH} {ρ : List Addr} {w : Value} (h : VR Z ρ .none w) : w = .none := by cases h; rfl
theorem inv1 {Z : PH} {ρ : List Addr} {a : V} {ws : List Value} (h : VRs Z ρ [a] ws) : ∃ x, ws = [x] ∧ VR Z ρ a x := by
  cases h with | cons h t => cases t; exact ⟨_, rfl, h⟩
theorem inv2 {Z : PH} {ρ : List Addr} {a b : V} {ws : List Value} (h : VRs Z ρ [a, b] ws) : ∃ x y, ws = [x, y] ∧ VR Z ρ a x ∧ VR Z ρ b y := by
  cases h with | cons h t => cases t with | cons h' t => cases t; exact ⟨_, _, rfl, h, h'⟩
theorem inv_ii {Z : PH} {ρ : List Addr} {a b : Int} {ws : List Value} (h : VRs Z ρ [.int a, .int b] ws) : ∃ t u, ws = [.int a t, .int b u] := by
  obtain ⟨x, y, rfl, h1, h2⟩ := inv2 h
  obtain ⟨t, rfl⟩ := inv_int h1
  obtain ⟨u, rfl⟩ := inv_int h2
  exact ⟨t, u, rfl⟩

theorem op_int {α β : Type} {rel : PH → List Addr → β → α → Prop} {a b : Int} {f : Value → Value → Sem α} {Q : β → St → Prop}
    (h : ∀ env Z R ρ s t u, SR C env Z R ρ st s → wpAny C.M C.A (f (.int a t) (.int b u)) (Post C env Z R ρ rel Q) noE s) : JV C rel [.int a, .int b] (two f) st Q :=
  fun env Z R ρ s ws hs hw => by
    obtain ⟨t, u, rfl⟩ := inv_ii hw
    exact h env Z R ρ s t u hs

theorem op_add {a b : Int} {Q : V → St → Prop} (h : Q (.int (a + b)) st) : JV C VR [.int a, .int b] (two (binaryOp .Add)) st Q :=
  op_int fun env Z R ρ s t u hs => wpAny_add_int (SR.post (hs.tok _) (.int _ _) h)
theorem op_sub {a b : Int} {Q : V → St → Prop} (h : Q (.int (a - b)) st) : JV C VR [.int a, .int b] (two (binaryOp .Sub)) st Q :=
  op_int fun env Z R ρ s t u hs => P.sub_int (SR.post (hs.tok _) (.int _ _) h)
theorem op_mul {a b : Int} {Q : V → St → Prop} (h : Q (.int (a * b)) st) (hm : IntMulOk a b) : JV C VR [.int a, .int b] (two (binaryOp .Mult)) st Q :=
  op_int fun env Z R ρ s t u hs => P.mul_int (SR.post (hs.tok _) (.int _ _) h) hm
theorem op_rshift1 {a : Int} {Q : V → St → Prop} (h0 : 0 ≤ a) (h : Q (.int (a / 2)) st) : JV C VR [.int a, .int 1] (two (binaryOp .RShift)) st Q :=
  op_int fun env Z R ρ s t u hs => wpAny_rshift1_int h0 (SR.post (hs.tok _) (.int _ _) h)
theorem op_lt {a b : Int} {Q : V → St → Prop} (h : Q (.bool (decide (a < b))) st) : JV C VR [.int a, .int b] (two (compareOp .Lt)) st Q :=
  op_int fun env Z R ρ s t u hs => wpAny_lt_int (SR.post hs (.bool _) h)
theorem op_gt {a b : Int} {Q : V → St → Prop} (h : Q (.bool (decide (a > b))) st) : JV C VR [.int a, .int b] (two (compareOp .Gt)) st Q :=
  op_int fun env Z R ρ s t u hs => P.gt_int (SR.post hs (.bool _) h)
theorem op_neg {a : Int} {Q : V → St → Prop} (h : Q (.int (-a)) st) : JV C VR [.int a] (one (unaryOp .USub)) st Q :=
  fun env Z R ρ s ws hs hw => by
    obtain ⟨x, rfl, h1⟩ := inv1 hw
    obtain ⟨t, rfl⟩ := inv_int h1
    exact P.neg_int (SR.post (hs.tok _) (.int _ _) h)
theorem tr_bool {b : Bool} {Q : Bool → St → Prop} (h : Q b st) : JV C rBool [.bool b] (one truthy) st Q :=
  fun env Z R ρ s ws hs hw => by
    obtain ⟨x, rfl, h1⟩ := inv1 hw
    obtain rfl := inv_bool h1
    exact wpAny_truthy_bool (SR.post hs rfl h)
theorem tr_int {a : Int} {Q : Bool → St → Prop} (h : Q (a != 0) st) : JV C rBool [.int a] (one truthy) st Q :=
  fun env Z R ρ s ws hs hw => by
    obtain ⟨x, rfl, h1⟩ := inv1 hw
    obtain ⟨t, rfl⟩ := inv_int h1
    exact P.truthy_int (SR.post hs rfl h)
end
end Mine
end
section -- MLists
set_option maxRecDepth 100000
namespace Mine
open PySem PySem.W PyProof.Rows

noncomputable abbrev lobj (ws : Array Value) (n : Nat) : Obj := { cls := .type "list", data := .seq ws n }
noncomputable abbrev tobj (ws : Array Value) (n : Nat) : Obj := { cls := .type "tuple", data := .seq ws n }
theorem mapSeq_lobj (f : Array Value → Array Value) (ws : Array Value) (n : Nat) : ∃ n', Obj.mapSeq f (lobj ws n) = lobj (f ws) n' := ⟨_, rfl⟩

section
variable {C : Fx} {st : St}

theorem OR.list_inv {P : Params} {Z : PH} {ρ : List Addr} {xs : List V} {o : Obj} (h : OR P Z ρ (.list xs) o) : ∃ ws n, o = lobj ws n ∧ VRs Z ρ xs ws.toList := by
  cases h with | list h => exact ⟨_, _, rfl, h⟩

theorem SR.list {env : Env} {Z R : PH} {ρ : List Addr} {s : Shared} {n : Nat} {xs : List V} {w : Value} (hs : SR C env Z R ρ st s) (e : st.heap n = some (.list xs)) (r : VR Z ρ (.obj n) w) :
    ∃ a ws k, w = .ref a ∧ ρ[n]? = some a ∧ s.heap.get? a = some (lobj ws k) ∧ VRs Z ρ xs ws.toList := by
  cases r with
  | obj ea =>
    obtain ⟨a', o, h1, h2, h3⟩ := hs.obj e
    rw [ea] at h1; cases h1
    obtain ⟨ws, k, rfl, h4⟩ := h3.list_inv
    exact ⟨_, ws, k, rfl, ea, h2, h4⟩
theorem SR.list_turn {env : Env} {Z R : PH} {ρ : List Addr} {s : Shared} {n : Nat} {xs ys : List V} {a : Addr} {ws : Array Value} {k tk : Nat} (hs : SR C env Z R ρ st s) (e : st.heap n = some (.list xs)) (ea : ρ[n]? = some a)
    (ho : s.heap.get? a = some (lobj ws k)) (f : Array Value → Array Value) (r : VRs Z ρ ys (f ws).toList) (htk : s.toks ≤ tk := by first | exact Nat.le_refl _ | omega) : SR C env Z R ρ { st with heap := upd st.heap n (.list ys) } { s with heap := s.heap.update a (Obj.mapSeq f), toks := tk } := by
  obtain ⟨k', hk'⟩ := mapSeq_lobj f ws k
  exact hs.updO e ea (Heap.SameBut.update ..) (o' := lobj (f ws) k') (by rw [← hk']; exact Heap.get?_update_self _ ho (by rw [hk']; rfl)) (.list r)

theorem setItem_lobj {prog : Program} {w : World} {A : Around} {E : Value → Shared → Prop} {s : Shared} {l : Addr} {items : Array Value} {n : Nat} {k : Int} {t : Tok} {v : Value} {Q : Unit → Shared → Prop} (ho : s.heap.get? l = some (lobj items n))
    (h0 : 0 ≤ k) (hfit : k < 2 ^ 63) (hn : k < items.size) (hQ : Q () { s with heap := s.heap.update l (Obj.mapSeq (·.setIfInBounds k.toNat v)) }) : wpAny (model prog w) A (setItem (.ref l) (.int k t) v) Q E s := by
  have hT : s.TypeIs (.ref l) "list" := ⟨_, ho, rfl⟩
  unfold setItem
  refine wpAny_holding (wpAny_bind (wpAny_sequenceKey hT (by decide) ?_))
  refine wpAny_bind (wpAny_callSpecial?_slot (name := Str.ofString "__setitem__") hT slot_list_setitem (wpAny_call_entry slot_list_setitem hT entry_list_setitem ?_ (args_list_setitem _ _ _)))
  show wpAny _ _ (Builtin.List.listSubscript? (.int k t) >>= _) _ _ s
  refine wpAny_bind (wpAny_listSubscript_int (fitsIndex_of h0 hfit) ?_)
  clear hfit
  obtain ⟨j, rfl⟩ := Int.eq_ofNat_of_zero_le h0
  have hj : j < items.size := by lia
  show wpAny _ _ ((seqItemAt l j >>= fun r => pure (r.map (j, ·))) >>= _) _ _ s
  refine wpAny_bind (wpAny_bind (wpAny_seqItemAt ho rfl (wpAny_pure ?_)))
  rw [Array.getElem?_eq_getElem hj]
  show wpAny _ _ (setSeqItemAt l j v >>= _) _ _ s
  exact wpAny_bind (wpAny_setSeqItemAt ho rfl (wpAny_pure ⟨.none, rfl, wpAny_pure hQ⟩))

theorem inv3 {Z : PH} {ρ : List Addr} {a b c : V} {ws : List Value} (h : VRs Z ρ [a, b, c] ws) : ∃ x y z, ws = [x, y, z] ∧ VR Z ρ a x ∧ VR Z ρ b y ∧ VR Z ρ c z := by
  cases h with | cons h t => cases t with | cons h' t => cases t with | cons h'' t => cases t; exact ⟨_, _, _, rfl, h, h', h''⟩
theorem VRs.toArr {Z : PH} {ρ : List Addr} {xs : List V} {ws : Array Value} (h : VRs Z ρ xs ws.toList) : xs.length = ws.size := by rw [h.length]; simp

theorem set_obj {n : Nat} {xs : List V} {k : Int} {v : V} {Q : Unit → St → Prop} (e : st.heap n = some (.list xs)) (h0 : 0 ≤ k) (hn : k < (xs.length : Int)) (hfit : k < 2 ^ 63)
    (h : Q () { st with heap := upd st.heap n (.list (xs.set k.toNat v)) }) : JV C rUnit [.obj n, .int k, v] (three setItem) st Q :=
  fun env Z R ρ s ws hs hw => by
    obtain ⟨x, y, z, rfl, r1, r2, r3⟩ := inv3 hw
    obtain ⟨t, rfl⟩ := inv_int r2
    obtain ⟨a, its, m, rfl, ea, ho, ri⟩ := hs.list e r1
    have hl := ri.toArr
    refine setItem_lobj ho h0 hfit (by lia) (SR.post (hs.list_turn (tk := s.toks) e ea ho _ ?_) trivial h)
    rw [Array.toList_setIfInBounds]
    exact ri.set r3 _

theorem sub_obj {value slice : Expr} {n : Nat} {xs : List V} {k : Int} {x : V} {Q : V → St → Prop} (e : st.heap n = some (.list xs)) (h0 : 0 ≤ k) (hx : xs[k.toNat]? = some x) (hfit : k < 2 ^ 63) (h : Q x st)
    (hs : ∀ a t, subscripted slice false (.ref a) (.int k t) = operate [.ref a, .int k t] (getItem (.ref a) (.int k t)) := by intros; with_unfolding_all rfl) : JV C VR [.obj n, .int k] (two (subscriptTail value slice)) st Q :=
  fun env Z R ρ s ws hsr hw => by
    obtain ⟨u, v, rfl, r1, r2⟩ := inv2 hw
    obtain ⟨t, rfl⟩ := inv_int r2
    obtain ⟨a, its, m, rfl, ea, ho, ri⟩ := hsr.list e r1
    obtain ⟨y, hy, ry⟩ := ri.get _ _ hx
    have hl : s.heap.IsList a its := ⟨_, ho, rfl, _, rfl⟩
    exact tail_any hl.typeIs slot_list_getitem.lookup (wpAny_getItem_list hl h0 hfit (by simpa using hy) (SR.post hsr ry h)) (hs _ _)
theorem VR.lst_inv {Z : PH} {ρ : List Addr} {xs : List V} {w : Value} (h : VR Z ρ (.lst xs) w) : ∃ a ws n, w = .ref a ∧ Z a = some (lobj ws n) ∧ VRs Z ρ xs ws.toList := by
  cases h with | lst h1 h4 => exact ⟨_, _, _, rfl, h1, h4⟩
theorem VR.tup_inv {Z : PH} {ρ : List Addr} {xs : List V} {w : Value} (h : VR Z ρ (.tup xs) w) : ∃ a ws n, w = .ref a ∧ Z a = some (tobj ws n) ∧ VRs Z ρ xs ws.toList := by
  cases h with | tup h1 h4 => exact ⟨_, _, _, rfl, h1, h4⟩
theorem sub_lst {value slice : Expr} {xs : List V} {k : Int} {x : V} {Q : V → St → Prop} (h0 : 0 ≤ k) (hx : xs[k.toNat]? = some x) (hfit : k < 2 ^ 63) (h : Q x st)
    (hs : ∀ a t, subscripted slice false (.ref a) (.int k t) = operate [.ref a, .int k t] (getItem (.ref a) (.int k t)) := by intros; with_unfolding_all rfl) : JV C VR [.lst xs, .int k] (two (subscriptTail value slice)) st Q :=
  fun env Z R ρ s ws hsr hw => by
    obtain ⟨u, v, rfl, r1, r2⟩ := inv2 hw
    obtain ⟨t, rfl⟩ := inv_int r2
    obtain ⟨a, its, m, rfl, hz, ri⟩ := r1.lst_inv
    obtain ⟨y, hy, ry⟩ := ri.get _ _ hx
    have hl : s.heap.IsList a its := ⟨_, hsr.z_ hz, rfl, m, rfl⟩
    exact tail_any hl.typeIs slot_list_getitem.lookup (wpAny_getItem_list hl h0 hfit (by simpa using hy) (SR.post hsr ry h)) (hs _ _)
theorem m_append {n : Nat} {xs : List V} {v : V} {Q : V → St → Prop} (e : st.heap n = some (.list xs)) (hsz : xs.length ≤ sizeLine) (h : Q .none { st with heap := upd st.heap n (.list (xs ++ [v])) }) :
    JV C VR [.obj n, v] (fun ws => call (.builtin "list.append") ws) st Q :=
  fun env Z R ρ s ws hs hw => by
    obtain ⟨x, y, rfl, r1, r2⟩ := inv2 hw
    obtain ⟨a, its, m, rfl, ea, ho, ri⟩ := hs.list e r1
    have hl := ri.toArr
    refine call_meets PySem.F.slot_list_append ⟨_, ho, rfl⟩ PySem.F.entry_list_append (args_list_append _ _) (PySem.AutoListH.list_append_list_val_0 a its m y (by lia)) ⟨ho, ?_⟩
    refine SR.post (hs.list_turn (tk := s.toks) e ea ho _ ?_) .none h
    rw [Array.toList_push]
    exact ri.append (.cons r2 .nil)
theorem m_pop {n : Nat} {xs : List V} {v : V} {Q : V → St → Prop} (e : st.heap n = some (.list (xs ++ [v]))) (hsz : xs.length < sizeLine) (h : Q v { st with heap := upd st.heap n (.list xs) }) :
    JV C VR [.obj n] (fun ws => call (.builtin "list.pop") ws) st Q :=
  fun env Z R ρ s ws hs hw => by
    obtain ⟨x, rfl, r1⟩ := inv1 hw
    obtain ⟨a, its, m, rfl, ea, ho, ri⟩ := hs.list e r1
    have hl := ri.toArr
    rw [List.length_append, List.length_singleton] at hl
    obtain ⟨y, hy, ry⟩ := ri.get xs.length v (by rw [List.getElem?_append_right (Nat.le_refl _), Nat.sub_self]; rfl)
    refine call_meets PySem.F.slot_list_pop ⟨_, ho, rfl⟩ PySem.F.entry_list_pop (PySem.F.args_list_pop_1 _) (PySem.MeetsSeq.list_pop_last a its m y (by rw [← hl]; simpa using hy) (by lia)) ⟨ho, ?_⟩
    refine SR.post (hs.list_turn (tk := s.toks) e ea ho _ ?_) ry h
    have hd := ri.take xs.length
    rw [List.take_left] at hd
    have e1 : (its.eraseIdxIfInBounds (its.size - 1)).toList = its.toList.take xs.length := by
      rw [← hl, Array.eraseIdxIfInBounds, dif_pos (by lia), Array.toList_eraseIdx]
      rw [List.eraseIdx_eq_take_drop_succ, List.drop_eq_nil_of_le (by simp; lia), List.append_nil]
      simp
    rw [e1]; exact hd
end
end Mine
end
section -- MStmt
set_option maxRecDepth 100000
namespace Mine
open PySem PySem.W PyProof.Rows

noncomputable def setv (x : Str) (v : V) : List (Str × V) → List (Str × V)
  | [] => [(x, v)]
  | (y, u) :: r => if y == x then (y, v) :: r else (y, u) :: setv x v r
theorem setv_lookup (x : Str) (v : V) (z : Str) : ∀ l : List (Str × V), (setv x v l).lookup z = if z = x then some v else l.lookup z
  | [] => by
    by_cases h : z = x
    · subst h; simp [setv, List.lookup_cons]
    · have : (z == x) = false := by simpa using h
      simp [setv, List.lookup_cons, this, h]
  | (y, u) :: r => by
    unfold setv
    by_cases hy : (y == x) = true
    · rw [if_pos hy]
      have := beq_iff_eq.mp hy; subst this
      by_cases h : z = y
      · subst h; simp [List.lookup_cons]
      · have : (z == y) = false := by simpa using h
        simp [List.lookup_cons, this, h]
    · rw [if_neg hy, List.lookup_cons, List.lookup_cons, setv_lookup x v z r]
      by_cases h : z = y
      · subst h
        have : ¬ z = x := fun e => hy (by rw [e]; simp)
        simp [this]
      · have : (z == y) = false := by simpa using h
        simp [this]

section
variable {C : Fx} {st : St}

theorem SRT.turnF {env : Env} {Z R : PH} {ρ : List Addr} {s : Shared} {T : Addr → Tag} (h : SRT C env Z R ρ st s T) {vs : List (Str × V)} {h' : Heap} {tk : Nat} (t : Tag) (hk : t.k = 3 ∨ t.k = 4) (kp : ∀ b, T b ≠ t → h'.get? b = s.heap.get? b)
    (m' : Str → Option Value) (hm' : h'.Ns env.locals m') (loc : ∀ x v, vs.lookup x = some v → C.sc.names.lookup x = some .local → ValAt Z ρ v (m' x))
    (cell : ∀ x c o, C.sc.names.lookup x = some .cell ∨ C.sc.names.lookup x = some .free → env.cells.lookup x = some c → T c = .fc x → s.heap.IsCell c o → (∀ v, st.vars.lookup x = some v → ValAt Z ρ v o) → ∃ o, h'.IsCell c o ∧ ∀ v, vs.lookup x = some v → ValAt Z ρ v o)
    (htk : s.toks ≤ tk := by first | exact Nat.le_refl _ | omega) : SRT C env Z R ρ { st with vars := vs } { s with heap := h', toks := tk } T :=
  have ne : ∀ {u : Tag}, u.k < 3 ∨ 4 < u.k → u ≠ t := fun {u} q e => by subst e; omega
  { tk := Nat.le_trans h.tk htk
    base := h.base
    z := fun b o e => ⟨(h.z b o e).1, (kp b (by rw [(h.z b o e).1]; exact ne (.inl (by decide)))).trans (h.z b o e).2⟩
    r := fun b o e => ⟨(h.r b o e).1, (kp b (by rw [(h.r b o e).1]; exact ne (.inl (by decide)))).trans (h.r b o e).2⟩
    nx := h.nx
    objs := fun k ao e => (h.objs k ao e).rec fun b h1 h2 o h3 h4 => ⟨b, h1, h2, o, (kp b (by rw [h2]; exact ne (.inr (Nat.le_refl 5)))).trans h3, h4⟩
    scope := h.scope
    kind := h.kind
    globals := h.globals
    builtins := h.builtins
    loc := ⟨h.loc.fl, m', hm', loc⟩
    cell := fun x k h1 h2 => (h.cell x k h1 h2).rec fun c o q1 q2 q3 q4 => (cell x c o (by rcases h2 with rfl | rfl; exact .inl h1; exact .inr h1) q1 q2 q3 q4).elim fun o' q' => ⟨c, o', q1, q2, q'.1, q'.2⟩
    os := h.os
    gens := h.gens
    pin := h.pin
    fl := fun b o e => ⟨(h.fl b o e).1, (h.fl b o e).2.imp fun _ q => (kp b (by rw [(h.fl b o e).1]; exact ne (.inr (by decide)))).trans q⟩
    fr := h.fr }
theorem SR.store_local {env : Env} {Z R : PH} {ρ : List Addr} {s : Shared} (hs : SR C env Z R ρ st s) {x : Str} {v : V} {w : Value} (hk : C.sc.names.lookup x = some .local) (r : VR Z ρ v w) :
    ∃ m, s.heap.Ns env.locals m ∧ ∀ h' tk, h'.Ns env.locals (fun y => if y = x then some w else m y) → Heap.SameBut env.locals s.heap h' → s.toks ≤ tk → SR C env Z R ρ { st with vars := setv x v st.vars } { s with heap := h', toks := tk } := by
  obtain ⟨T, h⟩ := hs
  obtain ⟨hl, m, hn, hm⟩ := h.loc
  refine ⟨m, hn, fun h' tk hn' hsb htk => ⟨T, h.turnF .fl (.inl rfl) (fun b q => hsb.2 b (fun e => by subst e; exact q hl)) _ hn' (fun y u e1 e2 => ?_) fun y c o h1 h2 h3 h4 h5 => ⟨o, ?_, fun u e => ?_⟩⟩⟩
  · rw [setv_lookup] at e1
    by_cases q : y = x
    · subst q
      rw [if_pos rfl] at e1
      exact ⟨w, if_pos rfl, Option.some.inj e1 ▸ r⟩
    · rw [if_neg q] at e1
      exact (hm y u e1 e2).rec fun w' h1 h2 => ⟨w', (if_neg q).trans h1, h2⟩
  · exact h4.elim fun ob q => ⟨ob, (hsb.2 c fun e => by subst e; exact tne h3 rfl hl).trans q.1, q.2⟩
  · rw [setv_lookup, if_neg fun q => by subst q; rw [hk] at h1; rcases h1 with q | q <;> cases q] at e
    exact h5 u e

theorem SR.store_cell {env : Env} {Z R : PH} {ρ : List Addr} {s : Shared} (hs : SR C env Z R ρ st s) {x : Str} {v : V} {w : Value} (hk : C.sc.names.lookup x = some .cell) (r : VR Z ρ v w) :
    ∃ c o, env.cells.lookup x = some c ∧ s.heap.IsCell c o ∧ ∀ h' tk, h'.IsCell c (some w) → Heap.SameBut c s.heap h' → s.toks ≤ tk → SR C env Z R ρ { st with vars := setv x v st.vars } { s with heap := h', toks := tk } := by
  obtain ⟨T, h⟩ := hs
  obtain ⟨c, oc, hc, ht, hi, hv⟩ := h.cell x _ hk (.inl rfl)
  obtain ⟨hl, m, hn, hm⟩ := h.loc
  have kp : ∀ b, T b ≠ .fc x → ∀ {h' : Heap}, Heap.SameBut c s.heap h' → h'.get? b = s.heap.get? b := fun b q _ hsb => hsb.2 b (fun e => by subst e; exact q ht)
  refine ⟨c, oc, hc, hi, fun h' tk hn' hsb htk => ⟨T, h.turnF (.fc x) (.inr rfl) (fun b q => kp b q hsb) m (hn.at' (fun o e => (kp _ (tne hl) hsb).trans e)) (fun y u e1 e2 => ?_) fun y c' o h1 h2 h3 h4 h5 => ?_⟩⟩
  · rw [setv_lookup, if_neg fun q => by subst q; rw [hk] at e2; cases e2] at e1
    exact hm y u e1 e2
  · by_cases q : y = x
    · subst q
      rw [hc] at h2; cases h2
      refine ⟨some w, hn', fun u e => ?_⟩
      rw [setv_lookup, if_pos rfl] at e
      exact ⟨w, rfl, Option.some.inj e ▸ r⟩
    · refine ⟨o, h4.elim fun ob q1 => ⟨ob, (kp c' (by rw [h3]; intro z; cases z; exact q rfl) hsb).trans q1.1, q1.2⟩, fun u e => ?_⟩
      rw [setv_lookup, if_neg q] at e
      exact h5 u e

theorem store_ {x : Str} {v : V} {k : NameKind} {Q : Unit → St → Prop} (hk : C.sc.names.lookup x = some k) (h : Q () { st with vars := setv x v st.vars }) (hkk : k = .local ∨ k = .cell := by decide)
    {env : Env} {Z R : PH} {ρ : List Addr} {s : Shared} {w : Value} (hs : SR C env Z R ρ st s) (r : VR Z ρ v w) : wpAny C.M C.A (storeName env x w) (Post C env Z R ρ rUnit Q) noE s := by
  have e := (hs.kindOf_ x).trans hk
  rcases hkk with rfl | rfl
  · obtain ⟨m, hn, hh⟩ := hs.store_local hk r
    exact wpAny_storeName_local e hn (fun h' h1 h2 => SR.post (hh h' _ h1 h2 (Nat.le_succ _)) trivial h) (by rw [hs.kind_]; rfl)
  · obtain ⟨c, o, h1, h2, hh⟩ := hs.store_cell hk r
    exact wpAny_storeName_cell hs.kind_ e h1 h2 fun h' h3 h4 => SR.post (hh h' s.toks h3 h4 (Nat.le_refl _)) trivial h

noncomputable abbrev JX (C : Fx) (b : List Stmt) (st : St) (Q : FlowA → St → Prop) : Prop := J C rFlow (execs b) st Q
noncomputable abbrev JX1 (C : Fx) (b : Stmt) (st : St) (Q : FlowA → St → Prop) : Prop := J C rFlow (exec b) st Q

theorem x_nil {Q : FlowA → St → Prop} (h : Q .next st) : JX C [] st Q := fun env Z R ρ s hs => wpAny_execs_nil (SR.post hs .next h)
theorem x_cons {b : Stmt} {r : List Stmt} {Q : FlowA → St → Prop} (h : JX1 C b st fun f st₁ => match f with | .next => JX C r st₁ Q | f => Q f st₁) : JX C (b :: r) st Q :=
  fun env Z R ρ s hs => wpAny_execs_cons (wp_use (h env Z R ρ s hs) (fun f s₁ g st₁ Z₁ ρ₁ hz hr rf hs₁ h₁ => by
    cases rf with
    | next => exact wp_up hz hr (h₁ env Z₁ R ρ₁ s₁ hs₁)
    | brk => exact ⟨_, st₁, Z₁, ρ₁, hz, hr, .brk, hs₁, h₁⟩
    | cont => exact ⟨_, st₁, Z₁, ρ₁, hz, hr, .cont, hs₁, h₁⟩
    | ret rv => exact ⟨_, st₁, Z₁, ρ₁, hz, hr, .ret rv, hs₁, h₁⟩))

theorem x_Assign {x : Str} {px pos : Pos} {value : Expr} {k : NameKind} {Q : FlowA → St → Prop} (h : J C VR (eval value) st fun v st₁ => Q .next { st₁ with vars := setv x v st₁.vars }) (hk : C.sc.names.lookup x = some k)
    (hkk : k = .local ∨ k = .cell := by decide) (hsw : ∀ env, swapsWith value (some (.Name x px)) pos.line env = pure false := by intro _; with_unfolding_all rfl) : JX1 C (.Assign [.Name x px] value pos) st Q :=
  fun env Z R ρ s hs => wpAny_Assign_Name (wp_use (h env Z R ρ s hs) (fun w s₁ v st₁ Z₁ ρ₁ hz hr rv hs₁ h₁ =>
    wp_use (store_ (Q := fun _ st' => Q .next st') hk h₁ hkk hs₁ rv) (fun _ _ _ st₂ Z₂ ρ₂ hz2 hr2 _ hs₂ h₂ => ⟨_, st₂, Z₂, ρ₂, hz.trans hz2, hr.trans hr2, .next, hs₂, h₂⟩))) (hsw env)
theorem x_AugAssign {x : Str} {px pos : Pos} {op : Operator} {value : Expr} {v₀ : V} {k : NameKind} {Q : FlowA → St → Prop} (hv : st.vars.lookup x = some v₀) (hk : C.sc.names.lookup x = some k)
    (h : J C VR (eval value) st fun v st₁ => JV C VR [v₀, v] (two (inplaceOp op)) st₁ fun r st₂ => Q .next { st₂ with vars := setv x r st₂.vars })
    (hkk : k = .local ∨ k = .cell := by decide) (hc : (x == ("__classdict__" : Str)) = false := by decide) : JX1 C (.AugAssign (.Name x px) op value pos) st Q :=
  fun env Z R ρ s hs => wpAny_AugAssign_Name (wp_use (ld_Name (Q := fun v st' => v = v₀ ∧ st' = st) hv hk ⟨rfl, rfl⟩ (hkk.imp id .inl) hc env Z R ρ s hs) (fun w₀ s₀ _ _ Z₀ ρ₀ hz0 hr0 r0 hs0 ⟨e1, e2⟩ => by
    subst e1; subst e2
    exact wp_use (h env Z₀ R ρ₀ s₀ hs0) (fun w s₁ v st₁ Z₁ ρ₁ hz hr rv hs₁ h₁ =>
      wp_use (h₁ env Z₁ R ρ₁ s₁ [w₀, w] hs₁ (.cons (r0.mono hz hr) (.cons rv .nil))) (fun u s₂ y st₂ Z₂ ρ₂ hz2 hr2 ry hs₂ h₂ =>
        wp_use (store_ (Q := fun _ st' => Q .next st') hk h₂ hkk hs₂ ry) (fun _ _ _ st₃ Z₃ ρ₃ hz3 hr3 _ hs₃ h₃ => ⟨_, st₃, Z₃, ρ₃, ((hz0.trans hz).trans hz2).trans hz3, ((hr0.trans hr).trans hr2).trans hr3, .next, hs₃, h₃⟩)))))
theorem x_SetItem {o i : Expr} {tp pos : Pos} {value : Expr} {Q : FlowA → St → Prop}
    (h : J C VR (eval value) st fun v st₁ => J C VR (eval o) st₁ fun ov st₂ => J C VR (eval i) st₂ fun iv st₃ => JV C rUnit [ov, iv, v] (three setItem) st₃ fun _ st₄ => Q .next st₄)
    (hsw : ∀ env, swapsWith value (some (.Subscript o i tp)) pos.line env = pure false := by intro _; rfl) : JX1 C (.Assign [.Subscript o i tp] value pos) st Q :=
  fun env Z R ρ s hs => wpAny_Assign_Subscript (wp_use (h env Z R ρ s hs) (fun w s₁ v st₁ Z₁ ρ₁ hz hr rv hs₁ h₁ =>
    wp_use (h₁ env Z₁ R ρ₁ s₁ hs₁) (fun w2 s₂ v2 st₂ Z₂ ρ₂ hz2 hr2 rv2 hs₂ h₂ =>
      wp_use (h₂ env Z₂ R ρ₂ s₂ hs₂) (fun w3 s₃ v3 st₃ Z₃ ρ₃ hz3 hr3 rv3 hs₃ h₃ =>
        wp_use (h₃ env Z₃ R ρ₃ s₃ [w2, w3, w] hs₃ (.cons (rv2.mono hz3 hr3) (.cons rv3 (.cons (rv.mono (hz2.trans hz3) (hr2.trans hr3)) .nil)))) (fun _ _ _ st₄ Z₄ ρ₄ hz4 hr4 _ hs₄ h₄ =>
          ⟨_, st₄, Z₄, ρ₄, ((hz.trans hz2).trans hz3).trans hz4, ((hr.trans hr2).trans hr3).trans hr4, .next, hs₄, h₄⟩))))) (hsw env)
theorem x_If {t : Expr} {b o : List Stmt} {pos : Pos} {Q : FlowA → St → Prop} (h : JT C t st fun c st₁ => (c = true → JX C b st₁ Q) ∧ (c = false → JX C o st₁ Q)) : JX1 C (.If t b o pos) st Q :=
  fun env Z R ρ s hs => wpAny_If (wp_ite (h env Z R ρ s hs) (fun s₁ _ Z₁ ρ₁ hz hr hs₁ h1 => wp_up hz hr (h1 env Z₁ R ρ₁ s₁ hs₁)) fun s₁ _ Z₁ ρ₁ hz hr hs₁ h1 => wp_up hz hr (h1 env Z₁ R ρ₁ s₁ hs₁))
theorem x_Return {e : Expr} {pos : Pos} {Q : FlowA → St → Prop} (h : J C VR (eval e) st fun v st₁ => Q (.ret v) st₁) : JX1 C (.Return (some e) pos) st Q :=
  fun env Z R ρ s hs => wpAny_Return_some (wp_use (h env Z R ρ s hs) (fun w s₁ v st₁ Z₁ ρ₁ hz hr rv hs₁ h₁ => ⟨_, st₁, Z₁, ρ₁, hz, hr, .ret rv, hs₁, h₁⟩))
theorem x_Break {pos : Pos} {Q : FlowA → St → Prop} (h : Q .brk st) : JX1 C (.Break pos) st Q := fun env Z R ρ s hs => wpAny_Break (SR.post hs .brk h)
theorem x_Continue {pos : Pos} {Q : FlowA → St → Prop} (h : Q .cont st) : JX1 C (.Continue pos) st Q := fun env Z R ρ s hs => wpAny_Continue (SR.post hs .cont h)
theorem x_Expr {e : Expr} {pos : Pos} {Q : FlowA → St → Prop} (h : J C VR (eval e) st fun v st₁ => v = .none ∧ Q .next st₁) (hsw : ∀ env, swapsWith e none pos.line env = pure false := by intro _; with_unfolding_all rfl) : JX1 C (.Expr e pos) st Q :=
  fun env Z R ρ s hs => wpAny_Expr (wp_use (h env Z R ρ s hs) (fun w s₁ v st₁ Z₁ ρ₁ hz hr rv hs₁ ⟨e, h₁⟩ => by
    subst e
    obtain rfl := inv_none rv
    exact ⟨_, st₁, Z₁, ρ₁, hz, hr, .next, hs₁, h₁⟩)) (by unfold interactive; rw [hs.kind_]; rfl) (hsw env)

inductive WhI (C : Fx) (env : Env) (Z R : PH) (ρ : List Addr) (I : Nat → St → Prop) (n : Nat) (s' : Shared) : Prop
  | mk (Z' : PH) (ρ' : List Addr) (st' : St) (hz : PH.le Z Z') (hr : Ext ρ ρ') (hs : SR C env Z' R ρ' st' s') (hI : I n st')
theorem x_While {t : Expr} {b o : List Stmt} {pos : Pos} {Q : FlowA → St → Prop} (I : Nat → St → Prop) (n : Nat) (h : I n st)
    (turn : ∀ n st, I n st → JT C t st fun c st₁ => (c = true → JX C b st₁ fun f st₂ => match f with
        | .next | .cont => ∃ m, m < n ∧ I m st₂
        | .brk => Q .next st₂
        | .ret v => Q (.ret v) st₂) ∧ (c = false → JX C o st₁ Q)) : JX1 C (.While t b o pos) st Q :=
  fun env Z R ρ s hs => by
    refine wp_gen fun P hP => ?_
    refine wpAny_While (codeAny_whileLoop (WhI C env Z R ρ I) ?_ n ⟨Z, ρ, st, PH.le.refl _, Ext.refl _, hs, h⟩)
    intro n s ii
    refine ii.rec fun Z ρ st hz0 hr0 hs hI => ?_
    refine wp_ite (turn n st hI env Z R ρ s hs) (fun s₁ st₁ Z₁ ρ₁ hz hr hs₁ h1 => ?_) fun s₁ st₁ Z₁ ρ₁ hz hr hs₁ h2 => ?_
    · refine wp_use (h1 env Z₁ R ρ₁ s₁ hs₁) fun f s₂ g st₂ Z₂ ρ₂ hz2 hr2 rf hs₂ h₂ => ?_
      have hz' := (hz0.trans hz).trans hz2
      have hr' := (hr0.trans hr).trans hr2
      cases rf with
      | next => exact h₂.elim fun m hm => ⟨m, hm.1, Z₂, ρ₂, st₂, hz', hr', hs₂, hm.2⟩
      | cont => exact h₂.elim fun m hm => ⟨m, hm.1, Z₂, ρ₂, st₂, hz', hr', hs₂, hm.2⟩
      | brk => exact hP _ _ ⟨_, st₂, Z₂, ρ₂, hz', hr', .next, hs₂, h₂⟩
      | ret rv => exact hP _ _ ⟨_, st₂, Z₂, ρ₂, hz', hr', .ret rv, hs₂, h₂⟩
    · exact wp_use (h2 env Z₁ R ρ₁ s₁ hs₁) fun _ _ _ _ _ _ hz2 hr2 r hs₂ h₂ => hP _ _ ⟨_, _, _, _, (hz0.trans hz).trans hz2, (hr0.trans hr).trans hr2, r, hs₂, h₂⟩

theorem ev_Subscript {value slice : Expr} {pos : Pos} {Q : V → St → Prop} (h : J C VR (eval value) st fun a st₁ => J C VR (eval slice) st₁ fun b st₂ => JV C VR [a, b] (two (subscriptTail value slice)) st₂ Q) : J C VR (eval (.Subscript value slice pos)) st Q :=
  fun env Z R ρ s hs => Subscript_ (wp_use (h env Z R ρ s hs) (fun a s₁ va st₁ Z₁ ρ₁ hz hr ra hs₁ h₁ =>
    wp_use (h₁ env Z₁ R ρ₁ s₁ hs₁) (fun b s₂ vb st₂ Z₂ ρ₂ hz2 hr2 rb hs₂ h₂ =>
      wp_up (hz.trans hz2) (hr.trans hr2) (h₂ env Z₂ R ρ₂ s₂ [a, b] hs₂ (.cons (ra.mono hz2 hr2) (.cons rb .nil))))))

noncomputable abbrev JL (C : Fx) (pos : Pos) (es : List Expr) (st : St) (Q : List V → St → Prop) : Prop := J C VRs (fun env => spliced (backTo pos (starEach es env))) st Q
theorem l_nil {pos : Pos} {Q : List V → St → Prop} (h : Q [] st) : JL C pos [] st Q := fun env Z R ρ s hs => wpAny_items_nil (SR.post hs .nil h)
theorem l_cons {pos : Pos} {e : Expr} {r : List Expr} {Q : List V → St → Prop} (h : J C VR (eval e) st fun v st₁ => JL C pos r st₁ fun vs st₂ => Q (v :: vs) st₂)
    (he : ∀ env, starEach (e :: r) env = (false, eval e env) :: starEach r env := by intro _; with_unfolding_all rfl) : JL C pos (e :: r) st Q :=
  fun env Z R ρ s hs => wpAny_items_cons (wp_use (h env Z R ρ s hs) (fun a s₁ va st₁ Z₁ ρ₁ hz hr ra hs₁ h₁ =>
    wp_use (h₁ env Z₁ R ρ₁ s₁ hs₁) (fun b s₂ vb st₂ Z₂ ρ₂ hz2 hr2 rb hs₂ h₂ => ⟨_, st₂, Z₂, ρ₂, hz.trans hz2, hr.trans hr2, .cons (ra.mono hz2 hr2) rb, hs₂, h₂⟩))) (he env)

theorem ev_Tuple {es : List Expr} {k : Nat} {pos : Pos} {Q : V → St → Prop} (h : JL C pos es st fun vs st₁ => vs.length ≤ sizeLine ∧ Q (.tup vs) st₁) : J C VR (eval (.Tuple es k pos)) st Q :=
  fun env Z R ρ s hs => wpAny_Tuple (wp_use (h env Z R ρ s hs) (fun ws s₁ vs st₁ Z₁ ρ₁ hz hr rv hs₁ ⟨hl, h₁⟩ => by
    have hl' := rv.length
    obtain ⟨le, hs2⟩ := hs₁.allocZ { cls := .type "tuple", data := .seq ws.toArray } s₁.toks
    exact ⟨by lia, _, st₁, _, ρ₁, hz.trans le, hr, .tup (PH.put_self ..) (by simpa using rv.mono le (Ext.refl _)), hs2, h₁⟩))
theorem ev_List {es : List Expr} {pos : Pos} {Q : V → St → Prop} (h : JL C pos es st fun vs st₁ => vs.length ≤ sizeLine ∧ Q (.lst vs) st₁) : J C VR (eval (.List es pos)) st Q :=
  fun env Z R ρ s hs => wpAny_List (wp_use (h env Z R ρ s hs) (fun ws s₁ vs st₁ Z₁ ρ₁ hz hr rv hs₁ ⟨hl, h₁⟩ => by
    have hl' := rv.length
    obtain ⟨le, hs2⟩ := hs₁.allocZ { cls := .type "list", data := .seq ws.toArray } s₁.toks
    exact ⟨by lia, _, st₁, _, ρ₁, hz.trans le, hr, .lst (PH.put_self ..) (by simpa using rv.mono le (Ext.refl _)), hs2, h₁⟩))
theorem ev_ListO {es : List Expr} {pos : Pos} {Q : V → St → Prop} (h : JL C pos es st fun vs st₁ => vs.length ≤ sizeLine ∧ Q (.obj st₁.nx) { st₁ with heap := upd st₁.heap st₁.nx (.list vs), nx := st₁.nx + 1 }) : J C VR (eval (.List es pos)) st Q :=
  fun env Z R ρ s hs => wpAny_List (wp_use (h env Z R ρ s hs) (fun ws s₁ vs st₁ Z₁ ρ₁ hz hr rv hs₁ ⟨hl, h₁⟩ => by
    have hl' := rv.length
    have hs2 := hs₁.allocO (lobj ws.toArray 0) (.list vs) s₁.toks (.list (by simpa using rv))
    obtain ⟨T, hT⟩ := hs₁
    exact ⟨by lia, _, _, Z₁, _, hz, hr.trans (Ext.snoc _ _), .obj (by rw [List.getElem?_append_right (by rw [hT.nx]; exact Nat.le_refl _), hT.nx, Nat.sub_self]; rfl), hs2, h₁⟩))
end
end Mine
end
section -- MCall
set_option maxRecDepth 100000
namespace Mine
open PySem PySem.W PyProof.Rows

inductive BR (Z : PH) (ρ : List Addr) : List (Str × V) → List (Str × Value) → Prop
  | nil : BR Z ρ [] []
  | cons {x : Str} {v : V} {w : Value} {l : List (Str × V)} {r : List (Str × Value)} : VR Z ρ v w → BR Z ρ l r → BR Z ρ ((x, v) :: l) ((x, w) :: r)
theorem BR.lookup {Z : PH} {ρ : List Addr} {l : List (Str × V)} {r : List (Str × Value)} (h : BR Z ρ l r) : ∀ (x : Str) (v : V), l.lookup x = some v → ∃ w, r.lookup x = some w ∧ VR Z ρ v w := by
  induction h with
  | nil => intro x v h; cases h
  | @cons y _ _ _ _ hv _ ih =>
    intro x v h
    rw [List.lookup_cons] at h ⊢
    cases q : x == y with
    | true => rw [q] at h; cases h; exact ⟨_, rfl, hv⟩
    | false => rw [q] at h; exact ih x v h
theorem BR.zip {Z : PH} {ρ : List Addr} (ps : List Str) {vs : List V} {ws : List Value} (h : VRs Z ρ vs ws) : BR Z ρ (ps.zip vs) (ps.zip ws) := by
  induction ps generalizing vs ws with
  | nil => exact .nil
  | cons p ps ih =>
    cases h with
    | nil => exact .nil
    | cons h t => exact .cons h (ih t)
theorem bindL_lookup (K : Str → Option NameKind) : ∀ (binds : List (Str × Value)) (m : Str → Option Value) (x : Str) (w : Value), (binds.map (·.1)).Nodup → binds.lookup x = some w → K x = some .local → bindL K binds m x = some w
  | [], m, x, w, _, h, _ => by cases h
  | (y, u) :: r, m, x, w, hd, h, hk => by
    unfold bindL
    rw [List.map_cons, List.nodup_cons] at hd
    rw [List.lookup_cons] at h
    cases q : x == y with
    | true =>
      rw [q] at h; cases h
      have e := beq_iff_eq.mp q; subst e
      rw [if_pos hk]
      have none : r.lookup x = none := by
        cases z : r.lookup x with
        | none => rfl
        | some z' => exact absurd (List.mem_map.mpr ⟨_, mem_of_lookup z, rfl⟩) hd.1
      exact bindL_none K r _ x none ▸ (by simp)
    | false => rw [q] at h; exact bindL_lookup K r _ x w hd.2 h hk
where
  bindL_none (K : Str → Option NameKind) : ∀ (binds : List (Str × Value)) (m : Str → Option Value) (x : Str), binds.lookup x = none → bindL K binds m x = m x
    | [], m, x, _ => rfl
    | (y, u) :: r, m, x, h => by
      unfold bindL
      rw [List.lookup_cons] at h
      cases q : x == y with
      | true => rw [q] at h; cases h
      | false =>
        rw [q] at h
        rw [bindL_none K r _ x h]
        have : ¬ x = y := by simpa using q
        split <;> simp [this]
theorem bindC_lookup (K : Str → Option NameKind) : ∀ (binds : List (Str × Value)) (m : Str → Option Value) (x : Str) (w : Value), (binds.map (·.1)).Nodup → binds.lookup x = some w → ¬ K x = some .local → bindC K binds m x = some w
  | [], m, x, w, _, h, _ => by cases h
  | (y, u) :: r, m, x, w, hd, h, hk => by
    unfold bindC
    rw [List.map_cons, List.nodup_cons] at hd
    rw [List.lookup_cons] at h
    cases q : x == y with
    | true =>
      rw [q] at h; cases h
      have e := beq_iff_eq.mp q; subst e
      rw [if_neg hk]
      have none : r.lookup x = none := by
        cases z : r.lookup x with
        | none => rfl
        | some z' => exact absurd (List.mem_map.mpr ⟨_, mem_of_lookup z, rfl⟩) hd.1
      exact bindC_none K r _ x none ▸ (by simp)
    | false => rw [q] at h; exact bindC_lookup K r _ x w hd.2 h hk
where
  bindC_none (K : Str → Option NameKind) : ∀ (binds : List (Str × Value)) (m : Str → Option Value) (x : Str), binds.lookup x = none → bindC K binds m x = m x
    | [], m, x, _ => rfl
    | (y, u) :: r, m, x, h => by
      unfold bindC
      rw [List.lookup_cons] at h
      cases q : x == y with
      | true => rw [q] at h; cases h
      | false =>
        rw [q] at h
        rw [bindC_none K r _ x h]
        have : ¬ x = y := by simpa using q
        split <;> simp [this]

noncomputable def FS (C : Fx) (env : Env) (b : Addr) : Prop := b = env.locals ∨ ∃ x k, C.sc.names.lookup x = some k ∧ (k = .cell ∨ k = .free) ∧ env.cells.lookup x = some b
open Classical in
noncomputable def framed (C : Fx) (env : Env) (R : PH) (h : Heap) : PH := fun b => if FS C env b then h.get? b else R b

noncomputable def tagged (L : Addr) (cs : List (Str × Addr)) (T : Addr → Tag) : Addr → Tag := fun b => if b = L then .fl else (cs.find? fun p => p.2 == b).elim (T b) fun p => .fc p.1
theorem tagged_old {L : Addr} {cs : List (Str × Addr)} {T : Addr → Tag} {b : Addr} (hL : b ≠ L) (h : ∀ y c, (y, c) ∈ cs → c ≠ b) : tagged L cs T b = T b := by
  have e : (cs.find? fun p => p.2 == b) = none := List.find?_eq_none.mpr fun p hp hpb => h p.1 p.2 hp (beq_iff_eq.mp hpb)
  unfold tagged; rw [if_neg hL, e]; rfl
theorem tagged_cell {L : Addr} {cs : List (Str × Addr)} {T : Addr → Tag} {y : Str} {c : Addr} (h : (y, c) ∈ cs) (ap : cs.Pairwise fun x y => x.2 ≠ y.2) (hne : c ≠ L) : tagged L cs T c = .fc y := by
  have : (cs.find? fun p => p.2 == c).isSome := List.find?_isSome.mpr ⟨(y, c), h, beq_iff_eq.mpr rfl⟩
  obtain ⟨p, hp⟩ := Option.isSome_iff_exists.mp this
  have pe : p.2 = c := beq_iff_eq.mp (List.find?_some (p := fun (p : Str × Addr) => p.2 == c) hp)
  unfold tagged; rw [if_neg hne, hp]
  exact congrArg Tag.fc (name_of_addr ap (c := c) (by rw [← pe]; exact List.mem_of_find?_eq_some hp) h)
theorem frame_in {C' : Fx} {env' : Env} {Z R : PH} {ρ : List Addr} {st : St} {s s₁ : Shared} {binds : List (Str × Value)} {vars : List (Str × V)} {a : Addr} {q : Str} {cd : Value} {T : Addr → Tag} (hb0 : PH.le C'.base Z)
    (z : ∀ b o, Z b = some o → T b = .z ∧ s.heap.get? b = some o) (r : ∀ b o, R b = some o → T b = .r ∧ s.heap.get? b = some o) (nx : ρ.length = st.nx)
    (objs : ∀ n ao, st.heap n = some ao → ObjAt C'.w.params Z ρ s.heap T n ao)
    (ho : s.os = C'.os) (hg : C'.gp s.gens s.drawn) (pin : ∀ a, C'.pin = some a → ρ[0]? = some a) (hk : C'.sc.kind = .function)
    (he : env' = newEnv C'.sc s.heap.objs.size mainGlobals (cellsFrom (s.heap.objs.size + 1) C'.sc.names []) q (some a) cd none builtinsNs)
    (x : InCallC s env'.locals (bindL env'.kindOf binds fun _ => none) env'.cells (bindC env'.kindOf binds fun _ => none) s₁)
    (hb : BR Z ρ vars binds) (hd : (binds.map (·.1)).Nodup) (hf : ∀ y, C'.sc.names.lookup y ≠ some .free) (htk : C'.tk ≤ s₁.toks)
    (hfl : ∀ b o, C'.fl b = some o → T b = .fo ∧ ∃ sl, s.heap.get? b = some { o with slots := sl }) (hfr : FrOk C'.fr C'.fl env') : SR C' env' Z R ρ { st with vars := vars } s₁ := by
  have hL : env'.locals = s.heap.objs.size := congrArg Env.locals he
  have hsc : env'.scope = C'.sc := congrArg Env.scope he
  have hko : ∀ y, env'.kindOf y = C'.sc.names.lookup y := fun y => by unfold Env.kindOf; rw [hsc]
  have hcs : env'.cells = cellsFrom (s.heap.objs.size + 1) C'.sc.names [] := congrArg Env.cells he
  have old : ∀ {b o t}, T b = t ∧ s.heap.get? b = some o → tagged env'.locals env'.cells T b = t ∧ s₁.heap.get? b = some o := fun {b o t} e => by
    have lt := Heap.lt_size e.2
    refine ⟨(tagged_old (fun z => by rw [z, hL] at lt; exact Nat.lt_irrefl _ lt) fun y c hp z => ?_).trans e.1, x.toInCall.keep _ _ e.2⟩
    have := x.above y c hp
    rw [z, hL] at this
    exact Nat.lt_asymm lt this
  obtain ⟨h1', tk, hs1⟩ := x.toInCall.same
  exact ⟨tagged env'.locals env'.cells T, {
      tk := htk
      base := hb0
      z := fun b o e => old (z b o e)
      r := fun b o e => old (r b o e)
      nx := nx
      objs := fun n ao e => (objs n ao e).rec fun b h1 h2 o h3 h4 => ⟨b, h1, (old ⟨h2, h3⟩).1, o, (old ⟨h2, h3⟩).2, h4⟩
      scope := hsc
      kind := hk
      globals := congrArg Env.globals he
      builtins := congrArg Env.builtins he
      loc := ⟨if_pos rfl, _, x.toInCall.ns, fun y v e1 e2 => (hb.lookup y v e1).elim fun w h => ⟨w, bindL_lookup _ _ _ _ _ hd h.1 ((hko y).trans e2), h.2⟩⟩
      cell := fun y kk e1 e2 => by
        rcases e2 with rfl | rfl
        · obtain ⟨c, hc⟩ := Option.isSome_iff_exists.mp (show ((cellsFrom (s.heap.objs.size + 1) C'.sc.names []).lookup y).isSome from cellsFrom_some _ _ _ (.inl e1))
          rw [← hcs] at hc
          have hmem := mem_of_lookup hc
          refine ⟨c, _, hc, tagged_cell hmem x.apart fun z => ?_, x.cell y c hc, fun v e => (hb.lookup y v e).elim fun w h => ⟨w, bindC_lookup _ _ _ _ _ hd h.1 (by rw [hko y, e1]; exact nofun), h.2⟩⟩
          have := x.above y c hmem; rw [z] at this; exact Nat.lt_irrefl _ this
        · exact absurd e1 (hf y)
      os := by rw [hs1]; exact ho
      gens := by rw [hs1]; exact hg
      pin := pin
      fl := fun b o e => (hfl b o e).2.elim fun sl q => ⟨(old ⟨(hfl b o e).1, q⟩).1, sl, (old ⟨(hfl b o e).1, q⟩).2⟩
      fr := hfr }⟩
theorem enter {C C' : Fx} {env env' : Env} {Z R : PH} {ρ : List Addr} {st : St} {s s₁ : Shared} {binds : List (Str × Value)} {vars : List (Str × V)} {a : Addr} {q : Str} {cd : Value}
    (hs : SR C env Z R ρ st s) (hp : C'.base = C.base) (ho : C'.os = C.os) (hw : C'.w = C.w) (hgp : C'.gp = C.gp) (hpin : C'.pin = C.pin) (hk : C'.sc.kind = .function)
    (he : env' = newEnv C'.sc s.heap.objs.size mainGlobals (cellsFrom (s.heap.objs.size + 1) C'.sc.names []) q (some a) cd none builtinsNs)
    (x : InCallC s env'.locals (bindL env'.kindOf binds fun _ => none) env'.cells (bindC env'.kindOf binds fun _ => none) s₁)
    (hb : BR Z ρ vars binds) (hd : (binds.map (·.1)).Nodup) (hf : ∀ y, C'.sc.names.lookup y ≠ some .free) (htk : s.toks ≤ s₁.toks) (htc : C'.tk = C.tk := by rfl) (hfl : C'.fl = C.fl := by rfl) (hfr : C'.fr = none := by rfl) :
    SR C' env' Z (framed C env R s.heap) ρ { st with vars := vars } s₁ ∧
    ∀ Z' ρ' st' s', PH.le Z Z' → Ext ρ ρ' → SR C' env' Z' (framed C env R s.heap) ρ' st' s' → SR C env Z' R ρ' { st' with vars := st.vars } s' := by
  classical
  obtain ⟨T, h⟩ := hs
  obtain ⟨hl, m, hn, hm⟩ := h.loc
  have fsSome : ∀ b, FS C env b → ∃ o, s.heap.get? b = some o := fun b q => by
    rcases q with rfl | ⟨y, k, e1, e2, e3⟩
    · obtain ⟨o, _, _, ho, _⟩ := hn; exact ⟨o, ho⟩
    · obtain ⟨c, o, h1, _, ⟨ob, h2, _⟩, _⟩ := h.cell y k e1 e2
      rw [e3] at h1; cases h1; exact ⟨ob, h2⟩
  have fsTag : ∀ b, FS C env b → (T b).k = 3 ∨ (T b).k = 4 := fun b q => by
    rcases q with rfl | ⟨y, k, e1, e2, e3⟩
    · exact .inl (congrArg Tag.k hl)
    · obtain ⟨c, o, h1, h2, _⟩ := h.cell y k e1 e2
      rw [e3] at h1; cases h1; exact .inr (congrArg Tag.k h2)
  have nFS : ∀ {b t}, T b = t → t.k < 3 ∨ 4 < t.k → ¬ FS C env b := fun {b t} e ht q => by
    have := fsTag b q; rw [e] at this; lia
  refine ⟨frame_in (T := fun b => if FS C env b then .r else T b) (by rw [hp]; exact h.base) (fun b o e => ⟨(if_neg (nFS (h.z b o e).1 (.inl (by decide)))).trans (h.z b o e).1, (h.z b o e).2⟩) (fun b o e => ?_) h.nx
    (fun n ao e => (h.objs n ao e).rec fun b h1 h2 o h3 h4 => ⟨b, h1, (if_neg (nFS h2 (.inr (Nat.lt_succ_self 4)))).trans h2, o, h3, by rw [hw]; exact h4⟩) (h.os.trans ho.symm) (by rw [hgp]; exact h.gens) (by rw [hpin]; exact h.pin) hk he x hb hd hf (by rw [htc]; exact Nat.le_trans h.tk htk) (fun b o e => ⟨(if_neg (nFS (h.fl b o (by rw [← hfl]; exact e)).1 (.inr (by decide)))).trans (h.fl b o (by rw [← hfl]; exact e)).1, (h.fl b o (by rw [← hfl]; exact e)).2⟩) (FrOk.none_ hfr), fun Z' ρ' st' s' hz hr kk => ?_⟩
  · unfold framed at e
    by_cases q : FS C env b
    · rw [if_pos q] at e; exact ⟨if_pos q, e⟩
    · rw [if_neg q] at e; exact ⟨(if_neg q).trans (h.r b o e).1, (h.r b o e).2⟩
  obtain ⟨T2, k⟩ := kk
  have fsIn : ∀ b o, FS C env b → s.heap.get? b = some o → T2 b = .r ∧ s'.heap.get? b = some o := fun b o q e => k.r b o (by unfold framed; rw [if_pos q]; exact e)
  have rIn : ∀ b o, R b = some o → ¬ FS C env b := fun b o e => nFS (h.r b o e).1 (.inl (by decide))
  have rOut : ∀ b o, R b = some o → T2 b = .r ∧ s'.heap.get? b = some o := fun b o e => k.r b o (by unfold framed; rw [if_neg (rIn b o e)]; exact e)
  refine ⟨fun b => if FS C env b then T b else if (R b).isSome then .r else match T2 b with | .z => .z | .ob n => .ob n | .fo => .fo | _ => .free, ?_⟩
  have tz : ∀ b, T2 b ≠ .r → ¬ FS C env b ∧ R b = none := fun b q => by
    refine ⟨fun z => ?_, ?_⟩
    · obtain ⟨o, e⟩ := fsSome b z; exact q (fsIn b o z e).1
    · cases e : R b with
      | none => rfl
      | some o => exact absurd (rOut b o e).1 q
  exact {
    tk := by rw [← htc]; exact k.tk
    base := by rw [← hp]; exact k.base
    z := fun b o e => by
      have e1 := k.z b o e
      obtain ⟨q1, q2⟩ := tz b (tne e1.1)
      refine ⟨?_, e1.2⟩
      rw [if_neg q1, q2, if_neg (by simp), e1.1]
    r := fun b o e => ⟨by rw [if_neg (rIn b o e), e]; rfl, (rOut b o e).2⟩
    nx := k.nx
    objs := fun n ao e => by
      obtain ⟨b, h1, h2, o, h3, h4⟩ := k.objs n ao e
      obtain ⟨q1, q2⟩ := tz b (tne h2)
      refine ⟨b, h1, ?_, o, h3, by rw [← hw]; exact h4⟩
      rw [if_neg q1, q2, if_neg (by simp), h2]
    scope := h.scope
    kind := h.kind
    globals := h.globals
    builtins := h.builtins
    loc := by
      refine ⟨by rw [if_pos (.inl rfl)]; exact hl, m, hn.at' fun o e => (fsIn _ o (.inl rfl) e).2, fun y v e1 e2 => ?_⟩
      obtain ⟨w, a1, a2⟩ := hm y v e1 e2
      exact ⟨w, a1, a2.mono hz hr⟩
    cell := fun y kk e1 e2 => by
      obtain ⟨c, o, a1, a2, ⟨ob, a3, a3'⟩, a4⟩ := h.cell y kk e1 e2
      have fs : FS C env c := .inr ⟨y, kk, e1, e2, a1⟩
      refine ⟨c, o, a1, by rw [if_pos fs]; exact a2, ⟨ob, (fsIn c ob fs a3).2, a3'⟩, fun v e => ?_⟩
      obtain ⟨w, b1, b2⟩ := a4 v e
      exact ⟨w, b1, b2.mono hz hr⟩
    os := by rw [← ho]; exact k.os
    gens := by rw [← hgp]; exact k.gens
    pin := by rw [← hpin]; exact k.pin
    fl := fun b o e => by
      have e1 := k.fl b o (by rw [hfl]; exact e)
      obtain ⟨q1, q2⟩ := tz b (tne e1.1)
      refine ⟨?_, e1.2⟩
      rw [if_neg q1, q2, if_neg (by simp), e1.1]
    fr := h.fr }
end Mine
end
section -- MCall2
set_option maxRecDepth 100000
namespace Mine
open PySem PySem.W PyProof.Rows

noncomputable def retV : FlowA → V
  | .ret v => v
  | _ => .none

structure Fn (B : PH) (a : Addr) (fd : FuncData) (body : List Stmt) (ps : List Str) : Prop where
  at_ : ∃ o, B a = some o ∧ o.data = .func fd
  get : Knows B fun h => h.CodeRec fd.code fd.qualname ∧ h.NoLimit
  body : fd.body = .stmts body
  clo : fd.closure = []
  glob : fd.globals = mainGlobals
  blt : fd.builtins = builtinsNs
  kind : fd.scope.kind = .function
  co : fd.scope.isCoroutine = false
  gen : fd.scope.isGenerator = false
  binds : ∀ ws : List Value, ws.length = ps.length → bindArgs fd ⟨ws, []⟩ = pure (ps.zip ws)
  nd : ps.Nodup
  param : ∀ p ∈ ps, fd.scope.names.lookup p = some .local ∨ fd.scope.names.lookup p = some .cell
  free : ∀ y, fd.scope.names.lookup y ≠ some .free

noncomputable def Fx.into (C : Fx) (sc : Scope) : Fx := { C with d := C.d + 1, u := C.u + 3, sc := sc, fr := none }

theorem zip_keys {α : Type} : ∀ (ps : List Str) (ws : List α), ws.length = ps.length → (ps.zip ws).map (·.1) = ps
  | [], _, _ => by simp
  | p :: ps, [], h => by simp at h
  | p :: ps, w :: ws, h => by simp at h; simp [zip_keys ps ws h]

section
variable {C : Fx} {st : St}

theorem call_fn {a : Addr} {fd : FuncData} {body : List Stmt} {ps : List Str} {vs : List V} {Q : V → St → Prop} (F : Fn C.base a fd body ps) (hd : C.d < 1000) (hl : vs.length = ps.length)
    (h : JX (C.into fd.scope) body { st with vars := ps.zip vs } fun f st' => Q (retV f) { st' with vars := st.vars }) : JV C VR vs (fun ws => call (.ref a) ws) st Q :=
  fun env Z R ρ s ws hs hw => by
    obtain ⟨hcd, hlim⟩ := hs.knows F.get
    obtain ⟨o, ho, hdata⟩ := F.at_
    replace ho := hs.base_ ho
    have hwl : ws.length = ps.length := by rw [← hw.length]; exact hl
    have keys := zip_keys ps ws hwl
    refine wpAny_call (codeAny_call_function (show C.A.depth < recursionLimit from hd) ho hdata F.co F.gen F.body hcd (BindsTo.of_eq (F.binds ws hwl) _ _ _ _ ?_))
    rw [F.clo]
    refine wp_toks (wpAny_newFunctionEnv_cells F.kind (fun x hx => ?_) fun env' he s₁ x hle => ?_)
    · have : x.1 ∈ ps := by rw [← keys]; exact List.mem_map_of_mem hx
      rcases F.param x.1 this with q | q
      · exact .inl q
      · exact .inr ⟨q, cellsFrom_some _ _ _ (.inl q)⟩
    · subst he
      refine ⟨hlim.keeps x.toInCall.keep, codeAny_func ?_⟩
      have he : callEnvC fd s.heap.objs.size a = newEnv (C.into fd.scope).sc s.heap.objs.size mainGlobals (cellsFrom (s.heap.objs.size + 1) (C.into fd.scope).sc.names []) (fd.qualname ++ ".<locals>.") (some a) fd.code none builtinsNs := by
        unfold callEnvC; rw [F.glob, F.blt]; rfl
      obtain ⟨k1, k2⟩ := enter (C' := C.into fd.scope) hs rfl rfl rfl rfl rfl F.kind he x (BR.zip ps hw) (by rw [keys]; exact F.nd) F.free hle
      refine wpAny_weaker (A := (C.into fd.scope).A) rfl (Nat.le_refl _) rfl rfl (Nat.le_refl _) ?_
      refine wp_use (h _ Z _ ρ s₁ k1) (fun f s' g st' Z' ρ' hz hr rf hs' hq => ?_)
      have hs2 := k2 Z' ρ' st' s' hz hr hs'
      cases rf with
      | next => exact ⟨_, _, Z', ρ', hz, hr, .none, hs2, hq⟩
      | brk => exact ⟨_, _, Z', ρ', hz, hr, .none, hs2, hq⟩
      | cont => exact ⟨_, _, Z', ρ', hz, hr, .none, hs2, hq⟩
      | ret rv => exact ⟨_, _, Z', ρ', hz, hr, rv, hs2, hq⟩

theorem evalArgs_any {M : Model} {A : Around} {E : Value → Shared → Prop} {s : Shared} {f : Value} {Q : Args → Shared → Prop} : ∀ trees : List (Bool × Sem Value), trees.any (·.1) = false →
    wpAny M A (spliced trees) (fun vs s' => Q ⟨vs, []⟩ s') E s → wpAny M A (evalArgs f true trees []) Q E s
  | [], _, h => by
    unfold evalArgs
    show wpAny M A (spliced [] >>= _) Q E s
    refine wpAny_bind (wpAny_mono h (fun vs s' h' => ?_) fun _ _ x => x)
    refine wpAny_bind (wpAny_pure (wpAny_holding ?_))
    exact wpAny_bind (wpAny_pure (wpAny_bind (wpAny_pure (wpAny_pure h'))))
  | (true, x) :: r, hb, h => by simp at hb
  | (false, x) :: r, _, h => Calls.evalArgs_plain h
theorem args_ {pos : Pos} {es : List Expr} {Q : List V → St → Prop} (h : JL C pos es st Q) (he : ∀ env, (backTo pos (starEach es env)).any (·.1) = false) {env : Env} {Z R : PH} {ρ : List Addr} {s : Shared} (hs : SR C env Z R ρ st s) (f : Value) :
    wpAny C.M C.A (evalArgs f true (backTo pos (starEach es env)) []) (fun a s' => a.kw = [] ∧ Post C env Z R ρ VRs Q a.pos s') noE s :=
  evalArgs_any _ (he env) (wpAny_mono (h env Z R ρ s hs) (fun _ _ p => ⟨rfl, p⟩) fun _ _ e => e)

theorem ev_CallFn {f : Str} {p pos : Pos} {es : List Expr} {a : Addr} {fd : FuncData} {body : List Stmt} {ps : List Str} {Q : V → St → Prop} (hg : Glo C.base f (.ref a)) (F : Fn C.base a fd body ps) (hk : C.sc.names.lookup f = some .globalImplicit)
    (h : JL C pos es st fun vs st₁ => JV C VR vs (fun ws => call (.ref a) ws) st₁ Q)
    (he : ∀ env, (backTo pos (starEach es env)).any (·.1) = false := by intro _; rfl) (hd : (f == ("__debug__" : Str)) = false := by decide) : J C VR (eval (.Call (.Name f p) es [] pos)) st Q :=
  fun env Z R ρ s hs => by
    refine wpAny_Call_NameR (wp_use (ev_Glo (Q := fun v st' => v = .val (.ref a) ∧ st' = st) hg hk ⟨rfl, rfl⟩ hd env Z R ρ s hs) (fun w s₁ v st₁ Z₁ ρ₁ hz hr rv hs₁ ⟨e1, e2⟩ => ?_))
    subst e1; subst e2
    cases rv
    obtain ⟨o, ho, hdata⟩ := F.at_
    refine Calls.callWith_function (o := o) (fd := fd) (wpAny_mono (args_ h he hs₁ (.ref a)) (fun ar s₂ ⟨hkw, pp⟩ => pp.ex fun vs st₂ Z₂ ρ₂ hz2 hr2 rvs hs₂ h₂ => ⟨⟨hs₂.base_ ho, hdata⟩, ?_⟩) fun _ _ e => e)
    · rw [hkw]
      exact wp_up (hz.trans hz2) (hr.trans hr2) (h₂ env Z₂ R ρ₂ s₂ ar.pos hs₂ rvs)

theorem ev_CallB {f : Str} {p pos : Pos} {es : List Expr} {id : String} {Q : V → St → Prop} (hg : Blt C.base f (.builtin id)) (hk : C.sc.names.lookup f = some .globalImplicit)
    (h : JL C pos es st fun vs st₁ => JV C VR vs (fun ws => call (.builtin id) ws) st₁ Q)
    (he : ∀ env, (backTo pos (starEach es env)).any (·.1) = false := by intro _; rfl) (hd : (f == ("__debug__" : Str)) = false := by decide) : J C VR (eval (.Call (.Name f p) es [] pos)) st Q :=
  fun env Z R ρ s hs => by
    refine wpAny_Call_NameR (wp_use (ev_Blt (Q := fun v st' => v = .val (.builtin id) ∧ st' = st) hg hk ⟨rfl, rfl⟩ hd env Z R ρ s hs) (fun w s₁ v st₁ Z₁ ρ₁ hz hr rv hs₁ ⟨e1, e2⟩ => ?_))
    subst e1; subst e2
    cases rv
    refine Calls.callWith_builtin (he env) (wpAny_mono (args_ h he hs₁ (.builtin id)) (fun ar s₂ ⟨hkw, pp⟩ => pp.ex fun vs st₂ Z₂ ρ₂ hz2 hr2 rvs hs₂ h₂ => ?_) fun _ _ e => e)
    rw [hkw]
    exact wp_up (hz.trans hz2) (hr.trans hr2) (h₂ env Z₂ R ρ₂ s₂ ar.pos hs₂ rvs)
theorem ev_CallT {f : Str} {p pos : Pos} {es : List Expr} {id : String} {Q : V → St → Prop} (hg : Blt C.base f (.type id)) (hk : C.sc.names.lookup f = some .globalImplicit)
    (h : JL C pos es st fun vs st₁ => JV C VR vs (fun ws => call (.type id) ws) st₁ Q)
    (he : ∀ env, (backTo pos (starEach es env)).any (·.1) = false := by intro _; rfl) (hd : (f == ("__debug__" : Str)) = false := by decide) : J C VR (eval (.Call (.Name f p) es [] pos)) st Q :=
  fun env Z R ρ s hs => by
    refine wpAny_Call_NameR (wp_use (ev_Blt (Q := fun v st' => v = .val (.type id) ∧ st' = st) hg hk ⟨rfl, rfl⟩ hd env Z R ρ s hs) (fun w s₁ v st₁ Z₁ ρ₁ hz hr rv hs₁ ⟨e1, e2⟩ => ?_))
    subst e1; subst e2
    cases rv
    refine PyProof.Rows.callWith_type (he env) (wpAny_mono (args_ h he hs₁ (.type id)) (fun ar s₂ ⟨hkw, pp⟩ => pp.ex fun vs st₂ Z₂ ρ₂ hz2 hr2 rvs hs₂ h₂ => ?_) fun _ _ e => e)
    rw [hkw]
    exact wp_up (hz.trans hz2) (hr.trans hr2) (h₂ env Z₂ R ρ₂ s₂ ar.pos hs₂ rvs)

theorem ev_MethO {o : Expr} {name : Str} {apos pos : Pos} {es : List Expr} {id : String} {Q : V → St → Prop} (slot : Slot "list" name id) (hty : typeOf (.builtin id) = pure (.type "method_descriptor"))
    (h : J C VR (eval o) st fun ov st₁ => (∃ n xs, ov = .obj n ∧ st₁.heap n = some (.list xs)) ∧ JL C pos es st₁ fun vs st₂ => JV C VR (ov :: vs) (fun ws => call (.builtin id) ws) st₂ Q)
    (hbase : ∀ env, attributeBase o name env (eval o env) = eval o env := by intro _; rfl) (hline : (apos.endLine == pos.line) = true := by rfl)
    (he : ∀ env, (backTo pos (starEach es env)).any (·.1) = false := by intro _; rfl)
    (hfew : ∀ env, ((backTo pos (starEach es env)).all (fun x => !x.1) && (backToKw pos (keywordEach [] env)).all (fun x => x.1.isSome) && decide (es.length + ([] : List Keyword).length + (if ([] : List Keyword).isEmpty then 0 else 1) < 30)) = true := by intro _; rfl) :
    J C VR (eval (.Call (.Attribute o name apos) es [] pos)) st Q :=
  fun env Z R ρ s hs => by
    refine wpAny_Call_method (hbase env) (hfew env) hline PySem.F.plainAttrs_list slot hty (wpAny_mono (h env Z R ρ s hs) (fun w s₁ ⟨v, st₁, Z₁, ρ₁, hz, hr, rv, hs₁, ⟨n, xs, e1, e2⟩, h₁⟩ => ?_) fun _ _ e => e)
    subst e1
    obtain ⟨a, its, m, rfl, ea, ho, ri⟩ := hs₁.list e2 rv
    refine ⟨⟨_, ho, rfl⟩, fun b e => by cases e; exact ⟨_, ho, rfl⟩, ?_⟩
    refine Calls.callWith_builtin (he env) (wpAny_mono (args_ h₁ he hs₁ (.builtin id)) (fun ar s₂ ⟨hkw, pp⟩ => pp.ex fun vs st₂ Z₂ ρ₂ hz2 hr2 rvs hs₂ h₂ => ?_) fun _ _ e => e)
    rw [hkw]
    exact wp_up (hz.trans hz2) (hr.trans hr2) (h₂ env Z₂ R ρ₂ s₂ (.ref a :: ar.pos) hs₂ (.cons (rv.mono hz2 hr2) rvs))
theorem ev_MethL {o : Expr} {name : Str} {apos pos : Pos} {es : List Expr} {id : String} {Q : V → St → Prop} (slot : Slot "list" name id) (hty : typeOf (.builtin id) = pure (.type "method_descriptor"))
    (h : J C VR (eval o) st fun ov st₁ => (∃ xs, ov = .lst xs) ∧ JL C pos es st₁ fun vs st₂ => JV C VR (ov :: vs) (fun ws => call (.builtin id) ws) st₂ Q)
    (hbase : ∀ env, attributeBase o name env (eval o env) = eval o env := by intro _; rfl) (hline : (apos.endLine == pos.line) = true := by rfl)
    (he : ∀ env, (backTo pos (starEach es env)).any (·.1) = false := by intro _; rfl)
    (hfew : ∀ env, ((backTo pos (starEach es env)).all (fun x => !x.1) && (backToKw pos (keywordEach [] env)).all (fun x => x.1.isSome) && decide (es.length + ([] : List Keyword).length + (if ([] : List Keyword).isEmpty then 0 else 1) < 30)) = true := by intro _; rfl) :
    J C VR (eval (.Call (.Attribute o name apos) es [] pos)) st Q :=
  fun env Z R ρ s hs => by
    refine wpAny_Call_method (hbase env) (hfew env) hline PySem.F.plainAttrs_list slot hty (wpAny_mono (h env Z R ρ s hs) (fun w s₁ ⟨v, st₁, Z₁, ρ₁, hz, hr, rv, hs₁, ⟨xs, e1⟩, h₁⟩ => ?_) fun _ _ e => e)
    subst e1
    obtain ⟨a, its, m, rfl, hzo, ri⟩ := rv.lst_inv
    have ho := hs₁.z_ hzo
    refine ⟨⟨_, ho, rfl⟩, fun b e => by cases e; exact ⟨_, ho, rfl⟩, ?_⟩
    refine Calls.callWith_builtin (he env) (wpAny_mono (args_ h₁ he hs₁ (.builtin id)) (fun ar s₂ ⟨hkw, pp⟩ => pp.ex fun vs st₂ Z₂ ρ₂ hz2 hr2 rvs hs₂ h₂ => ?_) fun _ _ e => e)
    rw [hkw]
    exact wp_up (hz.trans hz2) (hr.trans hr2) (h₂ env Z₂ R ρ₂ s₂ (.ref a :: ar.pos) hs₂ (.cons (rv.mono hz2 hr2) rvs))
end
end Mine
end
section -- MIter
set_option maxRecDepth 100000
namespace Mine
open PySem PySem.W PyProof.Rows

section
variable {C : Fx} {env : Env} {Z R : PH} {ρ : List Addr} {st : St} {s : Shared}

theorem SR.r_ (h : SR C env Z R ρ st s) {a : Addr} {o : Obj} (e : R a = some o) : s.heap.get? a = some o := let ⟨_, k⟩ := h; (k.r a o e).2
theorem SR.weaken (h : SR C env Z R ρ st s) {R' : PH} (hr : PH.le R' R) : SR C env Z R' ρ st s := let ⟨T, k⟩ := h; ⟨T, { k with r := fun a o e => k.r a o (hr a o e) }⟩
theorem SR.rfresh (h : SR C env Z R ρ st s) {a : Addr} (ha : s.heap.get? a = none) : R a = none := by
  cases e : R a with
  | none => rfl
  | some o => have := h.r_ e; rw [ha] at this; cases this

theorem SR.allocR (h : SR C env Z R ρ st s) (o : Obj) (tk : Nat) (hf : o.isFreed = false := by rfl) (htk : s.toks ≤ tk := by first | exact Nat.le_refl _ | omega) :
    PH.le R (R.put s.heap.objs.size o) ∧ SR C env Z (R.put s.heap.objs.size o) ρ st { s with heap := s.heap.push o, toks := tk } := by
  have hn := fresh_none s.heap
  have hrn := h.rfresh hn
  obtain ⟨T, h⟩ := h
  refine ⟨PH.le_put hrn, fun b => if b = s.heap.objs.size then .r else T b, ?_⟩
  have k := ((h.retag hn .r).keep (s' := { s with heap := s.heap.push o, toks := tk }) (fun b o' e => Heap.get?_push_of_some _ e) rfl h.gens)
  exact { k with
    r := fun b o' e => by
      by_cases q : b = s.heap.objs.size
      · subst q; rw [PH.put_self] at e; cases e
        exact ⟨if_pos rfl, Heap.get?_push_size _ hf⟩
      · rw [PH.put_ne _ _ q] at e; exact k.r b o' e }

theorem SR.updR (h : SR C env Z R ρ st s) {a : Addr} {o o' : Obj} (e : R a = some o) {h' : Heap} {tk : Nat} (hs : ∀ b o, b ≠ a → s.heap.get? b = some o → h'.get? b = some o) (ho : h'.get? a = some o')
    (htk : s.toks ≤ tk := by first | exact Nat.le_refl _ | omega) : SR C env Z (R.put a o') ρ st { s with heap := h', toks := tk } := by
  obtain ⟨T, h⟩ := h
  have ta := (h.r a o e).1
  have kp : ∀ b o, T b ≠ .r → s.heap.get? b = some o → h'.get? b = some o := fun b o q => hs b o (fun z => by subst z; exact q ta)
  refine ⟨T, ?_⟩
  exact {
    tk := Nat.le_trans h.tk htk
    base := h.base
    z := fun b o e => ⟨(h.z b o e).1, kp b o (tne (h.z b o e).1) (h.z b o e).2⟩
    r := fun b o1 e1 => by
      by_cases q : b = a
      · subst q; rw [PH.put_self] at e1; cases e1; exact ⟨ta, ho⟩
      · rw [PH.put_ne _ _ q] at e1
        exact ⟨(h.r b o1 e1).1, hs b o1 q (h.r b o1 e1).2⟩
    nx := h.nx
    objs := fun k ao' e' => let ⟨b, h1, h2, o'', h3, h4⟩ := h.objs k ao' e'; ⟨b, h1, h2, o'', kp b o'' (tne h2) h3, h4⟩
    scope := h.scope
    kind := h.kind
    globals := h.globals
    builtins := h.builtins
    loc := let ⟨h1, m, h2, h3⟩ := h.loc; ⟨h1, m, h2.at' fun o e => kp _ o (tne h1) e, h3⟩
    cell := fun x kk h1 h2 => let ⟨c, o, h3, h4, ⟨ob, q1, q2⟩, h6⟩ := h.cell x kk h1 h2; ⟨c, o, h3, h4, ⟨ob, kp c ob (tne h4) q1, q2⟩, h6⟩
    os := h.os
    gens := h.gens
    pin := h.pin
    fl := fun b o e => ⟨(h.fl b o e).1, (h.fl b o e).2.imp fun _ q => kp b _ (tne (h.fl b o e).1) q⟩
    fr := h.fr }

theorem SR.lose {R' : PH} {a : Addr} {o : Obj} (h : SR C env Z R' ρ st s) (wk : PH.le R R') (ra : R' a = some o) (rn : R a = none) {h' : Heap} (keep : ∀ b o, b ≠ a → s.heap.get? b = some o → h'.get? b = some o) :
    SR C env Z R ρ st { s with heap := h' } := by
  obtain ⟨T, hT⟩ := h
  have ta : T a = .r := (hT.r _ _ ra).1
  have kp : ∀ b o, T b ≠ .r → s.heap.get? b = some o → h'.get? b = some o := fun b o q => keep b o (fun z => by subst z; exact q ta)
  exact ⟨T, {
    tk := hT.tk
    base := hT.base
    z := fun b o e => ⟨(hT.z b o e).1, kp b o (tne (hT.z b o e).1) (hT.z b o e).2⟩
    r := fun b o1 e1 => by
      have q : b ≠ a := fun z => by subst z; rw [rn] at e1; cases e1
      have := hT.r b o1 (wk b o1 e1)
      exact ⟨this.1, keep b o1 q this.2⟩
    nx := hT.nx
    objs := fun k ao' e' => let ⟨b, h1, h2, o'', h3, h4⟩ := hT.objs k ao' e'; ⟨b, h1, h2, o'', kp b o'' (tne h2) h3, h4⟩
    scope := hT.scope
    kind := hT.kind
    globals := hT.globals
    builtins := hT.builtins
    loc := let ⟨h1, m, h2, h3⟩ := hT.loc; ⟨h1, m, h2.at' fun o e => kp _ o (tne h1) e, h3⟩
    cell := fun x kk h1 h2 => let ⟨c, o, h3, h4, ⟨ob, q1, q2⟩, h6⟩ := hT.cell x kk h1 h2; ⟨c, o, h3, h4, ⟨ob, kp c ob (tne h4) q1, q2⟩, h6⟩
    os := hT.os
    gens := hT.gens
    pin := hT.pin
    fl := fun b o e => ⟨(hT.fl b o e).1, (hT.fl b o e).2.imp fun _ q => kp b _ (tne (hT.fl b o e).1) q⟩
    fr := hT.fr }⟩

theorem SR.toZ {a : Addr} {o : Obj} (h : SR C env Z (R.put a o) ρ st s) (hr : R a = none) : PH.le Z (Z.put a o) ∧ SR C env (Z.put a o) R ρ st s := by
  obtain ⟨T, h⟩ := h
  have ra := h.r a o (PH.put_self ..)
  have hz : Z a = none := by
    cases e : Z a with
    | none => rfl
    | some o' => have := (h.z a o' e).1; rw [ra.1] at this; cases this
  have le := PH.le_put (o := o) hz
  have ne : ∀ b, T b ≠ .r → b ≠ a := fun b q z => by subst z; exact q ra.1
  refine ⟨le, fun b => if b = a then .z else T b, ?_⟩
  exact {
    tk := h.tk
    base := h.base.trans le
    z := fun b o1 e => by
      by_cases q : b = a
      · subst q; rw [PH.put_self] at e; cases e; exact ⟨if_pos rfl, ra.2⟩
      · rw [PH.put_ne _ _ q] at e; rw [if_neg q]; exact h.z b o1 e
    r := fun b o1 e => by
      have q : b ≠ a := fun z => by subst z; rw [hr] at e; cases e
      rw [if_neg q]; exact h.r b o1 (by rw [PH.put_ne _ _ q]; exact e)
    nx := h.nx
    objs := fun n ao e => let ⟨b, h1, h2, o', h3, h4⟩ := h.objs n ao e; ⟨b, h1, by rw [if_neg (ne b (tne h2))]; exact h2, o', h3, h4.mono le (Ext.refl _)⟩
    scope := h.scope
    kind := h.kind
    globals := h.globals
    builtins := h.builtins
    loc := let ⟨h1, m, h2, h3⟩ := h.loc; ⟨by rw [if_neg (ne _ (tne h1))]; exact h1, m, h2, fun x v e1 e2 => let ⟨w, e3, e4⟩ := h3 x v e1 e2; ⟨w, e3, e4.mono le (Ext.refl _)⟩⟩
    cell := fun x kk h1 h2 => let ⟨c, o', h3, h4, h5, h6⟩ := h.cell x kk h1 h2; ⟨c, o', h3, by rw [if_neg (ne c (tne h4))]; exact h4, h5, fun v e => let ⟨w, e3, e4⟩ := h6 v e; ⟨w, e3, e4.mono le (Ext.refl _)⟩⟩
    os := h.os
    gens := h.gens
    pin := h.pin
    fl := fun b o e => ⟨by rw [if_neg (ne b (tne (h.fl b o e).1))]; exact (h.fl b o e).1, (h.fl b o e).2⟩
    fr := h.fr }

noncomputable def del {α : Type} (H : Nat → Option α) (n : Nat) : Nat → Option α := fun k => if k = n then none else H k
theorem del_ne {α : Type} (H : Nat → Option α) {n k : Nat} (h : k ≠ n) : del H n k = H k := if_neg h

theorem SR.freeze (h : SR C env Z R ρ st s) {n : Nat} {xs : List V} (e : st.heap n = some (.list xs)) {w : Value} (r : VR Z ρ (.obj n) w) :
    ∃ Z', PH.le Z Z' ∧ VR Z' ρ (.lst xs) w ∧ SR C env Z' R ρ { st with heap := del st.heap n } s := by
  obtain ⟨a, ws, k, rfl, ea, ho, rs⟩ := h.list e r
  obtain ⟨T, h⟩ := h
  obtain ⟨a', h1, ht, o, h2, _⟩ := h.objs n _ e
  rw [ea] at h1; cases h1
  have hz : Z a = none := by
    cases e : Z a with
    | none => rfl
    | some o' => have := (h.z a o' e).1; rw [ht] at this; cases this
  have le := PH.le_put (o := lobj ws k) hz
  have ne : ∀ b, T b ≠ .ob n → b ≠ a := fun b q z => by subst z; exact q ht
  refine ⟨_, le, .lst (PH.put_self ..) (rs.mono le (Ext.refl _)), fun b => if b = a then .z else T b, ?_⟩
  exact {
    tk := h.tk
    base := h.base.trans le
    z := fun b o1 e => by
      by_cases q : b = a
      · subst q; rw [PH.put_self] at e; cases e; exact ⟨if_pos rfl, ho⟩
      · rw [PH.put_ne _ _ q] at e; rw [if_neg q]; exact h.z b o1 e
    r := fun b o1 e => by
      have q : b ≠ a := ne b (tne (h.r b o1 e).1)
      rw [if_neg q]; exact h.r b o1 e
    nx := h.nx
    objs := fun m ao e' => by
      dsimp only at e'
      by_cases q : m = n
      · subst q; unfold del at e'; rw [if_pos rfl] at e'; cases e'
      · rw [del_ne _ q] at e'
        obtain ⟨b, h1, h2, o', h3, h4⟩ := h.objs m ao e'
        exact ⟨b, h1, by rw [if_neg (ne b (by rw [h2]; intro z; cases z; exact q rfl))]; exact h2, o', h3, h4.mono le (Ext.refl _)⟩
    scope := h.scope
    kind := h.kind
    globals := h.globals
    builtins := h.builtins
    loc := let ⟨h1, m, h2, h3⟩ := h.loc; ⟨by rw [if_neg (ne _ (tne h1))]; exact h1, m, h2, fun x v e1 e2 => let ⟨w, e3, e4⟩ := h3 x v e1 e2; ⟨w, e3, e4.mono le (Ext.refl _)⟩⟩
    cell := fun x kk h1 h2 => let ⟨c, o', h3, h4, h5, h6⟩ := h.cell x kk h1 h2; ⟨c, o', h3, by rw [if_neg (ne c (tne h4))]; exact h4, h5, fun v e => let ⟨w, e3, e4⟩ := h6 v e; ⟨w, e3, e4.mono le (Ext.refl _)⟩⟩
    os := h.os
    gens := h.gens
    pin := h.pin
    fl := fun b o e => ⟨by rw [if_neg (ne b (tne (h.fl b o e).1))]; exact (h.fl b o e).1, (h.fl b o e).2⟩
    fr := h.fr }
theorem j_freeze {m : Env → Sem Value} {Q : V → St → Prop} (h : J C VR m st fun v st' => ∃ n xs, v = .obj n ∧ st'.heap n = some (.list xs) ∧ Q (.lst xs) { st' with heap := del st'.heap n }) : J C VR m st Q :=
  fun env Z R ρ s hs => wp_use (h env Z R ρ s hs) (fun w s' v st' Z' ρ' hz hr rv hs' ⟨n, xs, e1, e2, hq⟩ => by
    subst e1
    obtain ⟨Z'', le, r2, k⟩ := hs'.freeze e2 rv
    exact ⟨_, _, Z'', ρ', hz.trans le, hr, r2, k, hq⟩)
end

noncomputable def Itb (st : St) (v : V) (xs : List V) : Prop :=
  match v with
  | .lst l | .tup l => xs = l
  | .rng lo hi => xs = (List.range (hi - lo).toNat).map (fun i => V.int (lo + (i : Nat))) ∧ -(2 ^ 61) < lo ∧ lo < 2 ^ 61 ∧ -(2 ^ 61) < hi ∧ hi < 2 ^ 61
  | .obj n => st.heap n = some (.list xs)
  | _ => False

inductive IterAt (h : Heap) (I : Addr) : V → Value → Nat → Prop
  | lst {l : List V} {a : Addr} {i : Nat} : h.IsListIter I a i → a ≠ I → IterAt h I (.lst l) (.ref a) i
  | obj {n : Nat} {a : Addr} {i : Nat} : h.IsListIter I a i → a ≠ I → IterAt h I (.obj n) (.ref a) i
  | tup {l : List V} {a : Addr} {i : Nat} : h.IsTupleIter I a i → a ≠ I → IterAt h I (.tup l) (.ref a) i
  | rng {lo hi : Int} {a : Addr} {i : Nat} : IsRangeIter h I (lo + (i : Int)) (((hi - lo).toNat : Int) - (i : Int)) 1 → IterAt h I (.rng lo hi) (.ref a) i
theorem IterAt.at_ {h h' : Heap} {I : Addr} {v : V} {a : Value} {i : Nat} (x : IterAt h I v a i) (k : ∀ o, h.get? I = some o → h'.get? I = some o) : IterAt h' I v a i := by
  cases x with
  | lst x q => exact .lst (x.at k) q
  | obj x q => exact .obj (x.at k) q
  | tup x q => exact .tup (x.at k) q
  | rng x => exact .rng (k _ x)
theorem IterAt.has {h : Heap} {I : Addr} {v : V} {a : Value} {i : Nat} (x : IterAt h I v a i) : ∃ o T, h.get? I = some o ∧ o.cls = .type T ∧ ["enumerate", "zip", "dict_itemiterator", "dict_reverseitemiterator", "odict_iterator", "itertools.zip_longest", "itertools.pairwise"].contains T = false := by
  cases x with
  | lst x q => obtain ⟨o, h1, h2, h3⟩ := x; exact ⟨o, _, h1, h2, by decide⟩
  | obj x q => obtain ⟨o, h1, h2, h3⟩ := x; exact ⟨o, _, h1, h2, by decide⟩
  | tup x q => obtain ⟨o, h1, h2, h3⟩ := x; exact ⟨o, _, h1, h2, by decide⟩
  | rng x => exact ⟨_, _, x, rfl, by decide⟩

theorem letGo_any {M : Model} {A : Around} {E : Value → Shared → Prop} {s : Shared} {target : Expr} {I : Addr} {v : Value} {o : Obj} {T : String} {Q : Unit → Shared → Prop} (ho : s.heap.get? I = some o) (hT : o.cls = .type T)
    (hn : ["enumerate", "zip", "dict_itemiterator", "dict_reverseitemiterator", "odict_iterator", "itertools.zip_longest", "itertools.pairwise"].contains T = false) (h : Q () s) : wpAny M A (letOwnedTupleGo target (.ref I) v) Q E s := by
  have key : ∀ a : Addr, wpAny M A (do
      let o ← load I
      match o.cls, o.data with
      | .type n, .fields vs =>
        if ["enumerate", "zip", "dict_itemiterator", "dict_reverseitemiterator", "odict_iterator", "itertools.zip_longest", "itertools.pairwise"].contains n && vs[0]? == some (rawInt a) then
          rule "for.unpacks-the-owned-tuple"
          updateField I 0 .none
      | _, _ => pure () : Sem Unit) Q E s := fun a => by
    refine wpAny_bind (wpAny_load ho ?_)
    rw [hT]
    cases hd : o.data with
    | fields vs =>
      dsimp only
      rw [hn, Bool.false_and]
      exact wpAny_pure h
    | _ => exact wpAny_pure h
  unfold letOwnedTupleGo
  cases target with
  | Tuple _ _ _ => cases v with
    | ref a => exact key a
    | _ => exact wpAny_pure h
  | List _ _ => cases v with
    | ref a => exact key a
    | _ => exact wpAny_pure h
  | _ => exact wpAny_pure h

section
variable {C : Fx} {env : Env} {Z R : PH} {ρ : List Addr} {st : St} {s : Shared}

theorem size_rng (lo hi : Int) : Builtin.Range.rangeSize lo hi 1 = ((hi - lo).toNat : Int) := by
  unfold Builtin.Range.rangeSize
  simp
  lia
theorem small_rng (lo hi : Int) (h1 : -(2 ^ 61) < lo) (h2 : lo < 2 ^ 61) (h3 : -(2 ^ 61) < hi) (h4 : hi < 2 ^ 61) : Builtin.Range.small lo hi 1 = true := by
  unfold Builtin.Range.small
  rw [size_rng]
  unfold Builtin.Range.rangeFitsLong
  simp
  lia

theorem it_start {v : V} {a : Value} {xs : List V} {Q : Value → Shared → Prop} {E : Value → Shared → Prop} (hs : SR C env Z R ρ st s) (r : VR Z ρ v a) (hi : Itb st v xs)
    (h : ∀ o, o.isFreed = false → (IterAt (s.heap.push o) s.heap.objs.size v a 0) → Q (.ref s.heap.objs.size) { s with heap := s.heap.push o }) : wpAny C.M C.A (pyIter a) Q E s := by
  cases v with
  | lst l =>
    cases r with | lst h1 h2 => 
    have hl := hs.z_ h1
    exact wpAny_pyIter_list ⟨_, hl, rfl, _, rfl⟩ (h _ rfl (.lst ⟨_, Heap.get?_push_size _ rfl, rfl, rfl⟩ (Nat.ne_of_lt (Heap.lt_size hl))))
  | tup l =>
    cases r with | tup h1 h2 => 
    have hl := hs.z_ h1
    exact wpAny_pyIter_tuple ⟨_, hl, rfl, _, rfl⟩ (h _ rfl (.tup ⟨_, Heap.get?_push_size _ rfl, rfl, rfl⟩ (Nat.ne_of_lt (Heap.lt_size hl))))
  | obj n =>
    obtain ⟨a, ws, k, rfl, ea, hl, rs⟩ := hs.list hi r
    exact wpAny_pyIter_list ⟨_, hl, rfl, _, rfl⟩ (h _ rfl (.obj ⟨_, Heap.get?_push_size _ rfl, rfl, rfl⟩ (Nat.ne_of_lt (Heap.lt_size hl))))
  | rng lo up =>
    cases r with | rng h1 =>
    refine wpAny_pyIter_range (h1 _ fun o e => hs.z_ e) (small_rng lo up hi.2.1 hi.2.2.1 hi.2.2.2.1 hi.2.2.2.2) (h _ rfl (.rng ?_))
    rw [size_rng]
    have := Heap.get?_push_size s.heap (o := { cls := .type "range_iterator", data := .fields #[rawInt lo, rawInt ((up - lo).toNat : Int), rawInt 1] }) rfl
    simpa using this
  | _ => exact hi.elim

theorem it_next {v : V} {a : Value} {xs : List V} {I : Addr} {i : Nat} {x : V} {Q : Option Value → Shared → Prop} {E : Value → Shared → Prop} (hs : SR C env Z R ρ st s) (r : VR Z ρ v a) (hi : Itb st v xs) (hI : IterAt s.heap I v a i) (hx : xs[i]? = some x)
    (h : ∀ w h' tk, VR Z ρ x w → IterAt h' I v a (i + 1) → (∀ b o, b ≠ I → s.heap.get? b = some o → h'.get? b = some o) → s.toks ≤ tk → Q (some w) { s with heap := h', toks := tk }) : wpAny C.M C.A (pyNext (.ref I)) Q E s := by
  cases hI with
  | lst q1 q2 =>
    obtain rfl : xs = _ := hi
    cases r with | lst h1 h2 => 
    obtain ⟨w, hw, rw⟩ := h2.get i x hx
    exact wpAny_pyNext_list_item q1 ⟨_, hs.z_ h1, rfl, _, rfl⟩ (by simpa using hw) fun h' k1 k2 => h w h' _ rw (.lst k1 q2) k2.extBut (by first | exact Nat.le_refl _ | exact Nat.le_succ _)
  | obj q1 q2 =>
    obtain ⟨a', ws, k, e, ea, hl, rs⟩ := hs.list hi r
    cases e
    obtain ⟨w, hw, rw⟩ := rs.get i x hx
    exact wpAny_pyNext_list_item q1 ⟨_, hl, rfl, _, rfl⟩ (by simpa using hw) fun h' k1 k2 => h w h' _ rw (.obj k1 q2) k2.extBut (by first | exact Nat.le_refl _ | exact Nat.le_succ _)
  | tup q1 q2 =>
    obtain rfl : xs = _ := hi
    cases r with | tup h1 h2 => 
    obtain ⟨w, hw, rw⟩ := h2.get i x hx
    exact wpAny_pyNext_tuple_item q1 ⟨_, hs.z_ h1, rfl, _, rfl⟩ (by simpa using hw) fun h' k1 k2 => h w h' _ rw (.tup k1 q2) k2.extBut (by first | exact Nat.le_refl _ | exact Nat.le_succ _)
  | @rng lo up _ _ q1 =>
    obtain ⟨rfl, hb⟩ := hi
    have hlt : i < _ := (List.getElem?_eq_some_iff.mp hx).1
    simp at hlt
    have hxe : x = V.int (lo + (i : Nat)) := by
      rw [List.getElem?_map, List.getElem?_range (by lia)] at hx
      exact (Option.some.inj hx).symm
    subst hxe
    refine wpAny_pyNext_range_item q1 (by lia) fun h' k1 k2 => h _ h' _ (.int _ _) (.rng ?_) k2.extBut (by first | exact Nat.le_refl _ | exact Nat.le_succ _)
    have e2 : ((up - lo).toNat : Int) - ((i + 1 : Nat) : Int) = ((up - lo).toNat : Int) - (i : Int) - 1 := by push_cast; lia
    have e1 : lo + (((i + 1 : Nat) : Int)) = lo + (i : Int) + 1 := by push_cast; lia
    rw [e2, e1]; exact k1

theorem it_end {v : V} {a : Value} {xs : List V} {I : Addr} {Q : Option Value → Shared → Prop} {E : Value → Shared → Prop} (hs : SR C env Z R ρ st s) (r : VR Z ρ v a) (hi : Itb st v xs) (hI : IterAt s.heap I v a xs.length)
    (h : ∀ h', (∀ b o, b ≠ I → s.heap.get? b = some o → h'.get? b = some o) → Q none { s with heap := h' }) : wpAny C.M C.A (pyNext (.ref I)) Q E s := by
  cases hI with
  | lst q1 q2 =>
    obtain rfl : xs = _ := hi
    cases r with | lst h1 h2 => 
    have := h2.toArr
    exact wpAny_pyNext_list_end rfl q1 ⟨_, hs.z_ h1, rfl, _, rfl⟩ (by simp; lia) fun h' k => h h' k
  | obj q1 q2 =>
    obtain ⟨a', ws, k, e, ea, hl, rs⟩ := hs.list hi r
    cases e
    have := rs.toArr
    exact wpAny_pyNext_list_end rfl q1 ⟨_, hl, rfl, _, rfl⟩ (by simp; lia) fun h' k => h h' k
  | tup q1 q2 =>
    obtain rfl : xs = _ := hi
    cases r with | tup h1 h2 => 
    have := h2.toArr
    exact wpAny_pyNext_tuple_end rfl q1 ⟨_, hs.z_ h1, rfl, _, rfl⟩ (by simp; lia) fun h' k => h h' k
  | rng q1 =>
    obtain ⟨rfl, hb⟩ := hi
    exact wpAny_pyNext_range_end rfl q1 (by simp) fun h' k => h h' k
end

noncomputable def JA (C : Fx) (t : Expr) (x : V) (st : St) (Q : St → Prop) : Prop := ∀ env Z R ρ s w, SR C env Z R ρ st s → VR Z ρ x w → wpAny C.M C.A (assign t env w) (Post C env Z R ρ rUnit fun _ => Q) noE s

section
variable {C : Fx} {st : St}
theorem a_Name {x : Str} {px : Pos} {v : V} {k : NameKind} {Q : St → Prop} (h : Q { st with vars := setv x v st.vars }) (hk : C.sc.names.lookup x = some k) (hkk : k = .local ∨ k = .cell := by decide) : JA C (.Name x px) v st Q :=
  fun env Z R ρ s w hs r => wpAny_assign_Name (store_ (Q := fun _ => Q) hk h hkk hs r)

inductive ForI (C : Fx) (env : Env) (Z R : PH) (ρ : List Addr) (Ia : Addr) (v : V) (a : Value) (xs : List V) (I : Nat → St → Prop) (n : Nat) (s' : Shared) : Prop
  | mk (i : Nat) (st' : St) (Z' : PH) (ρ' : List Addr) (o' : Obj) (e : n = xs.length + 1 - i) (hle : i ≤ xs.length) (hz : PH.le Z Z') (hr : Ext ρ ρ') (hs : SR C env Z' (R.put Ia o') ρ' st' s') (at_ : IterAt s'.heap Ia v a i) (hI : I i st')
noncomputable abbrev WhyI (C : Fx) (env : Env) (Z R : PH) (ρ : List Addr) (Ia : Addr) (v : V) (a : Value) (xs : List V) (I : Nat → St → Prop) (n : Nat) (s' : Shared) (X : Prop) : Prop := X → ∃ m, m < n ∧ ForI C env Z R ρ Ia v a xs I m s'
theorem PH.put_two (R : PH) (a : Addr) (o o' : Obj) : (R.put a o).put a o' = R.put a o' := by funext b; unfold PH.put; split <;> rfl
inductive ForP (C : Fx) (target : Expr) (body orelse : List Stmt) (Q : FlowA → St → Prop) (v : V) (st₁ : St) : Prop
  | mk (xs : List V) (I : Nat → St → Prop) (i0 : I 0 st₁) (itb : ∀ i st, I i st → Itb st v xs)
    (turn : ∀ i x st, xs[i]? = some x → I i st → JA C target x st fun st₂ => JX C body st₂ fun f st₃ => match f with | .next | .cont => I (i + 1) st₃ | .brk => Q .next st₃ | .ret v => Q (.ret v) st₃)
    (fin : ∀ st, I xs.length st → JX C orelse st Q)
theorem x_For {target iter : Expr} {body orelse : List Stmt} {pos : Pos} {Q : FlowA → St → Prop}
    (h : J C VR (eval iter) st (ForP C target body orelse Q))
    (hs : ∀ env x, foldedSetIterable iter env x = pure x := by intro _ _; rfl) : JX1 C (.For target iter body orelse pos) st Q :=
  fun env Z R ρ s hs' => wp_gen fun P hP => wpAny_For (wp_use (h env Z R ρ s hs') (fun a s₁ v st₁ Z₁ ρ₁ hz₁ hr₁ rv hs₁ hF => hF.rec fun xs I i0 itb turn fin => by
    refine it_start hs₁ rv (itb 0 st₁ i0) fun o hf hit => ?_
    have rn := hs₁.rfresh (fresh_none s₁.heap)
    obtain ⟨le, hs₂⟩ := hs₁.allocR o s₁.toks hf
    refine codeAny_forLoop_any (ForI C env Z₁ R ρ₁ s₁.heap.objs.size v a xs I) ?_ _
      ⟨0, st₁, Z₁, ρ₁, o, rfl, Nat.zero_le _, PH.le.refl _, Ext.refl _, hs₂, hit, i0⟩
    clear le hs₂ hit i0
    generalize s₁.heap.objs.size = Ia at rn
    intro n s' ii
    refine ii.rec fun i st' Z' ρ' o' en hle hz hr k at_ hI => ?_
    have hz1 := hz₁.trans hz
    have hr1 := hr₁.trans hr
    by_cases hlt : i < xs.length
    · refine it_next k (rv.mono hz hr) (itb i st' hI) at_ (List.getElem?_eq_getElem hlt) fun w h' tk rw at' keep htk => ?_
      refine at'.has.elim fun o2 q => q.elim fun T q => ?_
      have k2 := k.updR (tk := tk) (PH.put_self ..) keep q.1
      rw [PH.put_two] at k2
      refine letGo_any q.1 q.2.1 q.2.2 ?_
      refine wp_use (turn i _ st' (List.getElem?_eq_getElem hlt) hI env Z' _ ρ' _ w k2 rw) (fun _ s₃ _ st₃ Z₃ ρ₃ hz₃ hr₃ _ hs₃ jx => ?_)
      refine wp_use (jx env Z₃ _ ρ₃ s₃ hs₃) (fun f s₄ g st₄ Z₄ ρ₄ hz₄ hr₄ rf hs₄ hq => ?_)
      have hz' := hz₃.trans hz₄
      have hr' := hr₃.trans hr₄
      have back := hs₄.weaken (PH.le_put rn)
      have at4 : WhyI C env Z₁ R ρ₁ Ia v a xs I n s₄ (I (i + 1) st₄) := fun hq => ⟨xs.length + 1 - (i + 1), by rw [en]; lia, i + 1, st₄, Z₄, ρ₄, o2, rfl, hlt, hz.trans hz', hr.trans hr', hs₄, at'.at_ fun oo e => by rw [q.1] at e; cases e; exact hs₄.r_ (PH.put_self ..), hq⟩
      cases rf with
      | next => exact at4 hq
      | cont => exact at4 hq
      | brk => exact hP _ _ ⟨_, st₄, Z₄, ρ₄, hz1.trans hz', hr1.trans hr', .next, back, hq⟩
      | ret rv => exact hP _ _ ⟨_, st₄, Z₄, ρ₄, hz1.trans hz', hr1.trans hr', .ret rv, back, hq⟩
    · obtain rfl : i = xs.length := by lia
      refine it_end k (rv.mono hz hr) (itb _ st' hI) at_ fun h' keep => ?_
      exact wp_use (fin st' hI env Z' R ρ' _ (k.lose (PH.le_put rn) (PH.put_self ..) rn keep)) fun _ _ _ _ _ _ hz2 hr2 r hs₂ h₂ => hP _ _ ⟨_, _, _, _, hz1.trans hz2, hr1.trans hr2, r, hs₂, h₂⟩)) (hs env)
end
end Mine
end
section -- MComp
set_option maxRecDepth 100000
namespace Mine
open PySem PySem.W PyProof.Rows

noncomputable def relab (sc scope : Scope) : Scope :=
  { scope with names := scope.names.map fun (n, k) => if (k == .free && sc.kind == .function && sc.names.lookup n == some .cell) then (n, .cell) else (n, k) }
noncomputable def Fx.comp (C : Fx) (scope : Scope) : Fx := { C with sc := relab C.sc scope, fr := none }
noncomputable def inner (scope : Scope) (vars : List (Str × V)) : List (Str × V) := vars.filter fun p => scope.names.lookup p.1 == some .free

theorem relab_eq {C : Fx} {env : Env} {Z R : PH} {ρ : List Addr} {st : St} {s : Shared} (hs : SR C env Z R ρ st s) (scope : Scope) : relabel scope env = relab C.sc scope := by
  unfold relabel relab
  congr 1
  refine List.map_congr_left fun p _ => ?_
  rw [hs.scope_]
  simp only [hs.kindOf_]

theorem lookup_relab (sc : Scope) (x : Str) : ∀ (names : List (Str × NameKind)),
    (names.map fun (n, k) => if (k == NameKind.free && sc.kind == .function && sc.names.lookup n == some .cell) then (n, NameKind.cell) else (n, k)).lookup x =
      (names.lookup x).map fun k => if (k == NameKind.free && sc.kind == .function && sc.names.lookup x == some .cell) then .cell else k
  | [] => rfl
  | (n, k) :: r => by
    have ih := lookup_relab sc x r
    show List.lookup x ((if (k == NameKind.free && sc.kind == .function && sc.names.lookup n == some .cell) = true then (n, NameKind.cell) else (n, k)) :: _) = _
    cases hx : x == n with
    | true =>
      have e := beq_iff_eq.mp hx; subst e
      by_cases q : (k == NameKind.free && sc.kind == .function && sc.names.lookup x == some .cell) = true
      · rw [if_pos q, List.lookup_cons, List.lookup_cons, hx]; exact (congrArg some (if_pos q)).symm
      · rw [if_neg q, List.lookup_cons, List.lookup_cons, hx]; exact (congrArg some (if_neg q)).symm
    | false =>
      by_cases q : (k == NameKind.free && sc.kind == .function && sc.names.lookup n == some .cell) = true
      · rw [if_pos q, List.lookup_cons, List.lookup_cons, hx]; exact ih
      · rw [if_neg q, List.lookup_cons, List.lookup_cons, hx]; exact ih

theorem inner_lookup {scope : Scope} {x : Str} {v : V} : ∀ {vars : List (Str × V)}, (inner scope vars).lookup x = some v → scope.names.lookup x = some .free ∧ vars.lookup x = some v
  | [], h => by cases h
  | (y, u) :: r, h => by
    unfold inner at h
    rw [List.filter_cons] at h
    cases hx : x == y with
    | true =>
      have e := beq_iff_eq.mp hx; subst e
      split at h
      · rename_i q
        rw [List.lookup_cons, hx] at h
        exact ⟨by simpa using q, by rw [List.lookup_cons, hx]; exact h⟩
      · rename_i q
        have := (inner_lookup (vars := r) h).1
        exact absurd this (by simpa using q)
    | false =>
      split at h
      · rw [List.lookup_cons, hx] at h
        have := inner_lookup (vars := r) h
        exact ⟨this.1, by rw [List.lookup_cons, hx]; exact this.2⟩
      · have := inner_lookup (vars := r) h
        exact ⟨this.1, by rw [List.lookup_cons, hx]; exact this.2⟩

theorem closure_some {env : Env} : ∀ (names : List (Str × NameKind)) (acc : List (Str × Addr)), (∀ p ∈ names, p.2 = .free → ∃ c, env.cells.lookup p.1 = some c) → (names.map (·.1)).Nodup → (∀ p ∈ names, acc.lookup p.1 = none) →
    ∃ cl, (forIn names acc fun p cs => (if (p.2 == NameKind.free) = true then (do let a ← cellOf env p.1; pure (ForInStep.yield ((p.1, a) :: cs))) else pure (ForInStep.yield cs) : Sem _)) = pure cl ∧
      (∀ x, names.lookup x = some .free → cl.lookup x = env.cells.lookup x) ∧ (∀ x, names.lookup x ≠ some .free → cl.lookup x = acc.lookup x)
  | [], acc, _, _, _ => ⟨acc, rfl, fun _ h => by simp at h, fun _ _ => rfl⟩
  | (n, k) :: r, acc, h, nd, ha => by
    rw [List.map_cons, List.nodup_cons] at nd
    have hn : r.lookup n = none := by
      cases z : r.lookup n with
      | none => rfl
      | some z' => exact absurd (List.mem_map.mpr ⟨_, PySem.mem_of_lookup z, rfl⟩) nd.1
    rw [List.forIn_cons]
    by_cases hk : k = .free
    · subst hk
      obtain ⟨c, hc⟩ := h _ List.mem_cons_self rfl
      obtain ⟨cl, h1, h2, h3⟩ := closure_some r ((n, c) :: acc) (fun p hp => h p (List.mem_cons_of_mem _ hp)) nd.2 fun p hp => by
        rw [List.lookup_cons]
        have : (p.1 == n) = false := beq_eq_false_iff_ne.mpr fun e => nd.1 (by rw [← e]; exact List.mem_map_of_mem (f := (·.1)) hp)
        rw [this]; exact ha p (List.mem_cons_of_mem _ hp)
      have hc' : cellOf env n = pure c := by unfold cellOf; rw [show env.cells.lookup n = some c from hc]
      refine ⟨cl, ?_, fun x hx => ?_, fun x hx => ?_⟩
      · simp only [beq_self_eq_true, if_true, hc', pure_bind]
        exact h1
      · rw [List.lookup_cons] at hx
        cases q : x == n with
        | true =>
          have e := beq_iff_eq.mp q; subst e
          rw [h3 x (by rw [hn]; simp), List.lookup_cons, q, hc]
        | false => rw [q] at hx; exact h2 x hx
      · rw [List.lookup_cons] at hx
        cases q : x == n with
        | true => rw [q] at hx; exact absurd rfl hx
        | false =>
          rw [q] at hx
          rw [h3 x hx, List.lookup_cons, q]
    · obtain ⟨cl, h1, h2, h3⟩ := closure_some r acc (fun p hp => h p (List.mem_cons_of_mem _ hp)) nd.2 fun p hp => ha p (List.mem_cons_of_mem _ hp)
      have hk' : (k == NameKind.free) = false := by simpa using hk
      refine ⟨cl, ?_, fun x hx => ?_, fun x hx => ?_⟩
      · simp only [hk', Bool.false_eq_true, if_false, pure_bind]
        exact h1
      · rw [List.lookup_cons] at hx
        cases q : x == n with
        | true => rw [q] at hx; cases hx; exact absurd rfl hk
        | false => rw [q] at hx; exact h2 x hx
      · rw [List.lookup_cons] at hx
        cases q : x == n with
        | true =>
          have e := beq_iff_eq.mp q; subst e
          exact h3 x (by rw [hn]; simp)
        | false => rw [q] at hx; exact h3 x hx

theorem cellsFrom_acc : ∀ (names : List (Str × NameKind)) (n : Nat) (acc : List (Str × Addr)) (x : Str), names.lookup x ≠ some .cell → (names.map (·.1)).Nodup → (cellsFrom n names acc).lookup x = acc.lookup x
  | [], _, _, _, _, _ => rfl
  | (y, k) :: r, n, acc, x, h, nd => by
    rw [List.map_cons, List.nodup_cons] at nd
    rw [List.lookup_cons] at h
    unfold cellsFrom
    cases q : x == y with
    | true =>
      have e := beq_iff_eq.mp q; subst e
      rw [q] at h
      have hn : r.lookup x ≠ some .cell := fun z => nd.1 (List.mem_map.mpr ⟨_, PySem.mem_of_lookup z, rfl⟩)
      have hk : (k == NameKind.cell) = false := by
        cases k <;> first | rfl | exact absurd rfl h
      rw [hk]
      exact cellsFrom_acc r n acc x hn nd.2
    | false =>
      rw [q] at h
      split
      · rw [cellsFrom_acc r _ _ x h nd.2, List.lookup_cons, q]
      · exact cellsFrom_acc r _ _ x h nd.2

theorem cellsFrom_new : ∀ (names : List (Str × NameKind)) (n : Nat) (acc : List (Str × Addr)) (x : Str), names.lookup x = some .cell → (names.map (·.1)).Nodup → ∃ c, (cellsFrom n names acc).lookup x = some c ∧ (x, c) ∈ cellsFrom n names [] 
  | [], _, _, _, h, _ => by cases h
  | (y, k) :: r, n, acc, x, h, nd => by
    rw [List.map_cons, List.nodup_cons] at nd
    rw [List.lookup_cons] at h
    unfold cellsFrom
    cases q : x == y with
    | true =>
      have e := beq_iff_eq.mp q; subst e
      rw [q] at h; cases h
      have hn : r.lookup x ≠ some .cell := fun z => nd.1 (List.mem_map.mpr ⟨_, PySem.mem_of_lookup z, rfl⟩)
      refine ⟨n, ?_, ?_⟩
      · simp only [beq_self_eq_true, if_true]
        rw [cellsFrom_acc r _ _ x hn nd.2, List.lookup_cons, q]
      · simp only [beq_self_eq_true, if_true]
        apply PySem.mem_of_lookup
        rw [cellsFrom_acc r _ _ x hn nd.2, List.lookup_cons, q]
    | false =>
      rw [q] at h
      split
      · obtain ⟨c, h1, h2⟩ := cellsFrom_new r (n + 1) ((y, n) :: acc) x h nd.2
        refine ⟨c, h1, ?_⟩
        exact mono r (n + 1) [] _ (by simp) _ h2
      · exact cellsFrom_new r n acc x h nd.2
where
  mono : ∀ (names : List (Str × NameKind)) (n : Nat) (acc acc' : List (Str × Addr)), (∀ p ∈ acc, p ∈ acc') → ∀ p, p ∈ cellsFrom n names acc → p ∈ cellsFrom n names acc'
  | [], _, _, _, h, p, hp => h p hp
  | (y, k) :: r, n, acc, acc', h, p, hp => by
    unfold cellsFrom at hp ⊢
    split
    · rename_i q; rw [if_pos q] at hp
      exact mono r (n + 1) _ _ (fun z hz => by
        rcases List.mem_cons.mp hz with e | hz
        · rw [e]; exact List.mem_cons_self
        · exact List.mem_cons_of_mem _ (h z hz)) p hp
    · rename_i q; rw [if_neg q] at hp
      exact mono r n _ _ h p hp

noncomputable def FSc (C : Fx) (env : Env) (scope : Scope) (b : Addr) : Prop := b = env.locals ∨ ∃ x k, C.sc.names.lookup x = some k ∧ (k = .cell ∨ k = .free) ∧ env.cells.lookup x = some b ∧ scope.names.lookup x ≠ some .free
open Classical in
noncomputable def framedC (C : Fx) (env : Env) (scope : Scope) (R : PH) (h : Heap) : PH := fun b => if FSc C env scope b then h.get? b else R b
theorem framedC_put {C : Fx} {env : Env} {scope : Scope} {R : PH} {h : Heap} {a : Addr} {o : Obj} (ha : ¬ FSc C env scope a) : (framedC C env scope R h).put a o = framedC C env scope (R.put a o) h := by
  classical
  funext b
  unfold framedC PH.put
  by_cases q : b = a
  · subst q; rw [if_pos rfl, if_neg ha, if_pos rfl]
  · rw [if_neg q]
    by_cases z : FSc C env scope b
    · simp only [if_pos z]
    · simp only [if_neg z, if_neg q]

theorem enterC {C : Fx} {env env' : Env} {Z R : PH} {ρ : List Addr} {st : St} {s s₁ : Shared} {cl : List (Str × Addr)} {scope : Scope} {tk : Nat}
    (hs : SR C env Z R ρ st s) (hk : scope.kind = .function) (nd : (scope.names.map (·.1)).Nodup) (hcl : ∀ x, scope.names.lookup x = some .free → cl.lookup x = env.cells.lookup x)
    (hfree : ∀ x, scope.names.lookup x = some .free → C.sc.names.lookup x = some .cell ∨ C.sc.names.lookup x = some .free)
    (he : env' = { scope := relab C.sc scope, locals := s.heap.objs.size, globals := env.globals, cells := cellsFrom (s.heap.objs.size + 1) scope.names cl, qual := env.qual, func := none, code := env.code, frame := env.frame, builtins := env.builtins })
    (hh : s₁ = { s with heap := pushCells (s.heap.push { cls := .type "dict", data := .dict #[] }) scope.names, toks := tk }) (htk : s.toks ≤ tk := by first | exact Nat.le_refl _ | omega) :
    SR (C.comp scope) env' Z (framedC C env scope R s.heap) ρ { st with vars := inner scope st.vars } s₁ ∧ (∀ b o, R b = some o → ¬ FS C env b) ∧
    (∀ b o, s.heap.get? b = some o → s₁.heap.get? b = some o) ∧
    ∀ Z' R' ρ' st' s', PH.le Z Z' → Ext ρ ρ' → (∀ b o, R' b = some o → ¬ FS C env b) → SR (C.comp scope) env' Z' (framedC C env scope R' s.heap) ρ' st' s' →
      (∀ x v, scope.names.lookup x = some .free → st.vars.lookup x = some v → st'.vars.lookup x = some v) → ∀ oL, s'.heap.get? env'.locals = some oL → SR C env Z' (R'.put env'.locals oL) ρ' { st' with vars := st.vars } s' := by
  classical
  obtain ⟨T, h⟩ := hs
  have hkeep : ∀ b o, s.heap.get? b = some o → s₁.heap.get? b = some o := fun b o e => by rw [hh]; exact pushCells_keeps _ _ b o (Heap.get?_push_of_some _ e)
  have hL : env'.locals = s.heap.objs.size := congrArg Env.locals he
  have hcs : env'.cells = cellsFrom (s.heap.objs.size + 1) scope.names cl := congrArg Env.cells he
  have hlook : ∀ x, (C.comp scope).sc.names.lookup x = (scope.names.lookup x).map fun k => if (k == NameKind.free && C.sc.kind == .function && C.sc.names.lookup x == some .cell) then .cell else k := fun x => lookup_relab C.sc x scope.names
  have ok := cellsFrom_ok scope.names (s.heap.push { cls := .type "dict", data := .dict #[] }) (s.heap.objs.size + 1) [] ⟨fun _ _ hm => (nomatch hm), List.Pairwise.nil⟩ (by rw [Heap.size_push]; exact Nat.le_refl _)
  rw [Heap.size_push] at ok
  obtain ⟨hl, m, hn, hm⟩ := h.loc
  have fsSome : ∀ b, FS C env b → ∃ o, s.heap.get? b = some o := fun b q => by
    rcases q with rfl | ⟨y, k, e1, e2, e3⟩
    · obtain ⟨o, _, _, ho, _⟩ := hn; exact ⟨o, ho⟩
    · obtain ⟨c, o, h1, _, ⟨ob, h2, _⟩, _⟩ := h.cell y k e1 e2
      rw [e3] at h1; cases h1; exact ⟨ob, h2⟩
  have fsTag : ∀ b, FS C env b → (T b).k = 3 ∨ (T b).k = 4 := fun b q => by
    rcases q with rfl | ⟨y, k, e1, e2, e3⟩
    · exact .inl (congrArg Tag.k hl)
    · obtain ⟨c, o, h1, h2, _⟩ := h.cell y k e1 e2
      rw [e3] at h1; cases h1; exact .inr (congrArg Tag.k h2)
  have nFS : ∀ {b t}, T b = t → t.k < 3 ∨ 4 < t.k → ¬ FS C env b := fun {b t} e ht q => by
    have := fsTag b q; rw [e] at this; lia
  have sub : ∀ b, FSc C env scope b → FS C env b := fun b q => by
    rcases q with rfl | ⟨y, k, e1, e2, e3, _⟩
    · exact .inl rfl
    · exact .inr ⟨y, k, e1, e2, e3⟩
  have notTaken : ∀ b x k, FSc C env scope b → C.sc.names.lookup x = some k → (k = .cell ∨ k = .free) → env.cells.lookup x = some b → scope.names.lookup x ≠ some .free := fun b x k q e1 e2 e3 => by
    obtain ⟨c, o, h1, h2, _⟩ := h.cell x k e1 e2
    rw [e3] at h1; cases h1
    rcases q with rfl | ⟨y, k', f1, f2, f3, f4⟩
    · rw [hl] at h2; cases h2
    · obtain ⟨c', o', g1, g2, _⟩ := h.cell y k' f1 f2
      rw [f3] at g1; cases g1
      rw [h2] at g2; cases g2; exact f4
  have rIn : ∀ b o, R b = some o → ¬ FS C env b := fun b o e => nFS (h.r b o e).1 (.inl (by decide))
  have T'old : ∀ {b o t}, s.heap.get? b = some o → ¬ FSc C env scope b → T b = t → tagged s.heap.objs.size (cellsFrom (s.heap.objs.size + 1) scope.names []) (fun b => if FSc C env scope b then .r else T b) b = t ∧ s₁.heap.get? b = some o := fun {b o t} e hn ht => by
    have lt := Heap.lt_size e
    refine ⟨(tagged_old (Nat.ne_of_lt lt) fun y c hp z => ?_).trans ((if_neg hn).trans ht), hkeep _ _ e⟩
    have := (ok.empty y c hp).2
    rw [z] at this
    exact Nat.lt_irrefl _ (Nat.lt_of_lt_of_le lt (Nat.le_of_succ_le this))
  have hos : s₁.os = s.os := (congrArg (fun x : Shared => x.os) hh : _)
  have hgens : s₁.gens = s.gens := (congrArg (fun x : Shared => x.gens) hh : _)
  have hdrawn : s₁.drawn = s.drawn := (congrArg (fun x : Shared => x.drawn) hh : _)
  refine ⟨⟨tagged s.heap.objs.size (cellsFrom (s.heap.objs.size + 1) scope.names []) (fun b => if FSc C env scope b then .r else T b), ?_⟩, rIn, hkeep, fun Z' R' ρ' st' s' hz hr hR' ⟨T2, k⟩ hvars oL hoL => ?_⟩
  · exact {
      tk := by rw [hh]; exact Nat.le_trans h.tk htk
      base := h.base
      z := fun b o e => T'old (h.z b o e).2 (fun q => nFS (h.z b o e).1 (.inl (by decide)) (sub b q)) (h.z b o e).1
      r := fun b o e => by
        unfold framedC at e
        by_cases q : FSc C env scope b
        · rw [if_pos q] at e
          have lt := Heap.lt_size e
          refine ⟨(tagged_old (Nat.ne_of_lt lt) fun y c hp z => ?_).trans (if_pos q), hkeep _ _ e⟩
          have := (ok.empty y c hp).2
          rw [z] at this
          exact Nat.lt_irrefl _ (Nat.lt_of_lt_of_le lt (Nat.le_of_succ_le this))
        · rw [if_neg q] at e
          exact T'old (h.r b o e).2 q (h.r b o e).1
      nx := h.nx
      objs := fun n ao e => (h.objs n ao e).rec fun b h1 h2 o h3 h4 =>
        have r := T'old h3 (fun z => nFS h2 (.inr (Nat.lt_succ_self 4)) (sub b z)) h2
        ⟨b, h1, r.1, o, r.2, h4⟩
      scope := congrArg Env.scope he
      kind := hk
      globals := (congrArg Env.globals he).trans h.globals
      builtins := (congrArg Env.builtins he).trans h.builtins
      loc := by
        refine ⟨by rw [hL]; exact if_pos rfl, fun _ => none, ?_, fun y v e1 e2 => ?_⟩
        · rw [hL, hh]
          exact (Heap.Ns.new s.heap (.type "dict")).keeps (pushCells_keeps _ _)
        · have := (inner_lookup e1).1
          rw [hlook, this] at e2
          simp at e2
          split at e2 <;> cases e2
      cell := fun y kk e1 e2 => by
        rw [hlook] at e1
        cases q : scope.names.lookup y with
        | none => rw [q] at e1; cases e1
        | some k0 =>
          rw [q] at e1
          by_cases qf : k0 = .free
          · subst qf
            have hcc : env'.cells.lookup y = env.cells.lookup y := by
              rw [hcs, cellsFrom_acc _ _ _ _ (by rw [q]; simp) nd]; exact hcl y q
            obtain ⟨c, o, h1, h2, ⟨ob, h3, h3'⟩, h4⟩ : CellAt Z ρ env.cells st.vars s.heap T y := by
              rcases hfree y q with f | f
              · exact h.cell y _ f (.inl rfl)
              · exact h.cell y _ f (.inr rfl)
            refine ⟨c, o, hcc.trans h1, (T'old h3 (fun z => ?_) h2).1, ⟨ob, hkeep _ _ h3, h3'⟩, fun v e => h4 v (inner_lookup e).2⟩
            rcases hfree y q with f | f
            · exact notTaken c y _ z f (.inl rfl) h1 q
            · exact notTaken c y _ z f (.inr rfl) h1 q
          · have hkc : k0 = .cell := by
              simp at e1
              rw [if_neg (by intro z; exact qf z.1.1)] at e1
              subst e1
              rcases e2 with e | e
              · exact e
              · exact absurd e qf
            subst hkc
            obtain ⟨c, h1, h2⟩ := cellsFrom_new scope.names (s.heap.objs.size + 1) cl y q nd
            have emp := ok.empty y c h2
            refine ⟨c, none, by rw [hcs]; exact h1, tagged_cell h2 ok.apart fun z => ?_, by rw [hh]; exact emp.1, fun v e => ?_⟩
            · have := emp.2; rw [z] at this; exact Nat.lt_irrefl _ this
            · have := (inner_lookup e).1
              rw [q] at this; cases this
      os := hos.trans h.os
      gens := by rw [hgens, hdrawn]; exact h.gens
      pin := h.pin
      fl := fun b o e => (h.fl b o e).2.elim fun sl q => (T'old q (fun z => nFS (h.fl b o e).1 (.inr (by decide)) (sub b z)) (h.fl b o e).1).elim fun x y => ⟨x, sl, y⟩
      fr := FrOk.none_ rfl }
  · have fsIn : ∀ b o, FSc C env scope b → s.heap.get? b = some o → T2 b = .r ∧ s'.heap.get? b = some o := fun b o q e => k.r b o (by unfold framedC; rw [if_pos q]; exact e)
    have rOut : ∀ b o, R' b = some o → T2 b = .r ∧ s'.heap.get? b = some o := fun b o e => k.r b o (by unfold framedC; rw [if_neg fun q => hR' b o e (sub b q)]; exact e)
    -- a taken cell
    have taken : ∀ x kk, C.sc.names.lookup x = some kk → (kk = .cell ∨ kk = .free) → scope.names.lookup x = some .free → ∀ c, env.cells.lookup x = some c → T2 c = .fc x ∧ ∃ o, s'.heap.IsCell c o ∧ ∀ v, st'.vars.lookup x = some v → ValAt Z' ρ' v o := fun x kk e1 e2 e3 c e4 => by
      obtain ⟨c', o, h1, h2, h3, h4⟩ := k.cell x (if (NameKind.free == NameKind.free && C.sc.kind == .function && C.sc.names.lookup x == some .cell) then .cell else .free) (by rw [hlook, e3]; rfl) (by split <;> simp)
      have hcc : env'.cells.lookup x = env.cells.lookup x := by
        rw [hcs, cellsFrom_acc _ _ _ _ (by rw [e3]; simp) nd]; exact hcl x e3
      rw [hcc, e4] at h1; cases h1
      exact ⟨h2, o, h3, h4⟩
    have tagFS : ∀ b, FS C env b → T2 b = .r ∨ ∃ y, T2 b = .fc y := fun b q => by
      rcases q with rfl | ⟨x, kk, e1, e2, e3⟩
      · obtain ⟨o, e⟩ := fsSome _ (.inl rfl); exact .inl (fsIn _ o (.inl rfl) e).1
      · by_cases f : scope.names.lookup x = some .free
        · exact .inr ⟨x, (taken x kk e1 e2 f b e3).1⟩
        · obtain ⟨o, e⟩ := fsSome b (.inr ⟨x, kk, e1, e2, e3⟩); exact .inl (fsIn b o (.inr ⟨x, kk, e1, e2, e3, f⟩) e).1
    have tL : T2 env'.locals = .fl := k.loc.fl
    have nFS : ¬ FS C env env'.locals := fun q => by
      obtain ⟨o, e⟩ := fsSome _ q
      rw [hL, fresh_none] at e; cases e
    refine ⟨fun b => if FS C env b then T b else if b = env'.locals then .r else if (R' b).isSome then .r else match T2 b with | .z => .z | .ob n => .ob n | .fo => .fo | _ => .free, ?_⟩
    have tz' : ∀ b, T2 b = .fo → ¬ FS C env b ∧ R' b = none ∧ b ≠ env'.locals := fun b q => by
      refine ⟨fun z => ?_, ?_, fun z => by subst z; rw [tL] at q; cases q⟩
      · rcases tagFS b z with e | ⟨y, e⟩ <;> rw [q] at e <;> cases e
      · cases e : R' b with
        | none => rfl
        | some o => have := (rOut b o e).1; rw [q] at this; cases this
    have tz : ∀ b, (T2 b = .z ∨ ∃ n, T2 b = .ob n) → ¬ FS C env b ∧ R' b = none ∧ b ≠ env'.locals := fun b q => by
      refine ⟨fun z => ?_, ?_, fun z => by subst z; rcases q with q | ⟨n, q⟩ <;> rw [tL] at q <;> cases q⟩
      · rcases tagFS b z with e | ⟨y, e⟩ <;> rcases q with q | ⟨n, q⟩ <;> rw [q] at e <;> cases e
      · cases e : R' b with
        | none => rfl
        | some o => have := (rOut b o e).1; rcases q with q | ⟨n, q⟩ <;> rw [q] at this <;> cases this
    exact {
      tk := k.tk
      base := k.base
      z := fun b o e => by
        have e1 := k.z b o e
        obtain ⟨q1, q2, q3⟩ := tz b (.inl e1.1)
        refine ⟨?_, e1.2⟩
        rw [if_neg q1, if_neg q3, q2, if_neg (by simp), e1.1]
      r := fun b o e => by
        by_cases q : b = env'.locals
        · subst q; rw [PH.put_self] at e; cases e
          exact ⟨by rw [if_neg nFS, if_pos rfl], hoL⟩
        · rw [PH.put_ne _ _ q] at e
          exact ⟨by rw [if_neg (hR' b o e), if_neg q, e]; rfl, (rOut b o e).2⟩
      nx := k.nx
      objs := fun n ao e => by
        obtain ⟨b, h1, h2, o, h3, h4⟩ := k.objs n ao e
        obtain ⟨q1, q2, q3⟩ := tz b (.inr ⟨n, h2⟩)
        refine ⟨b, h1, ?_, o, h3, h4⟩
        rw [if_neg q1, if_neg q3, q2, if_neg (by simp), h2]
      scope := h.scope
      kind := h.kind
      globals := h.globals
      builtins := h.builtins
      loc := by
        refine ⟨by rw [if_pos (.inl rfl)]; exact hl, m, hn.at' fun o e => (fsIn _ o (.inl rfl) e).2, fun y v e1 e2 => ?_⟩
        obtain ⟨w, a1, a2⟩ := hm y v e1 e2
        exact ⟨w, a1, a2.mono hz hr⟩
      cell := fun y kk e1 e2 => by
        obtain ⟨c, o, a1, a2, ⟨ob, a3, a3'⟩, a4⟩ := h.cell y kk e1 e2
        have fs : FS C env c := .inr ⟨y, kk, e1, e2, a1⟩
        by_cases f : scope.names.lookup y = some .free
        · obtain ⟨_, o', b2, b3⟩ := taken y kk e1 e2 f c a1
          exact ⟨c, o', a1, by rw [if_pos fs]; exact a2, b2, fun v e => b3 v (hvars y v f e)⟩
        · refine ⟨c, o, a1, by rw [if_pos fs]; exact a2, ⟨ob, (fsIn c ob (.inr ⟨y, kk, e1, e2, a1, f⟩) a3).2, a3'⟩, fun v e => ?_⟩
          obtain ⟨w, b1, b2⟩ := a4 v e
          exact ⟨w, b1, b2.mono hz hr⟩
      os := k.os
      gens := k.gens
      pin := k.pin
      fl := fun b o e => by
        have e1 := k.fl b o e
        obtain ⟨q1, q2, q3⟩ := tz' b e1.1
        refine ⟨?_, e1.2⟩
        rw [if_neg q1, if_neg q3, q2, if_neg (by simp), e1.1]
      fr := h.fr }
end Mine
end
section -- MComp2
set_option maxRecDepth 100000
namespace Mine
open PySem PySem.W PyProof.Rows

theorem PH.put_put (R : PH) (a : Addr) (o o' : Obj) : (R.put a o).put a o' = R.put a o' := by funext b; unfold PH.put; split <;> rfl
theorem PH.put_mid (R : PH) {a b : Addr} (h : b ≠ a) (o o' p : Obj) : ((R.put a o).put b p).put a o' = (R.put a o').put b p := by
  funext c; unfold PH.put
  by_cases q : c = a
  · subst q; rw [if_pos rfl, if_neg (Ne.symm h), if_pos rfl]
  · rw [if_neg q, if_neg q, if_neg q]

noncomputable def turnG (p : Pos) (target : Expr) (ifs : List Expr) (body : Env → Value → Sem Unit) (e : Expr) (d : Nat) (it acc : Value) (env : Env) : Sem Fin := do
  standAt p
  match ← pyNext it with
  | none => pure (.done .next)
  | some v =>
    letOwnedTupleGo target it v
    assign target env v
    let mut ok := true
    for c in ifs do
      if ok then ok ← isTrue c env (eval c env)
    if ok then body env acc
    again (.compLoop e d it acc env)

noncomputable abbrev tests (ifs : List Expr) (env : Env) : Sem Bool := forIn ifs true fun c r => if r = true then do let ok ← isTrue c env (eval c env); pure (ForInStep.yield ok) else pure (ForInStep.yield r)
noncomputable abbrev JTs (C : Fx) (ifs : List Expr) (st : St) (Q : Bool → St → Prop) : Prop := J C rBool (tests ifs) st Q

inductive PostL (C : Fx) (env : Env) (Z R : PH) (ρ : List Addr) (D : Addr) (Q : List V → St → Prop) (s' : Shared) : Prop
  | mk (ys' : List V) (st' : St) (Z' : PH) (ρ' : List Addr) (ws' : Array Value) (k' : Nat) (hz : PH.le Z Z') (hr : Ext ρ ρ') (hs : SR C env Z' (R.put D (lobj ws' k')) ρ' st' s') (hy : VRs Z' ρ' ys' ws'.toList) (hq : Q ys' st')
noncomputable def JE (C : Fx) (m : Env → Value → Sem Unit) (ys : List V) (st : St) (Q : List V → St → Prop) : Prop :=
  ∀ (env : Env) (Z R : PH) (ρ : List Addr) (s : Shared) (D : Addr) (ws : Array Value) (k : Nat), SR C env Z (R.put D (lobj ws k)) ρ st s → R D = none → VRs Z ρ ys ws.toList →
    wpAny C.M C.A (m env (.ref D)) (fun _ s' => PostL C env Z R ρ D Q s') noE s

theorem loop_turn {prog : Program} {w : World} {A : Around} {R : Result → Shared → Prop} {s : Shared} {elt : Expr} {gens : List Comprehension} {scope : Scope} {pos : Pos} {d : Nat} {p : Pos} {target : Expr} {ifs : List Expr} {body : Env → Value → Sem Unit} {it acc : Value} {env : Env} (heq : compTurn (.ListComp elt gens scope pos) d it acc env = turnG p target ifs body (.ListComp elt gens scope pos) d it acc env)
    (I : Nat → Shared → Prop) (turn : ∀ n s, I n s → wpAny (model prog w) A (turnG p target ifs body (.ListComp elt gens scope pos) d it acc env) (fun fin s' => match fin with | .done f => R (.ok f) s' | .again c' => c' = .compLoop (.ListComp elt gens scope pos) d it acc env ∧ ∃ m, m < n ∧ I m s') (notedBy (model prog w) A env fun e s' => R (.error e) s') s) (n : Nat) (h : I n s) :
    codeAny (model prog w) A (.compLoop (.ListComp elt gens scope pos) d it acc env) R s := by
  refine codeAny_loop rfl I (fun n s hI => ?_) n h
  show wpAny _ A ((compTurn (.ListComp elt gens scope pos) d it acc env).onRaise (fun x => do noteFrame x env; theTreesLotGoes x)) _ _ s
  refine wpAny_noted ?_
  rw [heq]
  exact turn n s hI

section
variable {C : Fx} {st : St}

theorem ts_nil {Q : Bool → St → Prop} (h : Q true st) : JTs C [] st Q := fun env Z R ρ s hs => wpAny_tests_nil (SR.post hs rfl h)
theorem ts_one {c : Expr} {Q : Bool → St → Prop} (h : JT C c st Q) : JTs C [c] st Q := fun env Z R ρ s hs => wpAny_tests_one (h env Z R ρ s hs)

theorem e_emit {elt : Expr} {ys : List V} {Q : List V → St → Prop} (h : J C VR (eval elt) st fun v st' => ys.length ≤ sizeLine ∧ Q (ys ++ [v]) st') :
    JE C (fun env acc => do let _ ← call (.builtin "list.append") [acc, ← eval elt env]) ys st Q :=
  fun env Z R ρ s D ws k hs hD hy => by
    refine wpAny_bind (wp_use (h env Z _ ρ s hs) (fun x s' v st' Z' ρ' hz hr rv hs' ⟨hsz, hq⟩ => ?_))
    have ho := hs'.r_ (PH.put_self ..)
    have hl := hy.toArr
    refine wpAny_bind (call_meets PySem.F.slot_list_append ⟨_, ho, rfl⟩ PySem.F.entry_list_append (args_list_append _ _) (PySem.AutoListH.list_append_list_val_0 D ws k x (by omega)) ⟨ho, wpAny_pure ?_⟩)
    obtain ⟨k', hk'⟩ := mapSeq_lobj (·.push x) ws k
    have k2 := hs'.updR (tk := s'.toks) (h' := s'.heap.update D (Obj.mapSeq (·.push x))) (o' := lobj (ws.push x) k') (PH.put_self ..) (fun b o hb e => (Heap.SameBut.update ..).extBut b o hb e) (by rw [← hk']; exact Heap.get?_update_self _ ho (by rw [hk']; rfl))
    rw [PH.put_put] at k2
    refine ⟨_, st', Z', ρ', _, k', hz, hr, k2, ?_, hq⟩
    rw [Array.toList_push]
    exact (hy.mono hz hr).append (.cons rv .nil)

inductive LoopI (C : Fx) (env : Env) (Z R : PH) (ρ : List Addr) (Ia D : Addr) (v : V) (a : Value) (xs : List V) (I : Nat → List V → St → Prop) (n : Nat) (s' : Shared) : Prop
  | mk (i : Nat) (ys' : List V) (st' : St) (Z' : PH) (ρ' : List Addr) (o' : Obj) (ws' : Array Value) (k' : Nat) (e : n = xs.length + 1 - i) (hle : i ≤ xs.length) (hz : PH.le Z Z') (hr : Ext ρ ρ') (hs : SR C env Z' ((R.put Ia o').put D (lobj ws' k')) ρ' st' s') (hy : VRs Z' ρ' ys' ws'.toList) (at_ : IterAt s'.heap Ia v a i) (hI : I i ys' st')
theorem comp_loop {elt : Expr} {gens : List Comprehension} {scope : Scope} {pos : Pos} {d : Nat} {p : Pos} {target : Expr} {ifs : List Expr} {body : Env → Value → Sem Unit} (heq : ∀ it acc env, compTurn (.ListComp elt gens scope pos) d it acc env = turnG p target ifs body (.ListComp elt gens scope pos) d it acc env)
    {v : V} {xs : List V} (I : Nat → List V → St → Prop) (itb : ∀ i ys st, I i ys st → Itb st v xs)
    (turn : ∀ i ys x st, xs[i]? = some x → I i ys st → JA C target x st fun st₂ => JTs C ifs st₂ fun ok st₃ => (ok = true → JE C body ys st₃ (I (i + 1))) ∧ (ok = false → I (i + 1) ys st₃))
    {env : Env} {Z R : PH} {ρ : List Addr} {s : Shared} {a : Value} {Ia D : Addr} {o : Obj} {ws : Array Value} {k : Nat} {ys : List V} (hs : SR C env Z ((R.put Ia o).put D (lobj ws k)) ρ st s) (hIR : R Ia = none) (hDR : R D = none) (hne : D ≠ Ia)
    (hv : VR Z ρ v a) (hat : IterAt s.heap Ia v a 0) (hys : VRs Z ρ ys ws.toList) (i0 : I 0 ys st) :
    codeAny C.M C.A (.compLoop (.ListComp elt gens scope pos) d (.ref Ia) (.ref D) env) (fun r s' => r = .ok .next ∧ PostL C env Z R ρ D (I xs.length) s') s := by
  refine loop_turn (heq _ _ _) (LoopI C env Z R ρ Ia D v a xs I) ?_ _
    ⟨0, ys, st, Z, ρ, o, ws, k, rfl, Nat.zero_le _, PH.le.refl _, Ext.refl _, hs, hys, hat, i0⟩
  intro n s' ii
  refine ii.rec fun i ys' st' Z' ρ' o' ws' k' en hle hz hr hs' hy' at_ hI => ?_
  unfold turnG
  refine wpAny_bind (wpAny_standAt (wpAny_bind ?_))
  have rI : ∀ (d o : Obj), ((R.put Ia o).put D d) Ia = some o := fun d o => by rw [PH.put_ne _ _ (Ne.symm hne), PH.put_self]
  by_cases hlt : i < xs.length
  · refine it_next hs' (hv.mono hz hr) (itb i ys' st' hI) at_ (List.getElem?_eq_getElem hlt) fun w h' tk rw' at' keep htk => ?_
    refine at'.has.elim fun o2 q => q.elim fun T q => ?_
    have k2 := hs'.updR (tk := tk) (rI _ _) keep q.1
    rw [PH.put_mid _ hne] at k2
    refine wpAny_bind (letGo_any q.1 q.2.1 q.2.2 ?_)
    refine wpAny_bind (wp_use (turn i ys' _ st' (List.getElem?_eq_getElem hlt) hI env Z' _ ρ' _ w k2 rw') fun _ s₃ _ st₃ Z₃ ρ₃ hz₃ hr₃ _ hs₃ jt => ?_)
    have re : ∀ {ys : List V} {st' : St} {Z' : PH} {ρ' : List Addr} {ws : Array Value} {k : Nat} {s' : Shared}, PH.le Z Z' → Ext ρ ρ' → SR C env Z' ((R.put Ia o2).put D (lobj ws k)) ρ' st' s' → VRs Z' ρ' ys ws.toList → I (i + 1) ys st' → ∃ m, m < n ∧ LoopI C env Z R ρ Ia D v a xs I m s' :=
      fun hz hr hs hy hI => ⟨xs.length + 1 - (i + 1), by rw [en]; lia, i + 1, _, _, _, _, o2, _, _, rfl, hlt, hz, hr, hs, hy, at'.at_ fun oo e => by rw [q.1] at e; cases e; exact hs.r_ (rI _ _), hI⟩
    refine wpAny_bind (wp_use (jt env Z₃ _ ρ₃ s₃ hs₃) fun ok s₄ ok' st₄ Z₄ ρ₄ hz₄ hr₄ e hs₄ hq => ?_)
    cases show ok = ok' from e
    have hz' := (hz.trans hz₃).trans hz₄
    have hr' := (hr.trans hr₃).trans hr₄
    have hy4 := hy'.mono (hz₃.trans hz₄) (hr₃.trans hr₄)
    cases ok with
    | false => exact wpAny_pure ⟨rfl, re hz' hr' hs₄ hy4 (hq.2 rfl)⟩
    | true => exact wpAny_bind (wpAny_mono (hq.1 rfl env Z₄ (R.put Ia o2) ρ₄ s₄ D ws' k' hs₄ (by rw [PH.put_ne _ _ hne]; exact hDR) hy4) (fun _ s₅ pp => pp.rec fun ys₅ st₅ Z₅ ρ₅ ws₅ k₅ hz₅ hr₅ hs₅ hy₅ hq => wpAny_pure ⟨rfl, re (hz'.trans hz₅) (hr'.trans hr₅) hs₅ hy₅ hq⟩) fun _ _ e => e.elim)
  · obtain rfl : i = xs.length := by lia
    refine it_end hs' (hv.mono hz hr) (itb _ ys' st' hI) at_ fun h' keep => ?_
    exact wpAny_pure ⟨rfl, ys', st', Z', ρ', ws', k', hz, hr, hs'.lose (fun b q e => by
      by_cases z : b = D
      · subst z; rw [PH.put_self] at e ⊢; exact e
      · rw [PH.put_ne _ _ z] at e ⊢; exact PH.le_put hIR b q e) (rI _ _) (by rw [PH.put_ne _ _ (Ne.symm hne)]; exact hIR) keep, hy', hI⟩

theorem it_self {s : Shared} {v : V} {a : Value} {I : Addr} {i : Nat} {Q : Value → Shared → Prop} {E : Value → Shared → Prop} (hI : IterAt s.heap I v a i) (h : Q (.ref I) s) : wpAny C.M C.A (pyIter (.ref I)) Q E s := by
  cases hI with
  | lst q1 q2 => exact wpAny_pyIter_listiter q1 h
  | obj q1 q2 => exact wpAny_pyIter_listiter q1 h
  | tup q1 q2 => exact wpAny_pyIter_tupleiter q1 h
  | rng q1 => exact wpAny_pyIter_rangeiter q1 h

theorem compStart_1 {R : Result → Shared → Prop} {s : Shared} {elt target iter : Expr} {g1 : Comprehension} {ifs rest scope pos it acc env}
    (h0 : codeAny C.M C.A (.compLoop (.ListComp elt (g1 :: ⟨target, iter, ifs, 0⟩ :: rest) scope pos) 1 it acc env) R s)
    (h : wpAny C.M C.A (pyIter it) (fun it' s' => codeAny C.M C.A (.compLoop (.ListComp elt (g1 :: ⟨target, iter, ifs, 0⟩ :: rest) scope pos) 1 it' acc env) R s')
      (notedBy C.M C.A env fun x s' => R (.error x) s') s) :
    codeAny C.M C.A (.compStart (.ListComp elt (g1 :: ⟨target, iter, ifs, 0⟩ :: rest) scope pos) 1 it acc env) R s := by
  refine codeAny_of_tree ?_
  show wpAny _ _ ((compStart (.ListComp elt (g1 :: ⟨target, iter, ifs, 0⟩ :: rest) scope pos) 1 it acc env).onRaise (fun x => do noteFrame x env; standAt theWindowsPlace)) _ _ s
  refine wpAny_notedAt ?_
  unfold compStart
  show wpAny _ _ (ask >>= _) _ _ s
  refine wpAny_bind (wpAny_askSetting (wpAny_ite ?_))
  split
  · first
      | exact wpAny_bind (wpAny_pure (wpAny_pure (And.intro rfl h0)))
      | exact wpAny_pure (And.intro rfl h0)
  · first
      | exact wpAny_bind (wpAny_rule (wpAny_bind (wpAny_standAt (wpAny_bind (wpAny_mono h (fun it' s' h' => wpAny_pure (And.intro rfl h')) fun _ _ x => x)))))
      | (refine wpAny_bind (wpAny_rule ?_); show wpAny _ _ (standAt iter.pos >>= _) _ _ s; exact wpAny_bind (wpAny_standAt (wpAny_bind (wpAny_mono h (fun it' s' h' => wpAny_pure (And.intro rfl h')) fun _ _ x => x))))

noncomputable def body1 (elt : Expr) : Env → Value → Sem Unit := fun env acc => do let _ ← call (.builtin "list.append") [acc, ← eval elt env]
noncomputable def body2 (e : Expr) (iter : Expr) : Env → Value → Sem Unit := fun env acc => do
  let x ← eval iter env
  standAt iter.pos
  let x ← foldedSetIterable iter env x
  let _ ← runOwn (.compStart e 1 (← holding [x] (pyIter x)) acc env) env

theorem turn_1 (elt target iter : Expr) (ifs : List Expr) (scope : Scope) (pos : Pos) (it acc : Value) (env : Env) :
    compTurn (.ListComp elt [⟨target, iter, ifs, 0⟩] scope pos) 0 it acc env = turnG iter.pos target ifs (body1 elt) (.ListComp elt [⟨target, iter, ifs, 0⟩] scope pos) 0 it acc env := by rfl
theorem turn_20 (elt target iter target' iter' : Expr) (ifs ifs' : List Expr) (scope : Scope) (pos : Pos) (it acc : Value) (env : Env) :
    compTurn (.ListComp elt [⟨target, iter, ifs, 0⟩, ⟨target', iter', ifs', 0⟩] scope pos) 0 it acc env =
      turnG iter.pos target ifs (body2 (.ListComp elt [⟨target, iter, ifs, 0⟩, ⟨target', iter', ifs', 0⟩] scope pos) iter') (.ListComp elt [⟨target, iter, ifs, 0⟩, ⟨target', iter', ifs', 0⟩] scope pos) 0 it acc env := by
  unfold turnG body2
  simp only [bind_assoc, pure_bind]
  rfl
theorem turn_21 (elt target iter target' iter' : Expr) (ifs ifs' : List Expr) (scope : Scope) (pos : Pos) (it acc : Value) (env : Env) :
    compTurn (.ListComp elt [⟨target, iter, ifs, 0⟩, ⟨target', iter', ifs', 0⟩] scope pos) 1 it acc env =
      turnG iter'.pos target' ifs' (body1 elt) (.ListComp elt [⟨target, iter, ifs, 0⟩, ⟨target', iter', ifs', 0⟩] scope pos) 1 it acc env := by rfl
end
end Mine
end
section -- MComp3
set_option maxRecDepth 100000
namespace Mine
open PySem PySem.W PyProof.Rows

theorem wpAny_newEnvComp {M : Model} {A : Around} {E : Value → Shared → Prop} {s : Shared} {scope : Scope} {globals : Addr} {cl : List (Str × Addr)} {qual : Str} {env : Env} {b : Addr} {Q : Env → Shared → Prop}
    (h : Q { scope, locals := s.heap.objs.size, globals, cells := cellsFrom (s.heap.objs.size + 1) scope.names cl, qual, func := none, code := env.code, frame := env.frame, builtins := env.builtins } { s with heap := pushCells (s.heap.push { cls := .type "dict", data := .dict #[] }) scope.names }) :
    wpAny M A (newFunctionEnv scope globals cl [] qual none .none (some env) b) Q E s := by
  simp only [newFunctionEnv, Option.isSome_some, if_true]
  refine wpAny_bind (wpAny_alloc ?_)
  refine wpAny_bind (wpAny_layCells _ (fun name kind cells => by cases hkc : kind == NameKind.cell <;> simp [hkc]) _ _ _ _ ?_)
  rw [show ({ s with heap := s.heap.push { cls := .type "dict", data := .dict #[] } } : Shared).heap.objs.size = s.heap.objs.size + 1 from Heap.size_push ..]
  simp only [List.forIn_nil]
  exact wpAny_bind (wpAny_pure (wpAny_pure h))

noncomputable def compOk (sc scope : Scope) : Bool :=
  scope.kind == .function && decide (scope.names.map (·.1)).Nodup && scope.names.all fun p => if p.2 == .free then (sc.names.lookup p.1 == some .cell || sc.names.lookup p.1 == some .free) else true
theorem mem_lookup {α : Type} : ∀ {l : List (Str × α)} {p : Str × α}, (l.map (·.1)).Nodup → p ∈ l → l.lookup p.1 = some p.2
  | [], _, _, h => by cases h
  | (k, v) :: r, p, nd, h => by
    rw [List.map_cons, List.nodup_cons] at nd
    rcases List.mem_cons.mp h with e | h
    · subst e; simp [List.lookup_cons]
    · have : (p.1 == k) = false := beq_eq_false_iff_ne.mpr fun e => nd.1 (by rw [← e]; exact List.mem_map_of_mem (f := (·.1)) h)
      rw [List.lookup_cons, this]
      exact mem_lookup nd.2 h
theorem compOk_spec {sc scope : Scope} (h : compOk sc scope = true) : scope.kind = .function ∧ (scope.names.map (·.1)).Nodup ∧ (∀ x, scope.names.lookup x = some .free → sc.names.lookup x = some .cell ∨ sc.names.lookup x = some .free) ∧
    (∀ x ∈ scope.names, x.2 = .local → scope.names.lookup x.1 = some .local) := by
  unfold compOk at h
  simp only [Bool.and_eq_true, beq_iff_eq, decide_eq_true_eq, List.all_eq_true] at h
  refine ⟨h.1.1, h.1.2, fun x hx => ?_, fun p hp he => by rw [mem_lookup h.1.2 hp, he]⟩
  have := h.2 _ (PySem.mem_of_lookup hx)
  simpa using this

theorem closureFor_ok {C : Fx} {env : Env} {Z R : PH} {ρ : List Addr} {st : St} {s : Shared} {scope : Scope} (hs : SR C env Z R ρ st s) (nd : (scope.names.map (·.1)).Nodup)
    (hfree : ∀ x, scope.names.lookup x = some .free → C.sc.names.lookup x = some .cell ∨ C.sc.names.lookup x = some .free) : ∃ cl, closureFor scope env = pure cl ∧ ∀ x, scope.names.lookup x = some .free → cl.lookup x = env.cells.lookup x := by
  obtain ⟨T, h⟩ := hs
  obtain ⟨cl, h1, h2, _⟩ := closure_some (env := env) scope.names [] (fun p hp hk => by
    have hl := mem_lookup nd hp
    rw [hk] at hl
    rcases hfree _ hl with f | f
    · obtain ⟨c, _, h1, _⟩ := h.cell _ _ f (.inl rfl); exact ⟨c, h1⟩
    · obtain ⟨c, _, h1, _⟩ := h.cell _ _ f (.inr rfl); exact ⟨c, h1⟩) nd (fun _ _ => rfl)
  refine ⟨cl, ?_, h2⟩
  rw [← h1]
  unfold closureFor
  simp only [bind_pure]

section
variable {C : Fx} {st : St}

structure CompIn (C : Fx) (scope : Scope) (elt : Expr) (gens : List Comprehension) (pos : Pos) (st : St) (v : V) (Qi : List V → St → Prop) : Prop where
  run : ∃ xs, Itb st v xs ∧ ∀ (env : Env) (Z R : PH) (ρ : List Addr) (s : Shared) (a : Value) (Ia D : Addr) (o : Obj) (k : Nat), SR (C.comp scope) env Z ((R.put Ia o).put D (lobj #[] k)) ρ { st with vars := inner scope st.vars } s → R Ia = none → R D = none → D ≠ Ia →
    VR Z ρ v a → IterAt s.heap Ia v a 0 → codeAny C.M C.A (.compLoop (.ListComp elt gens scope pos) 0 (.ref Ia) (.ref D) env)
      (fun r s' => r = .ok .next ∧ PostL (C.comp scope) env Z R ρ D (fun ys' st' => (∀ x v, scope.names.lookup x = some .free → st.vars.lookup x = some v → st'.vars.lookup x = some v) ∧ Qi ys' { st' with vars := st.vars }) s') s

theorem comp_block {scope : Scope} {elt target iter : Expr} {ifs : List Expr} {rest : List Comprehension} {pos : Pos} {v : V} {Qi : List V → St → Prop} (ok : compOk C.sc scope = true) (hin : CompIn C scope elt (⟨target, iter, ifs, 0⟩ :: rest) pos st v Qi)
    {env : Env} {Z R : PH} {ρ : List Addr} {s : Shared} {a : Value} {cl : List (Str × Addr)} (hs : SR C env Z R ρ st s) (hv : VR Z ρ v a) (hcl : ∀ x, scope.names.lookup x = some .free → cl.lookup x = env.cells.lookup x)
    {W : Value → Addr → Result → Shared → Prop} {E : Value → Shared → Prop}
    (h : ∀ (D L : Addr) (oL : Obj) (m : Str → Option Value) (ys : List V) (st' : St) (Z' : PH) (ρ' : List Addr) (ws : Array Value) (k : Nat) (s' : Shared), PH.le Z Z' → Ext ρ ρ' → SR C env Z' ((R.put D (lobj ws k)).put L oL) ρ' { st' with vars := st.vars } s' → R D = none → R L = none → L ≠ D → s'.heap.Ns L m →
      VRs Z' ρ' ys ws.toList → Qi ys { st' with vars := st.vars } → W (.ref D) L (.ok .next) s') :
    wpAny C.M C.A (pyIter a) (fun it s₂ => wpAny C.M C.A (newList []) (fun acc s₃ => wpAny C.M C.A (newFunctionEnv scope env.globals cl [] env.qual none .none (some env)) (fun cenv s₄ =>
      codeAny C.M C.A (.compStart (.ListComp elt (⟨target, iter, ifs, 0⟩ :: rest) scope pos) 0 it acc { cenv with scope := relabel scope env }) (W acc cenv.locals) s₄) E s₃) E s₂) E s := by
  obtain ⟨hk, nd, hfree, hnames⟩ := compOk_spec ok
  obtain ⟨xs, hitb, hrun⟩ := hin.run
  have hn := fresh_none s.heap
  have rI := hs.rfresh hn
  refine it_start hs hv hitb fun o hf hat => ?_
  obtain ⟨le1, hs₂⟩ := hs.allocR o s.toks hf
  refine wpAny_newList ?_
  have hsz : (s.heap.push o).objs.size = s.heap.objs.size + 1 := Heap.size_push ..
  have hn2 := fresh_none (s.heap.push o)
  have rD2 := hs₂.rfresh hn2
  have rD : R (s.heap.push o).objs.size = none := by
    cases e : R (s.heap.push o).objs.size with
    | none => rfl
    | some o' => have := le1 _ _ e; rw [rD2] at this; cases this
  have hne : (s.heap.push o).objs.size ≠ s.heap.objs.size := by rw [hsz]; exact Nat.succ_ne_self _
  obtain ⟨le2, hs₃⟩ := hs₂.allocR (lobj #[] 0) s.toks rfl
  refine wpAny_newEnvComp ?_
  have hrel := relab_eq hs scope
  have henter := enterC (cl := cl) (tk := s.toks) hs₃ hk nd hcl hfree rfl rfl
  obtain ⟨k1, k2, k3, k4⟩ := henter
  have nI : ¬ FSc C env scope s.heap.objs.size := fun q => by
    refine k2 _ o (by rw [PH.put_ne _ _ (Ne.symm hne), PH.put_self]) ?_
    rcases q with e | ⟨x, k, e1, e2, e3, _⟩
    · exact .inl e
    · exact .inr ⟨x, k, e1, e2, e3⟩
  have nD : ¬ FSc C env scope (s.heap.push o).objs.size := fun q => by
    refine k2 _ _ (PH.put_self ..) ?_
    rcases q with e | ⟨x, k, e1, e2, e3, _⟩
    · exact .inl e
    · exact .inr ⟨x, k, e1, e2, e3⟩
  have nFSD : ¬ FS C env (s.heap.push o).objs.size := k2 _ _ (PH.put_self ..)
  rw [← framedC_put nD, ← framedC_put nI] at k1
  have hrel' : ∀ (e : Env), ({ e with scope := relabel scope env } : Env) = { e with scope := relab C.sc scope } := fun e => by rw [hrel]
  have fI : framedC C env scope R ((s.heap.push o).push (lobj #[] 0)) s.heap.objs.size = none := by unfold framedC; rw [if_neg nI]; exact rI
  have fD : framedC C env scope R ((s.heap.push o).push (lobj #[] 0)) (s.heap.push o).objs.size = none := by unfold framedC; rw [if_neg nD]; exact rD
  have hat' := hat.at_ (h' := (pushCells (((s.heap.push o).push (lobj #[] 0)).push { cls := .type "dict", data := .dict #[] }) scope.names)) fun oo e => k3 _ _ (Heap.get?_push_of_some _ e)
  have loop := hrun _ Z _ ρ _ a s.heap.objs.size _ o 0 k1 fI fD hne hv hat'
  rw [hrel']
  have fin := codeAny_mono loop (R' := W (.ref (s.heap.push o).objs.size) ((s.heap.push o).push (lobj #[] 0)).objs.size) fun r s' p => by
    obtain ⟨rfl, ys, st', Z', ρ', ws, k, hz, hr, hs', hy, hvars, hq⟩ := p
    have hL3 := fresh_none ((s.heap.push o).push (lobj #[] 0))
    have rL3 := hs₃.rfresh hL3
    have hLD : ((s.heap.push o).push (lobj #[] 0)).objs.size ≠ (s.heap.push o).objs.size := by rw [Heap.size_push]; exact Nat.succ_ne_self _
    have rL : R ((s.heap.push o).push (lobj #[] 0)).objs.size = none := by
      cases e : R ((s.heap.push o).push (lobj #[] 0)).objs.size with
      | none => rfl
      | some o' => have := le2 _ _ (le1 _ _ e); rw [rL3] at this; cases this
    obtain ⟨T, hT⟩ := id hs'
    obtain ⟨_, m, hnm, _⟩ := hT.loc
    obtain ⟨oL, es, ep, hoL, hrest⟩ := id hnm
    rw [framedC_put nD] at hs'
    have out := k4 Z' (R.put (s.heap.push o).objs.size (lobj ws k)) ρ' st' s' hz hr (fun b ob e => by
      by_cases q : b = (s.heap.push o).objs.size
      · subst q; exact nFSD
      · rw [PH.put_ne _ _ q] at e
        exact k2 b ob (le2 _ _ (le1 _ _ e))) hs' hvars oL hoL
    exact h _ _ oL m ys st' Z' ρ' ws k s' hz hr out rD rL hLD hnm hy hq
  exact codeAny_compStart_list fin (it_self hat' fin)

theorem ev_ListComp {scope : Scope} {elt target iter : Expr} {ifs : List Expr} {rest : List Comprehension} {pos : Pos} {Q : V → St → Prop} (ok : compOk C.sc scope = true)
    (h : J C VR (eval iter) st fun v st₁ => CompIn C scope elt (⟨target, iter, ifs, 0⟩ :: rest) pos st₁ v fun ys st' => Q (.lst ys) st')
    (hs : ∀ env x, foldedSetIterable iter env x = pure x := by intro _ _; rfl) : J C VR (eval (.ListComp elt (⟨target, iter, ifs, 0⟩ :: rest) scope pos)) st Q :=
  fun env Z R ρ s hs' => by
    obtain ⟨hk, nd, hfree, hnames⟩ := compOk_spec ok
    obtain ⟨cl, hclos, hcl⟩ := closureFor_ok hs' nd hfree
    rw [eval_ListComp]
    refine wpAny_comprehension_free (use := none) rfl (hs env) hclos hk hnames (wp_use (h env Z R ρ s hs') (fun a s₁ v st₁ Z₁ ρ₁ hz₁ hr₁ rv hs₁ hin => ?_))
    refine comp_block ok hin hs₁ rv hcl (W := fun acc L => compPost C.M C.A noE none (Post C env Z R ρ VR Q) acc L) ?_
    intro D L oL m ys st' Z' ρ' ws k s' hz hr hs2 rD rL hne hn hy hq
    refine ⟨m, hn, fun h' hsb => ?_⟩
    have wk : PH.le (R.put D (lobj ws k)) ((R.put D (lobj ws k)).put L oL) := PH.le_put (by rw [PH.put_ne _ _ hne]; exact rL)
    have k1 := hs2.lose wk (PH.put_self ..) (by rw [PH.put_ne _ _ hne]; exact rL) (fun b o hb e => hsb.extBut b o hb e)
    obtain ⟨le, k2⟩ := k1.toZ rD
    exact ⟨_, _, _, ρ', (hz₁.trans hz).trans le, hr₁.trans hr, .lst (PH.put_self ..) (hy.mono le (Ext.refl _)), k2, hq⟩

theorem comp_1 {scope : Scope} {elt target iter : Expr} {ifs : List Expr} {pos : Pos} {v : V} {Qi : List V → St → Prop} (xs : List V) (I : Nat → List V → St → Prop) (hv : Itb st v xs) (i0 : I 0 [] { st with vars := inner scope st.vars })
    (itb : ∀ i ys st', I i ys st' → Itb st' v xs)
    (turn : ∀ i ys x st', xs[i]? = some x → I i ys st' → JA (C.comp scope) target x st' fun st₂ => JTs (C.comp scope) ifs st₂ fun ok st₃ => (ok = true → JE (C.comp scope) (body1 elt) ys st₃ (I (i + 1))) ∧ (ok = false → I (i + 1) ys st₃))
    (fin : ∀ ys st', I xs.length ys st' → (∀ x v, scope.names.lookup x = some .free → st.vars.lookup x = some v → st'.vars.lookup x = some v) ∧ Qi ys { st' with vars := st.vars }) : CompIn C scope elt [⟨target, iter, ifs, 0⟩] pos st v Qi where
  run := ⟨xs, hv, fun env Z R ρ s a Ia D o k hs rI rD hne rv hat => codeAny_mono (codeAny_weaker (A := (C.comp scope).A) rfl (Nat.le_refl _) rfl rfl (Nat.le_refl _) (comp_loop (turn_1 elt target iter ifs scope pos) I itb turn hs rI rD hne rv hat .nil i0)) fun r s' ⟨e, ys', st', Z', ρ', ws', k', h1, h2, h3, h4, h5⟩ =>
    ⟨e, ys', st', Z', ρ', ws', k', h1, h2, h3, h4, (fin ys' st' h5).1, (fin ys' st' h5).2⟩⟩

theorem e_gen {scope : Scope} {elt target iter target' iter' : Expr} {ifs ifs' : List Expr} {pos : Pos} {ys : List V} {Q : List V → St → Prop}
    (h : J C VR (eval iter') st fun v st₁ => ∃ xs, ∃ I : Nat → List V → St → Prop, I 0 ys st₁ ∧ (∀ i ys st', I i ys st' → Itb st' v xs) ∧
      (∀ i ys x st', xs[i]? = some x → I i ys st' → JA C target' x st' fun st₂ => JTs C ifs' st₂ fun ok st₃ => (ok = true → JE C (body1 elt) ys st₃ (I (i + 1))) ∧ (ok = false → I (i + 1) ys st₃)) ∧
      (∀ ys st', I xs.length ys st' → Q ys st'))
    (hs : ∀ env x, foldedSetIterable iter' env x = pure x := by intro _ _; rfl) :
    JE C (body2 (.ListComp elt [⟨target, iter, ifs, 0⟩, ⟨target', iter', ifs', 0⟩] scope pos) iter') ys st Q :=
  fun env Z R ρ s D ws k hs' hD hy => by
    unfold body2
    refine wpAny_bind (wp_use (h env Z _ ρ s hs') (fun a s₁ v st₁ Z₁ ρ₁ hz₁ hr₁ rv hs₁ hx => ?_))
    obtain ⟨xs, I, i0, itb, turn, fin⟩ := hx
    refine wpAny_bind (wpAny_standAt (wpAny_bind (wpAny_of_eq (hs env a) (wpAny_bind (wpAny_holding ?_)))))
    refine it_start hs₁ rv (itb 0 ys st₁ i0) fun o hf hat => ?_
    have hn := fresh_none s₁.heap
    have rI := hs₁.rfresh hn
    have hne : D ≠ s₁.heap.objs.size := Nat.ne_of_lt (Heap.lt_size (hs₁.r_ (PH.put_self ..)))
    have rI' : R s₁.heap.objs.size = none := by rw [PH.put_ne _ _ (Ne.symm hne)] at rI; exact rI
    obtain ⟨le, hs₂⟩ := hs₁.allocR o s₁.toks hf
    have e : (R.put D (lobj ws k)).put s₁.heap.objs.size o = (R.put s₁.heap.objs.size o).put D (lobj ws k) := by
      funext b; unfold PH.put
      by_cases q : b = D
      · subst q; rw [if_neg hne, if_pos rfl, if_pos rfl]
      · rw [if_neg q, if_neg q]
    rw [e] at hs₂
    have loop := codeAny_mono (comp_loop (turn_21 elt target iter target' iter' ifs ifs' scope pos) I itb turn hs₂ rI' hD hne rv hat (hy.mono hz₁ hr₁) i0)
      (R' := fun r s' => match r with
        | .ok f => wpAny C.M C.A (pure ()) (fun _ s' => PostL C env Z R ρ D Q s') noE s'
        | .error e => cameBackBy C.M C.A env noE e s') fun r s' ⟨e, ys', st', Z', ρ', ws', k', h1, h2, h3, h4, h5⟩ => by
      subst e
      exact wpAny_pure ⟨ys', st', Z', ρ', ws', k', hz₁.trans h1, hr₁.trans h2, h3, h4, fin _ _ h5⟩
    exact wpAny_bind (wpAny_runOwn (compStart_1 loop (it_self hat loop)))

theorem comp_2 {scope : Scope} {elt target iter target' iter' : Expr} {ifs ifs' : List Expr} {pos : Pos} {v : V} {Qi : List V → St → Prop} (xs : List V) (I : Nat → List V → St → Prop) (hv : Itb st v xs) (i0 : I 0 [] { st with vars := inner scope st.vars })
    (itb : ∀ i ys st', I i ys st' → Itb st' v xs)
    (turn : ∀ i ys x st', xs[i]? = some x → I i ys st' → JA (C.comp scope) target x st' fun st₂ => JTs (C.comp scope) ifs st₂ fun ok st₃ =>
      (ok = true → JE (C.comp scope) (body2 (.ListComp elt [⟨target, iter, ifs, 0⟩, ⟨target', iter', ifs', 0⟩] scope pos) iter') ys st₃ (I (i + 1))) ∧ (ok = false → I (i + 1) ys st₃))
    (fin : ∀ ys st', I xs.length ys st' → (∀ x v, scope.names.lookup x = some .free → st.vars.lookup x = some v → st'.vars.lookup x = some v) ∧ Qi ys { st' with vars := st.vars }) : CompIn C scope elt [⟨target, iter, ifs, 0⟩, ⟨target', iter', ifs', 0⟩] pos st v Qi where
  run := ⟨xs, hv, fun env Z R ρ s a Ia D o k hs rI rD hne rv hat => codeAny_mono (codeAny_weaker (A := (C.comp scope).A) rfl (Nat.le_refl _) rfl rfl (Nat.le_refl _) (comp_loop (turn_20 elt target iter target' iter' ifs ifs' scope pos) I itb turn hs rI rD hne rv hat .nil i0)) fun r s' ⟨e, ys', st', Z', ρ', ws', k', h1, h2, h3, h4, h5⟩ =>
    ⟨e, ys', st', Z', ρ', ws', k', h1, h2, h3, h4, (fin ys' st' h5).1, (fin ys' st' h5).2⟩⟩

theorem x_AssignComp {y : Str} {py spos : Pos} {scope : Scope} {elt target iter : Expr} {ifs : List Expr} {rest : List Comprehension} {pos : Pos} {Q : FlowA → St → Prop} (ok : compOk C.sc scope = true) (hy : C.sc.names.lookup y = some .local)
    (hsw : (spos, scope, y) = (spos, scope, y) ∧ py.line = pos.line ∧ (scope.names.any fun (n, k) => n == y && (k == .local || k == .cell)) = false := by refine ⟨rfl, rfl, rfl⟩)
    (h : J C VR (eval iter) st fun v st₁ => CompIn C scope elt (⟨target, iter, ifs, 0⟩ :: rest) pos st₁ v fun ys st' => Q .next { st' with vars := setv y (.lst ys) st'.vars })
    (hs : ∀ env x, foldedSetIterable iter env x = pure x := by intro _ _; rfl) : JX1 C (.Assign [.Name y py] (.ListComp elt (⟨target, iter, ifs, 0⟩ :: rest) scope pos) spos) st Q :=
  fun env Z R ρ s hs' => by
    obtain ⟨hk, nd, hfree, hnames⟩ := compOk_spec ok
    obtain ⟨cl, hclos, hcl⟩ := closureFor_ok hs' nd hfree
    have sw : swapsWith (.ListComp elt (⟨target, iter, ifs, 0⟩ :: rest) scope pos) (some (.Name y py)) spos.line env = pure true := by
      unfold swapsWith Env.blockKind
      dsimp only
      have e1 := hs'.kind_
      have e2 := (hs'.kindOf_ y).trans hy
      rw [e1, e2, hsw.2.1, hsw.2.2]
      have e3 : (pos.line == pos.line) = true := beq_self_eq_true _
      show pure (_ && (pos.line == pos.line) && _) = _
      rw [e3]
      rfl
    rw [exec_Assign_Name_used _ _ _ _ sw]
    refine wpAny_bind (wpAny_standAt (wpAny_bind ?_))
    show wpAny _ C.A (do let _ ← comprehension (.ListComp elt (⟨target, iter, ifs, 0⟩ :: rest) scope pos) scope env _ (newList []) false (eval iter env) (some (assign (.Name y py) env))) _ _ s
    refine wpAny_bind (wpAny_mono (wpAny_comprehension_free (Q := fun _ s' => Post C env Z R ρ rFlow Q .next s') (use := some (assign (.Name y py) env)) rfl (hs env) hclos hk hnames (wp_use (h env Z R ρ s hs') (fun a s₁ v st₁ Z₁ ρ₁ hz₁ hr₁ rv hs₁ hin => ?_))) (fun _ s' q => wpAny_pure (wpAny_pure q)) fun _ _ e => e)
    refine comp_block ok hin hs₁ rv hcl (W := fun acc L => compPost C.M C.A noE (some (assign (.Name y py) env)) (fun _ s' => Post C env Z R ρ rFlow Q .next s') acc L) ?_
    intro D L oL m ys st' Z' ρ' ws k s' hz hr hs2 rD rL hne hn hy' hq
    have hDL : (R.put D (lobj ws k)).put L oL = (R.put L oL).put D (lobj ws k) := by
      funext b; unfold PH.put
      by_cases q : b = L
      · subst q; rw [if_pos rfl, if_neg hne, if_pos rfl]
      · rw [if_neg q, if_neg q]
    rw [hDL] at hs2
    obtain ⟨le, k2⟩ := hs2.toZ (by rw [PH.put_ne _ _ (Ne.symm hne)]; exact rD)
    refine wp_use (wpAny_assign_Name (store_ (Q := fun _ st'' => Q .next st'') hy hq (by decide) k2 (.lst (PH.put_self ..) (hy'.mono le (Ext.refl _))))) (fun _ s'' _ st₃ Z₃ ρ₃ hz₃ hr₃ _ hs₃ hq₃ => ?_)
    have hL3 := hs₃.r_ (PH.put_self ..)
    have hL0 := k2.r_ (PH.put_self ..)
    obtain ⟨oo, es, ep, ho, hrest⟩ := id hn
    rw [hL0] at ho; cases ho
    refine ⟨m, ⟨_, es, ep, hL3, hrest⟩, fun h' hsb => ?_⟩
    have k3 := hs₃.lose (PH.le_put rL) (PH.put_self ..) rL (fun b o hb e => hsb.extBut b o hb e)
    exact ⟨_, _, Z₃, ρ₃, ((hz₁.trans hz).trans le).trans hz₃, (hr₁.trans hr).trans hr₃, .next, k3, hq₃⟩
end
end Mine
end
section -- MComp4
set_option maxRecDepth 100000
namespace Mine
open PySem PySem.W PyProof.Rows

theorem setv_setv (x : Str) (a b : V) : ∀ l : List (Str × V), setv x a (setv x b l) = setv x a l
  | [] => by simp [setv]
  | (y, u) :: r => by
    unfold setv
    by_cases h : (y == x) = true
    · rw [if_pos h]; simp [setv, h]
    · rw [if_neg h]; simp [setv, h, setv_setv x a b r]

theorem inner_lookup' {scope : Scope} {x : Str} (h : scope.names.lookup x = some .free) : ∀ (vars : List (Str × V)), (inner scope vars).lookup x = vars.lookup x
  | [] => rfl
  | (y, u) :: r => by
    have ih := inner_lookup' h r
    unfold inner at ih ⊢
    rw [List.filter_cons]
    cases hx : x == y with
    | true =>
      have e := beq_iff_eq.mp hx; subst e
      rw [if_pos (by simp [h]), List.lookup_cons, List.lookup_cons, hx]
    | false =>
      split
      · rw [List.lookup_cons, List.lookup_cons, hx]; exact ih
      · rw [List.lookup_cons, hx]; exact ih

theorem lk_here (x : Str) (v : V) (l : List (Str × V)) : (setv x v l).lookup x = some v := (setv_lookup x v x l).trans (if_pos rfl)
theorem lk_hop {x z : Str} {v : V} {l : List (Str × V)} {r : Option V} (e : (z == x) = false) (h : l.lookup z = r) : (setv x v l).lookup z = r := (setv_lookup x v z l).trans ((if_neg fun q => by rw [q, beq_self_eq_true] at e; cases e).trans h)
theorem lk_in {scope : Scope} {x : Str} {vars : List (Str × V)} {r : Option V} (h : scope.names.lookup x = some .free) (k : vars.lookup x = r) : (inner scope vars).lookup x = r := (inner_lookup' h vars).trans k
theorem hp_hop {α : Type} {H : Nat → Option α} {n k : Nat} {x : α} {r : Option α} (h : k ≠ n) (e : H k = r) : upd H n x k = r := (upd_ne H x h).trans e
theorem dk {a b c n : Nat} (h : a ≤ b) (k : b + c ≤ n) : a + c ≤ n := Nat.le_trans (Nat.add_le_add_right h c) k

section
variable {C : Fx} {st : St}

theorem a_Tup2 {x y : Str} {px py pos : Pos} {n : Nat} {u v : V} {k k' : NameKind} {Q : St → Prop} (h : Q { st with vars := setv y v (setv x u st.vars) }) (hk : C.sc.names.lookup x = some k) (hk' : C.sc.names.lookup y = some k')
    (hkk : k = .local ∨ k = .cell := by decide) (hkk' : k' = .local ∨ k' = .cell := by decide) : JA C (.Tuple [.Name x px, .Name y py] n pos) (.tup [u, v]) st Q :=
  fun env Z R ρ s w hs r => by
    obtain ⟨a, ws, m, rfl, hz, ri⟩ := r.tup_inv
    obtain ⟨w1, w2, e, r1, r2⟩ := inv2 ri
    have hsz : ws.size = 2 := by have := ri.toArr; simpa using this.symm
    refine assign_Tuple_tuple rfl (items := ws) ⟨_, hs.z_ hz, rfl, _, rfl⟩ (by rw [hsz]; rfl) rfl fun h' he => ?_
    have hs2 : SR C env Z R ρ st { s with heap := h' } := hs.keep fun b o q => he b o (Nat.ne_of_lt (Heap.lt_size q)) q
    rw [e]
    refine assignInOrder_cons (wpAny_assign_Name (wp_use (store_ (Q := fun _ st' => st' = { st with vars := setv x u st.vars }) hk rfl hkk hs2 r1) (fun _ s₁ _ st₁ Z₁ ρ₁ hz₁ hr₁ _ hs₁ e1 => ?_)))
    subst e1
    refine assignInOrder_cons (wpAny_assign_Name (wp_use (store_ (Q := fun _ => Q) hk' h hkk' hs₁ (r2.mono hz₁ hr₁)) (fun _ s₂ _ st₂ Z₂ ρ₂ hz₂ hr₂ _ hs₂ e2 => ?_)))
    exact assignInOrder_nil ⟨(), st₂, Z₂, ρ₂, hz₁.trans hz₂, hr₁.trans hr₂, trivial, hs₂, e2⟩
theorem x_AssignT {elts : List Expr} {n : Nat} {tp pos : Pos} {value : Expr} {Q : FlowA → St → Prop} (h : J C VR (eval value) st fun v st₁ => JA C (.Tuple elts n tp) v st₁ (Q .next))
    (hsw : ∀ env, swapsWith value (some (.Tuple elts n tp)) pos.line env = pure false := by intro _; rfl) (hn : ∀ env, swappedStores [.Tuple elts n tp] value env = pure none := by intro _; rfl) : JX1 C (.Assign [.Tuple elts n tp] value pos) st Q :=
  fun env Z R ρ s hs => Assign_Tuple (wp_use (h env Z R ρ s hs) (fun w s₁ v st₁ Z₁ ρ₁ hz hr rv hs₁ h₁ =>
    wp_use (h₁ env Z₁ R ρ₁ s₁ w hs₁ rv) (fun _ _ _ st₂ Z₂ ρ₂ hz2 hr2 _ hs₂ h₂ => ⟨_, st₂, Z₂, ρ₂, hz.trans hz2, hr.trans hr2, .next, hs₂, h₂⟩))) (hsw env) (hn env)

inductive Steps {α : Type} (R : α → Option V → Prop) : List α → List V → Prop
  | nil : Steps R [] []
  | skip {l : List α} {ys : List V} {a : α} : Steps R l ys → R a none → Steps R (l ++ [a]) ys
  | add {l : List α} {ys : List V} {a : α} {y : V} : Steps R l ys → R a (some y) → Steps R (l ++ [a]) (ys ++ [y])
theorem Steps.len {α : Type} {R : α → Option V → Prop} {l : List α} {ys : List V} (h : Steps R l ys) : ys.length ≤ l.length := by
  induction h with
  | nil => exact Nat.le_refl _
  | skip _ _ ih => rw [List.length_append]; exact Nat.le_succ_of_le ih
  | add _ _ ih => rw [List.length_append, List.length_append]; exact Nat.succ_le_succ ih
theorem Steps.fm {α : Type} {h : α → Option V} {l : List α} {ys : List V} (k : Steps (fun a o => h a = o) l ys) : ys = l.filterMap h := by
  induction k with
  | nil => rfl
  | skip _ e ih => rw [List.filterMap_append, ← ih, List.filterMap_cons_none e]; exact (List.append_nil _).symm
  | add _ e ih => rw [List.filterMap_append, ← ih, List.filterMap_cons_some e]; rfl
inductive Steps2 {α : Type} (R : α → V → Option V → Prop) (f : α → List V) : List α → List V → Prop
  | nil : Steps2 R f [] []
  | add {l : List α} {ys zs : List V} {a : α} : Steps2 R f l ys → Steps (R a) (f a) zs → Steps2 R f (l ++ [a]) (ys ++ zs)
theorem Steps2.len {α : Type} {R : α → V → Option V → Prop} {f : α → List V} {l : List α} {ys : List V} (h : Steps2 R f l ys) : ys.length ≤ (l.flatMap f).length := by
  induction h with
  | nil => exact Nat.le_refl _
  | add _ k ih => rw [List.flatMap_append, List.length_append, List.length_append, List.flatMap_singleton]; exact Nat.add_le_add ih k.len
theorem Steps2.fm {α : Type} {h : α → V → Option V} {f : α → List V} {l : List α} {ys : List V} (k : Steps2 (fun a b o => h a b = o) f l ys) : ys = l.flatMap fun a => (f a).filterMap (h a) := by
  induction k with
  | nil => rfl
  | add _ k ih => rw [List.flatMap_append, ← ih, k.fm, List.flatMap_singleton]
theorem take_at {α : Type} {l : List α} {i : Nat} {a : α} (h : l[i]? = some a) : l.take (i + 1) = l.take i ++ [a] := by rw [List.take_add_one, h]; rfl
noncomputable def Fr (scope : Scope) (st : St) (vs : List (Str × V)) : Prop := ∀ y, scope.names.lookup y = some .free → vs.lookup y = st.vars.lookup y
inductive OutC (st : St) (X : List (Str × V) → Prop) : St → Prop
  | mk (vs : List (Str × V)) (h : X vs) : OutC st X ⟨vs, st.heap, st.nx⟩
inductive CI {α : Type} (st : St) (R : α → Option V → Prop) (l : List α) (X : List (Str × V) → Prop) (i : Nat) (ys : List V) : St → Prop
  | mk (vs : List (Str × V)) (hs : Steps R (l.take i) ys) (h : X vs) : CI st R l X i ys ⟨vs, st.heap, st.nx⟩
inductive CI1 {α : Type} (st : St) (R : α → V → Option V → Prop) (f : α → List V) (l : List α) (X : List (Str × V) → Prop) (i : Nat) (ys : List V) : St → Prop
  | mk (vs : List (Str × V)) (hs : Steps2 R f (l.take i) ys) (h : X vs) : CI1 st R f l X i ys ⟨vs, st.heap, st.nx⟩
inductive CI2 (st : St) (ys₀ : List V) (R : V → Option V → Prop) (m : List V) (X : List (Str × V) → Prop) (j : Nat) : List V → St → Prop
  | mk (zs : List V) (vs : List (Str × V)) (hs : Steps R (m.take j) zs) (h : X vs) : CI2 st ys₀ R m X j (ys₀ ++ zs) ⟨vs, st.heap, st.nx⟩
theorem Itb.vs {st : St} {v : V} {xs : List V} (h : Itb st v xs) (vs : List (Str × V)) : Itb ⟨vs, st.heap, st.nx⟩ v xs := by cases v <;> exact h
theorem comp_lk {scope : Scope} {x : Str} {k : NameKind} (h : scope.names.lookup x = some k) (hk : k = .local ∨ k = .cell) : (C.comp scope).sc.names.lookup x = some k := by
  show (relab C.sc scope).names.lookup x = _
  unfold relab; rw [lookup_relab, h]
  rcases hk with rfl | rfl <;> rfl
theorem ne_free {scope : Scope} {x y : Str} {k : NameKind} (h : scope.names.lookup x = some k) (hk : k = .local ∨ k = .cell) (hy : scope.names.lookup y = some .free) : y ≠ x := fun e => by
  subst e; cases h.symm.trans hy; exact hk.elim nofun nofun
theorem Fr.setv {scope : Scope} {st : St} {vs : List (Str × V)} (h : Fr scope st vs) {x : Str} {k : NameKind} (hx : scope.names.lookup x = some k) (hk : k = .local ∨ k = .cell) (v : V) : Fr scope st (setv x v vs) :=
  fun y hy => (setv_lookup x v y vs).trans ((if_neg (ne_free hx hk hy)).trans (h y hy))

theorem comp_core {α : Type} {scope : Scope} {elt target iter : Expr} {ifs : List Expr} {pos : Pos} {v : V} {Qi : List V → St → Prop} (l : List α) (e : α → V) (R : α → Option V → Prop) (tgt : V → List (Str × V) → List (Str × V)) (hv : Itb st v (l.map e)) (hsz : l.length ≤ sizeLine)
    (htgt : ∀ a ∈ l, ∀ vs, JA (C.comp scope) target (e a) ⟨vs, st.heap, st.nx⟩ fun st' => st' = ⟨tgt (e a) vs, st.heap, st.nx⟩) (hid : ∀ a b vs, tgt a (tgt b vs) = tgt a vs) (hfr : ∀ a vs, Fr scope st vs → Fr scope st (tgt a vs))
    (turn : ∀ a ∈ l, JTs (C.comp scope) ifs ⟨tgt (e a) (inner scope st.vars), st.heap, st.nx⟩ fun ok st₃ => (ok = true → J (C.comp scope) VR (eval elt) st₃ fun y st₄ => st₄ = ⟨tgt (e a) (inner scope st.vars), st.heap, st.nx⟩ ∧ R a (some y)) ∧
      (ok = false → st₃ = ⟨tgt (e a) (inner scope st.vars), st.heap, st.nx⟩ ∧ R a none))
    (fin : ∀ ys, Steps R l ys → Qi ys st) : CompIn C scope elt [⟨target, iter, ifs, 0⟩] pos st v Qi := by
  have f0 : Fr scope st (inner scope st.vars) := fun y hy => inner_lookup' hy _
  refine comp_1 (l.map e) (CI st R l fun vs => (∀ a, tgt a vs = tgt a (inner scope st.vars)) ∧ Fr scope st vs) hv (.mk _ .nil ⟨fun _ => rfl, f0⟩) (fun i ys st' h => ?_) (fun i ys x st' hx h => ?_) fun ys st' h => ?_
  · cases h with | mk vs => exact hv.vs vs
  · cases h with | mk vs hs h
    rw [List.getElem?_map] at hx
    obtain ⟨a, ha, rfl⟩ := Option.map_eq_some_iff.mp hx
    have hm : a ∈ l := List.mem_of_getElem? ha
    have re : ∀ ys, Steps R (l.take i ++ [a]) ys → CI st R l (fun vs => (∀ a, tgt a vs = tgt a (inner scope st.vars)) ∧ Fr scope st vs) (i + 1) ys ⟨tgt (e a) (inner scope st.vars), st.heap, st.nx⟩ := fun ys k =>
      .mk _ (by rw [take_at ha]; exact k) ⟨fun b => hid b (e a) _, hfr _ _ f0⟩
    intro env Z R' ρ s w hs' r
    refine wp_use (htgt a hm vs env Z R' ρ s w hs' r) (fun _ s₁ _ st₁ Z₁ ρ₁ hz₁ hr₁ _ hs₁ e => ?_)
    subst e
    refine ⟨(), _, Z₁, ρ₁, hz₁, hr₁, trivial, hs₁, ?_⟩
    rw [h.1]
    refine J.mono (turn a hm) fun ok st₃ c => ⟨fun hok => e_emit (J.mono (c.1 hok) fun y st₄ q => ?_), fun hok => ?_⟩
    · refine ⟨Nat.le_trans hs.len (Nat.le_trans (List.length_take_le' ..) hsz), ?_⟩
      rw [q.1]; exact re _ (.add hs q.2)
    · rw [(c.2 hok).1]; exact re _ (.skip hs (c.2 hok).2)
  · rw [List.length_map] at h
    cases h with | mk vs hs h
    rw [List.take_length] at hs
    exact ⟨fun x v hx e => by rw [h.2 x hx]; exact e, fin _ hs⟩

theorem comp_core2 {α : Type} {scope : Scope} {elt target iter iter' : Expr} {ifs' : List Expr} {z : Str} {pz pos : Pos} {v : V} {k : NameKind} {Qi : List V → St → Prop} (l : List α) (e : α → V) (f : α → List V) (R : α → V → Option V → Prop) (B : α → List (Str × V) → Prop)
    (hv : Itb st v (l.map e)) (hsz : (l.flatMap f).length ≤ sizeLine) (hk : scope.names.lookup z = some k) (hkk : k = .local ∨ k = .cell) (bz : ∀ a vs b, B a vs → B a (setv z b vs))
    (out : ∀ a ∈ l, ∀ vs, Fr scope st vs → JA (C.comp scope) target (e a) ⟨vs, st.heap, st.nx⟩ (OutC st fun vs => Fr scope st vs ∧ B a vs))
    (it2 : ∀ a ∈ l, ∀ vs, Fr scope st vs → B a vs → J (C.comp scope) VR (eval iter') ⟨vs, st.heap, st.nx⟩ fun u st' => st' = ⟨vs, st.heap, st.nx⟩ ∧ ∀ vs', Itb ⟨vs', st.heap, st.nx⟩ u (f a))
    (turn : ∀ a ∈ l, ∀ b ∈ f a, ∀ vs, Fr scope st vs → B a vs → vs.lookup z = some b → JTs (C.comp scope) ifs' ⟨vs, st.heap, st.nx⟩ fun ok st₃ => (ok = true → J (C.comp scope) VR (eval elt) st₃ fun u st₄ => st₄ = ⟨vs, st.heap, st.nx⟩ ∧ R a b (some u)) ∧ (ok = false → st₃ = ⟨vs, st.heap, st.nx⟩ ∧ R a b none))
    (fin : ∀ ys, Steps2 R f l ys → Qi ys st)
    (hs : ∀ env x, foldedSetIterable iter' env x = pure x := by intro _ _; rfl) : CompIn C scope elt [⟨target, iter, [], 0⟩, ⟨.Name z pz, iter', ifs', 0⟩] pos st v Qi := by
  refine comp_2 (l.map e) (CI1 st R f l (Fr scope st)) hv (.mk _ .nil fun y hy => inner_lookup' hy _) (fun i ys st' h => ?_) (fun i ys x st' hx h => ?_) fun ys st' h => ?_
  · cases h with | mk vs => exact hv.vs vs
  · cases h with | mk vs hs1 h1
    rw [List.getElem?_map] at hx
    obtain ⟨a, ha, rfl⟩ := Option.map_eq_some_iff.mp hx
    have hm : a ∈ l := List.mem_of_getElem? ha
    have le1 : ((l.take i).flatMap f).length + (f a).length ≤ sizeLine := by
      refine Nat.le_trans ?_ hsz
      have : l.flatMap f = ((l.take i).flatMap f ++ f a) ++ (l.drop (i + 1)).flatMap f := by
        rw [← List.flatMap_singleton (f := f) (x := a), ← List.flatMap_append, ← take_at ha, ← List.flatMap_append, List.take_append_drop]
      rw [this, List.length_append, List.length_append]
      exact Nat.le_add_right ..
    intro env Z R' ρ s w hs' r
    refine wp_use (out a hm vs h1 env Z R' ρ s w hs' r) (fun _ s₁ _ st₁ Z₁ ρ₁ hz₁ hr₁ _ hs₁ q => ?_)
    refine ⟨(), _, Z₁, ρ₁, hz₁, hr₁, trivial, hs₁, ?_⟩
    cases q with | mk vs₁ q
    refine ts_nil ⟨fun _ => e_gen ?_ hs, nofun⟩
    refine J.mono (it2 a hm vs₁ q.1 q.2) fun u st' q2 => ?_
    rw [q2.1]
    refine ⟨f a, CI2 st ys (R a) (f a) fun vs => Fr scope st vs ∧ B a vs, ?_, fun j ys st' h => ?_, fun j ys b st' hb h => ?_, fun ys st' h => ?_⟩
    · have h : CI2 st ys (R a) (f a) (fun vs => Fr scope st vs ∧ B a vs) 0 (ys ++ []) ⟨vs₁, st.heap, st.nx⟩ := .mk _ _ .nil q
      rw [List.append_nil] at h; exact h
    · cases h with | mk zs vs => exact q2.2 vs
    · cases h with | mk zs vs hs2 h2
      have hb' := List.mem_of_getElem? hb
      refine a_Name ?_ (comp_lk hk hkk) hkk
      have q3 : Fr scope st (setv z b vs) ∧ B a (setv z b vs) := ⟨h2.1.setv hk hkk b, bz a vs b h2.2⟩
      refine J.mono (turn a hm b hb' _ q3.1 q3.2 ((setv_lookup ..).trans (if_pos rfl))) fun ok st₃ c => ⟨fun hok => e_emit (J.mono (c.1 hok) fun y st₄ q => ?_), fun hok => ?_⟩
      · refine ⟨?_, ?_⟩
        · rw [List.length_append]
          exact Nat.le_trans (Nat.add_le_add hs1.len (Nat.le_trans hs2.len (List.length_take_le' ..))) le1
        · rw [q.1, List.append_assoc]; exact .mk _ _ (by rw [take_at hb]; exact .add hs2 q.2) q3
      · rw [(c.2 hok).1]; exact .mk _ _ (by rw [take_at hb]; exact .skip hs2 (c.2 hok).2) q3
    · cases h with | mk zs vs hs2 h2
      rw [List.take_length] at hs2
      exact .mk _ (by rw [take_at ha]; exact .add hs1 hs2) h2.1
  · rw [List.length_map] at h
    cases h with | mk vs hs1 h
    rw [List.take_length] at hs1
    exact ⟨fun x v hx e => by rw [h x hx]; exact e, fin _ hs1⟩

end
end Mine
end
section -- MComp5
set_option maxRecDepth 100000
namespace Mine
open PySem PySem.W PyProof.Rows

section
variable {C : Fx} {st : St}
end
end Mine
end
section -- MComp8
set_option maxRecDepth 100000
/-! a comprehension over any list that leaves the state as it is -/
namespace Mine
open PySem PySem.W PyProof.Rows
section
variable {C : Fx} {st : St}
theorem comp_mapT {α : Type} {scope : Scope} {elt target iter : Expr} {pos : Pos} {v : V} {Qi : List V → St → Prop} (l : List α) (e g : α → V) (tgt : V → List (Str × V) → List (Str × V)) (hv : Itb st v (l.map e)) (hsz : l.length ≤ 100000)
    (htgt : ∀ a ∈ l, ∀ vs, JA (C.comp scope) target (e a) ⟨vs, st.heap, st.nx⟩ fun st' => st' = ⟨tgt (e a) vs, st.heap, st.nx⟩) (hid : ∀ a b vs, tgt a (tgt b vs) = tgt a vs) (hfr : ∀ a vs, Fr scope st vs → Fr scope st (tgt a vs))
    (turn : ∀ a ∈ l, J (C.comp scope) VR (eval elt) ⟨tgt (e a) (inner scope st.vars), st.heap, st.nx⟩ fun y st₄ => y = g a ∧ st₄ = ⟨tgt (e a) (inner scope st.vars), st.heap, st.nx⟩)
    (fin : Qi (l.map g) st) : CompIn C scope elt [⟨target, iter, [], 0⟩] pos st v Qi :=
  comp_core l e (fun a o => some (g a) = o) tgt hv (Nat.le_trans hsz (by decide)) htgt hid hfr (fun a ha => ts_nil ⟨fun _ => J.mono (turn a ha) fun y st₄ q => ⟨q.2, congrArg some q.1.symm⟩, nofun⟩) fun ys h => by
    rw [h.fm, show (fun a => some (g a)) = some ∘ g from rfl, List.filterMap_eq_map]; exact fin
theorem comp_map {α : Type} {scope : Scope} {elt iter : Expr} {x : Str} {px pos : Pos} {v : V} {k : NameKind} {Qi : List V → St → Prop} (l : List α) (e g : α → V) (hv : Itb st v (l.map e)) (hsz : l.length ≤ 100000)
    (hk : scope.names.lookup x = some k) (hkk : k = .local ∨ k = .cell)
    (turn : ∀ a ∈ l, J (C.comp scope) VR (eval elt) ⟨setv x (e a) (inner scope st.vars), st.heap, st.nx⟩ fun y st₄ => y = g a ∧ st₄ = ⟨setv x (e a) (inner scope st.vars), st.heap, st.nx⟩)
    (fin : Qi (l.map g) st) : CompIn C scope elt [⟨.Name x px, iter, [], 0⟩] pos st v Qi := by
  exact comp_mapT l e g (setv x) hv hsz (fun a _ vs => a_Name rfl (comp_lk hk hkk) hkk) (fun a b vs => setv_setv x a b vs) (fun a vs h => h.setv hk hkk a) turn fin
end
end Mine
end
section -- MInts
set_option maxRecDepth 100000
namespace Mine
open PySem PySem.W PyProof.Rows

section
variable {C : Fx} {st : St}

theorem op_mod {a b : Int} {Q : V → St → Prop} (hb : 0 < b) (h : Q (.int (a % b)) st) : JV C VR [.int a, .int b] (two (binaryOp .Mod)) st Q :=
  op_int fun env Z R ρ s t u hs => by
    rw [← Int.fmod_eq_emod_of_nonneg a (Int.le_of_lt hb)] at h
    exact PyProof.Rows.mod_int' (by lia) (SR.post (hs.tok _) (.int _ _) h)
theorem op_fdiv {a b : Int} {Q : V → St → Prop} (hb : 0 < b) (hs : b.natAbs.log2 < 9000) (h : Q (.int (a / b)) st) : JV C VR [.int a, .int b] (two (binaryOp .FloorDiv)) st Q :=
  op_int fun env Z R ρ s t u hs' => by
    rw [← Int.fdiv_eq_ediv_of_nonneg a (Int.le_of_lt hb)] at h
    exact PyProof.Rows.floordiv_int (hp := .inl (PyProof.noPylong_of_log2 hs)) (by lia) (SR.post (hs'.tok _) (.int _ _) h)
theorem op_pow {a n : Int} {Q : V → St → Prop} (hn : 0 ≤ n) (hsz : (Builtin.Int.intBits a : Int) * n ≤ 2 ^ 27) (h : Q (.int (a ^ n.toNat)) st) : JV C VR [.int a, .int n] (two (binaryOp .Pow)) st Q :=
  op_int fun env Z R ρ s t u hs => PyProof.Rows.pow_int hn hsz (SR.post (hs.tok _) (.int _ _) h)
theorem op_and {a b : Int} {Q : V → St → Prop} (h : Q (.int (Builtin.bitAnd a b)) st) : JV C VR [.int a, .int b] (two (binaryOp .BitAnd)) st Q :=
  op_int fun env Z R ρ s t u hs => PyProof.Rows.and_int (SR.post (hs.tok _) (.int _ _) h)
theorem op_ge {a b : Int} {Q : V → St → Prop} (h : Q (.bool (decide (b ≤ a))) st) : JV C VR [.int a, .int b] (two (compareOp .GtE)) st Q :=
  op_int fun env Z R ρ s t u hs => P.ge_int (SR.post hs (.bool _) h)

theorem ip_add {a b : Int} {Q : V → St → Prop} (h : Q (.int (a + b)) st) : JV C VR [.int a, .int b] (two (inplaceOp .Add)) st Q :=
  op_int fun env Z R ρ s t u hs => wpAny_iadd_int (SR.post (hs.tok _) (.int _ _) h)
theorem ip_or {a b : Int} {Q : V → St → Prop} (h : Q (.int (Builtin.bitOr a b)) st) : JV C VR [.int a, .int b] (two (inplaceOp .BitOr)) st Q :=
  op_int fun env Z R ρ s t u hs => PyProof.Rows.ior_int (SR.post (hs.tok _) (.int _ _) h)
theorem ip_shl {a n : Int} {Q : V → St → Prop} (hn : 0 ≤ n) (hsz : (Builtin.Int.intBits a : Int) + n ≤ 2 ^ 27) (h : Q (.int (a * 2 ^ n.toNat)) st) : JV C VR [.int a, .int n] (two (inplaceOp .LShift)) st Q :=
  op_int fun env Z R ρ s t u hs => PyProof.Rows.ilshift_int hn hsz (SR.post (hs.tok _) (.int _ _) h)

theorem ne_none {Z : PH} {ρ : List Addr} {v : V} {w : Value} (h : VR Z ρ v w) (hv : v ≠ .none) (hv' : ∀ u, v ≠ .val u) : w ≠ .none := by
  cases h <;> simp_all
theorem is_none {v : V} {Q : V → St → Prop} (h : Q (.bool (match v with | .none => true | _ => false)) st) (hv : ∀ u, v ≠ .val u := by intro _ x; cases x) : JV C VR [v, .none] (two (compareOp .Is)) st Q :=
  fun env Z R ρ s ws hs hw => by
    obtain ⟨x, y, rfl, h1, h2⟩ := inv2 hw
    obtain rfl := inv_none h2
    cases v with
    | none => obtain rfl := inv_none h1; exact is_none_none (SR.post hs (.bool _) h)
    | val u => exact absurd rfl (hv u)
    | _ => exact is_none_ne (ne_none h1 (by intro x; cases x) hv) (SR.post hs (.bool _) h)
theorem isnot_none {v : V} {Q : V → St → Prop} (h : Q (.bool (match v with | .none => false | _ => true)) st) (hv : ∀ u, v ≠ .val u := by intro _ x; cases x) : JV C VR [v, .none] (two (compareOp .IsNot)) st Q :=
  fun env Z R ρ s ws hs hw => by
    obtain ⟨x, y, rfl, h1, h2⟩ := inv2 hw
    obtain rfl := inv_none h2
    cases v with
    | none => obtain rfl := inv_none h1; exact isnot_none_none (SR.post hs (.bool _) h)
    | val u => exact absurd rfl (hv u)
    | _ => exact isnot_none_ne (ne_none h1 (by intro x; cases x) hv) (SR.post hs (.bool _) h)
end

theorem band63 {a : Int} (h : 0 ≤ a) : Builtin.bitAnd a 63 = a % 64 := by
  obtain ⟨n, rfl⟩ := Int.eq_ofNat_of_zero_le h
  rw [PyProof.Rows.bitAnd_pp h (by decide)]
  have : ((n : Int).toNat &&& (63 : Int).toNat) = n % 64 := by
    show n &&& 63 = n % 64
    exact Nat.and_two_pow_sub_one_eq_mod n 6
  rw [this]; rfl
theorem band64 {a : Int} (h : 0 ≤ a) (h2 : a < 256) : (Builtin.bitAnd a 64 != 0) = decide (a / 64 % 2 = 1) := by
  obtain ⟨n, rfl⟩ := Int.eq_ofNat_of_zero_le h
  rw [PyProof.Rows.bitAnd_pp h (by decide)]
  have hn : n < 256 := by lia
  show (((n &&& 64 : Nat) : Int) != 0) = _
  have key : ∀ m : Fin 256, ((((m : Nat) &&& 64 : Nat) : Int) != 0) = decide (((m : Nat) : Int) / 64 % 2 = 1) := by decide +kernel
  exact key ⟨n, hn⟩
theorem bor_low {a b : Int} (ha : 0 ≤ a) (hb : 0 ≤ b) (hb2 : b < 64) : Builtin.bitOr (a * 64) b = a * 64 + b := by
  obtain ⟨n, rfl⟩ := Int.eq_ofNat_of_zero_le ha
  obtain ⟨m, rfl⟩ := Int.eq_ofNat_of_zero_le hb
  rw [PyProof.Rows.bitOr_and, PyProof.Rows.bitAnd_pp (by lia) hb]
  have : (((n : Int) * 64).toNat &&& (m : Int).toNat) = 0 := by
    show ((n * 64 : Nat) &&& m) = 0
    have e : n * 64 = n <<< 6 := by rw [Nat.shiftLeft_eq]
    have hm : m < 2 ^ 6 := by lia
    apply Nat.eq_of_testBit_eq
    intro i
    rw [Nat.testBit_and, e, Nat.testBit_shiftLeft, Nat.zero_testBit]
    by_cases hi : 6 ≤ i
    · rw [Nat.testBit_lt_two_pow (Nat.lt_of_lt_of_le hm (Nat.pow_le_pow_right (by decide) hi)), Bool.and_false]
    · simp [hi]
  rw [this]; simp
end Mine
end
section -- MSeqs
set_option maxRecDepth 100000
namespace Mine
open PySem PySem.W PyProof.Rows

noncomputable def Lis (st : St) (v : V) (xs : List V) : Prop := match v with
  | .lst l => xs = l
  | .obj n => st.heap n = some (.list xs)
  | _ => False
theorem Lis.at_ {C : Fx} {env : Env} {Z R : PH} {ρ : List Addr} {st : St} {s : Shared} {v : V} {xs : List V} {w : Value} (h : Lis st v xs) (hs : SR C env Z R ρ st s) (r : VR Z ρ v w) : ∃ a ws k, w = .ref a ∧ s.heap.get? a = some (lobj ws k) ∧ VRs Z ρ xs ws.toList := by
  cases v with
  | lst l =>
    obtain rfl : xs = _ := h
    obtain ⟨a, ws, k, rfl, hz, ri⟩ := r.lst_inv
    exact ⟨a, ws, k, rfl, hs.z_ hz, ri⟩
  | obj n =>
    obtain ⟨a, ws, k, rfl, ea, ho, ri⟩ := hs.list h r
    exact ⟨a, ws, k, rfl, ho, ri⟩
  | _ => exact h.elim

noncomputable def sl (lo hi : Option Int) (xs : List V) : List V := (xs.drop (lo.elim 0 (clipAt xs.length))).take (hi.elim xs.length (clipAt xs.length) - lo.elim 0 (clipAt xs.length))
theorem sl_upto (k : Nat) (xs : List V) : sl none (some (k : Int)) xs = xs.take k := by
  unfold sl
  simp only [Option.elim, clipAt_nat, List.drop_zero, Nat.sub_zero]
  rcases Nat.le_total k xs.length with h | h
  · rw [Nat.min_eq_left h]
  · rw [Nat.min_eq_right h, List.take_of_length_le (Nat.le_refl _), List.take_of_length_le h]
theorem sl_from (k : Nat) (xs : List V) : sl (some (k : Int)) none xs = xs.drop k := by
  unfold sl
  simp only [Option.elim, clipAt_nat]
  rcases Nat.le_total k xs.length with h | h
  · rw [Nat.min_eq_left h, List.take_of_length_le (by simp)]
  · rw [Nat.min_eq_right h, List.drop_of_length_le (Nat.le_refl _), List.drop_of_length_le h]; simp

noncomputable def rPart (Z : PH) (ρ : List Addr) (b : Option Int) (a : Value) : Prop := IsPart a b
noncomputable abbrev JP (C : Fx) (p : Option Expr) (st : St) (Q : Option Int → St → Prop) : Prop := J C rPart (evalPart p) st Q

section
variable {C : Fx} {st : St}

theorem p_none {Q : Option Int → St → Prop} (h : Q none st) : JP C none st Q := fun env Z R ρ s hs => wpAny_pure (SR.post hs .none h)
theorem p_some {e : Expr} {Q : Option Int → St → Prop} (h : J C VR (eval e) st fun v st' => ∃ i, v = .int i ∧ Q (some i) st') : JP C (some e) st Q :=
  fun env Z R ρ s hs => wp_use (h env Z R ρ s hs) (fun w s' v st' Z' ρ' hz hr rv hs' ⟨i, e, hq⟩ => by
    subst e
    obtain ⟨t, rfl⟩ := inv_int rv
    exact ⟨some i, st', Z', ρ', hz, hr, .int i t, hs', hq⟩)

theorem ev_Slice {value : Expr} {lower upper : Option Expr} {p pos : Pos} {Q : V → St → Prop}
    (h : J C VR (eval value) st fun v st₁ => JP C lower st₁ fun lo st₂ => JP C upper st₂ fun hi st₃ => ∃ xs, Lis st₃ v xs ∧ xs.length ≤ sizeLine ∧ Q (.lst (sl lo hi xs)) st₃)
    (ht : ∀ o r, letTemporaryGo value o r = pure () := by intro _ _; rfl) : J C VR (eval (.Subscript value (.Slice lower upper none p) pos)) st Q :=
  fun env Z R ρ s hs => wpAny_Subscript_list_slice (wp_use (h env Z R ρ s hs) (fun w s₁ v st₁ Z₁ ρ₁ hz₁ hr₁ rv hs₁ h₁ =>
    wp_use (h₁ env Z₁ R ρ₁ s₁ hs₁) (fun wl s₂ lo st₂ Z₂ ρ₂ hz₂ hr₂ rl hs₂ h₂ =>
      wp_use (h₂ env Z₂ R ρ₂ s₂ hs₂) (fun wu s₃ hi st₃ Z₃ ρ₃ hz₃ hr₃ ru hs₃ ⟨xs, hl, hsz, hq⟩ => by
        obtain ⟨a, ws, k, rfl, ho, ri⟩ := hl.at_ hs₃ ((rv.mono hz₂ hr₂).mono hz₃ hr₃)
        have hlen := ri.toArr
        obtain ⟨le1, k1⟩ := hs₃.allocZ { cls := .type "slice", data := .fields #[wl, wu, .none] } s₃.toks
        obtain ⟨le2, k2⟩ := k1.allocZ (lobj (slicePick ws lo hi none) 0) s₃.toks
        refine ⟨a, ws, lo, hi, rfl, ⟨_, ho, rfl, _, rfl⟩, by lia, rl, ru, ?_⟩
        dsimp only at k2 le2
        rw [Heap.size_push] at k2 le2
        refine ⟨_, _, _, ρ₃, ((hz₁.trans hz₂).trans hz₃).trans (le1.trans le2), (hr₁.trans hr₂).trans hr₃, .lst (PH.put_self ..) ?_, k2, hq⟩
        have e := congrArg Array.toList (slicePick_plain ws lo hi)
        dsimp only at e
        rw [e]
        unfold sl
        rw [hlen]
        exact ((ri.drop _).take _).mono (le1.trans le2) (Ext.refl _))))) ht

theorem op_cat {v u : V} {xs ys : List V} {Q : V → St → Prop} (hv : Lis st v xs) (hu : Lis st u ys) (hsz : xs.length + ys.length ≤ sizeLine) (h : Q (.lst (xs ++ ys)) st) : JV C VR [v, u] (two (binaryOp .Add)) st Q :=
  fun env Z R ρ s ws hs hw => by
    obtain ⟨x, y, rfl, h1, h2⟩ := inv2 hw
    obtain ⟨a, w1, k1, rfl, ho1, r1⟩ := hv.at_ hs h1
    obtain ⟨b, w2, k2, rfl, ho2, r2⟩ := hu.at_ hs h2
    have l1 := r1.toArr
    have l2 := r2.toArr
    obtain ⟨le, k⟩ := hs.allocZ (lobj (w1 ++ w2) 0) s.toks
    refine P.add_list ho1 ho2 ⟨_, _, _, ρ, le, Ext.refl _, .lst (PH.put_self ..) ?_, k, h⟩ (by lia)
    rw [Array.toList_append]
    exact (r1.append r2).mono le (Ext.refl _)

theorem b_len {v : V} {xs : List V} {Q : V → St → Prop} (hv : Lis st v xs) (hsz : xs.length < 2 ^ 63) (h : Q (.int xs.length) st) : JV C VR [v] (fun ws => call (.builtin "len") ws) st Q :=
  fun env Z R ρ s ws hs hw => by
    obtain ⟨x, rfl, h1⟩ := inv1 hw
    obtain ⟨a, w1, k1, rfl, ho1, r1⟩ := hv.at_ hs h1
    have l1 := r1.toArr
    refine Calls.call_len_list ⟨_, ho1, rfl, _, rfl⟩ (by lia) (SR.post (hs.tok _) ?_ h)
    rw [l1]; exact .int _ _

theorem m_insert {n : Nat} {xs : List V} {k : Int} {v : V} {Q : V → St → Prop} (e : st.heap n = some (.list xs)) (hsz : xs.length ≤ sizeLine) (h0 : 0 ≤ k) (hk : k < 2 ^ 63) (h : Q .none { st with heap := upd st.heap n (.list (xs.take k.toNat ++ v :: xs.drop k.toNat)) }) :
    JV C VR [.obj n, .int k, v] (fun ws => call (.builtin "list.insert") ws) st Q :=
  fun env Z R ρ s ws hs hw => by
    obtain ⟨x, y, z, rfl, r1, r2, r3⟩ := inv3 hw
    obtain ⟨t, rfl⟩ := inv_int r2
    obtain ⟨a, its, m, rfl, ea, ho, ri⟩ := hs.list e r1
    have hl := ri.toArr
    have hf : ¬ (!Builtin.List.listFitsIndex k) = true := by rw [fitsIndex_of h0 hk]; decide
    have hz : its.size ≤ sizeLine := hl ▸ hsz
    have M := PySem.AutoListH.list_insert_list_int_val_1 a its m k t z hf hz
    refine call_meets PySem.F.slot_list_insert ⟨_, ho, rfl⟩ PySem.F.entry_list_insert (PySem.F.args_list_insert_3 _ _ _) M ⟨ho, ?_⟩
    refine SR.post (hs.list_turn (tk := s.toks) e ea ho _ ?_) .none h
    have e1 : (if k < 0 then (k + ((its.size : Nat) : Int)).toNat else min k.toNat its.size) = min k.toNat its.size := by rw [if_neg (by lia)]
    dsimp only
    rw [e1]
    generalize k.toNat = j
    have e2 : ((its.extract 0 (min j its.size)).push z ++ its.extract (min j its.size)).toList = its.toList.take j ++ z :: its.toList.drop j := by
      simp only [Array.toList_append, Array.toList_push, Array.toList_extract, List.extract_eq_take_drop, List.drop_zero, Nat.sub_zero, List.append_assoc, List.singleton_append]
      rcases Nat.le_total j its.size with q | q
      · rw [Nat.min_eq_left q, List.take_of_length_le (l := its.toList.drop j) (by simp)]
      · rw [Nat.min_eq_right q, List.drop_eq_nil_of_le (i := its.size) (by simp), List.drop_eq_nil_of_le (i := j) (by simpa using q), List.take_of_length_le (i := its.size) (by simp), List.take_of_length_le (i := j) (by simpa using q)]
        simp
    rw [e2]
    exact (ri.take j).append (.cons r3 (ri.drop j))
end
end Mine
end
section -- MEq
set_option maxRecDepth 100000
namespace Mine
open PySem PySem.W PyProof.Rows

mutual
noncomputable def toD : V → PyData
  | .none => .none
  | .bool b => .bool b
  | .int i => .int i
  | .str x => .str x
  | .tup l => .tuple (toDs l)
  | .lst l => .list (toDs l)
  | .rng _ _ | .obj _ | .inst _ _ | .deq | .ref | .val _ => .none
noncomputable def toDs : List V → List PyData
  | [] => []
  | v :: r => toD v :: toDs r
end
mutual
noncomputable def okD : V → Bool
  | .none | .bool _ | .int _ => true
  | .str x => PyData.strOk x
  | .tup l | .lst l => okDs l
  | .rng _ _ | .obj _ | .inst _ _ | .deq | .ref | .val _ => false
noncomputable def okDs : List V → Bool
  | [] => true
  | v :: r => okD v && okDs r
end
theorem toDs_map : ∀ l : List V, toDs l = l.map toD
  | [] => by simp [toDs]
  | v :: r => by simp [toDs, toDs_map r]
theorem no_ok {v : V} (h : okD v = false) {P : Prop} (ok : okD v = true) : P := by rw [h] at ok; cases ok
theorem VR.reads2 {Z : PH} {ρ : List Addr} {h : Heap} (k : ∀ a o, Z a = some o → h.get? a = some o) : (∀ {v w}, VR Z ρ v w → okD v = true → ∃ as, Reads h w (toD v) as) ∧ ∀ {vs ws}, VRs Z ρ vs ws → okDs vs = true → ∃ as, ReadsAll h ws (toDs vs) as :=
  VR.both (fun _ => ⟨[], by rw [toD]; exact .none⟩) (fun b _ => ⟨[], by rw [toD]; exact .bool b⟩) (fun i t _ => ⟨[], by rw [toD]; exact .int i t⟩) (fun x t _ => ⟨[], by rw [toD]; exact .str x t⟩)
    (fun h1 _ ih ok => let ⟨as, r⟩ := ih (by rw [okD] at ok; exact ok); ⟨_, by rw [toD]; exact .tuple (k _ _ h1) rfl rfl r⟩) (fun h1 _ ih ok => let ⟨as, r⟩ := ih (by rw [okD] at ok; exact ok); ⟨_, by rw [toD]; exact .list (k _ _ h1) rfl rfl r⟩)
    (fun _ => no_ok (by rw [okD])) (fun _ => no_ok (by rw [okD])) (fun _ _ => no_ok (by rw [okD])) (fun _ _ => no_ok (by rw [okD])) (fun _ => no_ok (by rw [okD])) (fun _ => no_ok (by rw [okD]))
    (fun _ => ⟨[], by rw [toDs]; exact .nil⟩) (fun _ _ h t ok => by
      rw [okDs, Bool.and_eq_true] at ok
      obtain ⟨as, r⟩ := h ok.1
      obtain ⟨bs, r'⟩ := t ok.2
      exact ⟨_, by rw [toDs]; exact .cons r r'⟩)
theorem VR.reads {Z : PH} {ρ : List Addr} {h : Heap} (k : ∀ a o, Z a = some o → h.get? a = some o) {v : V} {w : Value} (ok : okD v = true) (r : VR Z ρ v w) : ∃ as, Reads h w (toD v) as := (VR.reads2 k).1 r ok
theorem VRs.reads {Z : PH} {ρ : List Addr} {h : Heap} (k : ∀ a o, Z a = some o → h.get? a = some o) {v : List V} {w : List Value} (ok : okDs v = true) (r : VRs Z ρ v w) : ∃ as, ReadsAll h w (toDs v) as := (VR.reads2 k).2 r ok
theorem canLay_toD {v : V} : okD v = true → (toD v).canLay0 = true :=
  V.rec (motive_1 := fun v => okD v = true → (toD v).canLay0 = true) (motive_2 := fun l => okDs l = true → PyData.canLayAll0 (toDs l) = true) (fun _ => by rw [toD]; rfl) (fun _ _ => by rw [toD]; rfl) (fun _ _ => by rw [toD]; rfl) (fun x h => by rw [okD] at h; rw [toD, PyData.canLay0]; exact h)
    (fun l ih h => by rw [okD] at h; rw [toD, PyData.canLay0]; exact ih h) (fun l ih h => by rw [okD] at h; rw [toD, PyData.canLay0]; exact ih h) (fun _ _ => no_ok (by rw [okD])) (fun _ => no_ok (by rw [okD])) (fun _ _ => no_ok (by rw [okD])) (no_ok (by rw [okD])) (no_ok (by rw [okD])) (fun _ => no_ok (by rw [okD]))
    (fun _ => by rw [toDs]; rfl) (fun v r h t hh => by rw [okDs, Bool.and_eq_true] at hh; rw [toDs, PyData.canLayAll0, h hh.1, t hh.2]; rfl) v
theorem canLay_toDs : ∀ {l : List V}, okDs l = true → PyData.canLayAll0 (toDs l) = true
  | [], _ => by rw [toDs]; rfl
  | v :: r, h => by
    rw [okDs, Bool.and_eq_true] at h
    rw [toDs, PyData.canLayAll0, canLay_toD h.1, canLay_toDs h.2]; rfl

section
variable {C : Fx} {st : St}
theorem op_eqD {a b : V} {Q : V → St → Prop} (ha : okD a = true) (hb : okD b = true) (hu : C.u + min (toD a).depth (toD b).depth < cLine) (h : Q (.bool (PyData.eqv (toD a) (toD b))) st) : JV C VR [a, b] (two (compareOp .Eq)) st Q :=
  fun env Z R ρ s ws hs hw => by
    obtain ⟨x, y, rfl, h1, h2⟩ := inv2 hw
    obtain ⟨as, r1⟩ := h1.reads (fun _ _ e => hs.z_ e) ha
    obtain ⟨bs, r2⟩ := h2.reads (fun _ _ e => hs.z_ e) hb
    exact SeqAt.compareEq_reads r1 r2 (canLay_toD ha) (canLay_toD hb) hu (SR.post hs (.bool _) h)
theorem op_neD {a b : V} {Q : V → St → Prop} (ha : okD a = true) (hb : okD b = true) (hu : C.u + min (toD a).depth (toD b).depth < cLine) (h : Q (.bool (!PyData.eqv (toD a) (toD b))) st) : JV C VR [a, b] (two (compareOp .NotEq)) st Q :=
  fun env Z R ρ s ws hs hw => by
    obtain ⟨x, y, rfl, h1, h2⟩ := inv2 hw
    obtain ⟨as, r1⟩ := h1.reads (fun _ _ e => hs.z_ e) ha
    obtain ⟨bs, r2⟩ := h2.reads (fun _ _ e => hs.z_ e) hb
    exact SeqAt.compareNe_reads r1 r2 (canLay_toD ha) (canLay_toD hb) hu (SR.post hs (.bool _) h)

theorem Lis.reads {C : Fx} {env : Env} {Z R : PH} {ρ : List Addr} {st : St} {s : Shared} {v : V} {xs : List V} {w : Value} (h : Lis st v xs) (ok : okDs xs = true) (hs : SR C env Z R ρ st s) (r : VR Z ρ v w) : ∃ as, Reads s.heap w (.list (toDs xs)) as := by
  obtain ⟨a, ws, k, rfl, ho, ri⟩ := h.at_ hs r
  obtain ⟨as, r⟩ := VRs.reads (fun _ _ e => hs.z_ e) ok ri
  exact ⟨_, .list ho rfl rfl r⟩
theorem op_in {v x : V} {xs : List V} {Q : V → St → Prop} (hv : Lis st v xs) (ok : okDs xs = true) (hx : okD x = true) (hu : C.u + 1 + min (PyData.depthAll (toDs xs)) (toD x).depth < cLine) (h : Q (.bool ((toDs xs).any fun y => PyData.eqv y (toD x))) st) :
    JV C VR [x, v] (two (compareOp .In)) st Q :=
  fun env Z R ρ s ws hs hw => by
    obtain ⟨y, l, rfl, h1, h2⟩ := inv2 hw
    obtain ⟨as, r1⟩ := h1.reads (fun _ _ e => hs.z_ e) hx
    obtain ⟨bs, r2⟩ := hv.reads ok hs h2
    exact SeqAt.in_list_reads r2 r1 (canLay_toDs ok) (canLay_toD hx) hu (SR.post hs (.bool _) h)
theorem op_notIn {v x : V} {xs : List V} {Q : V → St → Prop} (hv : Lis st v xs) (ok : okDs xs = true) (hx : okD x = true) (hu : C.u + 1 + min (PyData.depthAll (toDs xs)) (toD x).depth < cLine) (h : Q (.bool (!((toDs xs).any fun y => PyData.eqv y (toD x)))) st) :
    JV C VR [x, v] (two (compareOp .NotIn)) st Q :=
  fun env Z R ρ s ws hs hw => by
    obtain ⟨y, l, rfl, h1, h2⟩ := inv2 hw
    obtain ⟨as, r1⟩ := h1.reads (fun _ _ e => hs.z_ e) hx
    obtain ⟨bs, r2⟩ := hv.reads ok hs h2
    exact SeqAt.notIn_list_reads r2 r1 (canLay_toDs ok) (canLay_toD hx) hu (SR.post hs (.bool _) h)

theorem m_index {v x : V} {xs : List V} {j : Nat} {Q : V → St → Prop} (hv : Lis st v xs) (hj : j < xs.length) (hsz : xs.length < 2 ^ 62) (ok : okDs xs = true) (hx : okD x = true) (hu : C.u + 1 + min (PyData.depthAll (toDs xs)) (toD x).depth < cLine)
    (hit : PyData.eqv (toD xs[j]) (toD x) = true) (hno : ∀ m (hm : m < xs.length), m < j → PyData.eqv (toD xs[m]) (toD x) = false) (h : Q (.int (j : Int)) st) :
    JV C VR [v, x] (fun ws => call (.builtin "list.index") ws) st Q :=
  fun env Z R ρ s ws hs hw => by
    obtain ⟨l, y, rfl, h1, h2⟩ := inv2 hw
    obtain ⟨a, its, k, rfl, ho, ri⟩ := hv.at_ hs h1
    have hl := ri.toArr
    obtain ⟨as, r1⟩ := VRs.reads (fun _ _ e => hs.z_ e) ok ri
    obtain ⟨bs, r2⟩ := h2.reads (fun _ _ e => hs.z_ e) hx
    have rd : ∀ m (hm : m < its.size), SeqAt.readOf s.heap its[m] = toD (xs[m]'(by lia)) := fun m hm => by
      have := SeqAt.readsAll_map _ _ _ (canLay_toDs ok) r1
      have e := congrArg (fun q => q[m]?) this
      simp only [List.getElem?_map, Array.getElem?_toList, toDs_map] at e
      rw [Array.getElem?_eq_getElem hm, List.getElem?_eq_getElem (by lia : m < xs.length)] at e
      exact Option.some.inj e
    have it := SeqAt.items_eqAt (A := C.A) r1 r2 (canLay_toDs ok) (canLay_toD hx) hu
    have M := SeqAt.list_indexAt a its k none #[] y (fun w => PyData.eqv (SeqAt.readOf s.heap w) (toD x)) j (by lia) (by lia) (by rw [rd j (by lia)]; exact hit) (fun m hm hlt => by rw [rd m hm]; exact hno m (by lia) hlt)
    exact call_meets PySem.F.slot_list_index ⟨_, ho, rfl⟩ PySem.F.entry_list_index (PySem.F.args_list_index_2 _ _) M ⟨ho, it, SR.post (hs.tok _) (.int _ _) h⟩
end
end Mine
end
section -- MCalls
set_option maxRecDepth 100000
namespace Mine
open PySem PySem.W PyProof.Rows

theorem VRs.ints {Z : PH} {ρ : List Addr} : ∀ {ns : List Int} {ws : List Value}, VRs Z ρ (ns.map V.int) ws → ∃ xs : List (Int × Tok), ws = xs.map (fun p => Value.int p.1 p.2) ∧ xs.map (·.1) = ns
  | [], ws, h => by
    cases h; exact ⟨[], rfl, rfl⟩
  | n :: r, ws, h => by
    cases h with
    | cons h t =>
      obtain ⟨tk, rfl⟩ := inv_int h
      obtain ⟨xs, rfl, h2⟩ := VRs.ints t
      exact ⟨(n, tk) :: xs, rfl, by simp [h2]⟩

theorem argBest_le (bt : Nat → Nat → Bool) : ∀ k, argBest bt k ≤ k
  | 0 => Nat.le_refl _
  | k + 1 => by
    unfold argBest
    have := argBest_le bt k
    split <;> lia
theorem argBest_max (f : Nat → Int) : ∀ k j, j ≤ k → f j ≤ f (argBest (fun i j => decide (f i > f j)) k)
  | 0, j, h => by
    obtain rfl : j = 0 := by lia
    exact Int.le_refl _
  | k + 1, j, h => by
    have ih := argBest_max f k
    unfold argBest
    split
    · rename_i q
      have q' := of_decide_eq_true q
      rcases Nat.lt_or_ge j (k + 1) with e | e
      · have := ih j (by lia); lia
      · obtain rfl : j = k + 1 := by lia
        exact Int.le_refl _
    · rename_i q
      have q' : ¬ _ := fun z => q (decide_eq_true z)
      rcases Nat.lt_or_ge j (k + 1) with e | e
      · exact ih j (by lia)
      · obtain rfl : j = k + 1 := by lia
        lia

section
variable {C : Fx} {st : St}

theorem b_range1 {n : Int} {Q : V → St → Prop} (h : Q (.rng 0 n) st) : JV C VR [.int n] (fun ws => call (.type "range") ws) st Q :=
  fun env Z R ρ s ws hs hw => by
    obtain ⟨x, rfl, h1⟩ := inv1 hw
    obtain ⟨t, rfl⟩ := inv_int h1
    obtain ⟨le, k⟩ := hs.allocZ { cls := .type "range", data := .fields #[.int 0 s.toks, .int n t, .int 1 (s.toks + 1)] } (s.toks + 1 + 1)
    exact call_range_1 ⟨_, _, _, ρ, le, Ext.refl _, .rng fun h kk => kk _ (PH.put_self ..), k, h⟩
theorem b_range2 {a b : Int} {Q : V → St → Prop} (h : Q (.rng a b) st) : JV C VR [.int a, .int b] (fun ws => call (.type "range") ws) st Q :=
  fun env Z R ρ s ws hs hw => by
    obtain ⟨t, u, rfl⟩ := inv_ii hw
    obtain ⟨le, k⟩ := hs.allocZ { cls := .type "range", data := .fields #[.int a t, .int b u, .int 1 s.toks] } (s.toks + 1)
    exact call_range_2 ⟨_, _, _, ρ, le, Ext.refl _, .rng fun h kk => kk _ (PH.put_self ..), k, h⟩
theorem b_maxL {v : V} {ns : List Int} {Q : V → St → Prop} (hv : Lis st v (ns.map V.int)) (hne : 0 < ns.length) (h : ∀ m ∈ ns, (∀ x ∈ ns, x ≤ m) → Q (.int m) st) : JV C VR [v] (fun ws => call (.builtin "max") ws) st Q :=
  fun env Z R ρ s ws hs hw => by
    obtain ⟨x, rfl, h1⟩ := inv1 hw
    obtain ⟨a, ws, k, rfl, ho, ri⟩ := hv.at_ hs h1
    obtain ⟨xs, e, rfl⟩ := ri.ints
    have hi : ws = intItems xs.toArray := by unfold intItems; apply Array.toList_inj.mp; rw [e]; simp
    have hl : xs.length > 0 := by simpa using hne
    have hli : s.heap.IsList a (intItems xs.toArray) := hi ▸ ⟨_, ho, rfl, _, rfl⟩
    refine wp_toks (max_intList rfl (xs := xs.toArray) hli (by simpa using hl) fun w h' tk hw kp (hle : s.toks ≤ tk) => ?_)
    have kk := hs.keep (s' := { s with heap := h', toks := tk }) kp
    have hb := argBest_le (fun i j => decide (numAt xs.toArray i > numAt xs.toArray j)) (xs.toArray.size - 1)
    have hlt : argBest (fun i j => decide (numAt xs.toArray i > numAt xs.toArray j)) (xs.toArray.size - 1) < xs.length := by have e0 : xs.toArray.size = xs.length := List.size_toArray; lia
    have hmin := argBest_max (numAt xs.toArray) (xs.toArray.size - 1)
    generalize argBest (fun i j => decide (numAt xs.toArray i > numAt xs.toArray j)) (xs.toArray.size - 1) = j at *
    have hw' : w = .int (xs[j]'hlt).1 (xs[j]'hlt).2 := by simpa [intItems, hlt] using hw.symm
    subst hw'
    have num : ∀ i (hi : i < xs.length), numAt xs.toArray i = (xs[i]'hi).1 := fun i hi => by simp [numAt, hi]
    refine SR.post kk (.int _ _) (h _ (List.mem_map.mpr ⟨_, List.getElem_mem hlt, rfl⟩) fun y hy => ?_)
    obtain ⟨p, hp, rfl⟩ := List.mem_map.mp hy
    obtain ⟨i, hi', rfl⟩ := List.mem_iff_getElem.mp hp
    have := hmin i (by simp; lia)
    rw [num j hlt, num i hi'] at this
    exact this

theorem preSum_eq : ∀ (xs : List (Int × Tok)) (n : Nat), n ≤ xs.length → preSum (numAt xs.toArray) n = ((xs.map (·.1)).take n).sum
  | xs, 0, _ => rfl
  | xs, n + 1, h => by
    rw [preSum, preSum_eq xs n (by lia), List.take_add_one]
    have : (xs.map (·.1))[n]? = some (xs[n]'(by lia)).1 := by rw [List.getElem?_map, List.getElem?_eq_getElem (by lia)]; rfl
    rw [this, List.sum_append]
    have e : numAt xs.toArray n = (xs[n]'(by lia)).1 := by simp [numAt, (by lia : n < xs.length)]
    rw [e]; simp
theorem b_sum {v : V} {ns : List Int} {Q : V → St → Prop} (hv : Lis st v (ns.map V.int)) (h : Q (.int ns.sum) st) : JV C VR [v] (fun ws => call (.builtin "sum") ws) st Q :=
  fun env Z R ρ s ws hs hw => by
    obtain ⟨x, rfl, h1⟩ := inv1 hw
    obtain ⟨a, ws, k, rfl, ho, ri⟩ := hv.at_ hs h1
    obtain ⟨xs, e, rfl⟩ := ri.ints
    have hi : ws = intItems xs.toArray := by unfold intItems; apply Array.toList_inj.mp; rw [e]; simp
    have hl : s.heap.IsList a (intItems xs.toArray) := hi ▸ ⟨_, ho, rfl, _, rfl⟩
    refine wp_toks (call_sum_walkG (iter_intList hl fun s₂ e st hfp hlI => ?_))
    subst e
    refine ⟨_, _, _, _, _, _, numAt xs.toArray, rfl, Walks.list (A := C.A.in1) rfl _ a hlI (intItems xs.toArray), st, hfp, (fun _ _ => intItems_at), fun h' tk t' hk (hle : s.toks ≤ tk) => ?_⟩
    have kk := hs.keep (s' := { s with heap := h', toks := tk }) (old_kept hk)
    have e2 : (intItems xs.toArray).size = xs.length := by simp [intItems]
    dsimp only
    rw [e2, preSum_eq xs _ (Nat.le_refl _), List.take_of_length_le (by simp)]
    exact SR.post kk (.int _ _) h
end
end Mine
end
section -- MComp6
set_option maxRecDepth 100000
namespace Mine
open PySem PySem.W PyProof.Rows

noncomputable def idxs (n : Nat) : List Int := (List.range n).map fun i : Nat => (i : Int)
theorem idxs_len (n : Nat) : (idxs n).length = n := by simp [idxs]
theorem mem_idxs {n : Nat} {i : Int} : i ∈ idxs n ↔ 0 ≤ i ∧ i < n := by
  simp only [idxs, List.mem_map, List.mem_range]
  exact ⟨fun ⟨k, h, e⟩ => by omega, fun ⟨h1, h2⟩ => ⟨i.toNat, by omega, by omega⟩⟩
theorem itb_rng (st : St) {n : Int} (h : 0 ≤ n) (h2 : n < 2 ^ 61) : Itb st (.rng 0 n) ((idxs n.toNat).map .int) := by
  refine ⟨?_, by omega, by omega, by omega, h2⟩
  simp [idxs]
noncomputable def asI : V → Int
  | .int i => i
  | _ => 0
section
variable {C : Fx} {st : St}
end
end Mine
end
section -- MComp7
set_option maxRecDepth 100000
namespace Mine
open PySem PySem.W PyProof.Rows
section
variable {C : Fx} {st : St}
theorem comp_pairs {scope : Scope} {elt iter iter' : Expr} {ifs' : List Expr} {x y : Str} {px py pos : Pos} {v : V} {k k' : NameKind} {Qi : List V → St → Prop} (l m : List Int) (p : Int → Int → Bool) (g : Int → Int → V) (hv : Itb st v (l.map .int)) (hl : l.length ≤ 1000) (hm : m.length ≤ 1000)
    (hk : scope.names.lookup x = some k) (hkk : k = .local ∨ k = .cell) (hk' : scope.names.lookup y = some k') (hkk' : k' = .local ∨ k' = .cell) (hxy : x ≠ y)
    (it2 : ∀ i ∈ l, ∀ vs, (∀ z, scope.names.lookup z = some .free → vs.lookup z = st.vars.lookup z) → vs.lookup x = some (.int i) → J (C.comp scope) VR (eval iter') ⟨vs, st.heap, st.nx⟩ fun u st' => st' = ⟨vs, st.heap, st.nx⟩ ∧ ∀ vs', Itb ⟨vs', st.heap, st.nx⟩ u (m.map .int))
    (tests : ∀ i ∈ l, ∀ j ∈ m, ∀ vs, (∀ z, scope.names.lookup z = some .free → vs.lookup z = st.vars.lookup z) → vs.lookup x = some (.int i) → vs.lookup y = some (.int j) → JTs (C.comp scope) ifs' ⟨vs, st.heap, st.nx⟩ fun ok st' => ok = p i j ∧ st' = ⟨vs, st.heap, st.nx⟩)
    (turn : ∀ i ∈ l, ∀ j ∈ m, p i j = true → ∀ vs, (∀ z, scope.names.lookup z = some .free → vs.lookup z = st.vars.lookup z) → vs.lookup x = some (.int i) → vs.lookup y = some (.int j) → J (C.comp scope) VR (eval elt) ⟨vs, st.heap, st.nx⟩ fun u st' => u = g i j ∧ st' = ⟨vs, st.heap, st.nx⟩)
    (fin : Qi (l.flatMap fun i => (m.filter (p i)).map (g i)) st)
    (hs : ∀ env x, foldedSetIterable iter' env x = pure x := by intro _ _; rfl) : CompIn C scope elt [⟨.Name x px, iter, [], 0⟩, ⟨.Name y py, iter', ifs', 0⟩] pos st v Qi := by
  have eq : ∀ i, (m.map V.int).filterMap (fun b => if p i (asI b) then some (g i (asI b)) else none) = (m.filter (p i)).map (g i) := fun i => by
    rw [List.filterMap_map, ← List.filterMap_eq_map, ← List.filterMap_eq_filter, List.filterMap_filterMap]
    refine congrArg (List.filterMap · m) (funext fun j => ?_)
    cases h : p i j <;> simp [asI, h, Option.guard]
  refine comp_core2 l .int (fun _ => m.map .int) (fun i b o => (if p i (asI b) then some (g i (asI b)) else none) = o) (fun i vs => vs.lookup x = some (.int i)) hv ?_ hk' hkk' (fun i vs b h => ?_)
    (fun i hi vs h => a_Name (.mk _ ⟨h.setv hk hkk _, ?_⟩) (comp_lk hk hkk) hkk) (fun i hi vs h hB => it2 i hi vs h hB) (fun i hi b hb vs h hB hz => ?_) (fun ys h => ?_) hs
  · have : ∀ l : List Int, (l.flatMap fun _ => m.map V.int).length ≤ l.length * 1000 := fun l => by
      induction l with
      | nil => exact Nat.le_refl _
      | cons i r ih => rw [List.flatMap_cons, List.length_append, List.length_map, List.length_cons, Nat.succ_mul, Nat.add_comm]; exact Nat.add_le_add ih hm
    exact Nat.le_trans (this l) (Nat.le_trans (Nat.mul_le_mul_right _ hl) (by decide))
  · rw [setv_lookup, if_neg hxy]; exact h
  · rw [setv_lookup, if_pos rfl]
  · obtain ⟨j, hj, rfl⟩ := List.mem_map.mp hb
    refine J.mono (tests i hi j hj vs h hB hz) fun ok st₃ q => ?_
    rw [q.2]
    show (ok = true → J (C.comp scope) VR (eval elt) _ fun u st₄ => _ ∧ (if p i j then some (g i j) else none) = some u) ∧ (ok = false → _ ∧ (if p i j then some (g i j) else none) = none)
    rw [← q.1]
    exact ⟨fun e => by rw [e]; exact J.mono (turn i hi j hj (q.1 ▸ e) vs h hB hz) fun u st₄ q => ⟨q.2, congrArg some q.1.symm⟩, fun e => by rw [e]; exact ⟨rfl, rfl⟩⟩
  · rw [h.fm]
    simp only [eq]
    exact fin
end
end Mine
end
section -- MIdx
set_option maxRecDepth 100000
set_option maxHeartbeats 4000000
namespace Mine
open PySem PySem.W PyProof.Rows

theorem eqv_int (a b : Int) : PyData.eqv (.int a) (.int b) = decide (a = b) := by
  first | rfl | (simp [PyData.eqv]) | (show (a == b) = _; exact beq_eq_decide ..)
theorem okDs_int (l : List Int) : okDs (l.map .int) = true := by
  induction l with
  | nil => rfl
  | cons a r ih => simp [okDs, okD, ih]
theorem depth_int (l : List Int) : PyData.depthAll (toDs (l.map .int)) ≤ 1 := by
  induction l with
  | nil => decide
  | cons a r ih => simp [toDs, toD, PyData.depthAll, PyData.depth] at ih ⊢; lia
section
variable {C : Fx} {st : St}
theorem op_eqI {a b : Int} {Q : V → St → Prop} (hu : C.u ≤ 9000) (h : Q (.bool (decide (a = b))) st) : JV C VR [.int a, .int b] (two (compareOp .Eq)) st Q :=
  op_eqD rfl rfl (Nat.lt_of_le_of_lt (show _ ≤ 9000 + 1 by have : min (toD (.int a)).depth (toD (.int b)).depth ≤ 1 := Nat.le_trans (Nat.min_le_left _ _) (show PyData.depth (.int a) ≤ 1 by simp [PyData.depth]); lia) (by decide)) (by show Q (.bool (PyData.eqv (.int a) (.int b))) st; rw [eqv_int]; exact h)
end
theorem em0 (n : Int) {m : Int} (h : 0 < m) : 0 ≤ n % m := Int.emod_nonneg n (Int.ne_of_gt h)
theorem em1 (n : Int) {m : Int} (h : 0 < m) (k : m ≤ 2 ^ 63) : n % m < 2 ^ 63 := Int.lt_of_lt_of_le (Int.emod_lt_of_pos n h) k
end Mine
end
section -- MNext
set_option maxRecDepth 100000
namespace Mine
open PySem PySem.W PyProof.Rows

section
variable {C : Fx} {st : St}

theorem b_iter {xs : List V} {Q : V → St → Prop} (h : Q (.obj st.nx) { st with heap := upd st.heap st.nx (.iter xs 0), nx := st.nx + 1 }) : JV C VR [.lst xs] (fun ws => call (.builtin "iter") ws) st Q :=
  fun env Z R ρ s ws hs hw => by
    obtain ⟨x, rfl, h1⟩ := inv1 hw
    obtain ⟨a, its, k, rfl, hz, ri⟩ := h1.lst_inv
    refine Calls.call_function_entry (by decide +kernel) (by decide +kernel) kdk_entry_iter (kdk_args_iter _) ?_
    unfold Builtin.«iter»
    refine wpAny_bind (m := someArgs "iter" 1 2 _) (wpAny_of_eq (a := [Value.ref a]) (by first | rfl | kernel_rfl!) ?_)
    show wpAny _ _ (pyIter (.ref a) >>= _) _ _ _
    refine wpAny_bind (wpAny_pyIter_list ⟨_, hs.z_ hz, rfl, _, rfl⟩ (wpAny_pure ⟨_, rfl, ?_⟩))
    have hk := hs.allocO { cls := .type "list_iterator", data := .fields #[.ref a, .int 0 0] } (.iter xs 0) s.toks (.iter (h1.mono (PH.le.refl _) (Ext.refl _)) (Nat.zero_le _) rfl rfl)
    obtain ⟨T, hT⟩ := id hs
    exact ⟨_, _, Z, _, PH.le.refl _, Ext.snoc _ _, .obj (by rw [List.getElem?_append_right (by rw [hT.nx]; exact Nat.le_refl _), hT.nx, Nat.sub_self]; rfl), hk, h⟩

theorem OR.iter_inv {P : Params} {Z : PH} {ρ : List Addr} {xs : List V} {i : Nat} {o : Obj} (h : OR P Z ρ (.iter xs i) o) : ∃ l, VR Z ρ (.lst xs) (.ref l) ∧ i ≤ xs.length ∧ o.cls = .type "list_iterator" ∧ o.data = .fields #[.ref l, .int i 0] := by
  cases h with | iter h1 h2 h3 h4 => exact ⟨_, h1, h2, h3, h4⟩

theorem special_list {prog : Program} {w : World} {A : Around} {E : Value → Shared → Prop} {s : Shared} {it l : Addr} {i : Nat} {items : Array Value} {x : Value} {Q : Option Value → Shared → Prop} (hit : s.heap.IsListIter it l i)
    (hl : s.heap.IsList l items) (hx : items[i]? = some x) (hQ : ∀ h', h'.IsListIter it l (i + 1) → Heap.SameBut it s.heap h' → Q (some x) { s with heap := h' }) :
    wpAny (model prog w) A (callSpecial? (.ref it) (Str.ofString "__next__")) Q E s := by
  obtain ⟨o, ho, hc, hd⟩ := id hit
  obtain ⟨ol, hol, _, nl, hdl⟩ := hl
  refine wpAny_callSpecial?_slot (name := Str.ofString "__next__") hit.typeIs slot_listiter_next
    (wpAny_call_entry slot_listiter_next hit.typeIs entry_listiter_next ?_ (args_listiter_next _))
  show wpAny _ _ (field (.ref it) 0 >>= _) _ _ s
  refine wpAny_bind (wpAny_field ho hd (x := .ref l) rfl ?_)
  show wpAny _ _ (if (Value.ref l == Value.none) = true then _ else _) _ _ s
  rw [if_neg (show ¬ ((Value.ref l == Value.none) = true) from Bool.false_ne_true)]
  show wpAny _ _ (field (.ref it) 1 >>= _) _ _ s
  refine wpAny_bind (wpAny_field ho hd (x := .int i 0) rfl ?_)
  show wpAny _ _ (seqItems? (.ref l) >>= _) _ _ s
  refine wpAny_bind (wpAny_seqItems hol hdl ?_)
  simp only [Int.toNat_natCast, hx]
  refine wpAny_bind (wpAny_setField ho hd (by simp) (wpAny_pure ⟨x, rfl, hQ _ ?_ (Heap.SameBut.update ..)⟩))
  exact ⟨_, Heap.get?_update_self _ ho (Obj.isFreed_of_fields (Obj.data_mapFields hd _)), (Obj.cls_mapFields ..).trans hc, by
    rw [Obj.data_mapFields hd]; simp [rawInt]⟩

theorem b_next {n : Nat} {xs : List V} {i : Nat} {x : V} {Q : V → St → Prop} (e : st.heap n = some (.iter xs i)) (hx : xs[i]? = some x) (h : Q x { st with heap := upd st.heap n (.iter xs (i + 1)) }) : JV C VR [.obj n] (fun ws => call (.builtin "next") ws) st Q :=
  fun env Z R ρ s ws hs hw => by
    obtain ⟨y, rfl, h1⟩ := inv1 hw
    cases h1 with
    | obj ea =>
      obtain ⟨a', o, h1, ho, h3⟩ := hs.obj e
      rw [ea] at h1; cases h1
      obtain ⟨l, rl, hi, hc, hd⟩ := h3.iter_inv
      obtain ⟨l', its, k, el, hz, ri⟩ := rl.lst_inv
      cases el
      obtain ⟨w, hw', rw'⟩ := ri.get i x hx
      have hit : s.heap.IsListIter _ l i := ⟨o, ho, hc, hd⟩
      refine Calls.call_function_entry (by decide +kernel) (by decide +kernel) kdk_entry_next (kdk_args_next _) ?_
      unfold Builtin.«next»
      refine wpAny_bind (m := someArgs "next" 1 2 _) (wpAny_of_eq (a := [Value.ref _]) (by first | rfl | kernel_rfl!) ?_)
      dsimp only
      refine wpAny_bind (wpAny_specialOf (name := Str.ofString "__next__") hit.typeIs slot_listiter_next.lookup ?_)
      refine wpAny_ite_split (fun hab => absurd hab (by decide)) (fun _ => ?_)
      refine wpAny_bind (special_list hit ⟨_, hs.z_ hz, rfl, _, rfl⟩ (by simpa using hw') fun h' hit' hsb => ?_)
      obtain ⟨o', ho', hc', hd'⟩ := hit'
      have hlt := (List.getElem?_eq_some_iff.mp hx).1
      exact wpAny_pure ⟨_, rfl, SR.post (hs.updO (tk := s.toks) e ea hsb ho' (.iter rl (by lia) hc' hd')) rw' h⟩
end
end Mine
end
section -- MTrunc
set_option maxRecDepth 100000
namespace Mine
open PySem PySem.W PyProof.Rows

-- a value's own objects lie below n
mutual
noncomputable def bel (n : Nat) : V → Prop
  | .obj k => k < n
  | .tup l | .lst l => bels n l
  | .inst _ k => k < n
  | .none | .bool _ | .int _ | .str _ | .rng _ _ | .deq | .ref | .val _ => True
noncomputable def bels (n : Nat) : List V → Prop
  | [] => True
  | v :: r => bel n v ∧ bels n r
end
theorem bels_iff (n : Nat) : ∀ l : List V, bels n l ↔ ∀ v ∈ l, bel n v
  | [] => by simp [bels]
  | v :: r => by simp [bels, bels_iff n r]
theorem bels_map {α : Type} (n : Nat) (f : α → V) (h : ∀ x, bel n (f x)) (l : List α) : bels n (l.map f) := (bels_iff n _).mpr fun v hv => by
  obtain ⟨x, _, rfl⟩ := List.mem_map.mp hv; exact h x

theorem VR.bel2 {Z : PH} {ρ : List Addr} : (∀ {v w}, VR Z ρ v w → Mine.bel ρ.length v) ∧ ∀ {vs ws}, VRs Z ρ vs ws → Mine.bels ρ.length vs :=
  VR.both (by rw [Mine.bel]; trivial) (fun _ => by rw [Mine.bel]; trivial) (fun _ _ => by rw [Mine.bel]; trivial) (fun _ _ => by rw [Mine.bel]; trivial) (fun _ _ ih => by rw [Mine.bel]; exact ih) (fun _ _ ih => by rw [Mine.bel]; exact ih) (fun _ => by rw [Mine.bel]; trivial) (fun h => by rw [Mine.bel]; exact (List.getElem?_eq_some_iff.mp h).1)
    (fun _ h => by rw [Mine.bel]; exact (List.getElem?_eq_some_iff.mp h).1) (fun _ _ => by rw [Mine.bel]; trivial) (fun _ => by rw [Mine.bel]; trivial) (fun _ => by rw [Mine.bel]; trivial) (by rw [Mine.bels]; trivial) (fun _ _ h t => by rw [Mine.bels]; exact ⟨h, t⟩)
theorem VR.bel {Z : PH} {ρ : List Addr} {v : V} {w : Value} (h : VR Z ρ v w) : Mine.bel ρ.length v := VR.bel2.1 h
theorem VRs.bels {Z : PH} {ρ : List Addr} {v : List V} {w : List Value} (h : VRs Z ρ v w) : Mine.bels ρ.length v := VR.bel2.2 h
theorem ext_down {ρ ρ' : List Addr} (hr : Ext ρ ρ') {k : Nat} {a : Addr} (h : ρ'[k]? = some a) (b : k < ρ.length) : ρ[k]? = some a := by
  have hc : ρ[k]? = some ρ[k] := List.getElem?_eq_getElem b
  rw [hc, ← h]; exact (hr k _ hc).symm
theorem VR.trunc2 {Z : PH} {ρ ρ' : List Addr} (hr : Ext ρ ρ') : (∀ {v w}, VR Z ρ' v w → Mine.bel ρ.length v → VR Z ρ v w) ∧ ∀ {vs ws}, VRs Z ρ' vs ws → Mine.bels ρ.length vs → VRs Z ρ vs ws :=
  VR.both (fun _ => .none) (fun b _ => .bool b) (fun i t _ => .int i t) (fun x t _ => .str x t) (fun h1 _ ih b => .tup h1 (ih (by rw [Mine.bel] at b; exact b))) (fun h1 _ ih b => .lst h1 (ih (by rw [Mine.bel] at b; exact b))) (fun h _ => .rng h) (fun h b => .obj (ext_down hr h (by rw [Mine.bel] at b; exact b)))
    (fun h0 h b => .inst h0 (ext_down hr h (by rw [Mine.bel] at b; exact b))) (fun h k _ => .deq h k) (fun x _ => .ref x) (fun v _ => .val v) (fun _ => .nil) (fun _ _ h t b => by rw [Mine.bels] at b; exact .cons (h b.1) (t b.2))
theorem VR.trunc {Z : PH} {ρ ρ' : List Addr} (hr : Ext ρ ρ') {v : V} {w : Value} (h : VR Z ρ' v w) (b : Mine.bel ρ.length v) : VR Z ρ v w := (VR.trunc2 hr).1 h b
theorem VRs.trunc {Z : PH} {ρ ρ' : List Addr} (hr : Ext ρ ρ') {v : List V} {w : List Value} (h : VRs Z ρ' v w) (b : Mine.bels ρ.length v) : VRs Z ρ v w := (VR.trunc2 hr).2 h b

noncomputable def belO (n : Nat) : AO → Prop
  | .list xs => bels n xs
  | .iter xs _ => bels n xs
  | .ns fs => ∀ p ∈ fs, bel n p.2
  | .codes => True
  | .dict es => ∀ p ∈ es, bel n p.2
theorem NsR.bel {Z : PH} {ρ : List Addr} {fs : List (Str × V)} {es : List DictEntry} (h : NsR Z ρ fs es) : ∀ p ∈ fs, Mine.bel ρ.length p.2 :=
  NsR.rec (motive := fun fs _ _ => ∀ p ∈ fs, Mine.bel ρ.length p.2) (fun _ h => absurd h List.not_mem_nil) (fun h _ _ ih => List.forall_mem_cons.mpr (.intro h.bel ih)) h
theorem NsR.trunc {Z : PH} {ρ ρ' : List Addr} (hr : Ext ρ ρ') {fs : List (Str × V)} {es : List DictEntry} (h : NsR Z ρ' fs es) : (∀ p ∈ fs, Mine.bel ρ.length p.2) → NsR Z ρ fs es :=
  NsR.rec (motive := fun fs es _ => (∀ p ∈ fs, Mine.bel ρ.length p.2) → NsR Z ρ fs es) (fun _ => .nil) (fun h k _ ih b => .cons (h.trunc hr (b _ (.head _))) k (ih fun p hp => b p (.tail _ hp))) h
theorem KR.bel {Z : PH} {ρ : List Addr} {es : List (Int × V)} {kvs : List (Int × Value)} (h : KR Z ρ es kvs) : ∀ p ∈ es, Mine.bel ρ.length p.2 :=
  KR.rec (motive := fun es _ _ => ∀ p ∈ es, Mine.bel ρ.length p.2) (fun _ h => absurd h List.not_mem_nil) (fun h _ ih => List.forall_mem_cons.mpr (.intro h.bel ih)) h
theorem KR.trunc {Z : PH} {ρ ρ' : List Addr} (hr : Ext ρ ρ') {es : List (Int × V)} {kvs : List (Int × Value)} (h : KR Z ρ' es kvs) : (∀ p ∈ es, Mine.bel ρ.length p.2) → KR Z ρ es kvs :=
  KR.rec (motive := fun es kvs _ => (∀ p ∈ es, Mine.bel ρ.length p.2) → KR Z ρ es kvs) (fun _ => .nil) (fun h _ ih b => .cons (h.trunc hr (b _ (.head _))) (ih fun p hp => b p (.tail _ hp))) h
theorem OR.belO {P : Params} {Z : PH} {ρ : List Addr} {ao : AO} {o : Obj} (h : OR P Z ρ ao o) : belO ρ.length ao := by
  cases h with
  | list h => exact h.bels
  | iter h _ _ _ => have := h.bel; rw [bel] at this; exact this
  | ns h => exact h.bel
  | dict _ k => exact k.bel
  | codes _ _ => trivial
theorem OR.trunc {P : Params} {Z : PH} {ρ ρ' : List Addr} (hr : Ext ρ ρ') {ao : AO} {o : Obj} (h : OR P Z ρ' ao o) (b : Mine.belO ρ.length ao) : OR P Z ρ ao o := by
  cases h with
  | list h => exact .list (h.trunc hr b)
  | iter h h1 h2 h3 => exact .iter (h.trunc hr (by rw [bel]; exact b)) h1 h2 h3
  | ns h => exact .ns (h.trunc hr b)
  | dict h k => exact .dict h (k.trunc hr b)
  | codes h k => exact .codes h k

noncomputable def Left (st : St) (heap' H : Nat → Option AO) : Prop := ∀ n ao, H n = some ao → (st.heap n).isSome ∧ heap' n = some ao ∧ (st.heap n = some ao ∨ belO st.nx ao)
theorem SR.trunc {C : Fx} {env : Env} {Z Z' R : PH} {ρ ρ' : List Addr} {st : St} {s s' : Shared} {heap' H : Nat → Option AO} {nx' : Nat} (h : SR C env Z R ρ st s) (hr : Ext ρ ρ') (k : SR C env Z' R ρ' ⟨st.vars, heap', nx'⟩ s') (hH : Left st heap' H) :
    SR C env Z' R ρ ⟨st.vars, H, st.nx⟩ s' := by
  obtain ⟨T0, h⟩ := h
  obtain ⟨T, k⟩ := k
  have hnx := h.nx
  obtain ⟨_, m0, _, hm0⟩ := h.loc
  have bv : ∀ x v, st.vars.lookup x = some v → C.sc.names.lookup x = some .local → bel ρ.length v := fun x v e1 e2 => by
    obtain ⟨w, _, r⟩ := hm0 x v e1 e2; exact r.bel
  have bc : ∀ x v kk, st.vars.lookup x = some v → C.sc.names.lookup x = some kk → kk = .cell ∨ kk = .free → bel ρ.length v := fun x v kk e1 e2 e3 => by
    obtain ⟨c, o, _, _, _, h6⟩ := h.cell x kk e2 e3
    obtain ⟨w, _, r⟩ := h6 v e1; exact r.bel
  exact ⟨T, {
    tk := k.tk
    base := k.base
    z := k.z
    r := k.r
    nx := hnx
    objs := fun n ao e => by
      obtain ⟨h1, h2, h3⟩ := hH n ao e
      obtain ⟨ao0, e0⟩ := Option.isSome_iff_exists.mp h1
      obtain ⟨a0, q0, _, o0, _, q3⟩ := h.objs n ao0 e0
      obtain ⟨a, p1, p2, o, p3, p4⟩ := k.objs n ao h2
      have := hr n a0 q0
      rw [p1] at this; cases this
      refine ⟨_, q0, p2, o, p3, p4.trunc hr ?_⟩
      rcases h3 with h3 | h3
      · rw [e0] at h3; cases h3; exact q3.belO
      · rw [hnx]; exact h3
    scope := k.scope
    kind := k.kind
    globals := k.globals
    builtins := k.builtins
    loc := let ⟨h1, m, h2, h3⟩ := k.loc; ⟨h1, m, h2, fun x v e1 e2 => let ⟨w, e3, e4⟩ := h3 x v e1 e2; ⟨w, e3, e4.trunc hr (bv x v e1 e2)⟩⟩
    cell := fun x kk h1 h2 => let ⟨c, o, h3, h4, h5, h6⟩ := k.cell x kk h1 h2; ⟨c, o, h3, h4, h5, fun v e => let ⟨w, e3, e4⟩ := h6 v e; ⟨w, e3, e4.trunc hr (bc x v kk e h1 h2)⟩⟩
    os := k.os
    gens := k.gens
    pin := h.pin
    fl := k.fl
    fr := k.fr }⟩

section
variable {C : Fx} {st : St}
theorem jv_trunc {vs : List V} {f : List Value → Sem Value} {Q : V → St → Prop} (h : JV C VR vs f st fun v st' => st'.vars = st.vars ∧ bel st.nx v ∧ ∃ H, Left st st'.heap H ∧ Q v ⟨st.vars, H, st.nx⟩) : JV C VR vs f st Q :=
  fun env Z R ρ s ws hs hw => wpAny_mono (h env Z R ρ s ws hs hw) (fun a s' hx => by
    obtain ⟨v, st', Z', ρ', hz, hr, rv, hs', e, hb, H, hH, hq⟩ := hx
    obtain ⟨vars', heap', nx'⟩ := st'
    obtain rfl : vars' = st.vars := e
    have hnx : ρ.length = st.nx := let ⟨_, k⟩ := hs; k.nx
    exact ⟨v, _, Z', ρ, hz, Ext.refl _, rv.trunc hr (by rw [hnx]; exact hb), hs.trunc hr hs' hH, hq⟩) fun _ _ e => e
end
end Mine
end
section -- MBase
set_option maxRecDepth 100000
namespace Mine
open PySem PySem.W PyProof.Rows

structure BaseK (K : Frag) (B : PH) : Prop where
  k : ∀ a o, K.lookup a = some o → B a = some o
  nl : Knows B Heap.NoLimit
  g : Knows B fun h => ∃ mg, h.Ns mainGlobals mg
  b : Knows B fun h => ∃ mb, h.Ns builtinsNs mb ∧ ∀ x : Str, x ≠ "__name__" → mb x = bootBuiltins x

section
variable {K : Frag} {B : PH}
theorem BaseK.inK (H : BaseK K B) : Knows B fun h => K.In h := fun h e a o q => e _ _ (H.k _ _ q)
theorem BaseK.glo (H : BaseK K B) {x : Str} {v : Value} (e : nsIn K mainGlobals x = some (some v)) : Glo B x v := fun h q =>
  let ⟨mg, h1⟩ := H.g h q
  ⟨mg, h1, mg_of (H.inK h q) h1 e⟩
theorem BaseK.blt (H : BaseK K B) {x : Str} {v : Value} (e : nsIn K mainGlobals x = some none) (hv : bootBuiltins x = some v) (hn : x ≠ "__name__") : Blt B x v := fun h q =>
  let ⟨mg, h1⟩ := H.g h q
  let ⟨mb, h2, h3⟩ := H.b h q
  ⟨mg, mb, h1, mg_none_of (H.inK h q) h1 e, h2, (h3 x hn).trans hv⟩

structure Fn0 (B : PH) (a : Addr) (fd : FuncData) (body : List Stmt) : Prop where
  at_ : ∃ o, B a = some o ∧ o.data = .func fd ∧ o.cls = .type "function"
  get : Knows B fun h => h.CodeRec fd.code fd.qualname ∧ h.NoLimit
  body : fd.body = .stmts body
  clo : fd.closure = []
  glob : fd.globals = mainGlobals
  blt : fd.builtins = builtinsNs
  kind : fd.scope.kind = .function
  co : fd.scope.isCoroutine = false
  gen : fd.scope.isGenerator = false
  free : ∀ y, fd.scope.names.lookup y ≠ some .free

noncomputable def scOk (sc : Scope) : Bool := sc.kind == .function && !sc.isCoroutine && !sc.isGenerator && sc.names.all fun p => p.2 != .free
theorem scOk_free {sc : Scope} (h : scOk sc = true) : ∀ y, sc.names.lookup y ≠ some .free := fun y e => by
  unfold scOk at h
  rw [Bool.and_eq_true, List.all_eq_true] at h
  have := h.2 _ (mem_of_lookup e)
  simp at this
noncomputable def parOk (sc : Scope) (ps : List Str) : Bool := decide ps.Nodup && ps.all fun p => sc.names.lookup p == some .local || sc.names.lookup p == some .cell

theorem BaseK.fn0 (H : BaseK K B) {a : Addr} {fd : FuncData} {body : List Stmt} {o : Obj} (hl : K.lookup a = some o) (ho : o.data = .func fd) (hcls : o.cls = .type "function") (hc : codeIn K fd.code fd.qualname = true) (hs : scOk fd.scope = true)
    (hb : fd.body = .stmts body) (h1 : fd.closure = []) (h2 : fd.globals = mainGlobals) (h3 : fd.builtins = builtinsNs) : Fn0 B a fd body := by
  have hs' := hs
  unfold scOk at hs'
  simp only [Bool.and_eq_true, beq_iff_eq, Bool.not_eq_true'] at hs'
  exact { at_ := ⟨o, H.k _ _ hl, ho, hcls⟩, get := fun h e => ⟨codeRec_of (H.inK h e) hc, H.nl h e⟩, body := hb, clo := h1, glob := h2, blt := h3, kind := hs'.1.1.1, co := hs'.1.1.2, gen := hs'.1.2, free := scOk_free hs }
theorem Fn0.fn {a : Addr} {fd : FuncData} {body : List Stmt} (F : Fn0 B a fd body) {ps : List Str} (hp : parOk fd.scope ps = true) (hb : ∀ ws : List Value, ws.length = ps.length → bindArgs fd ⟨ws, []⟩ = pure (ps.zip ws)) : Fn B a fd body ps := by
  unfold parOk at hp
  rw [Bool.and_eq_true, decide_eq_true_eq, List.all_eq_true] at hp
  exact { at_ := let ⟨o, h1, h2, _⟩ := F.at_; ⟨o, h1, h2⟩, get := F.get, body := F.body, clo := F.clo, glob := F.glob, blt := F.blt, kind := F.kind, co := F.co, gen := F.gen, free := F.free, nd := hp.1, binds := hb,
          param := fun p h => by have := hp.2 p h; simpa using this }
end

theorem BR.keys {Z : PH} {ρ : List Addr} {l : List (Str × V)} {r : List (Str × Value)} (h : BR Z ρ l r) : r.map (·.1) = l.map (·.1) :=
  BR.rec (motive := fun l r _ => r.map (·.1) = l.map (·.1)) rfl (fun _ _ ih => by rw [List.map_cons, List.map_cons, ih]) h
section
variable {C : Fx} {st : St}
noncomputable def JC (C : Fx) (a : Addr) (vs : List V) (kws : List (Str × Value)) (st : St) (Q : V → St → Prop) : Prop := ∀ env Z R ρ s ws, SR C env Z R ρ st s → VRs Z ρ vs ws →
  codeAny C.M C.A (.call (.ref a) ⟨ws, kws⟩) (fun r s' => ∃ v, r = .ok (.ret v) ∧ Post C env Z R ρ VR Q v s') s
theorem JC.jv {a : Addr} {vs : List V} {kws : List (Str × Value)} {Q : V → St → Prop} (h : JC C a vs kws st Q) : JV C VR vs (fun ws => call (.ref a) ws kws) st Q :=
  fun env Z R ρ s ws hs hw => wpAny_call (codeAny_mono (h env Z R ρ s ws hs hw) fun r s' ⟨v, e, p⟩ => by subst e; exact p)
theorem code_fnX {a : Addr} {fd : FuncData} {body : List Stmt} {vs : List V} {kws : List (Str × Value)} {vars : List (Str × V)} {Q : V → St → Prop} {st₁ : St} (F : Fn0 C.base a fd body) (hd : C.d < 1000)
    (hp : parOk fd.scope (vars.map (·.1)) = true)
    (hb : ∀ (env : Env) (Z R : PH) (ρ : List Addr) (s : Shared) (ws : List Value), SR C env Z R ρ st s → VRs Z ρ vs ws → wpAny C.M C.A.in1 (bindArgs fd ⟨ws, kws⟩) (fun binds s₁ => ∃ Z₁ ρ₁, PH.le Z Z₁ ∧ Ext ρ ρ₁ ∧ SR C env Z₁ R ρ₁ st₁ s₁ ∧ BR Z₁ ρ₁ vars binds) noE s)
    (h : ∀ env Z R ρ s, env.code = fd.code → SR (C.into fd.scope) env Z R ρ { st₁ with vars := vars } s → wpAny C.M (C.into fd.scope).A (execs body env) (Post (C.into fd.scope) env Z R ρ rFlow fun f st' => Q (retV f) { st' with vars := st₁.vars }) noE s) : JC C a vs kws st Q :=
  fun env Z R ρ s ws hs hw => by
    obtain ⟨hcd, hlim⟩ := hs.knows F.get
    obtain ⟨o, ho, hdata, _⟩ := F.at_
    replace ho := hs.base_ ho
    refine codeAny_call_function (show C.A.depth < recursionLimit from hd) ho hdata F.co F.gen F.body hcd (wpAny_mono (hb env Z R ρ s ws hs hw) (fun binds s₀ ⟨Z₀, ρ₀, hz0, hr0, hs₀, hbr⟩ => ?_) fun _ _ e => e.elim)
    clear hcd hlim
    obtain ⟨hcd, hlim⟩ := hs₀.knows F.get
    have keys : binds.map (·.1) = vars.map (·.1) := hbr.keys
    unfold parOk at hp
    rw [Bool.and_eq_true, decide_eq_true_eq, List.all_eq_true] at hp
    rw [F.clo]
    refine wp_toks (wpAny_newFunctionEnv_cells F.kind (fun x hx => ?_) fun env' he s₁ x hle => ?_)
    · have : x.1 ∈ vars.map (·.1) := by rw [← keys]; exact List.mem_map_of_mem hx
      have := hp.2 _ this
      rw [Bool.or_eq_true, beq_iff_eq, beq_iff_eq] at this
      rcases this with q | q
      · exact .inl q
      · exact .inr ⟨q, cellsFrom_some _ _ _ (.inl q)⟩
    · subst he
      refine ⟨hlim.keeps x.toInCall.keep, codeAny_func ?_⟩
      have he : callEnvC fd s₀.heap.objs.size a = newEnv (C.into fd.scope).sc s₀.heap.objs.size mainGlobals (cellsFrom (s₀.heap.objs.size + 1) (C.into fd.scope).sc.names []) (fd.qualname ++ ".<locals>.") (some a) fd.code none builtinsNs := by
        unfold callEnvC; rw [F.glob, F.blt]; rfl
      obtain ⟨k1, k2⟩ := enter (C' := C.into fd.scope) hs₀ rfl rfl rfl rfl rfl F.kind he x hbr (by rw [keys]; exact hp.1) F.free hle
      refine wpAny_weaker (A := (C.into fd.scope).A) rfl (Nat.le_refl _) rfl rfl (Nat.le_refl _) ?_
      refine wp_use (h _ Z₀ _ ρ₀ s₁ rfl k1) (fun f s' g st' Z' ρ' hz hr rf hs' hq => ?_)
      have hs2 := k2 Z' ρ' st' s' hz hr hs'
      have hz := hz0.trans hz
      have hr := hr0.trans hr
      cases rf with
      | next => exact ⟨_, rfl, _, _, Z', ρ', hz, hr, .none, hs2, hq⟩
      | brk => exact ⟨_, rfl, _, _, Z', ρ', hz, hr, .none, hs2, hq⟩
      | cont => exact ⟨_, rfl, _, _, Z', ρ', hz, hr, .none, hs2, hq⟩
      | ret rv => exact ⟨_, rfl, _, _, Z', ρ', hz, hr, rv, hs2, hq⟩
theorem code_fn {a : Addr} {fd : FuncData} {body : List Stmt} {vs : List V} {kws : List (Str × Value)} {vars : List (Str × V)} {Q : V → St → Prop} {st₁ : St} (F : Fn0 C.base a fd body) (hd : C.d < 1000)
    (hp : parOk fd.scope (vars.map (·.1)) = true)
    (hb : ∀ (env : Env) (Z R : PH) (ρ : List Addr) (s : Shared) (ws : List Value), SR C env Z R ρ st s → VRs Z ρ vs ws → wpAny C.M C.A.in1 (bindArgs fd ⟨ws, kws⟩) (fun binds s₁ => ∃ Z₁ ρ₁, PH.le Z Z₁ ∧ Ext ρ ρ₁ ∧ SR C env Z₁ R ρ₁ st₁ s₁ ∧ BR Z₁ ρ₁ vars binds) noE s)
    (h : JX (C.into fd.scope) body { st₁ with vars := vars } fun f st' => Q (retV f) { st' with vars := st₁.vars }) : JC C a vs kws st Q :=
  code_fnX F hd hp hb fun env Z R ρ s _ hs => h env Z R ρ s hs
theorem code_fn0 {a : Addr} {fd : FuncData} {body : List Stmt} {vs : List V} {kws : List (Str × Value)} {vars : List (Str × V)} {Q : V → St → Prop} (F : Fn0 C.base a fd body) (hd : C.d < 1000)
    (hp : parOk fd.scope (vars.map (·.1)) = true)
    (hb : ∀ (env : Env) (Z R : PH) (ρ : List Addr) (s : Shared) (ws : List Value), SR C env Z R ρ st s → VRs Z ρ vs ws → ∃ binds, BindsTo s fd ⟨ws, kws⟩ binds ∧ BR Z ρ vars binds)
    (h : JX (C.into fd.scope) body { st with vars := vars } fun f st' => Q (retV f) { st' with vars := st.vars }) : JC C a vs kws st Q :=
  code_fn F hd hp (fun env Z R ρ s ws hs hw => let ⟨binds, h1, h2⟩ := hb env Z R ρ s ws hs hw; h1 _ _ _ _ ⟨Z, ρ, PH.le.refl _, Ext.refl _, hs, h2⟩) h
end
end Mine
end
section -- MDict
set_option maxRecDepth 100000
namespace Mine
open PySem PySem.W PyProof.Rows

end Mine
end
section -- MDict2
set_option maxRecDepth 100000
namespace Mine
open PySem PySem.W PyProof.Rows
section
variable {C : Fx} {st : St}
end
end Mine
end
section -- MInst
set_option maxRecDepth 100000
namespace Mine
open PySem PySem.W PyProof.Rows

structure ClsK (K : Frag) (c : Addr) : Prop where
  get : plainGet K c "" = true
  set : findIn K (.ref c) "__setattr__" = some (some (.builtin "object.__setattr__"))
  dict : hasDictIn K c = true
  over : plainOver K c = true

noncomputable def handV : V → Bool
  | .val v => handedIn v
  | _ => true
theorem handV_of {Z : PH} {ρ : List Addr} {v : V} {w : Value} (r : VR Z ρ v w) (h : handV v = true) : handedIn w = true := by
  cases r <;> first | rfl | exact h

theorem NsR.nokeys {Z : PH} {ρ : List Addr} {fs : List (Str × V)} {es : List DictEntry} (h : NsR Z ρ fs es) : es.any (·.refKey) = false :=
  NsR.rec (motive := fun _ es _ => es.any (·.refKey) = false) rfl (fun h k _ ih => by
    obtain ⟨tk, hk⟩ := k
    rw [List.any_cons, ih, Bool.or_false]
    unfold DictEntry.refKey
    rw [hk]) h
theorem NsR.getL {Z : PH} {ρ : List Addr} (x : Str) : ∀ {fs : List (Str × V)} {es : List DictEntry}, NsR Z ρ fs es → (∀ v, fs.lookup x = some v → ∃ w, getL x es = some (some w) ∧ VR Z ρ v w) ∧ (fs.lookup x = none → getL x es = some none)
  | _, _, .nil => ⟨fun v h => (nomatch h), fun _ => rfl⟩
  | _, _, .cons (x := y) (e := e) (fs := fs) (es := es) h k t => by
    obtain ⟨tk, hk⟩ := k
    have ih := t.getL x
    have hn := t.nokeys
    have hr : e.refKey = false := by unfold DictEntry.refKey; rw [hk]
    unfold PySem.W.getL at ih ⊢
    rw [List.lookup_cons]
    by_cases q : x = y
    · subst q
      have e1 : e.key.isStr x = true := by rw [hk]; simp [Value.isStr]
      rw [List.find?_cons, e1]
      simp only [beq_self_eq_true]
      exact ⟨fun v hv => ⟨_, rfl, by cases hv; exact h⟩, fun hv => (nomatch hv)⟩
    · have e1 : e.key.isStr x = false := by rw [hk]; simp [Value.isStr]; exact fun z => q z.symm
      have e2 : (x == y) = false := by simpa using q
      rw [List.find?_cons, e1, e2, List.any_cons, hr, Bool.false_or]
      exact ih
theorem NsR.putL {Z : PH} {ρ : List Addr} (x : Str) (hsh : Int) (t : Tok) {v : V} {w : Value} (r : VR Z ρ v w) : ∀ {fs : List (Str × V)} {es : List DictEntry}, NsR Z ρ fs es → NsR Z ρ (setv x v fs) (PySem.W.putL x hsh (.str x t) w es)
  | _, _, .nil => .cons r ⟨t, rfl⟩ .nil
  | _, _, .cons (x := y) (e := e) h k tl => by
    obtain ⟨tk, hk⟩ := k
    unfold setv PySem.W.putL
    by_cases q : y = x
    · subst q
      have e1 : e.key.isStr y = true := by rw [hk]; simp [Value.isStr]
      rw [if_pos (by simp), if_pos e1]
      exact .cons r ⟨tk, hk⟩ tl
    · have e1 : ¬ e.key.isStr x = true := by rw [hk]; simp [Value.isStr]; exact q
      rw [if_neg (by simpa using q), if_neg e1]
      exact .cons h ⟨tk, hk⟩ (tl.putL x hsh t r)
theorem NsR.length {Z : PH} {ρ : List Addr} : ∀ {fs : List (Str × V)} {es : List DictEntry}, NsR Z ρ fs es → es.length = fs.length
  | _, _, .nil => rfl
  | _, _, .cons _ _ t => by rw [List.length_cons, List.length_cons, t.length]
theorem putL_length (x : Str) (hsh : Int) (k v : Value) : ∀ l : List DictEntry, (putL x hsh k v l).length ≤ l.length + 1
  | [] => by simp [putL]
  | e :: r => by
    unfold putL
    split
    · simp
    · have := putL_length x hsh k v r
      simp; omega

section
variable {C : Fx} {st : St} {K : Frag}

theorem OR.ns_inv {P : Params} {Z : PH} {ρ : List Addr} {fs : List (Str × V)} {o : Obj} (h : OR P Z ρ (.ns fs) o) : ∃ es n, o = dictOf es n ∧ NsR Z ρ fs es := by
  cases h with | ns h => exact ⟨_, _, rfl, h⟩
theorem SR.inst {env : Env} {Z R : PH} {ρ : List Addr} {s : Shared} {c : Addr} {n : Nat} {fs : List (Str × V)} {w : Value} (hs : SR C env Z R ρ st s) (e : st.heap n = some (.ns fs)) (r : VR Z ρ (.inst c n) w) :
    ∃ x dx es k, w = .ref x ∧ ρ[n]? = some dx ∧ s.heap.get? x = some (instObj c dx) ∧ s.heap.get? dx = some (dictOf es k) ∧ NsR Z ρ fs es ∧ InstAt s.heap x (instObj c dx) c (some (dictOf es k)) := by
  cases r with
  | inst hx ea =>
    obtain ⟨a', o, h1, h2, h3⟩ := hs.obj e
    rw [ea] at h1; cases h1
    obtain ⟨es, k, rfl, h4⟩ := h3.ns_inv
    exact ⟨_, _, es, k, rfl, ea, hs.z_ hx, h2, h4, ⟨hs.z_ hx, rfl, rfl, h2⟩⟩

theorem at_get {c : Addr} {n : Nat} {fs : List (Str × V)} {x : Str} {u : V} {Q : V → St → Prop} (H : BaseK K C.base) (k : ClsK K c) (ha : findIn K (.ref c) x = some none) (hh : st.heap n = some (.ns fs)) (hl : fs.lookup x = some u) (h : Q u st) (hu : handV u = true := by rfl) :
    JV C VR [.inst c n] (one fun w => getAttr w x true) st Q :=
  fun env Z R ρ s ws hs hw => by
    obtain ⟨w, rfl, r⟩ := inv1 hw
    obtain ⟨a, dx, es, m, rfl, ea, h1, h2, h3, I⟩ := hs.inst hh r
    obtain ⟨v, hv, rv⟩ := (h3.getL x).1 u hl
    have X := hs.knows H.inK
    have hg := plainGet_of (name := "") k.get
    exact get_value X I hg.1 (findObj_own k.dict ha rfl hv) (handV_of rv hu) (SR.post (hs.tok _) rv h)

theorem osa_raw {prog : Program} {w : World} {A : Around} {R : Result → Shared → Prop} {s : Shared} {x dx c : Addr} {ox od od' : Obj} {name : Str} {tk : Tok} {v : Value} {es : List DictEntry} {n : Nat} (X : K.In s.heap)
    (I : InstAt s.heap x ox c (some od)) (hd : ox.dict = some dx) (hp : plainOver K c = true) (ht : takerIn K c name = some none) (hh : (clsIn K c).any (·.hasDict) = true) (hl : (lookIn name od).isSome = true)
    (D : s.heap.get? dx = some od) (D' : (s.heap.update dx (Obj.putName name (PyData.keyHash w.params name) (.str name s.toks) v)).get? dx = some od') (e' : od'.data = .dict es.toArray n) (hz : es.length ≤ 1000)
    (h : R (.ok (.ret .none)) { s with heap := s.heap.update dx (Obj.putName name (PyData.keyHash w.params name) (.str name s.toks) v), toks := s.toks + 1 }) :
    codeAny (model prog w) A (.call (.builtin "object.__setattr__") ⟨[.ref x, .str name tk, v], []⟩) R s := by
  refine osa_open X I hp ht fun b => ?_
  obtain ⟨cd, hc, hd'⟩ := any_some hh
  obtain ⟨hx, hcl, hn, -⟩ := I
  obtain ⟨oc, odi, oda, osl⟩ := ox
  dsimp only at hcl hd
  subst hcl hd
  refine wpAny_bind (wpAny_pure (wpAny_bind (wpAny_bind (wpAny_loadPart hx (wpAny_bind ((looks_clsIn X hc).here ?_))))))
  rw [hd']
  refine wpAny_pure (a := some dx) (wpAny_bind (wpAny_pure (wpAny_bind ?_)))
  unfold nsSet
  refine wpAny_bind (wpAny_bind (wpAny_askSetting (wpAny_pure (wpAny_bind (wpAny_mkText (wpAny_bind (wpAny_loadPart D ?_)))))))
  unfold lookIn at hl
  split at hl
  · rename_i es₀ n₀ q
    rw [q]
    dsimp only
    have c : (!es₀.any (·.key.isStr name) && es₀.any (·.refKey)) = false := by
      rw [← Array.any_toList, ← Array.any_toList]
      split at hl
      · rename_i en he
        rw [List.any_eq_true.mpr ⟨en, List.mem_of_find?_eq_some he, List.find?_some he⟩]; rfl
      · split at hl
        · cases hl
        · rename_i z; rw [Bool.not_eq_true] at z; rw [z, Bool.and_false]
    rw [aRefKeyMayBeTheName_at, c]
    refine wpAny_updatePart D ?_
    refine wpAny_bind (wpAny_lookBehind D' (by rw [e']; exact pastItsLine_dict (by rw [List.size_toArray, sizeLine_eq]; omega)) ?_)
    exact wpAny_pure h
  · cases hl

theorem at_set {c : Addr} {n : Nat} {fs : List (Str × V)} {x : Str} {u : V} {Q : Unit → St → Prop} (H : BaseK K C.base) (k : ClsK K c) (ha : findIn K (.ref c) x = some none) (hh : st.heap n = some (.ns fs)) (hz : fs.length ≤ 900)
    (h : Q () { st with heap := upd st.heap n (.ns (setv x u fs)) }) : JV C rUnit [.inst c n, u] (two fun a b => setAttr a x b) st Q :=
  fun env Z R ρ s ws hs hw => by
    obtain ⟨w, wv, rfl, r, rv⟩ := inv2 hw
    obtain ⟨a, dx, es, m, rfl, ea, h1, h2, h3, I⟩ := hs.inst hh r
    have X := hs.knows H.inK
    have ht : takerIn K c x = some none := by unfold takerIn; rw [ha]; rfl
    have hl : (lookIn x (dictOf es m)).isSome = true := by
      rw [lookIn_dict]
      cases q : fs.lookup x with
      | none => rw [(h3.getL x).2 q]; rfl
      | some v => obtain ⟨w, hw, _⟩ := (h3.getL x).1 v q; rw [hw]; rfl
    have hupd := Heap.get?_update_self (h := s.heap) (Obj.putName x (PyData.keyHash C.w.params x) (.str x (s.toks + 1)) wv) h2 (by rw [putName_dict]; rfl)
    rw [putName_dict] at hupd
    have hlen := h3.length
    have hp := putL_length x (PyData.keyHash C.w.params x) (.str x (s.toks + 1)) wv es
    refine set_plain X I k.set (osa_raw (s := { s with toks := s.toks + 1 }) X I rfl k.over ht k.dict hl h2 hupd rfl (by omega) ?_)
    refine SR.post (hs.updO (tk := s.toks + 1 + 1) hh ea (Heap.SameBut.update ..) hupd (.ns ?_)) trivial h
    exact h3.putL x _ _ rv

theorem ev_Attr {o : Expr} {x : Str} {pos : Pos} {Q : V → St → Prop} (h : J C VR (eval o) st fun v st₁ => JV C VR [v] (one fun w => getAttr w x true) st₁ Q)
    (he : ∀ env, eval (.Attribute o x pos) env = (do
      let o' ← eval o env
      standAt pos.atName
      let r ← holding [o'] (getAttr o' x true)
      letTemporaryGo o o' r
      pure r) := by intro _; with_unfolding_all rfl) : J C VR (eval (.Attribute o x pos)) st Q :=
  fun env Z R ρ s hs => Attribute_any_ (wp_use (h env Z R ρ s hs) (fun w s₁ v st₁ Z₁ ρ₁ hz hr rv hs₁ h₁ =>
    wp_up hz hr (h₁ env Z₁ R ρ₁ s₁ [w] hs₁ (.cons rv .nil)))) (he env)

theorem x_SetAttr {o : Expr} {x : Str} {tp pos : Pos} {value : Expr} {Q : FlowA → St → Prop}
    (h : J C VR (eval value) st fun v st₁ => J C VR (eval o) st₁ fun ov st₂ => JV C rUnit [ov, v] (two fun a b => setAttr a x b) st₂ fun _ st₃ => Q .next st₃)
    (hsw : ∀ env, swapsWith value (some (.Attribute o x tp)) pos.line env = pure false := by intro _; with_unfolding_all rfl) : JX1 C (.Assign [.Attribute o x tp] value pos) st Q :=
  fun env Z R ρ s hs => plainObj_wpAny_Assign_Attribute (wp_use (h env Z R ρ s hs) (fun w s₁ v st₁ Z₁ ρ₁ hz hr rv hs₁ h₁ =>
    wp_use (h₁ env Z₁ R ρ₁ s₁ hs₁) (fun w2 s₂ v2 st₂ Z₂ ρ₂ hz2 hr2 rv2 hs₂ h₂ =>
      wp_use (h₂ env Z₂ R ρ₂ s₂ [w2, w] hs₂ (.cons rv2 (.cons (rv.mono hz2 hr2) .nil))) (fun _ _ _ st₄ Z₄ ρ₄ hz4 hr4 _ hs₄ h₄ =>
          ⟨_, st₄, Z₄, ρ₄, (hz.trans hz2).trans hz4, (hr.trans hr2).trans hr4, .next, hs₄, h₄⟩)))) (hsw env)

theorem x_AugAttr {o : Expr} {x : Str} {tp pos : Pos} {op : Operator} {value : Expr} {Q : FlowA → St → Prop}
    (h : J C VR (eval o) st fun ov st₁ => JV C VR [ov] (one fun w => getAttr w x true) st₁ fun old st₂ => J C VR (eval value) st₂ fun v st₃ => JV C VR [old, v] (two (inplaceOp op)) st₃ fun u st₄ =>
      JV C rUnit [ov, u] (two fun a b => setAttr a x b) st₄ fun _ st₅ => Q .next st₅) : JX1 C (.AugAssign (.Attribute o x tp) op value pos) st Q :=
  fun env Z R ρ s hs => wpAny_AugAssign_AttributeAny (wp_use (h env Z R ρ s hs) (fun w s₁ v st₁ Z₁ ρ₁ hz hr rv hs₁ h₁ =>
    wp_use (h₁ env Z₁ R ρ₁ s₁ [w] hs₁ (.cons rv .nil)) (fun w2 s₂ v2 st₂ Z₂ ρ₂ hz2 hr2 rv2 hs₂ h₂ =>
      wp_use (h₂ env Z₂ R ρ₂ s₂ hs₂) (fun w3 s₃ v3 st₃ Z₃ ρ₃ hz3 hr3 rv3 hs₃ h₃ =>
        wp_use (h₃ env Z₃ R ρ₃ s₃ [w2, w3] hs₃ (.cons (rv2.mono hz3 hr3) (.cons rv3 .nil))) (fun w4 s₄ v4 st₄ Z₄ ρ₄ hz4 hr4 rv4 hs₄ h₄ =>
          wp_use (h₄ env Z₄ R ρ₄ s₄ [w, w4] hs₄ (.cons (rv.mono ((hz2.trans hz3).trans hz4) ((hr2.trans hr3).trans hr4)) (.cons rv4 .nil))) (fun _ _ _ st₅ Z₅ ρ₅ hz5 hr5 _ hs₅ h₅ =>
            ⟨_, st₅, Z₅, ρ₅, (((hz.trans hz2).trans hz3).trans hz4).trans hz5, (((hr.trans hr2).trans hr3).trans hr4).trans hr5, .next, hs₅, h₅⟩))))))

theorem ev_MethI {o : Expr} {x : Str} {apos pos : Pos} {es : List Expr} {c f : Addr} {Q : V → St → Prop} (H : BaseK K C.base) (k : ClsK K c) (hm : findIn K (.ref c) x = some (some (.ref f))) (hf : typeIn K (.ref f) = some (.type "function")) (hk : keepIn K (.ref f) = true)
    (h : J C VR (eval o) st fun ov st₁ => (∃ n fs, ov = .inst c n ∧ st₁.heap n = some (.ns fs) ∧ fs.lookup x = none) ∧ JL C pos es st₁ fun vs st₂ => JV C VR (ov :: vs) (fun ws => call (.ref f) ws) st₂ Q)
    (hbase : ∀ env, attributeBase o x env (eval o env) = eval o env := by intro _; rfl) (hline : (apos.endLine == pos.line) = true := by rfl)
    (he : ∀ env, (backTo pos (starEach es env)).any (·.1) = false := by intro _; rfl)
    (hfew : ∀ env, methodCallForm (es.length + ([] : List Keyword).length) (backTo pos (starEach es env)) (backToKw pos (keywordEach [] env)) = true := by intro _; rfl) :
    J C VR (eval (.Call (.Attribute o x apos) es [] pos)) st Q :=
  fun env Z R ρ s hs => by
    rw [arm_eval_Call, hbase]
    refine wpAny_bind (wpAny_mono (h env Z R ρ s hs) (fun w s₁ hx => ?_) fun _ _ e => e)
    obtain ⟨v, st₁, Z₁, ρ₁, hz, hr, rv, hs₁, ⟨n, fs, e1, e2, e3⟩, h₁⟩ := hx
    refine wpAny_bind (wpAny_standAt ?_)
    subst e1
    obtain ⟨a, dx, es', m, rfl, ea, k1, k2, k3, I⟩ := hs₁.inst e2 rv
    have X := hs₁.knows H.inK
    have hg := plainGet_of (name := "") k.get
    unfold methodCall methodCallPos calleeOf
    rw [hfew env]
    refine wpAny_bind (wpAny_holding ?_)
    show wpAny _ _ (getMethod (.ref a) x _) _ _ s₁
    refine method_fn X I hg.1 hg.2 hm hf (by show (lookIn x (dictOf es' m)).map _ = _; rw [lookIn_dict, (k3.getL x).2 e3]; rfl) ?_
    dsimp only
    rw [hline]
    refine wpAny_bind (wpAny_pure ?_)
    refine callWith_of (P := K.In) (by rw [he env]; rfl) (fun h X => keeps_K hk h X) (wpAny_mono (args_ h₁ he hs₁ (.ref f)) (fun ar s₂ ⟨hkw, pp⟩ => pp.ex fun vs st₂ Z₂ ρ₂ hz2 hr2 rvs hs₂ h₂ => ?_) fun _ _ e => e)
    rw [hkw]
    exact ⟨hs₂.knows H.inK, wp_up (hz.trans hz2) (hr.trans hr2) (h₂ env Z₂ R ρ₂ s₂ (.ref a :: ar.pos) hs₂ (.cons (rv.mono hz2 hr2) rvs))⟩

noncomputable def Fx.up (C : Fx) (k : Nat) : Fx := { C with u := C.u + k }
noncomputable def Fx.make (C : Fx) : Fx := { C with d := C.d + 1, u := C.u + 1 }
theorem SR.upf {k : Nat} {env : Env} {Z R : PH} {ρ : List Addr} {st : St} {s : Shared} (h : SR C env Z R ρ st s) : SR (C.up k) env Z R ρ st s := let ⟨T, h⟩ := h; ⟨T, { h with }⟩
theorem SR.dnf {k : Nat} {env : Env} {Z R : PH} {ρ : List Addr} {st : St} {s : Shared} (h : SR (C.up k) env Z R ρ st s) : SR C env Z R ρ st s := let ⟨T, h⟩ := h; ⟨T, { h with }⟩
theorem SR.mkf {env : Env} {Z R : PH} {ρ : List Addr} {st : St} {s : Shared} (h : SR C env Z R ρ st s) : SR C.make env Z R ρ st s := let ⟨T, h⟩ := h; ⟨T, { h with }⟩
theorem SR.mkd {env : Env} {Z R : PH} {ρ : List Addr} {st : St} {s : Shared} (h : SR C.make env Z R ρ st s) : SR C env Z R ρ st s := let ⟨T, h⟩ := h; ⟨T, { h with }⟩

theorem at_prop {c p f : Addr} {n : Nat} {fs : List (Str × V)} {x : Str} {rest : List Value} {Q : V → St → Prop} (H : BaseK K C.base) (k : ClsK K c) (hh : st.heap n = some (.ns fs))
    (ha : findIn K (.ref c) x = some (some (.ref p))) (hn : specialIn K (.ref p) "__get__" = some (some (.builtin "property.__get__"))) (ht : takesIn K (.ref p) = some true) (hp : recIn K p "property" = some (.ref f :: rest))
    (h : JC (C.up 1) f [.inst c n] [] st fun v st' => handV v = true ∧ Q v st') : JV C VR [.inst c n] (one fun w => getAttr w x true) st Q :=
  fun env Z R ρ s ws hs hw => by
    obtain ⟨w, rfl, r⟩ := inv1 hw
    obtain ⟨a, dx, es, m, rfl, ea, h1, h2, h3, I⟩ := hs.inst hh r
    have X := hs.knows H.inK
    have hg := plainGet_of (name := "") k.get
    refine get_bind X I hg.1 (findObj_data (by obtain ⟨cd, hc, _⟩ := any_some k.dict; rw [hc]; rfl) ha hn ht) hg.2 (wpAny_call (prop_get (s := { s with toks := s.toks + 1 }) X hp ?_))
    refine codeAny_mono (h env Z R ρ { s with toks := s.toks + 1 } [.ref a] (hs.tok _).upf (.cons r .nil)) fun r s' ⟨v, e, p⟩ => ?_
    subst e
    obtain ⟨b, st', Z', ρ', q1, q2, q3, q4, q5, q6⟩ := p
    dsimp only
    rw [handedOut_of (handV_of q3 q5)]
    exact wpAny_pure ⟨b, st', Z', ρ', q1, q2, q3, q4.dnf, q6⟩

theorem mk_inst {c fI : Addr} {vs : List V} {kws : List (Str × Value)} {Q : V → St → Prop} (H : BaseK K C.base) (hm : makesIn K c = true) (hi : findIn K (.ref c) "__init__" = some (some (.ref fI))) (hf : typeIn K (.ref fI) = some (.type "function"))
    (h : JC C.make fI (.inst c st.nx :: vs) kws { st with heap := upd st.heap st.nx (.ns []), nx := st.nx + 1 } fun v st' => v = .none ∧ Q (.inst c st.nx) st') : JV C VR vs (fun ws => call (.ref c) ws kws) st Q :=
  fun env Z R ρ s ws hs hw => by
    have X := hs.knows H.inK
    have hs1 := hs.allocO emptyDict (.ns []) s.toks (.ns (n := 0) .nil)
    obtain ⟨le, hs2⟩ := hs1.allocZ (instObj c s.heap.objs.size) s.toks
    have hnx : ρ.length = st.nx := let ⟨_, k⟩ := hs; k.nx
    obtain ⟨hh, g, d, t, os⟩ := s
    refine wpAny_call (make_core (makes_of X hm) (looks_findIn X hi) (fun self => bind_fn X self hf) (.inl rfl) ?_)
    have e : (C.A).under (.builtin "type.__call__" ⟨.ref c :: ws, kws⟩) = C.make.A := by
      have w0 : (Code.builtin "type.__call__" ⟨.ref c :: ws, kws⟩).weight = 1 := by kernel_rfl
      have w1 : (Code.builtin "type.__call__" ⟨.ref c :: ws, kws⟩).cUnits = 1 := by kernel_rfl
      have w2 : (Code.builtin "type.__call__" ⟨.ref c :: ws, kws⟩).guards = [] := by kernel_rfl
      have w3 : (Code.builtin "type.__call__" ⟨.ref c :: ws, kws⟩).envs = [] := by kernel_rfl
      unfold Around.under
      rw [w0, w1, w2, w3]; rfl
    rw [e]
    dsimp only at le hs2
    rw [Heap.size_push] at le hs2
    have rI : VR (PH.put Z (hh.objs.size + 1) (instObj c hh.objs.size)) (ρ ++ [hh.objs.size]) (.inst c st.nx) (.ref (hh.objs.size + 1)) :=
      .inst (PH.put_self ..) (by rw [List.getElem?_append_right (by rw [hnx]; exact Nat.le_refl _), hnx, Nat.sub_self]; rfl)
    refine codeAny_mono (h env _ R (ρ ++ [hh.objs.size]) _ (.ref (hh.objs.size + 1) :: ws) hs2.mkf (.cons rI (hw.mono le (Ext.snoc _ _)))) fun r s' ⟨v, e, p⟩ => ?_
    subst e
    obtain ⟨b, st', Z', ρ', q1, q2, q3, q4, q5, q6⟩ := p
    subst q5
    obtain rfl := inv_none q3
    exact ⟨rfl, _, st', Z', ρ', le.trans q1, (Ext.snoc _ _).trans q2, rI.mono q1 q2, q4.mkd, q6⟩
end
end Mine
end
section -- MListI
set_option maxRecDepth 100000
/-! list(iterator) -/
namespace Mine
open PySem PySem.W PyProof.Rows

theorem walks_from {prog : Program} {w : World} {A : Around} (hh : A.handled = none) (I ax : Addr) (hne : ax ≠ I) (items : Array Value) (i : Nat) (hi : i ≤ items.size) :
    Walks prog w A I [I, ax] [I] (items.size - i) (fun j v => items[i + j]? = some v) (fun j h => h.IsListIter I ax (i + j) ∧ h.IsList ax items) where
  sub := (Walks.list (prog := prog) (w := w) hh I ax hne items).sub
  frame := fun j h h' st k => (Walks.list (prog := prog) (w := w) hh I ax hne items).frame (i + j) h h' st k
  item := fun j s Q E hj st hQ => (Walks.list (prog := prog) (w := w) hh I ax hne items).item (i + j) s Q E (by lia) st hQ
  done := fun s Q E st hQ => (Walks.list (prog := prog) (w := w) hh I ax hne items).done s Q E (by rw [show items.size = i + (items.size - i) from by lia]; exact st) hQ
  self := fun j s Q E st hQ => (Walks.list (prog := prog) (w := w) hh I ax hne items).self (i + j) s Q E st hQ

section
variable {prog : Program} {w : World} {A : Around} {E : Value → Shared → Prop} {s : Shared} {I : Addr} {fp wr : List Addr} {G : Array GenState → Array GenState → Prop} {n : Nat} {P : Nat → Value → Prop} {St : Nat → Shared → Prop}
theorem extend_li {R : Result → Shared → Prop} (W : WalksS prog w A.in1 I fp wr G n P St) (hT : ∀ i s, St i s → s.TypeIs (.ref I) "list_iterator") (S : Addr) (res : Value) (c₀ : Nat) (hst : St 0 s) (hSf : S ∉ fp) (hI : I ∈ fp)
    (hS : s.heap.get? S = some { cls := .type "list", data := .seq #[] c₀ }) (hn : n ≤ sizeLine)
    (hR : ∀ s' acc' c', Moved (S :: wr) G s s' → s'.heap.get? S = some { cls := .type "list", dict := none, data := .seq acc' c', slots := #[] } → ItemsOf P acc' n → R (.ok (.ret res)) s') :
    wpAny (model prog w) A.in1 (Builtin.List.listExtendWith (.ref S) (.ref I) res)
      (fun fin s' => match fin with | .done f => R (.ok f) s' | .again c' => c'.quiet = true ∧ codeAny (model prog w) A c' R s') (fun e s' => R (.error e) s') s := by
  have hSI : S ≠ I := fun e => hSf (e ▸ hI)
  unfold Builtin.List.listExtendWith
  refine wpAny_bind (wpAny_typeOf (hT 0 _ hst) ?_)
  have h1 : Builtin.List.listSameRef (.ref S) (.ref I) = false := by simp [Builtin.List.listSameRef, hSI]
  rw [if_neg (by rw [h1]; decide)]
  refine wpAny_bind (W.self 0 _ _ _ hst ?_)
  refine wpAny_bind (wpAny_holding ?_)
  unfold Builtin.List.listLengthHint
  refine wpAny_bind (wpAny_specialOf (hT 0 _ hst) F.nolen_li ?_)
  show wpAny _ A.in1 (specialOf (Value.ref I) (Str.ofString "__length_hint__") >>= _) _ _ _
  refine wpAny_bind (wpAny_specialOf (hT 0 _ hst) F.hint_li ?_)
  generalize hid : ("list_iterator.__length_hint__" : String) = id0
  wp_delta
  rw [show splitId id0 = some ("list_iterator", "__length_hint__") from by subst hid; decide +kernel]
  subst hid
  refine wpAny_bind (wpAny_isInstance (b := true) (hT 0 _ hst) (by rw [isSubtype_type]; kernel_rfl) ?_)
  refine wpAny_pure ?_
  rw [if_neg (by decide)]
  exact wpAny_pure ⟨plainId_quiet F.plain_extend_loop _, codeAny_extend_loopS W hn _ hSf _ n 0 _ _ _ rfl (Nat.zero_le _) hst hS (ItemsOf.nil P) fun s' acc' c' hm hS' hacc => hR s' acc' c' hm hS' hacc⟩

theorem call_list_li {Q : Value → Shared → Prop} (W : WalksS prog w A.in1.in1 I fp wr G n P St) (hT : ∀ i s, St i s → s.TypeIs (.ref I) "list_iterator") (hst : St 0 s) (hfp : ∀ b ∈ fp, b < s.heap.objs.size) (hI : I ∈ fp) (hn : n ≤ sizeLine)
    (hQ : ∀ s' acc' c', Moved (s.heap.objs.size :: wr) G { s with heap := s.heap.push { cls := .type "list", data := .seq #[] } } s' →
      s'.heap.get? s.heap.objs.size = some { cls := .type "list", dict := none, data := .seq acc' c', slots := #[] } → ItemsOf P acc' n → Q (.ref s.heap.objs.size) s') :
    wpAny (model prog w) A (call (.type "list") [.ref I]) Q E s := by
  have hSf : s.heap.objs.size ∉ fp := fun hm => Nat.lt_irrefl _ (hfp _ hm)
  refine callType_codes (Q₁ := fun obj s₁ => obj = .ref s.heap.objs.size ∧ s₁ = { s with heap := s.heap.push { cls := .type "list", data := .seq #[] } }) F.called_list (F.typeCall_list_1 _) F.entry_list_init
    (code_list_new _ ⟨rfl, rfl⟩) fun obj s₁ h₁ => ?_
  obtain ⟨rfl, rfl⟩ := h₁
  have hS : (s.heap.push { cls := .type "list", data := .seq #[] }).get? s.heap.objs.size = some { cls := .type "list", data := .seq #[] } := Heap.get?_push_size _ rfl
  refine ⟨⟨_, hS, rfl⟩, F.args_list_init_2 _ _, ?_⟩
  have hst1 := W.frame 0 s (s.heap.push { cls := .type "list", data := .seq #[] }) s.toks hst (Nat.le_refl _) fun b _ o e => Heap.get?_push_of_some _ e
  refine wpAny_bind ?_
  unfold Builtin.List.listItems
  refine wpAny_bind (wpAny_seqItems hS rfl (wpAny_pure ?_))
  refine wpAny_bind (wpAny_updateSeq hS rfl ?_)
  have hS₂ := Heap.get?_update_self (Obj.mapSeq (fun _ => (#[] : Array Value))) hS rfl
  have oth : ∀ b o, b ≠ s.heap.objs.size → (s.heap.push { cls := .type "list", data := .seq #[] }).get? b = some o → ((s.heap.push { cls := .type "list", data := .seq #[] }).update s.heap.objs.size (Obj.mapSeq (fun _ => (#[] : Array Value)))).get? b = some o :=
    fun b o hb e => (Heap.get?_update_other _ _ (Ne.symm hb)).trans e
  refine wpAny_bind (wpAny_letGo ?_)
  refine extend_li W hT s.heap.objs.size .none _ (W.frame 0 _ _ s.toks hst1 (Nat.le_refl _) fun b hb o e => oth b o (fun h => hSf (h ▸ hb)) e) hSf hI hS₂ hn fun s' acc' c' hm hS' hacc => ?_
  exact ⟨rfl, hQ s' acc' c' (Moved.trans W.gtrans ((Moved.refl W.grefl).then_heap (Nat.le_refl _) fun b o hb e => oth b o (fun h => hb (h ▸ List.mem_cons_self)) e) hm) hS' hacc⟩
end
section
variable {C : Fx} {env : Env} {Z R : PH} {ρ : List Addr} {st : St} {s s' : Shared}
theorem SR.moved {S a : Addr} {o o₂ : Obj} {k : Nat} {ao : AO} (h : SR C env Z (R.put S o) ρ st s) (hk : st.heap k = some ao) (ha : ρ[k]? = some a) (keep : ∀ b o', b ≠ S → b ≠ a → s.heap.get? b = some o' → s'.heap.get? b = some o')
    (hS : s'.heap.get? S = some o₂) (os : s'.os = s.os) (gens : s'.gens = s.gens) (drawn : s'.drawn = s.drawn) (htk : s.toks ≤ s'.toks := by first | exact Nat.le_refl _ | assumption) : SR C env Z (R.put S o₂) ρ { st with heap := del st.heap k } s' := by
  obtain ⟨T, h⟩ := h
  have tS : T S = .r := (h.r S o (PH.put_self ..)).1
  have ta : T a = .ob k := by
    obtain ⟨a', h1, h2, _⟩ := h.objs k ao hk
    rw [ha] at h1; cases h1; exact h2
  have kp : ∀ b o', T b ≠ .r → T b ≠ .ob k → s.heap.get? b = some o' → s'.heap.get? b = some o' := fun b o' q1 q2 => keep b o' (fun e => q1 (e ▸ tS)) (fun e => q2 (e ▸ ta))
  exact ⟨T, {
    tk := Nat.le_trans h.tk htk
    base := h.base
    z := fun b o' e => ⟨(h.z b o' e).1, kp b o' (by rw [(h.z b o' e).1]; nofun) (by rw [(h.z b o' e).1]; nofun) (h.z b o' e).2⟩
    r := fun b o' e => by
      by_cases q : b = S
      · subst q; rw [PH.put_self] at e; cases e; exact ⟨tS, hS⟩
      · rw [PH.put_ne _ _ q] at e
        have e' := (PH.put_ne R o q).trans e
        have := h.r b o' e'
        exact ⟨this.1, keep b o' q (fun z => by subst z; rw [ta] at this; cases this.1) this.2⟩
    nx := h.nx
    objs := fun m ao' e => by
      dsimp only at e
      by_cases q : m = k
      · subst q; unfold del at e; rw [if_pos rfl] at e; cases e
      · rw [del_ne _ q] at e
        obtain ⟨b, h1, h2, o', h3, h4⟩ := h.objs m ao' e
        exact ⟨b, h1, h2, o', kp b o' (by rw [h2]; nofun) (by rw [h2]; rintro ⟨⟩; exact q rfl) h3, h4⟩
    scope := h.scope
    kind := h.kind
    globals := h.globals
    builtins := h.builtins
    loc := let ⟨h1, m, h2, h3⟩ := h.loc; ⟨h1, m, h2.at' fun o e => kp _ o (by rw [h1]; nofun) (by rw [h1]; nofun) e, h3⟩
    cell := fun x kk h1 h2 => let ⟨c, o, h3, h4, ⟨ob, q1, q2⟩, h6⟩ := h.cell x kk h1 h2; ⟨c, o, h3, h4, ⟨ob, kp c ob (by rw [h4]; nofun) (by rw [h4]; nofun) q1, q2⟩, h6⟩
    os := os.trans h.os
    gens := by rw [gens, drawn]; exact h.gens
    pin := h.pin
    fl := fun b o e => ⟨(h.fl b o e).1, (h.fl b o e).2.imp fun _ q => kp b _ (by rw [(h.fl b o e).1]; nofun) (by rw [(h.fl b o e).1]; nofun) q⟩
    fr := h.fr }⟩
theorem b_listI {k i : Nat} {xs : List V} {Q : V → St → Prop} (e : st.heap k = some (.iter xs i)) (hsz : xs.length ≤ sizeLine) (h : Q (.lst (xs.drop i)) { st with heap := del st.heap k }) : JV C VR [.obj k] (fun ws => call (.type "list") ws) st Q :=
  fun env Z R ρ s ws hs hw => by
    obtain ⟨y, rfl, h1⟩ := inv1 hw
    cases h1 with
    | obj ea =>
      rename_i a
      obtain ⟨a', o, h1, ho, h3⟩ := hs.obj e
      rw [ea] at h1; cases h1
      obtain ⟨l, rl, hi, hc, hd⟩ := h3.iter_inv
      obtain ⟨l', its, kk, el, hz, ri⟩ := rl.lst_inv
      cases el
      have hl := ri.toArr
      have hla : l ≠ a := fun q => by
        subst q
        obtain ⟨T, hT⟩ := id hs
        obtain ⟨a', h1, h2, _⟩ := hT.objs k _ e
        rw [ea] at h1; cases h1
        have := (hT.z _ _ hz).1
        rw [h2] at this; cases this
      have hit : s.heap.IsListIter a l i := ⟨o, ho, hc, hd⟩
      have hil : s.heap.IsList l its := ⟨_, hs.z_ hz, rfl, _, rfl⟩
      refine call_list_li (walks_from (A := C.A.in1.in1) rfl a l hla its i (by lia)).toS (fun j s st => let ⟨o, ho, hc, _⟩ := st.1; ⟨o, ho, hc⟩) ⟨hit, hil⟩ (fun b hb => ?_) (by simp) (by lia) fun s' acc' c' hm hS' hacc => ?_
      · rcases List.mem_cons.mp hb with q | q
        · subst q; exact Heap.lt_size ho
        · rw [List.mem_singleton.mp q]; exact Heap.lt_size (hs.z_ hz)
      · have hR := hs.rfresh (fresh_none s.heap)
        have h1 := (hs.allocR { cls := .type "list", data := .seq #[] } s.toks).2
        have h2 := h1.moved (s' := s') (o₂ := lobj acc' c') (k := k) e ea (fun b o' q1 q2 e' => hm.heap b o' (by simp [q1, q2]) e') hS' hm.os hm.gens hm.drawn hm.toks
        obtain ⟨le, h3⟩ := h2.toZ hR
        refine ⟨_, _, _, ρ, le, Ext.refl _, .lst (PH.put_self ..) ?_, h3, h⟩
        refine VRs.mono le (Ext.refl _) (?_ : VRs Z ρ (xs.drop i) acc'.toList)
        have e1 : acc'.toList = its.toList.drop i := by
          apply List.ext_getElem?
          intro j
          rw [List.getElem?_drop, Array.getElem?_toList, Array.getElem?_toList]
          by_cases hj : j < acc'.size
          · rw [Array.getElem?_eq_getElem hj]
            exact (hacc.2 j _ (Array.getElem?_eq_getElem hj)).symm
          · rw [Array.getElem?_eq_none (by lia), Array.getElem?_eq_none (by have := hacc.1; lia)]
        rw [e1]
        exact ri.drop i
end
end Mine
end
section -- MLt
set_option maxRecDepth 100000
namespace Mine
open PySem PySem.W PyProof.Rows
open PySem.AutoSeq1 (wpAny_loadPart')
open PySem.MeetsSeq PySem.MeetsSeq2 PySem.MeetsSeq3

noncomputable def pairLt (a b c d : Int) : Bool := if a = c then decide (b < d) else decide (a < c)

theorem tuple_lt2 (l r : Addr) (a b c d : Int) (t1 t2 t3 t4 : Tok) (n n2 : Nat) :
    Meets (Builtin.«tuple.__lt__» ⟨[.ref l, .ref r], []⟩)
      (fun A R s => s.heap.get? l = some (tobj #[.int a t1, .int b t2] n) ∧ s.heap.get? r = some (tobj #[.int c t3, .int d t4] n2) ∧ R (.ok (.ret (.bool (pairLt a b c d)))) s) :=
  .of_wp fun prog w A R s h => by
    obtain ⟨hp, g, dd, tk, os⟩ := s; obtain ⟨hl, hb, h⟩ := h
    have f2 := AutoSeq1.sub_tuple_tuple
    have eqi : ∀ (x y : Int) (t u : Tok), SeqAt.EqAt A.in1 ⟨hp, g, dd, tk, os⟩ (.int x t) (.int y u) (x == y) := fun x y t u => SeqAt.EqAt.int_int x t y u
    have lti : ∀ (x y : Int) (t u : Tok) (E' : Value → Shared → Prop) (Q' : Value → Shared → Prop), Q' (.bool (decide (x < y))) ⟨hp, g, dd, tk, os⟩ → wpAny (model prog w) A.in1 (richCompare .Lt (.int x t) (.int y u)) Q' E' ⟨hp, g, dd, tk, os⟩ := fun x y t u E' Q' hq => wpAny_lt_int hq
    wp_walk using wpAny_loadPart' hl, wpAny_loadPart' hb, wpAny_forIn_list _ (fun rest q s' => q.1 = none ∧ s' = ⟨hp, g, dd, tk, os⟩ ∧ (rest = [(.int a t1, .int c t3), (.int b t2, .int d t4)] ∨ (rest = [(.int b t2, .int d t4)] ∧ a = c) ∨ (rest = [] ∧ a = c ∧ b = d))) _
    case turn =>
      rintro ⟨y, x⟩ rest q s' ⟨hb', rfl, hr⟩
      rcases hr with hr | ⟨hr, e1⟩ | ⟨hr, _⟩
      · injection hr with h1 h2
        injection h1 with h3 h4
        subst h3 h4 h2
        refine wpAny_bind (eqi a c t1 t3 prog w _ _ ?_)
        by_cases e : a = c
        · have e' : (a == c) = true := by simpa using e
          rw [e']
          wp_walk
          exact ⟨rfl, rfl, .inr (.inl ⟨rfl, e⟩)⟩
        · have e' : (a == c) = false := by simpa using e
          rw [e']
          unfold pairLt at h
          rw [if_neg e] at h
          wp_walk using lti
          exact ⟨_, rfl, h⟩
      · injection hr with h1 h2
        injection h1 with h3 h4
        subst h3 h4 h2
        refine wpAny_bind (eqi b d t2 t4 prog w _ _ ?_)
        by_cases e : b = d
        · have e' : (b == d) = true := by simpa using e
          rw [e']
          wp_walk
          exact ⟨rfl, rfl, .inr (.inr ⟨rfl, e1, e⟩)⟩
        · have e' : (b == d) = false := by simpa using e
          rw [e']
          unfold pairLt at h
          rw [if_pos e1] at h
          wp_walk using lti
          exact ⟨_, rfl, h⟩
      · cases hr
    case fin =>
      rintro ⟨q1, q2⟩ s' ⟨hb', rfl, hr⟩
      simp only at hb'
      subst hb'
      rcases hr with hr | ⟨hr, _⟩ | ⟨_, e1, e2⟩
      · cases hr
      · cases hr
      · unfold pairLt at h
        rw [if_pos e1, e2] at h
        wp_walk
        exact ⟨_, rfl, by simpa [Builtin.Tuple.tupleCompareSizes] using h⟩
    case h =>
      exact ⟨rfl, rfl, .inl rfl⟩

section
variable {C : Fx} {st : St}
theorem op_lt2 {a b c d : Int} {Q : V → St → Prop} (hu : C.u < cLine) (h : Q (.bool (pairLt a b c d)) st) : JV C VR [.tup [.int a, .int b], .tup [.int c, .int d]] (two (compareOp .Lt)) st Q :=
  fun env Z R ρ s ws hs hw => by
    obtain ⟨x, y, rfl, h1, h2⟩ := inv2 hw
    obtain ⟨l, w1, k1, rfl, hz1, r1⟩ := h1.tup_inv
    obtain ⟨r, w2, k2, rfl, hz2, r2⟩ := h2.tup_inv
    obtain ⟨t1, t2, e1⟩ := inv_ii r1
    obtain ⟨t3, t4, e2⟩ := inv_ii r2
    have q1 : w1 = #[.int a t1, .int b t2] := Array.toList_inj.mp e1
    have q2 : w2 = #[.int c t3, .int d t4] := Array.toList_inj.mp e2
    subst q1 q2
    have ho1 := hs.z_ hz1
    have ho2 := hs.z_ hz2
    have T1 : s.TypeIs (.ref l) "tuple" := ⟨_, ho1, rfl⟩
    have T2 : s.TypeIs (.ref r) "tuple" := ⟨_, ho2, rfl⟩
    show wpAny _ _ (richCompare .Lt (.ref l) (.ref r)) _ _ s
    exact richCompare_meets_room (op := .Lt) T1 T2 F.slot_tuple_lt F.entry_tuple_lt (F.args_tuple_lt_2 _ _) (tuple_lt2 l r a b c d t1 t2 t3 t4 k1 k2)
      ⟨ho1, ho2, show Value.bool (pairLt a b c d) ≠ Value.notImplemented ∧ Post C env Z R ρ VR Q (.bool (pairLt a b c d)) s from ⟨(fun x => nomatch x), SR.post hs (.bool _) h⟩⟩ hu
end
end Mine
end
section -- MPk
set_option maxRecDepth 100000
namespace Mine
open PySem PySem.W PyProof.Rows

noncomputable def pkN {α β : Type} (_ : β) : Nat → Tok → List Obj → Option (α × List Obj × Tok) := fun _ _ _ => none
noncomputable def pk {α : Type} (K : Frag) (S : Setting) (t : Sem α) : Nat → Tok → List Obj → Option (α × List Obj × Tok) :=
  Sem.rec (motive := fun _ => Nat → Tok → List Obj → Option (α × List Obj × Tok)) (fun a _ tk os => some (a, os, tk)) pkN pkN pkN (fun _ _ ih => ih ()) (fun _ _ => pkN) (fun a _ _ ih n tk os => (K.lookup a).bind fun o => ih o n tk os) (fun _ _ _ _ => pkN) (fun o _ ih n tk os => ih n (n + 1) tk (os ++ [o]))
    (fun _ _ => pkN) (fun _ _ ih => ih ()) (fun _ _ => pkN) (fun _ ih n tk os => ih tk n (tk + 1) os) (fun _ ih => ih S) (fun _ _ _ => pkN) (fun _ _ _ => pkN) (fun _ _ _ _ _ => pkN) (fun _ _ => pkN) (fun _ _ => pkN) (fun _ _ => pkN) (fun _ _ _ _ => pkN) (fun _ _ _ _ => pkN) (fun _ => pkN) (fun _ _ => pkN) (fun _ => pkN) (fun _ _ _ _ _ => pkN) t
noncomputable def pushes (h : Heap) : List Obj → Heap
  | [] => h
  | o :: r => pushes (h.push o) r
theorem pushes_snoc : ∀ (l : List Obj) (h : Heap) (o : Obj), pushes h (l ++ [o]) = (pushes h l).push o
  | [], _, _ => rfl
  | _ :: r, h, o => pushes_snoc r _ o
theorem pushes_size : ∀ (l : List Obj) (h : Heap), (pushes h l).objs.size = h.objs.size + l.length
  | [], _ => rfl
  | o :: r, h => by
    show (pushes (h.push o) r).objs.size = _
    rw [pushes_size r, Heap.size_push, List.length_cons]; lia
theorem pushes_keep : ∀ (l : List Obj) (h : Heap) (b : Addr) (o : Obj), h.get? b = some o → (pushes h l).get? b = some o
  | [], _, _, _, e => e
  | x :: r, h, b, o, e => pushes_keep r _ b o (Heap.get?_push_of_some _ e)
theorem no_some {α : Type} {x : α} {P : Prop} (e : (none : Option α) = some x) : P := nomatch e
theorem wp_of_pk {α : Type} {K : Frag} {M : Model} {Γ : Ctx} {Q : α → Pos → Shared → Prop} {E : Value → Pos → Shared → Prop} {p : Pos} {s : Shared} (x : K.In s.heap) {a : α} {fin : List Obj} {tk' : Tok} (q : Q a p { s with heap := pushes s.heap fin, toks := tk' }) :
    ∀ (t : Sem α) (os : List Obj) (n tk : Nat), n = s.heap.objs.size + os.length → pk K ⟨M.prog, M.w.params⟩ t n tk os = some (a, fin, tk') → Sem.wp M Γ t Q E p { s with heap := pushes s.heap os, toks := tk } := by
  intro t
  induction t with
  | pure b => intro os n tk hn e; cases e; exact q
  | rule _ k ih => intro os n tk hn e; exact ih () os n tk hn e
  | point _ k ih => intro os n tk hn e; exact ih () os n tk hn e
  | ask k ih => intro os n tk hn e; exact ih _ os n tk hn e
  | load a _ k ih =>
    intro os n tk hn e
    obtain ⟨o, ho, e'⟩ := Option.bind_eq_some_iff.mp e
    exact ⟨o, pushes_keep _ _ _ _ (x _ _ ho), ih o os n tk hn e'⟩
  | alloc o k ih =>
    intro os n tk hn e
    have := ih n (os ++ [o]) (n + 1) tk (by simp; lia) e
    rw [pushes_snoc] at this
    have hs : (pushes s.heap os).objs.size = n := by rw [pushes_size, hn]
    show Sem.wp M Γ (k (pushes s.heap os).objs.size) Q E p { s with heap := (pushes s.heap os).push o, toks := tk }
    rw [hs]; exact this
  | fresh k ih => intro os n tk hn e; exact ih tk os n (tk + 1) hn e
  | _ => intro os n tk hn e; exact no_some e
theorem any_of_pk {α : Type} {K : Frag} {M : Model} {A : Around} {Q : α → Shared → Prop} {E : Value → Shared → Prop} {s : Shared} (x : K.In s.heap) {t : Sem α} {a : α} {fin : List Obj} {tk' : Tok}
    (e : pk K ⟨M.prog, M.w.params⟩ t s.heap.objs.size s.toks [] = some (a, fin, tk')) (q : Q a { s with heap := pushes s.heap fin, toks := tk' }) : wpAny M A t Q E s :=
  fun Γ p hΓ => wp_of_pk x q t [] s.heap.objs.size s.toks rfl e
end Mine
end
section -- MInst2
set_option maxRecDepth 100000
set_option maxHeartbeats 1000000
namespace Mine
open PySem PySem.W PyProof.Rows Builtin Builtin.ObjectAttr Builtin.Getset_descriptor

structure Makes2 (M : Model) (h : Heap) (C : Addr) : Prop where
  obj : ∃ oc od cd sl, h.get? C = some ⟨oc, od, .cls cd, sl⟩ ∧ cd.abstract = false ∧ cd.hasDel = false ∧ cd.mro.isEmpty = false
  none : Looks M h (Bind.madeBy (.ref C)) none
  made : Looks M h (Bind.madeBy (.type "object")) (some "object.__new__")
  base : Looks M h (Bind.staticBase (.ref C)) (.type "object")
  self : Looks M h (isSubtype (.ref C) (.ref C)) true
  top : Looks M h (isSubtype (.ref C) (.type "object")) true
  call : Looks M h (specialOf (.ref C) "__call__") (some (.builtin "type.__call__"))
  typ : Looks M h (isInstance (.ref C) (.type "type")) true
noncomputable def makes2In (K : Frag) (C : Addr) : Bool := match K.lookup C with
  | some ⟨_, _, .cls cd, _⟩ => !cd.abstract && !cd.hasDel && !cd.mro.isEmpty && specialIn K (.ref C) "__call__" == some (some (.builtin "type.__call__")) && instIn K (.ref C) (.type "type") == some true && mroIn K C (.ref C) == some true && mroIn K C (.type "object") == some true
  | _ => false
theorem makes2_of {K : Frag} {M : Model} {h : Heap} (X : K.In h) {C : Addr} (e : makes2In K C = true) (h1 : ∀ S, peek K S (Bind.madeBy (.ref C)) = some none) (h2 : ∀ S, peek K S (Bind.madeBy (.type "object")) = some (some "object.__new__"))
    (h3 : ∀ S, peek K S (Bind.staticBase (.ref C)) = some (.type "object")) : Makes2 M h C := by
  unfold makes2In at e
  split at e
  · rename_i oc od cd sl ho
    simp only [Bool.and_eq_true, Bool.not_eq_true', beq_iff_eq] at e
    obtain ⟨⟨⟨⟨⟨⟨e1, e2⟩, e3⟩, e4⟩, e5⟩, e6⟩, e7⟩ := e
    exact ⟨⟨oc, od, cd, sl, X _ _ ho, e1, e2, e3⟩, Looks.of_peek X (h1 _), Looks.of_peek X (h2 _), Looks.of_peek X (h3 _), looks_mroIn X e6, looks_mroIn X e7, looks_specialIn X e4, looks_instIn X e5⟩
  · cases e

section
variable {prog : Program} {w : World} {A : Around} {K : Frag} {C : Addr} {R : Result → Shared → Prop} {h : Heap} {g : Array GenState} {d : Drawn} {t : Nat} {os : OsState}
theorem new2 (X : K.In h) (n1 : ∀ S n tk, pk K S (checkBuiltinCall "object.__new__" ⟨[.ref C], []⟩) n tk [] = some ((), [], tk))
    (n2 : ∀ S n tk, pk K S (Builtin.«object.__new__» ⟨[.ref C], []⟩) n tk [] = some (.done (.ret (.ref (n + 1))), [emptyDict, instObj C n], tk))
    (hq : R (.ok (.ret (.ref (h.objs.size + 1)))) ⟨(h.push emptyDict).push (instObj C h.objs.size), g, d, t, os⟩) :
    codeAny (model prog w) A (.call (.builtin "object.__new__") ⟨[.ref C], []⟩) R ⟨h, g, d, t, os⟩ :=
  codeAny_call_builtin_code (Code.quiet_builtin _ PySem.F.objNew.quiet) (any_of_pk X (n1 _ _ _) (codeAny_builtin PySem.F.objNew.entry (any_of_pk X (n2 _ _ _) hq)))
end

section
variable {C : Fx} {st : St} {K : Frag}
theorem mk_inst2 {c fN fI p : Addr} {vs : List V} {kws : List (Str × Value)} {rest : List Value} {Q : V → St → Prop} (H : BaseK K C.base) (m2 : ∀ M h, K.In h → Makes2 M h c) (hr : readsIn K c (.type "type") = true)
    (hc : findCls K (.ref c) (.type "type") "__new__" = some (.get (.builtin "staticmethod.__get__") (.ref p) .none (.ref c))) (hp : recIn K p "staticmethod" = some (.ref fN :: rest))
    (hi : findIn K (.ref c) "__init__" = some (some (.ref fI))) (hf : typeIn K (.ref fI) = some (.type "function"))
    (h : JC C.make fN (.val (.ref c) :: vs) kws st fun v st₁ => ∃ n fs, v = .inst c n ∧ st₁.heap n = some (.ns fs) ∧ JC C.make fI (.inst c n :: vs) kws st₁ fun u st₂ => u = .none ∧ Q (.inst c n) st₂) : JV C VR vs (fun ws => call (.ref c) ws kws) st Q :=
  fun env Z R ρ s ws hs hw => by
    have X := hs.knows H.inK
    have hx := hs.mkf.tok (s.toks + 1)
    obtain ⟨⟨oc, od, cd, sl, hC, e1, e2, e4⟩, none, made, base, self, top, call, typ⟩ := m2 C.M s.heap X
    have e : (C.A).under (.builtin "type.__call__" ⟨.ref c :: ws, kws⟩) = C.make.A := by
      have w0 : (Code.builtin "type.__call__" ⟨.ref c :: ws, kws⟩).weight = 1 := by kernel_rfl
      have w1 : (Code.builtin "type.__call__" ⟨.ref c :: ws, kws⟩).cUnits = 1 := by kernel_rfl
      have w2 : (Code.builtin "type.__call__" ⟨.ref c :: ws, kws⟩).guards = [] := by kernel_rfl
      have w3 : (Code.builtin "type.__call__" ⟨.ref c :: ws, kws⟩).envs = [] := by kernel_rfl
      unfold Around.under
      rw [w0, w1, w2, w3]; rfl
    have hget : ∀ {A : Around} {Q : Value → Shared → Prop} {E : Value → Shared → Prop} {s' : Shared}, K.In s'.heap → Q (.ref fN) { s' with toks := s'.toks + 1 } → wpAny C.M A (getAttr (.ref c) "__new__") Q E s' :=
      fun {A Q E s'} X q => cls_bind X hr hc (wpAny_call (sm_get (s := { s' with toks := s'.toks + 1 }) X hp (handed_on rfl q)))
    obtain ⟨hh, g, d, t, os⟩ := s
    have hm : Looks C.M hh (mroOf (.ref c)) cd.mro := ((Looks.ld (part := Option.none) hC).andThen .now).andThen .now
    refine wpAny_call (codeAny_of_tree ?_)
    show wpAny _ _ (callAny (.ref c) _) _ _ _
    refine nd_load hC ?_
    show wpAny _ _ (callAny.viaDunder (.ref c) _) _ _ _
    unfold callAny.viaDunder
    refine wpAny_bind (call.at ?_)
    dsimp only
    rw [tc_bind]
    refine wpAny_bind (wpAny_pure (wpAny_bind (wpAny_pure ?_)))
    refine wpAny_pure (a := Fin.again (.call (.builtin "type.__call__") ⟨.ref c :: ws, kws⟩)) (And.intro rfl ?_)
    refine codeAny_call_builtin_at (Code.quiet_builtin _ (by decide +kernel)) entry_typeCall (check_slot tc_kind tc_split typ (tc_args _ _ _) ?_)
    rw [e]
    unfold Builtin.«type.__call__»
    repeat (first | simp only [e4, Bool.false_eq_true, if_false] | (refine hget X ?_; dsimp only) | with_reducible refine wpAny_call ?_ | lk)
    have rc : VR Z ρ (.val (.ref c)) (.ref c) := .val _
    refine codeAny_mono (h env Z R ρ _ (.ref c :: ws) hx (.cons rc hw)) fun r s' ⟨v, e, q⟩ => ?_
    subst e
    obtain ⟨b, st', Z', ρ', q1, q2, q3, q4, n, fs, q5, q6, q7⟩ := q
    subst q5
    obtain ⟨x, dx, es, m, rfl, ea, k1, k2, k3, I⟩ := q4.inst q6 q3
    have X' := q4.knows H.inK
    obtain ⟨⟨oc, od, cd, sl, hC, e1, e2, e4⟩, none, made, base, self, top, call, typ⟩ := m2 C.make.M s'.heap X'
    obtain ⟨hh, g, d, t, os⟩ := s'
    have t1 : Looks C.M hh (typeOf (.ref x)) (.ref c) := I.type
    have i1 : Looks C.M hh (typeLookup (.ref c) "__init__") (some (.ref fI)) := looks_findIn X' hi
    have b1 : Looks C.M hh (bindSpecial (.ref fI) (.ref x)) (.ref fI, [.ref x]) := bind_fn X' _ hf
    have s1 : Looks C.M hh (isSubtype (.ref c) (.ref c)) true := self
    dsimp only
    unfold isInstance callSpecial? specialOf
    repeat (first | with_reducible refine wpAny_call ?_ | lk)
    refine codeAny_mono (q7 env Z' R ρ' _ (.ref x :: ws) q4 (.cons q3 (hw.mono q1 q2))) fun r s' ⟨v, e, q⟩ => ?_
    subst e
    obtain ⟨b, st'', Z'', ρ'', z1, z2, z3, z4, z5, z6⟩ := q
    subst z5
    obtain rfl := inv_none z3
    refine wpAny_pure (wpAny_pure ⟨_, st'', Z'', ρ'', q1.trans z1, q2.trans z2, q3.mono z1 z2, z4.mkd, z6⟩)
end
end Mine
end
section -- MInst3
set_option maxRecDepth 100000
namespace Mine
open PySem PySem.W PyProof.Rows

section
variable {C : Fx} {st : St} {K : Frag}
theorem isnot_refs {a b : Addr} {oa ob : Obj} {Q : V → St → Prop} (H : BaseK K C.base) (ha : K.lookup a = some oa) (hb : K.lookup b = some ob) (hc : oa.cls ≠ .type "tuple") (h : Q (.bool (a != b)) st) : JV C VR [.val (.ref a), .val (.ref b)] (two (compareOp .IsNot)) st Q :=
  fun env Z R ρ s ws hs hw => by
    obtain ⟨x, y, rfl, h1, h2⟩ := inv2 hw
    cases h1; cases h2
    by_cases q : a = b
    · subst q; exact wpAny_isNot_ref_self (SR.post hs (.bool _) (by simpa using h))
    · have X := hs.knows H.inK
      refine wpAny_bind (wpAny_isSame_ref_other q (X _ _ ha) (X _ _ hb) hc (wpAny_pure (SR.post hs (.bool _) ?_)))
      have e : (a != b) = true := by simpa using q
      rw [e] at h; exact h
theorem isnot_types {a b : String} {Q : V → St → Prop} (h : Q (.bool (decide (a ≠ b))) st) : JV C VR [.val (.type a), .val (.type b)] (two (compareOp .IsNot)) st Q :=
  fun env Z R ρ s ws hs hw => by
    obtain ⟨x, y, rfl, h1, h2⟩ := inv2 hw
    cases h1; cases h2
    refine wpAny_isNot_plain rfl (SR.post hs (.bool _) ?_)
    by_cases q : a = b
    · subst q; simpa using h
    · rw [beq_eq_false_iff_ne.mpr (fun e => q (by cases e; rfl))]; simpa [q] using h

theorem new_obj {c : Addr} {Q : V → St → Prop} (H : BaseK K C.base) (n1 : ∀ S n tk, pk K S (checkBuiltinCall "object.__new__" ⟨[.ref c], []⟩) n tk [] = some ((), [], tk)) (n2 : ∀ S n tk, pk K S (Builtin.«object.__new__» ⟨[.ref c], []⟩) n tk [] = some (.done (.ret (.ref (n + 1))), [emptyDict, instObj c n], tk)) (h : Q (.inst c st.nx) { st with heap := upd st.heap st.nx (.ns []), nx := st.nx + 1 }) :
    JV C VR [.val (.ref c)] (fun ws => call (.builtin "object.__new__") ws) st Q :=
  fun env Z R ρ s ws hs hw => by
    obtain ⟨w, rfl, r⟩ := inv1 hw
    cases r
    have X := hs.knows H.inK
    have hs1 := hs.allocO emptyDict (.ns []) s.toks (.ns (n := 0) .nil)
    obtain ⟨le, hs2⟩ := hs1.allocZ (instObj c s.heap.objs.size) s.toks
    have hnx : ρ.length = st.nx := let ⟨_, k⟩ := hs; k.nx
    obtain ⟨hh, g, d, t, os⟩ := s
    refine wpAny_call (new2 X n1 n2 ?_)
    dsimp only at le hs2
    rw [Heap.size_push] at le hs2
    have rI : VR (PH.put Z (hh.objs.size + 1) (instObj c hh.objs.size)) (ρ ++ [hh.objs.size]) (.inst c st.nx) (.ref (hh.objs.size + 1)) :=
      .inst (PH.put_self ..) (by rw [List.getElem?_append_right (by rw [hnx]; exact Nat.le_refl _), hnx, Nat.sub_self]; rfl)
    exact ⟨_, _, _, _, le, Ext.snoc _ _, rI, hs2, h⟩

theorem get_object_new {prog : Program} {w : World} {A : Around} {E : Value → Shared → Prop} {s : Shared} {Q : Value → Shared → Prop} {expr : Bool} (X : K.In s.heap) (e : findCls K (.type "object") (.type "type") "__new__" = some (.val (.builtin "object.__new__")))
    (h : Q (.builtin "object.__new__") { s with toks := s.toks + 1 }) : wpAny (model prog w) A (getAttr (.type "object") "__new__" expr) Q E s := by
  refine cls_open (hook := none) X (Looks.of_pure (by kernel_rfl)) (Looks.of_pure (by kernel_rfl)) (by show findIn K (.type "type") _ = _; unfold findIn; kernel_rfl) (by unfold hookBefore; exact Looks.of_pure (by kernel_rfl)) (by unfold subIn; kernel_rfl) e (wpAny_pure ?_)
  show wpAny _ _ (handedOut _) _ _ _
  rw [handedOut_of (by kernel_rfl)]
  exact wpAny_pure h

theorem ev_ObjNew {p apos pos : Pos} {es : List Expr} {Q : V → St → Prop} (H : BaseK K C.base) (hg : Blt C.base "object" (.type "object")) (hk : C.sc.names.lookup ("object" : Str) = some .globalImplicit) (e : findCls K (.type "object") (.type "type") "__new__" = some (.val (.builtin "object.__new__")))
    (h : JL C pos es st fun vs st₁ => JV C VR vs (fun ws => call (.builtin "object.__new__") ws) st₁ Q)
    (he : ∀ env, (backTo pos (starEach es env)).any (·.1) = false := by intro _; rfl) (hline : (apos.endLine == pos.line) = true := by rfl)
    (hfew : ∀ env, methodCallForm (es.length + ([] : List Keyword).length) (backTo pos (starEach es env)) (backToKw pos (keywordEach [] env)) = true := by intro _; rfl) :
    J C VR (eval (.Call (.Attribute (.Name "object" p) "__new__" apos) es [] pos)) st Q :=
  fun env Z R ρ s hs => by
    rw [arm_eval_Call]
    show wpAny _ _ (eval (.Name "object" p) env >>= _) _ _ _
    refine wpAny_bind (wp_use (ev_Blt (Q := fun v st' => v = .val (.type "object") ∧ st' = st) hg hk ⟨rfl, rfl⟩ (by decide) env Z R ρ s hs) (fun w s₁ v st₁ Z₁ ρ₁ hz hr rv hs₁ ⟨e1, e2⟩ => wpAny_bind (wpAny_standAt ?_)))
    subst e1; subst e2
    cases rv
    have X := hs₁.knows H.inK
    unfold methodCall methodCallPos calleeOf
    rw [hfew env]
    refine wpAny_bind (wpAny_holding ?_)
    show wpAny _ _ (getMethod _ _ _) _ _ s₁
    unfold getMethod
    refine wpAny_bind ((show Looks C.M s₁.heap (specialOf (.type "object") "__getattribute__") (some (.builtin "type.__getattribute__")) from Looks.of_peek (K := []) (fun _ _ e => by cases e) (by kernel_rfl)).here ?_)
    dsimp only
    rw [if_pos canon_tga]
    refine wpAny_bind (get_object_new X e (wpAny_pure ?_))
    dsimp only
    rw [hline]
    refine wpAny_bind (wpAny_pure ?_)
    refine Calls.callWith_builtin (he env) (wpAny_mono (args_ h he (hs₁.tok _) (.builtin "object.__new__")) (fun ar s₂ ⟨hkw, pp⟩ => pp.ex fun vs st₂ Z₂ ρ₂ hz2 hr2 rvs hs₂ h₂ => ?_) fun _ _ e => e)
    rw [hkw]
    exact wp_up (hz.trans hz2) (hr.trans hr2) (h₂ env Z₂ R ρ₂ s₂ ar.pos hs₂ rvs)

theorem ev_CallC {f : Str} {p pos : Pos} {es : List Expr} {c : Addr} {Q : V → St → Prop} (H : BaseK K C.base) (hg : Glo C.base f (.ref c)) (hkeep : keepIn K (.ref c) = true) (hk : C.sc.names.lookup f = some .globalImplicit)
    (h : JL C pos es st fun vs st₁ => JV C VR vs (fun ws => call (.ref c) ws) st₁ Q)
    (he : ∀ env, (backTo pos (starEach es env)).any (·.1) = false := by intro _; rfl) (hd : (f == ("__debug__" : Str)) = false := by decide) : J C VR (eval (.Call (.Name f p) es [] pos)) st Q :=
  fun env Z R ρ s hs => by
    refine wpAny_Call_NameR (wp_use (ev_Glo (Q := fun v st' => v = .val (.ref c) ∧ st' = st) hg hk ⟨rfl, rfl⟩ hd env Z R ρ s hs) (fun w s₁ v st₁ Z₁ ρ₁ hz hr rv hs₁ ⟨e1, e2⟩ => ?_))
    subst e1; subst e2
    cases rv
    refine callWith_of (P := K.In) (by rw [he env]; rfl) (fun h X => keeps_K hkeep h X) (wpAny_mono (args_ h he hs₁ (.ref c)) (fun ar s₂ ⟨hkw, pp⟩ => pp.ex fun vs st₂ Z₂ ρ₂ hz2 hr2 rvs hs₂ h₂ => ?_) fun _ _ e => e)
    rw [hkw]
    exact ⟨hs₂.knows H.inK, wp_up (hz.trans hz2) (hr.trans hr2) (h₂ env Z₂ R ρ₂ s₂ ar.pos hs₂ rvs)⟩
theorem ev_CallCk {f key : Str} {p pos kp cpos : Pos} {e₀ : Expr} {es : List Expr} {c : Addr} {b : Bool} {ck : Nat} {Q : V → St → Prop} (H : BaseK K C.base) (hg : Glo C.base f (.ref c)) (hkeep : keepIn K (.ref c) = true) (hk : C.sc.names.lookup f = some .globalImplicit)
    (h : JL C pos (e₀ :: es) st fun vs st₁ => JV C VR vs (fun ws => call (.ref c) ws [(key, .bool b)]) st₁ Q)
    (he : ∀ env, (backTo pos (starEach (e₀ :: es) env)).any (·.1) = false := by intro _; rfl) (hx : ∀ env, ∃ x r, backTo pos (starEach (e₀ :: es) env) = (false, x) :: r := by intro _; exact ⟨_, _, rfl⟩)
    (hkw : ∀ env, ∃ t, backToKw pos (keywordEach [⟨some key, .Constant (.bool b) ck cpos, kp⟩] env) = [(some key, t)] ∧ ∀ (M : Model) A Q E s, Q (.bool b) s → wpAny M A t Q E s)
    (hd : (f == ("__debug__" : Str)) = false := by decide) : J C VR (eval (.Call (.Name f p) (e₀ :: es) [⟨some key, .Constant (.bool b) ck cpos, kp⟩] pos)) st Q :=
  fun env Z R ρ s hs => by
    refine wpAny_Call_Name_kw (wp_use (ev_Glo (Q := fun v st' => v = .val (.ref c) ∧ st' = st) hg hk ⟨rfl, rfl⟩ hd env Z R ρ s hs) (fun w s₁ v st₁ Z₁ ρ₁ hz hr rv hs₁ ⟨e1, e2⟩ => ?_))
    subst e1; subst e2
    cases rv
    obtain ⟨t, ht, hte⟩ := hkw env
    obtain ⟨x, r, hxr⟩ := hx env
    have he' := he env
    rw [ht]
    refine callWith_of (P := K.In) (by rw [he']; rfl) (fun h X => keeps_K hkeep h X) ?_
    have h1 := h env Z₁ R ρ₁ s₁ hs₁
    dsimp only at h1
    rw [hxr] at h1 ⊢
    refine evalArgs_kw rfl (wpAny_mono h1 (fun ar s₂ pp => pp.ex fun vs st₂ Z₂ ρ₂ hz2 hr2 rvs hs₂ h₂ => ?_) fun _ _ e => e)
    refine wpAny_evalAll_cons (hte _ _ _ _ _ (wpAny_evalAll_nil ?_))
    exact ⟨hs₂.knows H.inK, wp_up (hz.trans hz2) (hr.trans hr2) (h₂ env Z₂ R ρ₂ s₂ ar hs₂ rvs)⟩
end
end Mine
end
section -- MStart
set_option maxRecDepth 100000
namespace Mine
open PySem PySem.W PyProof.Rows

open Classical in
noncomputable def restR (Z : PH) (p : Option Addr) (h : Heap) : PH := fun b => if (Z b).isSome ∨ p = some b then none else h.get? b
noncomputable def pinned (p : Option Addr) : Nat → Option AO := fun n => if n = 0 then p.map fun _ => .codes else none

theorem start {C' : Fx} {env' : Env} {Z : PH} {s s₁ : Shared} {binds : List (Str × Value)} {vars : List (Str × V)} {a : Addr} {q : Str} {cd : Value}
    (hb0 : PH.le C'.base Z) (hz : ∀ b o, Z b = some o → s.heap.get? b = some o)
    (hpin : ∀ p, C'.pin = some p → Z p = none ∧ ∃ o, s.heap.get? p = some o ∧ OR C'.w.params Z [p] .codes o)
    (ho : s.os = C'.os) (hg : C'.gp s.gens s.drawn) (hk : C'.sc.kind = .function)
    (he : env' = newEnv C'.sc s.heap.objs.size mainGlobals (cellsFrom (s.heap.objs.size + 1) C'.sc.names []) q (some a) cd none builtinsNs)
    (x : InCallC s env'.locals (bindL env'.kindOf binds fun _ => none) env'.cells (bindC env'.kindOf binds fun _ => none) s₁)
    (hb : BR Z C'.pin.toList vars binds) (hd : (binds.map (·.1)).Nodup) (hf : ∀ y, C'.sc.names.lookup y ≠ some .free) (htk : C'.tk ≤ s₁.toks) (hfl : C'.fl = fun _ => none) (hfr : FrOk C'.fr C'.fl env') :
    SR C' env' Z (restR Z C'.pin s.heap) C'.pin.toList ⟨vars, pinned C'.pin, C'.pin.toList.length⟩ s₁ := by
  classical
  refine frame_in (st := ⟨[], pinned C'.pin, C'.pin.toList.length⟩) (T := fun b => if C'.pin = some b then .ob 0 else if (Z b).isSome then .z else .r) hb0 (fun b o e => ⟨?_, hz b o e⟩) (fun b o e => ?_) rfl (fun n ao e => ?_) ho hg (fun a e => by rw [e]; rfl) hk he x hb hd hf htk (fun b o e => by rw [hfl] at e; cases e) hfr
  · rw [if_neg fun q => ?_, e]
    · rfl
    · rw [(hpin b q).1] at e; cases e
  · unfold restR at e
    by_cases q : (Z b).isSome ∨ C'.pin = some b
    · rw [if_pos q] at e; cases e
    · rw [if_neg q] at e
      exact ⟨(if_neg fun z => q (.inr z)).trans (if_neg fun z => q (.inl z)), e⟩
  · replace e : (if n = 0 then C'.pin.map fun _ => AO.codes else none) = some ao := e
    by_cases e0 : n = 0
    · subst e0
      rw [if_pos rfl] at e
      obtain ⟨p, hp, e⟩ := Option.map_eq_some_iff.mp e
      subst e
      obtain ⟨_, o, h2, h3⟩ := hpin p hp
      rw [hp]
      exact ⟨p, rfl, if_pos rfl, o, h2, h3⟩
    · rw [if_neg e0] at e; cases e
theorem SR.rest {C : Fx} {env : Env} {Z Z' : PH} {ρ : List Addr} {st : St} {s s' : Shared} (h : SR C env Z' (restR Z C.pin s.heap) ρ st s') (hle : PH.le Z Z') (hz : ∀ b o, Z b = some o → s.heap.get? b = some o) :
    ∀ b o, C.pin ≠ some b → s.heap.get? b = some o → s'.heap.get? b = some o := fun b o hp e => by
  cases q : Z b with
  | some o' =>
    have := hz b o' q
    rw [e] at this; cases this
    exact h.z_ (hle _ _ q)
  | none => exact h.r_ (by unfold restR; rw [if_neg (by rw [q]; simpa using hp)]; exact e)

theorem call_raw {C : Fx} {a : Addr} {fd : FuncData} {body : List Stmt} {ws : List Value} {kws : List (Str × Value)} {binds : List (Str × Value)} {vars : List (Str × V)} {Q : V → St → Prop} {Z : PH} {s : Shared} (F : Fn0 C.base a fd body) (hd : C.d < 1000)
    (hp : parOk fd.scope (vars.map (·.1)) = true) (hb0 : PH.le C.base Z) (hz : ∀ b o, Z b = some o → s.heap.get? b = some o)
    (hpin : ∀ p, C.pin = some p → Z p = none ∧ ∃ o, s.heap.get? p = some o ∧ OR C.w.params Z [p] .codes o)
    (ho : s.os = C.os) (htk : C.tk ≤ s.toks) (hg : C.gp s.gens s.drawn) (hbd : BindsTo s fd ⟨ws, kws⟩ binds) (hb : BR Z C.pin.toList vars binds)
    (h : JX (C.into fd.scope) body ⟨vars, pinned C.pin, C.pin.toList.length⟩ fun f st' => Q (retV f) st') (hfl0 : C.fl = fun _ => none := by rfl) :
    codeAny C.M C.A (.call (.ref a) ⟨ws, kws⟩) (fun r s' => ∃ v w st' Z' ρ', r = .ok (.ret w) ∧ PH.le Z Z' ∧ Ext C.pin.toList ρ' ∧ VR Z' ρ' v w ∧ (∀ b o, C.pin ≠ some b → s.heap.get? b = some o → s'.heap.get? b = some o) ∧ s'.os = C.os ∧ C.gp s'.gens s'.drawn ∧ (∀ p, C.pin = some p → ∀ ao, st'.heap 0 = some ao → ∃ o, s'.heap.get? p = some o ∧ OR C.w.params Z' ρ' ao o) ∧ Q v st') s := by
  have hk : ∀ a o, C.base a = some o → s.heap.get? a = some o := fun a o e => hz _ _ (hb0 _ _ e)
  obtain ⟨hcd, hlim⟩ := F.get s.heap hk
  obtain ⟨o, ho', hdata, _⟩ := F.at_
  replace ho' := hk _ _ ho'
  refine codeAny_call_function (show C.A.depth < recursionLimit from hd) ho' hdata F.co F.gen F.body hcd (hbd _ _ _ _ ?_)
  have keys : binds.map (·.1) = vars.map (·.1) := hb.keys
  unfold parOk at hp
  rw [Bool.and_eq_true, decide_eq_true_eq, List.all_eq_true] at hp
  rw [F.clo]
  refine wp_toks (wpAny_newFunctionEnv_cells F.kind (fun x hx => ?_) fun env' he s₁ x hle => ?_)
  · have : x.1 ∈ vars.map (·.1) := by rw [← keys]; exact List.mem_map_of_mem hx
    have := hp.2 _ this
    rw [Bool.or_eq_true, beq_iff_eq, beq_iff_eq] at this
    rcases this with q | q
    · exact .inl q
    · exact .inr ⟨q, cellsFrom_some _ _ _ (.inl q)⟩
  · subst he
    refine ⟨hlim.keeps x.toInCall.keep, codeAny_func ?_⟩
    have he : callEnvC fd s.heap.objs.size a = newEnv (C.into fd.scope).sc s.heap.objs.size mainGlobals (cellsFrom (s.heap.objs.size + 1) (C.into fd.scope).sc.names []) (fd.qualname ++ ".<locals>.") (some a) fd.code none builtinsNs := by
      unfold callEnvC; rw [F.glob, F.blt]; rfl
    have k1 := start (C' := C.into fd.scope) hb0 hz hpin ho hg F.kind he x hb (by rw [keys]; exact hp.1) F.free (Nat.le_trans htk hle) hfl0 (FrOk.none_ rfl)
    refine wpAny_weaker (A := (C.into fd.scope).A) rfl (Nat.le_refl _) rfl rfl (Nat.le_refl _) ?_
    refine wp_use (h _ Z _ _ s₁ k1) (fun f s' g st' Z' ρ' hz' hr rf hs' hq => ?_)
    have kk := hs'.rest hz' hz
    have e1 : s'.os = C.os := let ⟨_, q⟩ := hs'; q.os
    have e2 : C.gp s'.gens s'.drawn := let ⟨_, q⟩ := hs'; q.gens
    have e3 : ∀ p, C.pin = some p → ∀ ao, st'.heap 0 = some ao → ∃ o, s'.heap.get? p = some o ∧ OR C.w.params Z' ρ' ao o := fun p hp ao e => by
      obtain ⟨_, q⟩ := hs'
      obtain ⟨a', q1, _, o', q2, q3⟩ := q.objs 0 ao e
      rw [q.pin p hp] at q1; cases q1
      exact ⟨o', q2, q3⟩
    cases rf with
    | next => exact ⟨_, _, _, Z', ρ', rfl, hz', hr, .none, kk, e1, e2, e3, hq⟩
    | brk => exact ⟨_, _, _, Z', ρ', rfl, hz', hr, .none, kk, e1, e2, e3, hq⟩
    | cont => exact ⟨_, _, _, Z', ρ', rfl, hz', hr, .none, kk, e1, e2, e3, hq⟩
    | ret rv => exact ⟨_, _, _, Z', ρ', rfl, hz', hr, rv, kk, e1, e2, e3, hq⟩
end Mine
end
section -- MStrs
set_option maxRecDepth 100000
namespace Mine
open PySem PySem.W PyProof.Rows

section
variable {C : Fx} {st : St}
theorem op_str2 {α β : Type} {rel : PH → List Addr → β → α → Prop} {a b : Str} {f : Value → Value → Sem α} {Q : β → St → Prop}
    (h : ∀ env Z R ρ s t u, SR C env Z R ρ st s → wpAny C.M C.A (f (.str a t) (.str b u)) (Post C env Z R ρ rel Q) noE s) : JV C rel [.str a, .str b] (two f) st Q :=
  fun env Z R ρ s ws hs hw => by
    obtain ⟨x, y, rfl, h1, h2⟩ := inv2 hw
    obtain ⟨t, rfl⟩ := inv_str h1
    obtain ⟨u, rfl⟩ := inv_str h2
    exact h env Z R ρ s t u hs
theorem op_eqS {a b : Str} {Q : V → St → Prop} (h : Q (.bool (a == b)) st) : JV C VR [.str a, .str b] (two (compareOp .Eq)) st Q :=
  op_str2 fun env Z R ρ s t u hs => eq_str (SR.post hs (.bool _) h)
theorem op_neS {a b : Str} {Q : V → St → Prop} (h : Q (.bool (a != b)) st) : JV C VR [.str a, .str b] (two (compareOp .NotEq)) st Q :=
  op_str2 fun env Z R ρ s t u hs => ne_str (SR.post hs (.bool _) h)
theorem op_inS {y x : Str} {Q : V → St → Prop} (h : Q (.bool (!(Builtin.Str.occurrences x y 0 x.length 1).isEmpty)) st) : JV C VR [.str y, .str x] (two (compareOp .In)) st Q :=
  op_str2 fun env Z R ρ s t u hs => in_str (SR.post hs (.bool _) h)
theorem op_eqSN {a : Str} {Q : V → St → Prop} (h : Q (.bool false) st) : JV C VR [.str a, .none] (two (compareOp .Eq)) st Q :=
  fun env Z R ρ s ws hs hw => by
    obtain ⟨x, y, rfl, h1, h2⟩ := inv2 hw
    obtain ⟨t, rfl⟩ := inv_str h1
    obtain rfl := inv_none h2
    exact PySem.EqNone.eq_str_none (SR.post hs (.bool _) h)
theorem op_eqNN {Q : V → St → Prop} (h : Q (.bool true) st) : JV C VR [.none, .none] (two (compareOp .Eq)) st Q :=
  fun env Z R ρ s ws hs hw => by
    obtain ⟨x, y, rfl, h1, h2⟩ := inv2 hw
    obtain rfl := inv_none h1
    obtain rfl := inv_none h2
    exact PySem.EqNone.eq_none_none (SR.post hs (.bool _) h)
theorem tr_str {a : Str} {Q : Bool → St → Prop} (hsz : a.length ≤ sizeLine) (h : Q (a.length != 0) st) : JV C rBool [.str a] (one truthy) st Q :=
  fun env Z R ρ s ws hs hw => by
    obtain ⟨x, rfl, h1⟩ := inv1 hw
    obtain ⟨t, rfl⟩ := inv_str h1
    have e : ((a.length : Int) != 0) = (a.length != 0) := by
      rw [Bool.eq_iff_iff]; simp
    exact SBL.truthy (by rw [sizeLine_eq] at hsz; lia) (SR.post (b := a.length != 0) (hs.tok _) e h)
theorem op_addS {a b : Str} {Q : V → St → Prop} (hsz : a.length + b.length ≤ sizeLine) (h : Q (.str (a ++ b)) st) : JV C VR [.str a, .str b] (two (binaryOp .Add)) st Q :=
  op_str2 fun env Z R ρ s t u hs => wp_toks (add_str (fun t' k (hle : s.toks ≤ k) => SR.post (hs.tok _) (.str _ _) h) hsz)
theorem ip_addS {a b : Str} {Q : V → St → Prop} (hsz : a.length + b.length ≤ sizeLine) (h : Q (.str (a ++ b)) st) : JV C VR [.str a, .str b] (two (inplaceOp .Add)) st Q :=
  op_str2 fun env Z R ρ s t u hs => wp_toks (iadd_str (fun t' k (hle : s.toks ≤ k) => SR.post (hs.tok _) (.str _ _) h) hsz)
theorem ty_str {a : Str} {Q : V → St → Prop} (h : Q (.val (.type "str")) st) : JV C VR [.str a] (fun ws => call (.type "type") ws) st Q :=
  fun env Z R ρ s ws hs hw => by
    obtain ⟨x, rfl, h1⟩ := inv1 hw
    obtain ⟨t, rfl⟩ := inv_str h1
    exact call_type_of (Tx := "str") (typeIs_str _ _ _) (by decide +kernel) (SR.post hs (.val _) h)
theorem ty_int {a : Int} {Q : V → St → Prop} (h : Q (.val (.type "int")) st) : JV C VR [.int a] (fun ws => call (.type "type") ws) st Q :=
  fun env Z R ρ s ws hs hw => by
    obtain ⟨x, rfl, h1⟩ := inv1 hw
    obtain ⟨t, rfl⟩ := inv_int h1
    exact call_type_of (Tx := "int") rfl (by decide +kernel) (SR.post hs (.val _) h)
theorem int_int {a : Int} {Q : V → St → Prop} (h : Q (.int a) st) : JV C VR [.int a] (fun ws => call (.type "int") ws) st Q :=
  fun env Z R ρ s ws hs hw => by
    obtain ⟨x, rfl, h1⟩ := inv1 hw
    obtain ⟨t, rfl⟩ := inv_int h1
    exact call_int_int (SR.post hs (.int _ _) h)
theorem isi_str {a : Str} {Q : V → St → Prop} (h : Q (.bool true) st) : JV C VR [.str a, .val (.type "str")] (fun ws => call (.builtin "isinstance") ws) st Q :=
  fun env Z R ρ s ws hs hw => by
    obtain ⟨x, y, rfl, h1, h2⟩ := inv2 hw
    obtain ⟨t, rfl⟩ := inv_str h1
    cases h2
    exact PySem.IsiPair.str_str (SR.post hs (.bool _) h)
theorem b_lenS {a : Str} {Q : V → St → Prop} (hsz : a.length ≤ sizeLine) (h : Q (.int a.length) st) : JV C VR [.str a] (fun ws => call (.builtin "len") ws) st Q :=
  fun env Z R ρ s ws hs hw => by
    obtain ⟨x, rfl, h1⟩ := inv1 hw
    obtain ⟨t, rfl⟩ := inv_str h1
    exact SBL.len (by rw [sizeLine_eq] at hsz; lia) (SR.post (hs.tok _) (.int _ _) h)
theorem VRs.strs {Z : PH} {ρ : List Addr} : ∀ {ys : List Str} {ws : List Value}, VRs Z ρ (ys.map V.str) ws → StrsAre ws ys
  | [], _, .nil => .nil
  | y :: ys, _, .cons h t => by
    obtain ⟨u, rfl⟩ := inv_str h
    exact .cons _ _ t.strs
theorem op_inT {x : Str} {ys : List Str} {Q : V → St → Prop} (h : Q (.bool (ys.any (· == x))) st) : JV C VR [.str x, .tup (ys.map V.str)] (two (compareOp .In)) st Q :=
  fun env Z R ρ s ws hs hw => by
    obtain ⟨a, b, rfl, h1, h2⟩ := inv2 hw
    obtain ⟨t, rfl⟩ := inv_str h1
    obtain ⟨l, vs, n, rfl, hz, ri⟩ := h2.tup_inv
    exact in_tuple_strs ⟨_, hs.z_ hz, rfl, n, rfl⟩ ri.strs (SR.post hs (.bool _) h)

theorem Subscript_SliceT {prog : Program} {w : World} {A : Around} {E : Value → Shared → Prop} {s : Shared} {env : Env} {value : Expr} {lower upper : Option Expr} {p pos : Pos} {Q : Value → Shared → Prop}
    (h : wpAny (model prog w) A (eval value env) (fun o s₁ => wpAny (model prog w) A (eval (.Slice lower upper none p) env) (fun i s₂ => ItemOn (model prog w) A E o i Q s₂) E s₁) E s) :
    wpAny (model prog w) A (eval (.Subscript value (.Slice lower upper none p) pos) env) Q E s := by
  rw [eval_Subscript]
  refine wpAny_bind (wpAny_mono h (fun o s₁ h₁ => wpAny_bind (wpAny_holding (wpAny_mono h₁ (fun i s₂ h₂ => wpAny_bind (wpAny_standAt ?_)) fun _ _ x => x))) fun _ _ x => x)
  obtain ⟨T, id, hl, hT, hg⟩ := h₂
  have fin : wpAny (model prog w) A (operate [i, o] (getItem o i)) (fun r s₃ => wpAny (model prog w) A (letTemporaryGo value o r >>= fun _ => pure r) Q E s₃) E s₂ :=
    wpAny_operating (wpAny_mono hg (fun r s₃ h₃ => wpAny_bind (wpAny_letTemporaryGo (wpAny_pure h₃))) fun _ _ x => x)
  first
    | (refine wpAny_bind ?_; rw [getitemInPython_of_ne hT.not_modules]; refine wpAny_bind (wpAny_specialOf hT hl ?_))
    | refine wpAny_bind (wpAny_specialOf hT hl ?_)
  first
    | exact wpAny_pure (wpAny_bind fin)
    | exact wpAny_bind (wpAny_pure (wpAny_bind fin))
    | exact wpAny_bind fin

theorem ev_SliceS {value lo up : Expr} {p pos : Pos} {Q : V → St → Prop}
    (h : J C VR (eval value) st fun v st₁ => J C VR (eval lo) st₁ fun l st₂ => J C VR (eval up) st₂ fun u st₃ => ∃ x i j, v = .str x ∧ l = .int i ∧ u = .int j ∧ x.length ≤ sizeLine ∧ Q (.str (Txt.slice x (some i) (some j))) st₃) : J C VR (eval (.Subscript value (.Slice (some lo) (some up) none p) pos)) st Q :=
  fun env Z R ρ s hs => wp_toks (Subscript_SliceT (wp_use (h env Z R ρ s hs) (fun w s₁ v st₁ Z₁ ρ₁ hz₁ hr₁ rv hs₁ h₁ =>
    wpAny_Slice (evalPart_some_step (wp_use (h₁ env Z₁ R ρ₁ s₁ hs₁) (fun wl s₂ l st₂ Z₂ ρ₂ hz₂ hr₂ rl hs₂ h₂ =>
      evalPart_some_step (wp_use (h₂ env Z₂ R ρ₂ s₂ hs₂) (fun wu s₃ u st₃ Z₃ ρ₃ hz₃ hr₃ ru hs₃ hx => evalPart_none_step (by
        obtain ⟨x, i, j, e1, e2, e3, hsz, hq⟩ := hx
        subst e1; subst e2; subst e3
        obtain ⟨t, rfl⟩ := inv_str rv
        obtain ⟨tl, rfl⟩ := inv_int rl
        obtain ⟨tu, rfl⟩ := inv_int ru
        refine PySem.SBH.sliceItem_ss (P := fun h => ∀ b o, s₃.heap.get? b = some o → h.get? b = some o) (fun h ob k b o e => Heap.get?_push_of_some _ (k b o e)) (fun _ _ e => e) (fun h' t' k kp => ?_) hsz
        exact fun hle => ⟨_, st₃, Z₃, ρ₃, (hz₁.trans hz₂).trans hz₃, (hr₁.trans hr₂).trans hr₃, .str _ _, hs₃.keep0 kp (Nat.le_trans hs.tk_ hle), hq⟩)))))))))

noncomputable abbrev JB (C : Fx) (op : BoolOp) (es : List Expr) (st : St) (Q : Bool → St → Prop) : Prop := J C rBool (fun env => allTrue op es env) st Q
theorem tt_Bool {op : BoolOp} {es : List Expr} {pos : Pos} {Q : Bool → St → Prop} (h : JB C op es st Q) : JT C (.BoolOp op es pos) st Q :=
  fun env Z R ρ s hs => wpAny_isTrue_BoolOp (h env Z R ρ s hs)
theorem ta_nil {Q : Bool → St → Prop} (h : Q true st) : JB C .And [] st Q := fun env Z R ρ s hs => wpAny_allTrue_And_nil (SR.post hs rfl h)
theorem to_nil {Q : Bool → St → Prop} (h : Q false st) : JB C .Or [] st Q := fun env Z R ρ s hs => wpAny_allTrue_Or_nil (SR.post hs rfl h)
theorem ta_cons {x : Expr} {r : List Expr} {Q : Bool → St → Prop} (h : JT C x st fun b st₁ => (b = true → JB C .And r st₁ Q) ∧ (b = false → Q false st₁)) : JB C .And (x :: r) st Q :=
  fun env Z R ρ s hs => wpAny_allTrue_And_cons (wp_ite (h env Z R ρ s hs) (fun s₁ _ Z₁ ρ₁ hz hr hs₁ h1 => wp_up hz hr (h1 env Z₁ R ρ₁ s₁ hs₁)) fun s₁ st₁ Z₁ ρ₁ hz hr hs₁ h2 => ⟨false, st₁, Z₁, ρ₁, hz, hr, rfl, hs₁, h2⟩)
theorem to_cons {x : Expr} {r : List Expr} {Q : Bool → St → Prop} (h : JT C x st fun b st₁ => (b = true → Q true st₁) ∧ (b = false → JB C .Or r st₁ Q)) : JB C .Or (x :: r) st Q :=
  fun env Z R ρ s hs => wpAny_allTrue_Or_cons (wp_ite (h env Z R ρ s hs) (fun s₁ st₁ Z₁ ρ₁ hz hr hs₁ h1 => ⟨true, st₁, Z₁, ρ₁, hz, hr, rfl, hs₁, h1⟩) fun s₁ _ Z₁ ρ₁ hz hr hs₁ h2 => wp_up hz hr (h2 env Z₁ R ρ₁ s₁ hs₁))
end
end Mine
end
section -- MComp9
set_option maxRecDepth 100000
namespace Mine
open PySem PySem.W PyProof.Rows
section
variable {C : Fx} {st : St}
end
end Mine
end
section -- MComp10
set_option maxRecDepth 100000
namespace Mine
open PySem PySem.W PyProof.Rows
section
variable {C : Fx} {st : St}
theorem ev_SliceG {value : Expr} {lower upper : Option Expr} {p pos : Pos} {Q : V → St → Prop}
    (h : J C VR (eval value) st fun v st₁ => JP C lower st₁ fun lo st₂ => JP C upper st₂ fun hi st₃ => ∃ xs, Lis st₃ v xs ∧ xs.length ≤ sizeLine ∧ Q (.lst (sl lo hi xs)) st₃) : J C VR (eval (.Subscript value (.Slice lower upper none p) pos)) st Q :=
  fun env Z R ρ s hs => Subscript_SliceT (wp_use (h env Z R ρ s hs) (fun w s₁ v st₁ Z₁ ρ₁ hz₁ hr₁ rv hs₁ h₁ =>
    wpAny_Slice (wp_use (h₁ env Z₁ R ρ₁ s₁ hs₁) (fun wl s₂ lo st₂ Z₂ ρ₂ hz₂ hr₂ rl hs₂ h₂ =>
      wp_use (h₂ env Z₂ R ρ₂ s₂ hs₂) (fun wu s₃ hi st₃ Z₃ ρ₃ hz₃ hr₃ ru hs₃ ⟨xs, hl, hsz, hq⟩ => by
        obtain ⟨a, ws, k, rfl, ho, ri⟩ := hl.at_ hs₃ ((rv.mono hz₂ hr₂).mono hz₃ hr₃)
        have hlen := ri.toArr
        have hil : s₃.heap.IsList a ws := ⟨_, ho, rfl, _, rfl⟩
        obtain ⟨le1, k1⟩ := hs₃.allocZ { cls := .type "slice", data := .fields #[wl, wu, .none] } s₃.toks
        obtain ⟨le2, k2⟩ := k1.allocZ (lobj (slicePick ws lo hi none) 0) s₃.toks
        rw [evalPart_none]
        refine wpAny_pure ⟨"list", _, list_getitem_lookup, (hil.push _).typeIs, wpAny_getItem_list_slice (hil.push _) (Heap.IsSliceOf.new ..) rl ru .none (by simp) ?_ (by lia)⟩
        dsimp only at k2 le2 ⊢
        rw [Heap.size_push] at k2 le2 ⊢
        refine ⟨_, _, _, ρ₃, ((hz₁.trans hz₂).trans hz₃).trans (le1.trans le2), (hr₁.trans hr₂).trans hr₃, .lst (PH.put_self ..) ?_, k2, hq⟩
        have e := congrArg Array.toList (slicePick_plain ws lo hi)
        dsimp only at e
        rw [e]
        unfold sl
        rw [hlen]
        exact ((ri.drop _).take _).mono (le1.trans le2) (Ext.refl _))))))
theorem op_neR {a b : V} {Q : V → St → Prop} (e : a = b) (ok : okD a = true) (hu : C.u + (toD a).depth < cLine) (h : Q (.bool false) st) : JV C VR [a, b] (two (compareOp .NotEq)) st Q := by
  subst e
  refine op_neD ok ok (Nat.lt_of_le_of_lt (Nat.add_le_add_left (Nat.min_le_left _ _) _) hu) ?_
  rw [SeqAt.eqv_refl _ (canLay_toD ok)]
  exact h
end
end Mine
end
section -- MDeq
set_option maxRecDepth 100000
set_option maxHeartbeats 1000000
namespace Mine
open PySem PySem.W PyProof.Rows PySem.Builtin PySem.Builtin.Deque

noncomputable abbrev dqT : String := "collections.deque"
noncomputable abbrev dqO : Obj := { cls := .type "collections.deque", data := .fields #[.none, .int 0 0] }
theorem mro_dq : mroOf (.type dqT) = pure [.type "collections.deque", .type "object"] := by rw [mroOf_type]; kernel_rfl
theorem lookup_dq_new : typeLookup (.type dqT) "__new__" = pure (some (.builtin "collections.deque.__new__")) := by rw [typeLookup_type, builtinLookup_eq_fast]; kernel_rfl
theorem slot_dq_init : Slot dqT "__init__" "collections.deque.__init__" :=
  .of (owner := "collections.deque") (n := "__init__") (by rw [typeLookup_type, builtinLookup_eq_fast]; kernel_rfl) (by decide +kernel) (by decide +kernel) (by decide +kernel)
    (by first | exact .inl (by decide +kernel) | exact .inr (by decide +kernel)) (by rw [isSubtype_type]; kernel_rfl)
theorem slot_dq_len : Slot dqT "__len__" "collections.deque.__len__" :=
  .of (owner := "collections.deque") (n := "__len__") (by rw [typeLookup_type, builtinLookup_eq_fast]; kernel_rfl) (by decide +kernel) (by decide +kernel) (by decide +kernel)
    (by first | exact .inl (by decide +kernel) | exact .inr (by decide +kernel)) (by rw [isSubtype_type]; kernel_rfl)
theorem called_dq : TypeCalled dqT "collections.deque.__new__" "collections.deque.__init__" :=
  ⟨by decide +kernel, by decide +kernel, ⟨_, _, mro_dq⟩, madeBy_type mro_dq lookup_dq_new (by decide +kernel), by decide +kernel, by rw [isSubtype_type]; kernel_rfl, slot_dq_init⟩
theorem typeCall_dq : checkTypeCall dqT ⟨[], []⟩ = pure () := by kernel_rfl
theorem newCall_dq : checkBuiltinCall "collections.deque.__new__" ⟨[.type dqT], []⟩ = pure () := by kernel_rfl
theorem entry_dq_new : entryFor table "collections.deque.__new__" = some Builtin.«collections.deque.__new__» := entryFor_of_tree (by kernel_rfl)
theorem entry_dq_init : entryFor table "collections.deque.__init__" = some Builtin.«collections.deque.__init__» := entryFor_of_tree (by kernel_rfl)
theorem entry_dq_len : entryFor table "collections.deque.__len__" = some Builtin.«collections.deque.__len__» := entryFor_of_tree (by kernel_rfl)
theorem args_dq_init (a : Value) : argsOk "collections.deque.__init__" ⟨[a], []⟩ := by unfold argsOk; kernel_rfl
theorem args_dq_len (a : Value) : argsOk "collections.deque.__len__" ⟨[a], []⟩ := by unfold argsOk; kernel_rfl

theorem dq_new : Meets (Builtin.«collections.deque.__new__» ⟨[.type dqT], []⟩) (fun A R s => R (.ok (.ret (.ref s.heap.objs.size))) { s with heap := s.heap.push dqO }) :=
  .of_wp fun prog w A R s h => by
    have hsub := called_dq.sub
    obtain ⟨hp, g, d, tk, os⟩ := s
    have hsub2 : isSubtype (.type dqT) (.type ty) = pure true := called_dq.sub
    unfold Builtin.«collections.deque.__new__»
    wp_walk
    exact ⟨_, rfl, h⟩

theorem dq_init (x : Addr) : Meets (Builtin.«collections.deque.__init__» ⟨[.ref x], []⟩) (fun A R s => s.heap.get? x = some dqO ∧ ∀ h', (∀ b o, s.heap.get? b = some o → h'.get? b = some o) → R (.ok (.ret .none)) { s with heap := h' }) :=
  .of_wp fun prog w A R s h => by
    obtain ⟨hp, g, d, tk, os⟩ := s
    obtain ⟨hx, h⟩ := h
    have hu := Heap.get?_update_self (h := hp) (fun o => Obj.mapFields (fun vs => vs.setIfInBounds 0 .none) o) hx rfl
    have hk : ∀ b o, hp.get? b = some o → (hp.update x (fun o => Obj.mapFields (fun vs => vs.setIfInBounds 0 .none) o)).get? b = some o := fun b o e => by
      by_cases q : b = x
      · subst q; rw [hx] at e; cases e; exact hu
      · exact (Heap.SameBut.update ..).extBut b o q e
    unfold Builtin.«collections.deque.__init__»
    wp_walk
    exact ⟨_, rfl, h _ hk⟩

theorem noBool_dq : typeLookup (.type dqT) "__bool__" = pure none := by rw [typeLookup_type, builtinLookup_eq_fast]; kernel_rfl

section
variable {prog : Program} {w : World} {A : Around} {E : Value → Shared → Prop} {s : Shared}
theorem truthy_dq {x : Addr} {o : Obj} {Q : Bool → Shared → Prop} (ho : s.heap.get? x = some o) (hd : IsDeq o) (h : Q false { s with toks := s.toks + 1 + 1 }) : wpAny (model prog w) A (truthy (.ref x)) Q E s := by
  have hT : s.TypeIs (.ref x) dqT := ⟨_, ho, hd.1⟩
  have body : ∀ {A : Around} {E : Value → Shared → Prop} {Q : Value → Shared → Prop}, Q (.int 0 (s.toks + 1)) { s with toks := s.toks + 1 + 1 } → wpAny (model prog w) A (Builtin.«len» ⟨[.ref x], []⟩) (fun fin s' => ∃ r, fin = .done (.ret r) ∧ Q r s') E s := by
    intro A E Q h
    unfold Builtin.«len»
    refine wpAny_bind (m := oneArg "len" _) (wpAny_pure ?_)
    refine wpAny_bind (m := callSpecial? (.ref x) (Str.ofString "__len__")) (wpAny_callSpecial?_slot (name := Str.ofString "__len__") hT slot_dq_len
      (wpAny_call_entry slot_dq_len hT entry_dq_len ?_ (args_dq_len _)))
    unfold Builtin.«collections.deque.__len__» Deque.size
    refine wpAny_bind (wpAny_pure ?_)
    show wpAny _ _ ((fieldsOf (.ref x) >>= fun vs => pure (vs.size - 2)) >>= _) _ _ _
    refine wpAny_bind (wpAny_bind (wpAny_fieldsOf ho hd.2.1 (wpAny_pure ?_)))
    refine wpAny_bind (wpAny_mkInt (wpAny_pure ⟨_, rfl, ?_⟩))
    refine wpAny_bind (wpAny_holding (wpAny_pure ?_))
    refine wpAny_bind (wpAny_letGo ?_)
    exact wpAny_bind (wpAny_mkInt (wpAny_pure ⟨_, rfl, h⟩))
  have key : wpAny (model prog w) A (runValue (.builtin "len" ⟨[.ref x], []⟩)) (fun r s' => r = .int 0 (s.toks + 1) ∧ Q false s') E s := by
    refine wpAny_runValue (codeAny_builtin entry_len ?_)
    rw [Around.under_plainId plain_len _]
    exact wpAny_mono (body (Q := fun r s' => r = .int 0 (s.toks + 1) ∧ Q false s') ⟨rfl, h⟩)
      (fun fin s' h' => by obtain ⟨r, rfl, hq⟩ := h'; exact hq) fun _ _ e => e
  unfold truthy
  first
    | refine wpAny_bind (wpAny_callSpecial?_none (name := Str.ofString "__bool__") hT noBool_dq ?_)
    | refine wpAny_bind (wpAny_pure (wpAny_bind (wpAny_callSpecial?_none (name := Str.ofString "__bool__") hT noBool_dq ?_)))
  first
    | refine wpAny_bind (wpAny_specialOf (name := Str.ofString "__len__") hT slot_dq_len.lookup ?_)
    | refine wpAny_bind (wpAny_pure (wpAny_bind (wpAny_specialOf (name := Str.ofString "__len__") hT slot_dq_len.lookup ?_)))
  first
    | exact wpAny_bind (wpAny_mono key (fun r s' h' => by obtain ⟨rfl, hq⟩ := h'; exact wpAny_pure hq) fun _ _ e => e)
    | exact wpAny_bind (wpAny_pure (wpAny_bind (wpAny_mono key (fun r s' h' => by obtain ⟨rfl, hq⟩ := h'; exact wpAny_pure hq) fun _ _ e => e)))

theorem call_dq {Q : Value → Shared → Prop} (h : ∀ h', h'.get? s.heap.objs.size = some dqO → (∀ b o, (s.heap.push dqO).get? b = some o → h'.get? b = some o) → Q (.ref s.heap.objs.size) { s with heap := h' }) : wpAny (model prog w) A (call (.type dqT) []) Q E s :=
  callType_meets (Q₁ := fun obj s₁ => obj = .ref s.heap.objs.size ∧ s₁ = { s with heap := s.heap.push dqO }) called_dq typeCall_dq newCall_dq entry_dq_new entry_dq_init dq_new ⟨rfl, rfl⟩ fun obj s₁ e => by
    obtain ⟨rfl, rfl⟩ := e
    have hx := Heap.get?_push_size s.heap (o := dqO) rfl
    exact ⟨⟨_, hx, rfl⟩, args_dq_init _, _, dq_init _, hx, fun h' k => ⟨rfl, h h' (k _ _ hx) k⟩⟩
end

section
variable {C : Fx} {st : St}
theorem mk_deq {Q : V → St → Prop} (h : Q .deq st) : JV C VR [] (fun ws => call (.type "collections.deque") ws) st Q :=
  fun env Z R ρ s ws hs hw => by
    cases hw
    obtain ⟨le, k⟩ := hs.allocZ dqO s.toks
    refine call_dq fun h' e1 e2 => ?_
    exact ⟨_, _, _, ρ, le, Ext.refl _, .deq (PH.put_self ..) ⟨rfl, rfl, rfl⟩, k.keep e2, h⟩
theorem tr_deq {Q : Bool → St → Prop} (h : Q false st) : JV C rBool [.deq] (one truthy) st Q :=
  fun env Z R ρ s ws hs hw => by
    obtain ⟨x, rfl, h1⟩ := inv1 hw
    cases h1 with
    | deq hz hd => exact truthy_dq (hs.z_ hz) hd (SR.post (hs.tok _) rfl h)
end
end Mine
end
section -- MExt
set_option maxRecDepth 100000
set_option maxHeartbeats 1000000
/-! Rules that law 01 wants beyond those of law 03: l * n, l[-1], `<` of words. -/
namespace Mine
open PySem PySem.W PyProof.Rows
section
variable {C : Fx} {st : St}
end
end Mine
end
section -- MTup
set_option maxRecDepth 100000
namespace Mine
open PySem PySem.W PyProof.Rows
open PySem.AutoSeq1 (wpAny_loadPart')
open PySem.MeetsSeq PySem.MeetsSeq2 PySem.MeetsSeq3

noncomputable def iv (l : List (Int × Tok)) : List Value := l.map fun p => .int p.1 p.2
noncomputable abbrev pv (p : (Int × Tok) × (Int × Tok)) : Value × Value := (Value.int p.1.1 p.1.2, Value.int p.2.1 p.2.2)
theorem iv_zip : ∀ (xs ys : List (Int × Tok)), (iv xs).zip (iv ys) = (xs.zip ys).map pv
  | [], _ => rfl
  | _ :: _, [] => rfl
  | a :: l, b :: m => congrArg (_ :: ·) (iv_zip l m)
section
variable {C : Fx} {st : St}
noncomputable abbrev tV (l : List Int) : V := .tup (l.map .int)
theorem ints_iv {Z : PH} {ρ : List Addr} {ns : List Int} {ws : List Value} (h : VRs Z ρ (ns.map V.int) ws) : ∃ xs : List (Int × Tok), ws = iv xs ∧ xs.map (·.1) = ns := VRs.ints h
end
end Mine
end
section -- NRul
set_option maxRecDepth 100000
namespace Mine
open PySem PySem.W PyProof.Rows
section
variable {C : Fx} {st : St}
theorem SR.hh {env : Env} {Z R : PH} {ρ : List Addr} {s : Shared} (h : SR C env Z R ρ st s) (n : Nat) (e : (st.heap n).isSome) : n < st.nx := by
  obtain ⟨T, k⟩ := h
  obtain ⟨ao, e⟩ := Option.isSome_iff_exists.mp e
  obtain ⟨a, h1, _⟩ := k.objs n ao e
  rw [← k.nx]; exact (List.getElem?_eq_some_iff.mp h1).1
theorem jv_hh {α β : Type} {rel : PH → List Addr → β → α → Prop} {vs : List V} {f : List Value → Sem α} {Q : β → St → Prop} (h : (∀ n, (st.heap n).isSome → n < st.nx) → JV C rel vs f st Q) : JV C rel vs f st Q :=
  fun env Z R ρ s ws hs hw => h hs.hh env Z R ρ s ws hs hw
end
end Mine
end
section -- NRul2
set_option maxRecDepth 100000
namespace Mine
open PySem PySem.W PyProof.Rows
section
variable {prog : Program} {w : World} {A : Around} {E : Value → Shared → Prop} {s : Shared}
end
section
variable {C : Fx} {st : St}
end
end Mine
end
section -- PPark
/-! Plain facts of law 01: lines in and out of a heap, and the cars' wishes. -/
namespace Mine

theorem nodup_sub_len {l m : List Nat} (h : l.Nodup) (k : ∀ x ∈ l, x ∈ m) : l.length ≤ m.length := by
  induction l generalizing m with
  | nil => exact Nat.zero_le _
  | cons x l ih =>
    have hx := k x (.head _)
    rw [List.nodup_cons] at h
    have : ∀ y ∈ l, y ∈ m.erase x := fun y hy => by
      have ne : y ≠ x := fun e => h.1 (e ▸ hy)
      exact (List.mem_erase_of_ne ne).mpr (k y (.tail _ hy))
    have := ih h.2 this
    rw [List.length_erase_of_mem hx] at this
    have := List.length_pos_of_mem hx
    rw [List.length_cons]; lia

end Mine
end
section -- PSer
/-! the serial rule, in plain numbers -/
namespace Mine

noncomputable def top (G : Nat → Nat) (l : List Nat) : Nat := l.foldr (fun t m => max (G t) m) 0
noncomputable def sm (f : Nat → Nat) (l : List Nat) : Nat := (l.map f).sum

theorem top_app (G : Nat → Nat) : ∀ (l m : List Nat), top G (l ++ m) = max (top G l) (top G m)
  | [], m => (Nat.zero_max _).symm
  | t :: l, m => (congrArg (max (G t)) (top_app G l m)).trans (Nat.max_assoc ..).symm
theorem top_one (G : Nat → Nat) (t : Nat) : top G [t] = G t := Nat.max_zero _
theorem top_snoc (G : Nat → Nat) (l : List Nat) (t : Nat) : top G (l ++ [t]) = max (top G l) (G t) := by rw [top_app, top_one]
theorem top_mem (G : Nat → Nat) : ∀ {l : List Nat} {t : Nat}, t ∈ l → G t ≤ top G l
  | a :: l, t, h => by
    show _ ≤ max (G a) (top G l)
    rcases List.mem_cons.mp h with rfl | h
    · lia
    · have := top_mem G h; lia
theorem top_le (G : Nat → Nat) {n : Nat} : ∀ {l : List Nat}, (∀ t, t ∈ l → G t ≤ n) → top G l ≤ n
  | [], _ => Nat.zero_le _
  | a :: l, h => by
    show max (G a) (top G l) ≤ n
    have := top_le G (l := l) fun t ht => h t (List.mem_cons_of_mem _ ht)
    have := h a List.mem_cons_self
    lia
theorem top_congr {G G' : Nat → Nat} : ∀ {l : List Nat}, (∀ t, t ∈ l → G t = G' t) → top G l = top G' l
  | [], _ => rfl
  | a :: l, h => by
    show max (G a) (top G l) = max (G' a) (top G' l)
    rw [h a List.mem_cons_self, top_congr (l := l) fun t ht => h t (List.mem_cons_of_mem _ ht)]
theorem sm_app (f : Nat → Nat) (l m : List Nat) : sm f (l ++ m) = sm f l + sm f m := by unfold sm; rw [List.map_append, List.sum_append]
theorem sm_cons (f : Nat → Nat) (t : Nat) (l : List Nat) : sm f (t :: l) = f t + sm f l := rfl
theorem sm_snoc (f : Nat → Nat) (l : List Nat) (t : Nat) : sm f (l ++ [t]) = sm f l + f t := by rw [sm_app]; rfl
theorem sm_perm (f : Nat → Nat) {l m : List Nat} (h : l.Perm m) : sm f l = sm f m := (h.map f).sum_nat
theorem sm_congr {f g : Nat → Nat} {l : List Nat} (h : ∀ t, t ∈ l → f t = g t) : sm f l = sm g l := congrArg List.sum (List.map_congr_left h)
theorem sm_zero {f : Nat → Nat} : ∀ {l : List Nat}, (∀ t, t ∈ l → f t = 0) → sm f l = 0
  | [], _ => rfl
  | a :: l, h => by rw [sm_cons, h a List.mem_cons_self, sm_zero (l := l) fun t ht => h t (List.mem_cons_of_mem _ ht)]
theorem pre_ind {l : List Nat} {P : List Nat → Prop} (h0 : P []) (h1 : ∀ p t q, l = p ++ t :: q → P p → P (p ++ [t])) : ∀ (p q : List Nat), l = p ++ q → P p := by
  have : ∀ n (p q : List Nat), p.length = n → l = p ++ q → P p := by
    intro n
    induction n with
    | zero => intro p q hn _; rw [List.length_eq_zero_iff.mp hn]; exact h0
    | succ n ih =>
      intro p q hn hl
      have hne : p ≠ [] := by intro e; rw [e] at hn; cases hn
      have e : p.dropLast ++ [p.getLast hne] = p := List.dropLast_concat_getLast hne
      have hl' : l = p.dropLast ++ p.getLast hne :: q := by rw [hl]; conv => lhs; rw [← e]
                                                            simp
      rw [← e]
      exact h1 _ _ q hl' (ih _ _ (by rw [List.length_dropLast, hn]; rfl) hl')
  exact fun p q => this _ p q rfl

structure Serial (rw : Nat → List Nat) (A G : Nat → Nat) (S : Nat → Nat → Nat) : Prop where
  row : ∀ i, i < 4 → (rw i).Perm [0, 1, 2, 3]
  share : ∀ i, i < 4 → ∀ p t q, rw i = p ++ t :: q → S i t = G t - top G p
  all : ∀ t, t < 4 → S 0 t + S 1 t + S 2 t + S 3 t = A t

section
variable {rw : Nat → List Nat} {A G : Nat → Nat} {S X : Nat → Nat → Nat}
theorem Serial.lt (h : Serial rw A G S) {i t : Nat} (hi : i < 4) (ht : t ∈ rw i) : t < 4 := by
  have := (h.row i hi).subset ht
  simp only [List.mem_cons, List.not_mem_nil, or_false] at this
  lia
theorem Serial.mem (h : Serial rw A G S) {i t : Nat} (hi : i < 4) (ht : t < 4) : t ∈ rw i := by
  refine (h.row i hi).symm.subset ?_
  simp only [List.mem_cons, List.not_mem_nil, or_false]
  lia
theorem Serial.pre (h : Serial rw A G S) {i : Nat} (hi : i < 4) : ∀ (p q : List Nat), rw i = p ++ q → sm (S i) p = top G p :=
  pre_ind rfl fun p t q e ih => by rw [sm_snoc, top_snoc, ih, h.share i hi p t q e]; lia
theorem cut_le (h : Serial rw A G S) {j : Nat} (hj : j < 4) (T : Nat) : ∀ (p q : List Nat), rw j = p ++ q → sm (fun t => if G t ≤ T then S j t else 0) p ≤ min (top G p) T :=
  pre_ind (Nat.zero_le _) fun p t q e ih => by
    rw [sm_snoc, top_snoc, h.share j hj p t q e]
    split <;> lia
theorem Serial.envy (h : Serial rw A G S) {i j : Nat} (hi : i < 4) (hj : j < 4) {p q : List Nat} (e : rw i = p ++ q) : sm (S j) p ≤ sm (S i) p := by
  rw [h.pre hi p q e]
  have h1 : sm (S j) p = sm (fun t => if G t ≤ top G p then S j t else 0) p := sm_congr fun t ht => (if_pos (top_mem G ht)).symm
  have h2 : sm (fun t => if G t ≤ top G p then S j t else 0) (rw i) = sm (fun t => if G t ≤ top G p then S j t else 0) (rw j) := sm_perm _ ((h.row i hi).trans (h.row j hj).symm)
  have h3 := cut_le h hj (top G p) (rw j) [] (List.append_nil _).symm
  rw [e, sm_app] at h2
  lia

noncomputable def by_ (G : Nat → Nat) (T : Nat) : List Nat → List Nat × List Nat
  | [] => ([], [])
  | t :: l => if G t ≤ T then (t :: (by_ G T l).1, (by_ G T l).2) else ([], t :: l)
theorem by_app (G : Nat → Nat) (T : Nat) : ∀ (l : List Nat), l = (by_ G T l).1 ++ (by_ G T l).2
  | [] => rfl
  | t :: l => by
    unfold by_
    split
    · exact congrArg (t :: ·) (by_app G T l)
    · rfl
theorem by_in (G : Nat → Nat) (T : Nat) : ∀ (l : List Nat) (t : Nat), t ∈ (by_ G T l).1 → G t ≤ T
  | a :: l, t, h => by
    unfold by_ at h
    split at h
    · rcases List.mem_cons.mp h with rfl | h
      · assumption
      · exact by_in G T l t h
    · cases h
theorem by_out (G : Nat → Nat) (T : Nat) : ∀ (l : List Nat), (by_ G T l).2 = [] ∨ ∃ t r, (by_ G T l).2 = t :: r ∧ T < G t
  | [] => .inl rfl
  | a :: l => by
    unfold by_
    split
    · exact by_out G T l
    · exact .inr ⟨a, l, rfl, by lia⟩
theorem by_pre (G : Nat → Nat) (T : Nat) : ∀ (p q : List Nat), (∀ t, t ∈ p → G t ≤ T) → ∃ r, (by_ G T (p ++ q)).1 = p ++ r
  | [], q, _ => ⟨_, rfl⟩
  | a :: p, q, h => by
    obtain ⟨r, e⟩ := by_pre G T p q fun t ht => h t (List.mem_cons_of_mem _ ht)
    refine ⟨r, ?_⟩
    show (by_ G T (a :: (p ++ q))).1 = _
    unfold by_
    rw [if_pos (h a List.mem_cons_self), e]
    rfl
theorem Serial.late (h : Serial rw A G S) {i : Nat} (hi : i < 4) (T : Nat) : sm (fun t => if G t ≤ T then S i t else 0) (rw i) = sm (S i) (by_ G T (rw i)).1 := by
  have e := by_app G T (rw i)
  conv => lhs; rw [e, sm_app]
  rw [sm_congr (g := S i) (fun t ht => if_pos (by_in G T _ t ht))]
  rcases by_out G T (rw i) with h2 | ⟨t0, r, h2, h3⟩
  · rw [h2]; rfl
  · rw [sm_zero (l := (by_ G T (rw i)).2)]
    · rfl
    · intro t ht
      split
      · rename_i hg
        obtain ⟨a, b, hab⟩ := List.append_of_mem ht
        have hs := h.share i hi ((by_ G T (rw i)).1 ++ a) t b (by rw [List.append_assoc, ← hab]; exact e)
        have : T < top G a := by
          cases a with
          | nil => rw [h2] at hab; injection hab with q1 q2; subst q1; lia
          | cons a0 a => rw [h2] at hab; injection hab with q1 q2; subst q1; exact Nat.lt_of_lt_of_le h3 (top_mem G List.mem_cons_self)
        rw [hs, top_app]; lia
      · rfl
theorem sm4 (f : Nat → Nat) : sm f [0, 1, 2, 3] = f 0 + (f 1 + (f 2 + (f 3 + 0))) := rfl
theorem Serial.key (h : Serial rw A G S) (hX : ∀ t, t < 4 → X 0 t + X 1 t + X 2 t + X 3 t = A t) (τ : Nat)
    (h1 : ∀ i, i < 4 → ∀ p q, rw i = p ++ q → sm (S i) p < τ → sm (X i) p = sm (S i) p) (h2 : ∀ i, i < 4 → ∀ p q, rw i = p ++ q → τ ≤ sm (S i) p → τ ≤ sm (X i) p) :
    ∀ i, i < 4 → ∀ p q, rw i = p ++ q → sm (S i) p = τ → sm (X i) p = τ := by
  have cols : ∀ (Y : Nat → Nat → Nat), (∀ t, t < 4 → Y 0 t + Y 1 t + Y 2 t + Y 3 t = A t) →
      sm (fun t => if G t ≤ τ then Y 0 t else 0) (rw 0) + sm (fun t => if G t ≤ τ then Y 1 t else 0) (rw 1) + sm (fun t => if G t ≤ τ then Y 2 t else 0) (rw 2) + sm (fun t => if G t ≤ τ then Y 3 t else 0) (rw 3)
        = sm (fun t => if G t ≤ τ then A t else 0) [0, 1, 2, 3] := by
    intro Y hY
    rw [sm_perm _ (h.row 0 (by decide)), sm_perm _ (h.row 1 (by decide)), sm_perm _ (h.row 2 (by decide)), sm_perm _ (h.row 3 (by decide))]
    simp only [sm4]
    have a0 := hY 0 (by decide)
    have a1 := hY 1 (by decide)
    have a2 := hY 2 (by decide)
    have a3 := hY 3 (by decide)
    by_cases c0 : G 0 ≤ τ <;> by_cases c1 : G 1 ≤ τ <;> by_cases c2 : G 2 ≤ τ <;> by_cases c3 : G 3 ≤ τ <;> simp only [c0, c1, c2, c3, if_true, if_false] <;> lia
  have cS := cols S h.all
  have cX := cols X hX
  have low : ∀ i, i < 4 → sm (X i) (by_ G τ (rw i)).1 ≤ sm (fun t => if G t ≤ τ then X i t else 0) (rw i) := by
    intro i hi
    have e := by_app G τ (rw i)
    conv => rhs; rw [e, sm_app]
    rw [sm_congr (l := (by_ G τ (rw i)).1) (f := fun t => if G t ≤ τ then X i t else 0) (g := X i) (fun t ht => if_pos (by_in G τ _ t ht))]
    lia
  have tp : ∀ i, i < 4 → sm (S i) (by_ G τ (rw i)).1 ≤ τ := by
    intro i hi
    rw [h.pre hi _ _ (by_app G τ (rw i))]
    exact top_le G fun t ht => by_in G τ _ t ht
  have up : ∀ i, i < 4 → sm (S i) (by_ G τ (rw i)).1 ≤ sm (X i) (by_ G τ (rw i)).1 := by
    intro i hi
    have := tp i hi
    rcases Nat.lt_or_ge (sm (S i) (by_ G τ (rw i)).1) τ with h3 | h3
    · rw [h1 i hi _ _ (by_app G τ (rw i)) h3]; exact Nat.le_refl _
    · exact Nat.le_trans this (h2 i hi _ _ (by_app G τ (rw i)) h3)
  have eq : ∀ i, i < 4 → sm (X i) (by_ G τ (rw i)).1 = sm (S i) (by_ G τ (rw i)).1 := by
    rw [h.late (i := 0) (by decide), h.late (i := 1) (by decide), h.late (i := 2) (by decide), h.late (i := 3) (by decide)] at cS
    have l0 := low 0 (by decide)
    have l1 := low 1 (by decide)
    have l2 := low 2 (by decide)
    have l3 := low 3 (by decide)
    have u0 := up 0 (by decide)
    have u1 := up 1 (by decide)
    have u2 := up 2 (by decide)
    have u3 := up 3 (by decide)
    intro i hi
    match i, hi with
    | 0, _ => lia
    | 1, _ => lia
    | 2, _ => lia
    | 3, _ => lia
  intro i hi p q e hp
  have g1 := h2 i hi p q e (Nat.le_of_eq hp.symm)
  have hT := h.pre hi p q e
  obtain ⟨r, hr⟩ := by_pre G τ p q fun t ht => by have := top_mem G ht; lia
  rw [← e] at hr
  have g2 := eq i hi
  have g3 := tp i hi
  rw [hr, sm_app, sm_app] at g2
  rw [hr, sm_app] at g3
  lia
end
end Mine
end
section -- PEat
/-! law 04: the clock of the eating -/
namespace Mine

noncomputable def upf (f : Nat → Nat) (i v : Nat) : Nat → Nat := fun k => if k = i then v else f k
theorem upf_self (f : Nat → Nat) (i v : Nat) : upf f i v i = v := if_pos rfl
theorem upf_ne (f : Nat → Nat) {i k : Nat} (v : Nat) (h : k ≠ i) : upf f i v k = f k := if_neg h
noncomputable def b4 (f : Nat → Nat) : Nat := f 0 + f 1 + f 2 + f 3
theorem b4_congr {f g : Nat → Nat} (h : ∀ i, i < 4 → f i = g i) : b4 f = b4 g := by
  unfold b4; rw [h 0 (by decide), h 1 (by decide), h 2 (by decide), h 3 (by decide)]
theorem b4_up {f g : Nat → Nat} {i : Nat} (hi : i < 4) (h : ∀ j, j < 4 → j ≠ i → g j = f j) : b4 g + f i = b4 f + g i := by
  unfold b4
  match i, hi with
  | 0, _ => rw [h 1 (by decide) (by decide), h 2 (by decide) (by decide), h 3 (by decide) (by decide)]; lia
  | 1, _ => rw [h 0 (by decide) (by decide), h 2 (by decide) (by decide), h 3 (by decide) (by decide)]; lia
  | 2, _ => rw [h 0 (by decide) (by decide), h 1 (by decide) (by decide), h 3 (by decide) (by decide)]; lia
  | 3, _ => rw [h 0 (by decide) (by decide), h 1 (by decide) (by decide), h 2 (by decide) (by decide)]; lia
theorem late_one (c : Prop) [Decidable c] (s a b : Nat) (h : c → s ≤ a) (hab : a ≤ b) : (if c then b - s else 0) = (if c then a - s else 0) + (if c then 1 else 0) * (b - a) := by
  by_cases q : c
  · rw [if_pos q, if_pos q, if_pos q, Nat.one_mul]; have := h q; lia
  · rw [if_neg q, if_neg q, if_neg q, Nat.zero_mul]
theorem late4 (c : Nat → Prop) [∀ j, Decidable (c j)] (s : Nat → Nat) (a b : Nat) (h : ∀ j, j < 4 → c j → s j ≤ a) (hab : a ≤ b) :
    b4 (fun j => if c j then b - s j else 0) = b4 (fun j => if c j then a - s j else 0) + b4 (fun j => if c j then 1 else 0) * (b - a) := by
  show (if c 0 then b - s 0 else 0) + (if c 1 then b - s 1 else 0) + (if c 2 then b - s 2 else 0) + (if c 3 then b - s 3 else 0) = ((if c 0 then a - s 0 else 0) + (if c 1 then a - s 1 else 0) + (if c 2 then a - s 2 else 0) + (if c 3 then a - s 3 else 0)) + ((if c 0 then 1 else 0) + (if c 1 then 1 else 0) + (if c 2 then 1 else 0) + (if c 3 then 1 else 0)) * (b - a)
  rw [late_one (c 0) (s 0) a b (h 0 (by decide)) hab, late_one (c 1) (s 1) a b (h 1 (by decide)) hab, late_one (c 2) (s 2) a b (h 2 (by decide)) hab, late_one (c 3) (s 3) a b (h 3 (by decide)) hab]
  rw [Nat.add_mul, Nat.add_mul, Nat.add_mul]
  lia
theorem b4_le {c : Nat → Prop} [∀ j, Decidable (c j)] : b4 (fun j => if c j then 1 else 0) ≤ 4 := by
  have h : ∀ j, (if c j then 1 else 0) ≤ 1 := fun j => by split <;> lia
  have h0 := h 0
  have h1 := h 1
  have h2 := h 2
  have h3 := h 3
  show (if c 0 then 1 else 0) + (if c 1 then 1 else 0) + (if c 2 then 1 else 0) + (if c 3 then 1 else 0) ≤ 4
  lia
theorem b4_pos {c : Nat → Prop} [∀ j, Decidable (c j)] {i : Nat} (hi : i < 4) (h : c i) : 0 < b4 (fun j => if c j then 1 else 0) := by
  show 0 < (if c 0 then 1 else 0) + (if c 1 then 1 else 0) + (if c 2 then 1 else 0) + (if c 3 then 1 else 0)
  match i, hi with
  | 0, _ => rw [if_pos h]; lia
  | 1, _ => rw [if_pos h]; lia
  | 2, _ => rw [if_pos h]; lia
  | 3, _ => rw [if_pos h]; lia
theorem dvd12 {m : Nat} (h1 : 0 < m) (h2 : m ≤ 4) : m ∣ 12 := by
  match m, h1, h2 with
  | 1, _, _ => exact ⟨12, rfl⟩
  | 2, _, _ => exact ⟨6, rfl⟩
  | 3, _, _ => exact ⟨4, rfl⟩
  | 4, _, _ => exact ⟨3, rfl⟩
theorem split_at {α : Type} {p q r s : List α} {t : α} (h : p ++ q = r ++ t :: s) : (∃ z, p = r ++ t :: z) ∨ ∃ z, r = p ++ z := by
  rcases List.append_eq_append_iff.mp h with ⟨a, h1, h2⟩ | ⟨a, h1, h2⟩
  · exact .inr ⟨a, h1⟩
  · cases a with
    | nil => exact .inr ⟨[], by rw [h1, List.append_nil, List.append_nil]⟩
    | cons x a =>
      injection h2 with h3 h4
      subst h3
      exact .inl ⟨a, h1⟩
theorem sub_len4 {l : List Nat} (nd : l.Nodup) (h : ∀ t, t ∈ l → t < 4) : l.length ≤ 4 := nodup_sub_len (m := [0, 1, 2, 3]) nd fun t ht => by
  have := h t ht
  simp only [List.mem_cons, List.not_mem_nil, or_false]
  lia
theorem room4 {l : List Nat} (nd : l.Nodup) (h : ∀ t, t ∈ l → t < 4) {u : Nat} (hu : u < 4) (hn : u ∉ l) : l.length < 4 := by
  have := sub_len4 (l := u :: l) (List.nodup_cons.mpr ⟨hn, nd⟩) fun t ht => by
    rcases List.mem_cons.mp ht with rfl | ht
    · exact hu
    · exact h t ht
  exact this
theorem full4 {l : List Nat} (nd : l.Nodup) (h : ∀ t, t ∈ l → t < 4) (hl : 4 ≤ l.length) {u : Nat} (hu : u < 4) : u ∈ l := by
  refine Classical.byContradiction fun hn => ?_
  have := room4 nd h hu hn
  lia

structure Eat (rw : Nat → List Nat) (A : Nat → Nat) (gone free : List Nat) (G : Nat → Nat) (T : Nat) (L Th M E Si : Nat → Nat) (S : Nat → Nat → Nat) (pp : Nat → List Nat) (xs : List (Nat × Nat)) : Prop where
  row : ∀ i, i < 4 → (rw i).Perm [0, 1, 2, 3]
  gnd : gone.Nodup
  glt : ∀ t, t ∈ gone → t < 4
  fnd : free.Nodup
  flt : ∀ i, i ∈ free → i < 4
  pg : ∀ i, i < 4 → ∀ t, t ∈ pp i → t ∈ gone
  sh : ∀ i, i < 4 → ∀ p t q, pp i = p ++ t :: q → S i t = G t - top G p
  s0 : ∀ i, i < 4 → ∀ t, t < 4 → t ∉ pp i → S i t = 0
  fr : ∀ i, i ∈ free → top G (pp i) = T ∧ ∃ q, rw i = pp i ++ q
  bu : ∀ i, i < 4 → i ∉ free → E i ∉ gone ∧ Si i = top G (pp i) ∧ ∃ q, rw i = pp i ++ E i :: q
  gT : ∀ t, t ∈ gone → G t ≤ T
  mo : ∀ t, t < 4 → t ∉ gone → M t = b4 (fun i => if i ∉ free ∧ E i = t then 1 else 0)
  am : ∀ t, t < 4 → t ∉ gone → A t = L t + b4 (fun i => if i ∉ free ∧ E i = t then Th t - Si i else 0)
  le : ∀ i, i < 4 → i ∉ free → Si i ≤ Th (E i)
  tT : ∀ t, t < 4 → t ∉ gone → Th t ≤ T
  dv : ∀ t, t < 4 → t ∉ gone → 12 ^ (4 - gone.length) ∣ L t ∧ 12 ^ (4 - gone.length) ∣ Th t
  dT : 12 ^ (4 - gone.length) ∣ T
  done : ∀ t, t ∈ gone → b4 (fun i => S i t) = A t
  en : ∀ t, t < 4 → t ∉ gone → 0 < M t → (Th t + L t / M t, t) ∈ xs ∧ T ≤ Th t + L t / M t
  lo : ∀ e, e ∈ xs → e.2 < 4 ∧ (e.2 ∉ gone → 0 < M e.2 ∧ Th e.2 + L e.2 / M e.2 ≤ e.1)
  sz : xs.length + free.length ≤ 4 + 4 * gone.length

section
variable {rw : Nat → List Nat} {A : Nat → Nat} {gone free : List Nat} {G : Nat → Nat} {T : Nat} {L Th M E Si : Nat → Nat} {S : Nat → Nat → Nat} {pp : Nat → List Nat} {xs : List (Nat × Nat)}
theorem Eat.start (hr : ∀ i, i < 4 → (rw i).Perm [0, 1, 2, 3]) (hA : ∀ t, t < 4 → 12 ^ 4 ∣ A t) : Eat rw A [] [0, 1, 2, 3] (fun _ => 0) 0 A (fun _ => 0) (fun _ => 0) (fun _ => 0) (fun _ => 0) (fun _ _ => 0) (fun _ => []) [] where
  row := hr
  gnd := .nil
  glt := nofun
  fnd := by decide
  flt := by decide
  pg := nofun
  sh := fun i _ p t q e => by cases p <;> cases e
  s0 := fun _ _ _ _ _ => rfl
  fr := fun i hi => ⟨rfl, rw i, rfl⟩
  bu := fun i hi hn => absurd (show i ∈ [0, 1, 2, 3] by simp only [List.mem_cons, List.not_mem_nil, or_false]; lia) hn
  gT := nofun
  mo := fun t ht _ => rfl
  am := fun t ht _ => rfl
  le := fun _ _ _ => Nat.le_refl _
  tT := fun _ _ _ => Nat.le_refl _
  dv := fun t ht _ => ⟨hA t ht, Nat.dvd_zero _⟩
  dT := Nat.dvd_zero _
  done := nofun
  en := fun t _ _ h => absurd h (Nat.lt_irrefl _)
  lo := nofun
  sz := Nat.le_refl _
theorem Eat.gl (h : Eat rw A gone free G T L Th M E Si S pp xs) {t : Nat} (ht : t < 4) (hn : t ∉ gone) : gone.length < 4 := room4 h.gnd h.glt ht hn
theorem Eat.mM (h : Eat rw A gone free G T L Th M E Si S pp xs) {t : Nat} (ht : t < 4) (hn : t ∉ gone) (hm : 0 < M t) : M t ∣ L t ∧ M t ≤ 4 := by
  have h4 : M t ≤ 4 := by rw [h.mo t ht hn]; exact b4_le
  refine ⟨?_, h4⟩
  have h1 := dvd12 hm h4
  have h2 : 12 ∣ 12 ^ (4 - gone.length) := by
    have := h.gl ht hn
    obtain ⟨k, e⟩ : ∃ k, 4 - gone.length = k + 1 := ⟨3 - gone.length, by lia⟩
    rw [e, Nat.pow_succ]; exact Nat.dvd_mul_left _ _
  exact Nat.dvd_trans h1 (Nat.dvd_trans h2 (h.dv t ht hn).1)
theorem Eat.room (h : Eat rw A gone free G T L Th M E Si S pp xs) {t : Nat} (ht : t < 4) (hn : t ∉ gone) : (T - Th t) * M t ≤ L t := by
  rcases Nat.eq_zero_or_pos (M t) with e | e
  · rw [e, Nat.mul_zero]; exact Nat.zero_le _
  · have := (h.en t ht hn e).2
    have h2 : T - Th t ≤ L t / M t := by generalize L t / M t = c at this; lia
    exact Nat.le_trans (Nat.mul_le_mul_right _ h2) (Nat.div_mul_le_self _ _)
theorem Eat.join (h : Eat rw A gone free G T L Th M E Si S pp xs) {i t : Nat} {fr sk q : List Nat} (hf : free = i :: fr) (hq : rw i = (pp i ++ sk) ++ t :: q) (hs : ∀ u, u ∈ sk → u ∈ gone) (hn : t ∉ gone)
    {xs' : List (Nat × Nat)} (hp : xs'.Perm ((T + (L t - (T - Th t) * M t) / (M t + 1), t) :: xs)) :
    Eat rw A gone fr G T (upf L t (L t - (T - Th t) * M t)) (upf Th t T) (upf M t (M t + 1)) (upf E i t) (upf Si i T) S (fun j => if j = i then pp i ++ sk else pp j) xs' := by
  have hif : i ∈ free := by rw [hf]; exact .head _
  have hi : i < 4 := h.flt i hif
  have nd := h.fnd
  rw [hf, List.nodup_cons] at nd
  have hsub : ∀ j, j ∈ fr → j ∈ free := fun j hj => by rw [hf]; exact .tail _ hj
  have hne : ∀ j, j ∈ fr → j ≠ i := fun j hj e => nd.1 (e ▸ hj)
  have hfr : ∀ j, j ≠ i → (j ∉ fr ↔ j ∉ free) := fun j hj => by
    rw [hf, List.mem_cons]
    exact ⟨fun k q => q.elim hj k, fun k q => k (.inr q)⟩
  have ht : t < 4 := by
    have := (h.row i hi).subset (show t ∈ rw i by rw [hq]; exact List.mem_append.mpr (.inr (.head _)))
    simp only [List.mem_cons, List.not_mem_nil, or_false] at this
    lia
  have nodup : (rw i).Nodup := (h.row i hi).nodup_iff.mpr (by decide)
  obtain ⟨hT, _⟩ := h.fr i hif
  have topsk : top G (pp i ++ sk) = T := by
    rw [top_app, hT]
    have := top_le G (n := T) (l := sk) fun u hu => h.gT u (hs u hu)
    lia
  have hroom := h.room ht hn
  have hThT := h.tT t ht hn
  refine { row := h.row, gnd := h.gnd, glt := h.glt, fnd := nd.2, flt := fun j hj => h.flt j (hsub j hj), gT := h.gT, dT := h.dT, done := h.done, pg := ?_, sh := ?_, s0 := ?_, fr := ?_, bu := ?_, mo := ?_, am := ?_, le := ?_, tT := ?_, dv := ?_, en := ?_, lo := ?_, sz := ?_ }
  · intro j hj u hu
    by_cases e : j = i
    · rw [if_pos e] at hu
      rcases List.mem_append.mp hu with hu | hu
      · exact h.pg i hi u hu
      · exact hs u hu
    · rw [if_neg e] at hu; exact h.pg j hj u hu
  · intro j hj p u r e
    by_cases ej : j = i
    · rw [if_pos ej] at e
      subst ej
      rcases split_at e with ⟨z, e2⟩ | ⟨z, e2⟩
      · exact h.sh j hj p u z e2
      · subst e2
        rw [List.append_assoc] at e
        have e := List.append_cancel_left e
        have hu : u ∈ sk := by rw [e]; exact List.mem_append.mpr (.inr (.head _))
        have hnp : u ∉ pp j := fun hu2 => by
          rw [hq, List.append_assoc] at nodup
          exact (List.nodup_append.mp nodup).2.2 u hu2 u (List.mem_append.mpr (.inl hu)) rfl
        rw [h.s0 j hj u (h.glt u (hs u hu)) hnp, top_app, hT]
        have := h.gT u (hs u hu)
        lia
    · rw [if_neg ej] at e; exact h.sh j hj p u r e
  · intro j hj u hu hnu
    refine h.s0 j hj u hu fun k => hnu ?_
    by_cases e : j = i
    · rw [if_pos e]; subst e; exact List.mem_append.mpr (.inl k)
    · rw [if_neg e]; exact k
  · intro j hj
    rw [if_neg (hne j hj)]
    exact h.fr j (hsub j hj)
  · intro j hj hjf
    by_cases e : j = i
    · subst e
      rw [upf_self, upf_self, if_pos rfl, topsk]
      exact ⟨hn, rfl, q, hq⟩
    · rw [upf_ne _ _ e, upf_ne _ _ e, if_neg e]
      exact h.bu j hj ((hfr j e).mp hjf)
  · intro u hu hnu
    have key := b4_up (f := fun j => if j ∉ free ∧ E j = u then 1 else 0) (g := fun j => if j ∉ fr ∧ upf E i t j = u then 1 else 0) hi fun j _ e => by
      show (if _ then _ else _) = if _ then _ else _
      rw [upf_ne _ _ e]
      simp only [hfr j e]
    rw [if_neg (fun k => k.1 hif), upf_self] at key
    by_cases e : u = t
    · subst e
      rw [upf_self, h.mo u hu hnu]
      rw [if_pos ⟨nd.1, rfl⟩] at key
      lia
    · rw [upf_ne _ _ e, h.mo u hu hnu]
      rw [if_neg (fun k => e k.2.symm)] at key
      lia
  · intro u hu hnu
    have hA := h.am u hu hnu
    by_cases e : u = t
    · subst e
      rw [upf_self, upf_self]
      have key := b4_up (f := fun j => if j ∉ free ∧ E j = u then T - Si j else 0) (g := fun j => if j ∉ fr ∧ upf E i u j = u then T - upf Si i T j else 0) hi fun j _ e => by
        show (if _ then _ else _) = if _ then _ else _
        rw [upf_ne _ _ e, upf_ne _ _ e]
        simp only [hfr j e]
      rw [if_neg (fun k => k.1 hif), upf_self, upf_self, if_pos ⟨nd.1, rfl⟩, Nat.sub_self] at key
      have k2 := late4 (fun j => j ∉ free ∧ E j = u) Si (Th u) T (fun j hj k => by have := h.le j hj k.1; rw [k.2] at this; exact this) hThT
      have hm := h.mo u hu hnu
      rw [← hm, Nat.mul_comm] at k2
      lia
    · rw [upf_ne _ _ e, upf_ne _ _ e, hA]
      congr 1
      refine b4_congr fun j _ => ?_
      by_cases ej : j = i
      · subst ej
        rw [upf_self, if_neg (fun k => k.1 hif), if_neg (fun k => e k.2.symm)]
      · rw [upf_ne _ _ ej, upf_ne _ _ ej]
        simp only [hfr j ej]
  · intro j hj hjf
    by_cases e : j = i
    · subst e
      rw [upf_self, upf_self, upf_self]; exact Nat.le_refl _
    · rw [upf_ne _ _ e, upf_ne _ _ e]
      have := h.le j hj ((hfr j e).mp hjf)
      by_cases et : E j = t
      · rw [et, upf_self]; rw [et] at this; lia
      · rw [upf_ne _ _ et]; exact this
  · intro u hu hnu
    by_cases e : u = t
    · subst e; rw [upf_self]; exact Nat.le_refl _
    · rw [upf_ne _ _ e]; exact h.tT u hu hnu
  · intro u hu hnu
    obtain ⟨d1, d2⟩ := h.dv u hu hnu
    by_cases e : u = t
    · subst e
      rw [upf_self, upf_self]
      exact ⟨Nat.dvd_sub d1 (Nat.dvd_trans (Nat.dvd_sub h.dT d2) (Nat.dvd_mul_right _ _)), h.dT⟩
    · rw [upf_ne _ _ e, upf_ne _ _ e]; exact ⟨d1, d2⟩
  · intro u hu hnu hm
    by_cases e : u = t
    · subst e
      rw [upf_self, upf_self, upf_self]
      exact ⟨hp.mem_iff.mpr (.head _), Nat.le_add_right _ _⟩
    · rw [upf_ne _ _ e] at hm
      rw [upf_ne _ _ e, upf_ne _ _ e, upf_ne _ _ e]
      obtain ⟨k1, k2⟩ := h.en u hu hnu hm
      exact ⟨hp.mem_iff.mpr (.tail _ k1), k2⟩
  · intro e he
    rcases List.mem_cons.mp (hp.mem_iff.mp he) with rfl | he
    · dsimp only
      refine ⟨ht, fun _ => ?_⟩
      rw [upf_self, upf_self, upf_self]
      exact ⟨Nat.succ_pos _, Nat.le_refl _⟩
    · obtain ⟨k1, k2⟩ := h.lo e he
      refine ⟨k1, fun hne => ?_⟩
      obtain ⟨k3, k4⟩ := k2 hne
      by_cases et : e.2 = t
      · rw [et] at k3 k4 ⊢
        rw [upf_self, upf_self, upf_self]
        refine ⟨Nat.succ_pos _, Nat.le_trans ?_ k4⟩
        obtain ⟨⟨c, hc⟩, _⟩ := h.mM ht hn k3
        have e1 : L t / M t = c := by rw [hc, Nat.mul_div_cancel_left _ k3]
        have e2 : L t - (T - Th t) * M t = M t * (c - (T - Th t)) := by rw [hc, Nat.mul_sub, Nat.mul_comm (T - Th t)]
        have e3 : (L t - (T - Th t) * M t) / (M t + 1) ≤ c - (T - Th t) := by
          rw [e2]
          refine Nat.le_trans (Nat.div_le_div_right (c := M t + 1) (Nat.mul_le_mul_right (c - (T - Th t)) (Nat.le_succ (M t)))) ?_
          rw [Nat.mul_div_cancel_left _ (Nat.succ_pos _)]
          exact Nat.le_refl _
        have := (h.en t ht hn k3).2
        lia
      · rw [upf_ne _ _ et, upf_ne _ _ et, upf_ne _ _ et]; exact ⟨k3, k4⟩
  · have := h.sz
    rw [hf, List.length_cons] at this
    rw [hp.length_eq, List.length_cons]
    lia
theorem Eat.stale (h : Eat rw A gone [] G T L Th M E Si S pp xs) {e : Nat × Nat} {xs' : List (Nat × Nat)} (hp : (e :: xs').Perm xs) (hg : e.2 ∈ gone) : Eat rw A gone [] G T L Th M E Si S pp xs' where
  row := h.row
  gnd := h.gnd
  glt := h.glt
  fnd := h.fnd
  flt := h.flt
  pg := h.pg
  sh := h.sh
  s0 := h.s0
  fr := h.fr
  bu := h.bu
  gT := h.gT
  mo := h.mo
  am := h.am
  le := h.le
  tT := h.tT
  dv := h.dv
  dT := h.dT
  done := h.done
  en := fun t ht hn hm => by
    obtain ⟨k1, k2⟩ := h.en t ht hn hm
    rcases List.mem_cons.mp (hp.mem_iff.mpr k1) with q | q
    · rw [← q] at hg; exact absurd hg hn
    · exact ⟨q, k2⟩
  lo := fun x hx => h.lo x (hp.mem_iff.mp (.tail _ hx))
  sz := by have := h.sz; have := hp.length_eq; rw [List.length_cons] at this; lia
theorem Eat.hour (h : Eat rw A gone [] G T L Th M E Si S pp xs) {e : Nat × Nat} {xs' : List (Nat × Nat)} (hp : (e :: xs').Perm xs) (hg : e.2 ∉ gone) (hl : ∀ y, y ∈ xs → e.1 < y.1 ∨ e.1 = y.1 ∧ e.2 ≤ y.2) :
    e.2 < 4 ∧ 0 < M e.2 ∧ e.1 = Th e.2 + L e.2 / M e.2 ∧ T ≤ e.1 := by
  obtain ⟨k1, k2⟩ := h.lo e (hp.mem_iff.mp (.head _))
  obtain ⟨k3, k4⟩ := k2 hg
  obtain ⟨k5, k6⟩ := h.en e.2 k1 hg k3
  have := hl _ k5
  dsimp only at this
  exact ⟨k1, k3, by lia, by lia⟩
theorem top_ext {G : Nat → Nat} {t v : Nat} {l : List Nat} (h : t ∉ l) : top (upf G t v) l = top G l := top_congr fun u hu => upf_ne _ _ fun e => h (e ▸ hu)
theorem Eat.pop (h : Eat rw A gone [] G T L Th M E Si S pp xs) {e : Nat × Nat} {xs' : List (Nat × Nat)} (hp : (e :: xs').Perm xs) (hg : e.2 ∉ gone) (hl : ∀ y, y ∈ xs → e.1 < y.1 ∨ e.1 = y.1 ∧ e.2 ≤ y.2)
    {fr : List Nat} (fnd : fr.Nodup) (hf : ∀ i, i ∈ fr ↔ i < 4 ∧ E i = e.2) :
    Eat rw A (gone ++ [e.2]) fr (upf G e.2 e.1) e.1 L Th M E Si (fun i u => if u = e.2 ∧ i ∈ fr then e.1 - Si i else S i u) (fun i => if E i = e.2 then pp i ++ [e.2] else pp i) xs' := by
  obtain ⟨ht, hm, he, hT⟩ := h.hour hp hg hl
  obtain ⟨h', t⟩ := e
  dsimp only at ht hm he hT hg hf ⊢
  have hE : ∀ i, i < 4 → (i ∉ fr ↔ E i ≠ t) := fun i hi => by rw [hf]; exact ⟨fun k q => k ⟨hi, q⟩, fun k q => k q.2⟩
  have hn0 : ∀ i, i ∉ ([] : List Nat) := fun i => List.not_mem_nil
  have tp : ∀ i, i < 4 → t ∉ pp i := fun i hi k => hg (h.pg i hi t k)
  have hgl := h.gl ht hg
  have pw : 12 ^ (4 - gone.length) = 12 ^ (4 - (gone ++ [t]).length) * 12 := by
    rw [← Nat.pow_succ, List.length_append]
    congr 1
    show _ = 4 - (gone.length + 1) + 1
    lia
  have dvs : ∀ u, u < 4 → u ∉ gone → 12 ^ (4 - (gone ++ [t]).length) ∣ L u ∧ 12 ^ (4 - (gone ++ [t]).length) ∣ Th u := fun u hu hnu => by
    obtain ⟨d1, d2⟩ := h.dv u hu hnu
    rw [pw] at d1 d2
    exact ⟨Nat.dvd_trans (Nat.dvd_mul_right _ _) d1, Nat.dvd_trans (Nat.dvd_mul_right _ _) d2⟩
  have hsi : ∀ i, i < 4 → Si i ≤ h' := fun i hi => by
    have k1 := h.le i hi (hn0 i)
    by_cases q : E i = t
    · rw [q] at k1; generalize L t / M t = c at he; lia
    · obtain ⟨b1, _, r, b3⟩ := h.bu i hi (hn0 i)
      have hlt : E i < 4 := by
        have := (h.row i hi).subset (show E i ∈ rw i by rw [b3]; exact List.mem_append.mpr (.inr (.head _)))
        simp only [List.mem_cons, List.not_mem_nil, or_false] at this
        lia
      have := h.tT (E i) hlt b1
      lia
  have cnt : ∀ u, u ≠ t → ∀ j, j < 4 → ((j ∉ fr ∧ E j = u) ↔ (j ∉ ([] : List Nat) ∧ E j = u)) := fun u hu j hj =>
    ⟨fun k => ⟨hn0 j, k.2⟩, fun k => ⟨(hE j hj).mpr (by rw [k.2]; exact hu), k.2⟩⟩
  have notin : ∀ u, u ∉ gone ++ [t] → u ∉ gone ∧ u ≠ t := fun u hu => ⟨fun k => hu (List.mem_append.mpr (.inl k)), fun k => hu (List.mem_append.mpr (.inr (k ▸ .head _)))⟩
  refine { row := h.row, gnd := ?_, glt := ?_, fnd := fnd, flt := fun i hi => ((hf i).mp hi).1, gT := ?_, dT := ?_, done := ?_, pg := ?_, sh := ?_, s0 := ?_, fr := ?_, bu := ?_, mo := ?_, am := ?_, le := fun i hi _ => h.le i hi (hn0 i), tT := ?_, dv := ?_, en := ?_, lo := ?_, sz := ?_ }
  · refine List.nodup_append.mpr ⟨h.gnd, by simp, fun a ha b hb => ?_⟩
    rw [List.mem_singleton.mp hb]
    exact fun e => hg (e ▸ ha)
  · intro u hu
    rcases List.mem_append.mp hu with hu | hu
    · exact h.glt u hu
    · rw [List.mem_singleton.mp hu]; exact ht
  · intro i hi u hu
    by_cases q : E i = t
    · rw [if_pos q] at hu
      rcases List.mem_append.mp hu with hu | hu
      · exact List.mem_append.mpr (.inl (h.pg i hi u hu))
      · exact List.mem_append.mpr (.inr hu)
    · rw [if_neg q] at hu
      exact List.mem_append.mpr (.inl (h.pg i hi u hu))
  · intro i hi p u r hs
    have old : ∀ r', pp i = p ++ u :: r' → (if u = t ∧ i ∈ fr then h' - Si i else S i u) = upf G t h' u - top (upf G t h') p := fun r' e2 => by
      have hu : u ∈ pp i := by rw [e2]; exact List.mem_append.mpr (.inr (.head _))
      have hut : u ≠ t := fun k => tp i hi (k ▸ hu)
      rw [if_neg (fun k => hut k.1), upf_ne _ _ hut, top_ext (fun k => tp i hi (by rw [e2]; exact List.mem_append.mpr (.inl k)))]
      exact h.sh i hi p u r' e2
    by_cases q : E i = t
    · rw [if_pos q] at hs
      rcases split_at hs with ⟨z, e2⟩ | ⟨z, e2⟩
      · exact old z e2
      · subst e2
        rw [List.append_assoc] at hs
        have hs := List.append_cancel_left hs
        cases z with
        | nil =>
          injection hs with e3 e4
          subst e3
          rw [if_pos ⟨rfl, (hf i).mpr ⟨hi, q⟩⟩, upf_self, List.append_nil, top_ext (tp i hi), (h.bu i hi (hn0 i)).2.1]
        | cons a z =>
          injection hs with e3 e4
          cases z <;> cases e4
    · rw [if_neg q] at hs
      exact old r hs
  · intro i hi u hu hnu
    by_cases q : E i = t
    · rw [if_pos q] at hnu
      have h1 : u ∉ pp i := fun k => hnu (List.mem_append.mpr (.inl k))
      have h2 : u ≠ t := fun k => hnu (List.mem_append.mpr (.inr (k ▸ .head _)))
      rw [if_neg (fun k => h2 k.1)]
      exact h.s0 i hi u hu h1
    · rw [if_neg q] at hnu
      rw [if_neg (fun k => q ((hf i).mp k.2).2)]
      exact h.s0 i hi u hu hnu
  · intro i hif
    obtain ⟨hi, q⟩ := (hf i).mp hif
    obtain ⟨_, b2, r, b3⟩ := h.bu i hi (hn0 i)
    rw [if_pos q]
    refine ⟨?_, r, by rw [List.append_assoc, b3, q]; rfl⟩
    rw [top_app, top_one, upf_self, top_ext (tp i hi), ← b2]
    have := hsi i hi
    lia
  · intro i hi hnf
    have q := (hE i hi).mp hnf
    obtain ⟨b1, b2, b3⟩ := h.bu i hi (hn0 i)
    rw [if_neg q, top_ext (tp i hi)]
    refine ⟨fun k => ?_, b2, b3⟩
    rcases List.mem_append.mp k with k | k
    · exact b1 k
    · exact q (List.mem_singleton.mp k)
  · intro u hu
    by_cases q : u = t
    · rw [q, upf_self]; exact Nat.le_refl _
    · rw [upf_ne _ _ q]
      rcases List.mem_append.mp hu with hu | hu
      · have := h.gT u hu; lia
      · exact absurd (List.mem_singleton.mp hu) q
  · intro u hu hnu
    obtain ⟨n1, n2⟩ := notin u hnu
    rw [h.mo u hu n1]
    exact b4_congr fun j hj => by simp only [cnt u n2 j hj]
  · intro u hu hnu
    obtain ⟨n1, n2⟩ := notin u hnu
    rw [h.am u hu n1]
    congr 1
    exact b4_congr fun j hj => by simp only [cnt u n2 j hj]
  · intro u hu hnu
    have := h.tT u hu (notin u hnu).1
    lia
  · intro u hu hnu
    exact dvs u hu (notin u hnu).1
  · rw [he]
    refine Nat.dvd_add (dvs t ht hg).2 ?_
    obtain ⟨m12, hm12⟩ := dvd12 hm (h.mM ht hg hm).2
    obtain ⟨c, hc⟩ := (h.dv t ht hg).1
    rw [pw] at hc
    refine ⟨m12 * c, ?_⟩
    generalize 12 ^ (4 - (gone ++ [t]).length) = P at hc
    have : L t = M t * (P * (m12 * c)) := by rw [hc, hm12, Nat.mul_assoc, Nat.mul_assoc, Nat.mul_left_comm]
    rw [this, Nat.mul_div_cancel_left _ hm]
  · intro u hu
    by_cases q : u = t
    · subst q
      have e1 : b4 (fun i => if u = u ∧ i ∈ fr then h' - Si i else S i u) = b4 (fun i => if i ∉ ([] : List Nat) ∧ E i = u then h' - Si i else 0) := b4_congr fun i hi => by
        by_cases q : E i = u
        · rw [if_pos ⟨rfl, (hf i).mpr ⟨hi, q⟩⟩, if_pos ⟨hn0 i, q⟩]
        · rw [if_neg (fun k => q ((hf i).mp k.2).2), if_neg (fun k => q k.2)]
          exact h.s0 i hi u ht (tp i hi)
      have k2 := late4 (fun j => j ∉ ([] : List Nat) ∧ E j = u) Si (Th u) h' (fun j hj k => by have := h.le j hj k.1; rw [k.2] at this; exact this) (by rw [he]; exact Nat.le_add_right _ _)
      have hmo := h.mo u ht hg
      have ham := h.am u ht hg
      rw [← hmo, show h' - Th u = L u / M u by rw [he]; exact Nat.add_sub_cancel_left _ _, Nat.mul_div_cancel' (h.mM ht hg hm).1] at k2
      rw [e1]
      lia
    · have hug : u ∈ gone := by
        rcases List.mem_append.mp hu with hu | hu
        · exact hu
        · exact absurd (List.mem_singleton.mp hu) q
      rw [← h.done u hug]
      exact b4_congr fun i _ => if_neg fun k => q k.1
  · intro u hu hnu hmu
    obtain ⟨n1, n2⟩ := notin u hnu
    obtain ⟨k1, k2⟩ := h.en u hu n1 hmu
    rcases List.mem_cons.mp (hp.mem_iff.mpr k1) with q | q
    · exact absurd (congrArg Prod.snd q) n2
    · refine ⟨q, ?_⟩
      have := hl _ k1
      dsimp only at this
      lia
  · intro x hx
    obtain ⟨k1, k2⟩ := h.lo x (hp.mem_iff.mp (.tail _ hx))
    exact ⟨k1, fun k => k2 (notin _ k).1⟩
  · have h1 := h.sz
    have h2 := hp.length_eq
    have h3 := sub_len4 fnd fun i hi => ((hf i).mp hi).1
    rw [List.length_cons] at h2
    rw [List.length_append]
    simp only [List.length_nil, List.length_cons] at *
    lia
theorem Eat.more (h : Eat rw A gone free G T L Th M E Si S pp xs) (hg : gone.length < 4) {i : Nat} (hi : i < 4) {p q : List Nat} (e : rw i = p ++ q) (hp : ∀ t, t ∈ p → t ∈ gone) : ∃ t r, q = t :: r ∧ t < 4 := by
  cases q with
  | nil =>
    rw [List.append_nil] at e
    have h1 := (h.row i hi).length_eq
    have nd : (rw i).Nodup := (h.row i hi).nodup_iff.mpr (by decide)
    have := nodup_sub_len nd (m := gone) fun t ht => hp t (e ▸ ht)
    rw [h1] at this
    exact absurd hg (by simp only [List.length_cons, List.length_nil] at this; lia)
  | cons t r =>
    refine ⟨t, r, rfl, ?_⟩
    have := (h.row i hi).subset (show t ∈ rw i by rw [e]; exact List.mem_append.mpr (.inr (.head _)))
    simp only [List.mem_cons, List.not_mem_nil, or_false] at this
    lia
theorem Eat.tick (h : Eat rw A gone [] G T L Th M E Si S pp xs) : xs ≠ [] := fun e => by
  obtain ⟨b1, _, r, b3⟩ := h.bu 0 (by decide) List.not_mem_nil
  have hlt : E 0 < 4 := by
    have := (h.row 0 (by decide)).subset (show E 0 ∈ rw 0 by rw [b3]; exact List.mem_append.mpr (.inr (.head _)))
    simp only [List.mem_cons, List.not_mem_nil, or_false] at this
    lia
  have hm : 0 < M (E 0) := by
    rw [h.mo _ hlt b1]
    exact b4_pos (c := fun i => i ∉ ([] : List Nat) ∧ E i = E 0) (i := 0) (by decide) ⟨List.not_mem_nil, rfl⟩
  have := (h.en _ hlt b1 hm).1
  rw [e] at this
  exact List.not_mem_nil this
theorem Eat.end_ (h : Eat rw A gone free G T L Th M E Si S pp xs) (hg : 4 ≤ gone.length) : Serial rw A G S where
  row := h.row
  share := fun i hi p t q e => by
    have hif : i ∈ free := Classical.byContradiction fun k => by
      obtain ⟨b1, _, r, b3⟩ := h.bu i hi k
      have hlt : E i < 4 := by
        have := (h.row i hi).subset (show E i ∈ rw i by rw [b3]; exact List.mem_append.mpr (.inr (.head _)))
        simp only [List.mem_cons, List.not_mem_nil, or_false] at this
        lia
      exact b1 (full4 h.gnd h.glt hg hlt)
    obtain ⟨hT, r, e2⟩ := h.fr i hif
    have ht : t < 4 := by
      have := (h.row i hi).subset (show t ∈ rw i by rw [e]; exact List.mem_append.mpr (.inr (.head _)))
      simp only [List.mem_cons, List.not_mem_nil, or_false] at this
      lia
    rw [e2] at e
    rcases split_at e with ⟨z, e3⟩ | ⟨z, e3⟩
    · exact h.sh i hi p t z e3
    · have nd : (rw i).Nodup := (h.row i hi).nodup_iff.mpr (by decide)
      have hnp : t ∉ pp i := fun k => by
        rw [e2] at nd
        subst e3
        rw [List.append_assoc] at e
        have e := List.append_cancel_left e
        exact (List.nodup_append.mp nd).2.2 t k t (by rw [e]; exact List.mem_append.mpr (.inr (.head _))) rfl
      rw [h.s0 i hi t ht hnp, e3, top_app, hT]
      have := h.gT t (full4 h.gnd h.glt hg ht)
      lia
  all := fun t ht => h.done t (full4 h.gnd h.glt hg ht)
end
end Mine
end
section -- PSer2
namespace Mine

noncomputable def lexLess : List Int → List Int → Prop
  | a :: l, b :: m => a < b ∨ a = b ∧ lexLess l m
  | _, _ => False
theorem count_up {v : Int} {a : Int} {l : List Int} (h : (a :: l).Pairwise (· ≤ ·)) (hv : v < a) : (a :: l).count v = 0 := by
  refine List.count_eq_zero.mpr fun hm => ?_
  rcases List.mem_cons.mp hm with rfl | hm
  · lia
  · have := (List.pairwise_cons.mp h).1 v hm; lia
theorem lex_of_count (v : Int) : ∀ {l m : List Int}, l.Pairwise (· ≤ ·) → m.Pairwise (· ≤ ·) → l.length = m.length → (∀ u, u < v → l.count u = m.count u) → m.count v < l.count v → lexLess l m
  | [], [], _, _, _, _, h => absurd h (Nat.lt_irrefl _)
  | a :: l, b :: m, hl, hm, hn, h1, h2 => by
    by_cases e : a = b
    · subst e
      refine .inr ⟨rfl, lex_of_count v (List.pairwise_cons.mp hl).2 (List.pairwise_cons.mp hm).2 (Nat.succ.inj hn) (fun u hu => ?_) ?_⟩
      · have := h1 u hu
        rw [List.count_cons, List.count_cons] at this
        lia
      · rw [List.count_cons, List.count_cons] at h2
        lia
    · by_cases e2 : a < b
      · exact .inl e2
      · exfalso
        have hba : b < a := by lia
        have c0 : (a :: l).count b = 0 := count_up hl hba
        have c1 : 0 < (b :: m).count b := List.count_pos_iff.mpr List.mem_cons_self
        by_cases q : b < v
        · have := h1 b q; lia
        · by_cases q2 : b = v
          · subst q2; lia
          · have := count_up (v := v) hl (by lia); lia

theorem countP_lt {α : Type} {a b : α → Bool} : ∀ {P : List α}, (∀ p, p ∈ P → a p = true → b p = true) → (∃ q, q ∈ P ∧ b q = true ∧ a q = false) → P.countP a < P.countP b
  | [], _, ⟨_, h, _⟩ => nomatch h
  | p :: P, h, ⟨q, hq, h1, h2⟩ => by
    have hle : P.countP a ≤ P.countP b := List.countP_mono_left fun x hx k => h x (List.mem_cons_of_mem _ hx) k
    rw [List.countP_cons, List.countP_cons]
    rcases List.mem_cons.mp hq with rfl | hq
    · rw [h1, h2]; simp; lia
    · have ih := countP_lt (fun x hx => h x (List.mem_cons_of_mem _ hx)) ⟨q, hq, h1, h2⟩
      have := h p List.mem_cons_self
      cases ha : a p with
      | false => simp; lia
      | true => rw [this ha]; simp; lia
theorem least_of {P : Nat → Prop} : ∀ {m : Nat}, P m → ∃ j, P j ∧ ∀ i, i < j → ¬ P i := fun {m} => by
  induction m using Nat.strongRecOn with
  | _ m ih =>
    intro h
    by_cases k : ∃ i, i < m ∧ P i
    · obtain ⟨i, hi, hp⟩ := k; exact ih i hi hp
    · exact ⟨m, h, fun i hi hp => k ⟨i, hi, hp⟩⟩
theorem count_map {α : Type} (x : α → Nat) (u : Int) (P : List α) : (P.map fun p => (x p : Int)).count u = P.countP (fun p => decide ((x p : Int) = u)) := by
  rw [List.count_eq_countP, List.countP_map]
  refine List.countP_congr fun p _ => ?_
  simp
theorem lex_le {α : Type} {P : List α} {x s : α → Nat}
    (key : ∀ τ, (∀ p, p ∈ P → s p < τ → x p = s p) → (∀ p, p ∈ P → τ ≤ s p → τ ≤ x p) → ∀ p, p ∈ P → s p = τ → x p = τ)
    {l m : List Int} (hl : l.Pairwise (· ≤ ·)) (hm : m.Pairwise (· ≤ ·)) (pl : l.Perm (P.map fun p => (x p : Int))) (pm : m.Perm (P.map fun p => (s p : Int))) :
    (∀ p, p ∈ P → x p = s p) ∨ lexLess l m := by
  by_cases all : ∀ p, p ∈ P → x p = s p
  · exact .inl all
  right
  have ⟨p0, hp0, hx0⟩ : ∃ p, p ∈ P ∧ x p ≠ s p := by
    refine Classical.byContradiction fun k => all fun p hp => Classical.byContradiction fun q => k ⟨p, hp, q⟩
  obtain ⟨τ, ⟨p1, hp1, he1, hx1⟩, hτ⟩ := least_of (P := fun n => ∃ p, p ∈ P ∧ s p = n ∧ x p ≠ s p) ⟨p0, hp0, rfl, hx0⟩
  have low : ∀ p, p ∈ P → s p < τ → x p = s p := fun p hp h => Classical.byContradiction fun q => hτ _ h ⟨p, hp, rfl, q⟩
  have ⟨q0, hq0, hs0, hxq0⟩ : ∃ q, q ∈ P ∧ τ ≤ s q ∧ x q < τ := by
    refine Classical.byContradiction fun k => hx1 ?_
    rw [he1]
    exact key τ low (fun p hp h => Nat.le_of_not_lt fun q => k ⟨p, hp, h, q⟩) p1 hp1 he1
  obtain ⟨v, ⟨q, hq, hs, hv⟩, hmin⟩ := least_of (P := fun n => ∃ q, q ∈ P ∧ τ ≤ s q ∧ x q = n) ⟨q0, hq0, hs0, rfl⟩
  have hvτ : v < τ := by
    refine Nat.lt_of_le_of_lt (Nat.le_of_not_lt fun h => hmin _ h ⟨q0, hq0, hs0, rfl⟩) hxq0
  have hge : ∀ p, p ∈ P → τ ≤ s p → v ≤ x p := fun p hp h => Nat.le_of_not_lt fun k => hmin _ k ⟨p, hp, h, rfl⟩
  refine lex_of_count (v : Int) hl hm (by rw [pl.length_eq, pm.length_eq, List.length_map, List.length_map]) (fun u hu => ?_) ?_
  · rw [pl.count_eq, pm.count_eq, count_map, count_map]
    refine List.countP_congr fun p hp => ?_
    rcases Nat.lt_or_ge (s p) τ with h | h
    · rw [low p hp h]
    · have := hge p hp h
      simp only [decide_eq_true_eq]
      lia
  · rw [pl.count_eq, pm.count_eq, count_map, count_map]
    refine countP_lt (fun p hp h => ?_) ⟨q, hq, ?_, ?_⟩
    · simp only [decide_eq_true_eq] at h ⊢
      rw [low p hp (by lia)]; exact h
    · simp only [decide_eq_true_eq]; lia
    · simp only [decide_eq_false_iff_not]; lia
theorem lexLess_irr : ∀ {l m : List Int}, lexLess l m → l ≠ m
  | a :: l, b :: m, h, e => by
    injection e with e1 e2
    rcases h with h | ⟨_, h⟩
    · lia
    · exact lexLess_irr h e2

noncomputable def places : List (Nat × Nat) := (List.range 4).flatMap fun i => (List.range 4).map fun k => (i, k + 1)
theorem places_mem {p : Nat × Nat} : p ∈ places ↔ p.1 < 4 ∧ 1 ≤ p.2 ∧ p.2 ≤ 4 := by
  obtain ⟨i, k⟩ := p
  constructor
  · intro h
    simp only [places, List.mem_flatMap, List.mem_map, List.mem_range, Prod.mk.injEq] at h
    lia
  · rintro ⟨h1, h2, h3⟩
    simp only [places, List.mem_flatMap, List.mem_map, List.mem_range, Prod.mk.injEq]
    exact ⟨i, h1, k - 1, by lia, rfl, by lia⟩
section
variable {rw : Nat → List Nat} {A G : Nat → Nat} {S X : Nat → Nat → Nat}
noncomputable abbrev had (rw : Nat → List Nat) (S : Nat → Nat → Nat) (p : Nat × Nat) : Nat := sm (S p.1) ((rw p.1).take p.2)
theorem Serial.rowlen (h : Serial rw A G S) {i : Nat} (hi : i < 4) : (rw i).length = 4 := (h.row i hi).length_eq
theorem Serial.take_of (h : Serial rw A G S) {i : Nat} (hi : i < 4) {p q : List Nat} (e : rw i = p ++ q) : p = (rw i).take p.length ∧ p.length ≤ 4 := by
  refine ⟨by rw [e, List.take_left'] ; rfl, ?_⟩
  have := h.rowlen hi
  rw [e, List.length_append] at this
  lia
theorem Serial.lex (h : Serial rw A G S) (hX : ∀ t, t < 4 → X 0 t + X 1 t + X 2 t + X 3 t = A t) {l m : List Int} (hl : l.Pairwise (· ≤ ·)) (hm : m.Pairwise (· ≤ ·))
    (pl : l.Perm (places.map fun p => (had rw X p : Int))) (pm : m.Perm (places.map fun p => (had rw S p : Int))) : (∀ p, p ∈ places → had rw X p = had rw S p) ∨ lexLess l m := by
  refine lex_le (fun τ h1 h2 p hp hs => ?_) hl hm pl pm
  obtain ⟨hi, hk1, hk2⟩ := places_mem.mp hp
  refine h.key hX τ (fun i hi p q e hlt => ?_) (fun i hi p q e hle => ?_) p.1 hi ((rw p.1).take p.2) ((rw p.1).drop p.2) (List.take_append_drop _ _).symm hs
  · cases p with
    | nil => rfl
    | cons a p =>
      obtain ⟨e1, e2⟩ := h.take_of hi e
      have := h1 (i, (a :: p).length) (places_mem.mpr ⟨hi, Nat.succ_le_succ (Nat.zero_le _), e2⟩)
      unfold had at this
      rw [← e1] at this
      exact this hlt
  · cases p with
    | nil => exact hle
    | cons a p =>
      obtain ⟨e1, e2⟩ := h.take_of hi e
      have := h2 (i, (a :: p).length) (places_mem.mpr ⟨hi, Nat.succ_le_succ (Nat.zero_le _), e2⟩)
      unfold had at this
      rw [← e1] at this
      exact this hle
theorem Serial.same (h : Serial rw A G S) (hx : ∀ p, p ∈ places → had rw X p = had rw S p) : ∀ i t, i < 4 → t < 4 → X i t = S i t := by
  intro i t hi ht
  obtain ⟨p, q, e⟩ := List.append_of_mem (h.mem hi ht)
  have e2 : rw i = (p ++ [t]) ++ q := by rw [e, List.append_assoc]; rfl
  have H : ∀ p q, rw i = p ++ q → sm (X i) p = sm (S i) p := by
    intro p q e
    cases p with
    | nil => rfl
    | cons a p =>
      obtain ⟨e1, e2⟩ := h.take_of hi e
      have := hx (i, (a :: p).length) (places_mem.mpr ⟨hi, Nat.succ_le_succ (Nat.zero_le _), e2⟩)
      unfold had at this
      rw [← e1] at this
      exact this
  have a1 := H _ _ e
  have a2 := H _ _ e2
  rw [sm_snoc, sm_snoc] at a2
  lia
theorem had_congr (h : Serial rw A G S) (hx : ∀ i t, i < 4 → t < 4 → X i t = S i t) : ∀ p, p ∈ places → had rw X p = had rw S p := fun p hp => by
  have hi := (places_mem.mp hp).1
  exact sm_congr fun t ht => hx _ t hi (h.lt hi (List.mem_of_mem_take ht))
end
end Mine
end
section -- SNat
set_option maxRecDepth 100000
set_option maxHeartbeats 1000000
/-! Lists of natural numbers in the walk. -/
namespace Mine
open PySem PySem.W PyProof.Rows
noncomputable abbrev nV (n : Nat) : V := .int (n : Int)
theorem map_nV (l : List Nat) : l.map nV = (l.map fun n : Nat => (n : Int)).map .int := (List.map_map ..).symm
section
variable {C : Fx} {st : St}
theorem any_eqv (l : List Int) (x : Int) : ((toDs (l.map .int)).any fun y => PyData.eqv y (toD (.int x))) = decide (x ∈ l) := by
  induction l with
  | nil => rfl
  | cons a r ih =>
    rw [List.map_cons]
    show (PyData.eqv (.int a) (.int x) || (toDs (r.map .int)).any fun y => PyData.eqv y (toD (.int x))) = _
    rw [ih, eqv_int, ← Bool.decide_or]
    exact decide_eq_decide.mpr (by rw [List.mem_cons, eq_comm])
theorem op_inI {v : V} {l : List Int} {x : Int} {Q : V → St → Prop} (hv : Lis st v (l.map .int)) (hu : C.u ≤ 5000) (h : Q (.bool (decide (x ∈ l))) st) : JV C VR [.int x, v] (two (compareOp .In)) st Q :=
  op_in hv (okDs_int l) rfl (Nat.lt_of_le_of_lt (show _ ≤ 5000 + 1 + 1 by have := depth_int l; have := Nat.min_le_left (PyData.depthAll (toDs (l.map V.int))) (toD (V.int x)).depth; lia) (by decide)) (by rw [any_eqv]; exact h)
theorem op_notInI {v : V} {l : List Int} {x : Int} {Q : V → St → Prop} (hv : Lis st v (l.map .int)) (hu : C.u ≤ 5000) (h : Q (.bool (!decide (x ∈ l))) st) : JV C VR [.int x, v] (two (compareOp .NotIn)) st Q :=
  op_notIn hv (okDs_int l) rfl (Nat.lt_of_le_of_lt (show _ ≤ 5000 + 1 + 1 by have := depth_int l; have := Nat.min_le_left (PyData.depthAll (toDs (l.map V.int))) (toD (V.int x)).depth; lia) (by decide)) (by rw [any_eqv]; exact h)
theorem mem_cast {l : List Nat} {x : Nat} : (x : Int) ∈ (l.map fun n : Nat => (n : Int)) ↔ x ∈ l := by
  rw [List.mem_map]
  exact ⟨fun ⟨y, h, e⟩ => by have : y = x := by lia
                             exact this ▸ h, fun h => ⟨x, h, rfl⟩⟩
theorem op_inN {v : V} {l : List Nat} {x : Nat} {Q : V → St → Prop} (hv : Lis st v (l.map nV)) (hu : C.u ≤ 5000) (h : Q (.bool (decide (x ∈ l))) st) : JV C VR [nV x, v] (two (compareOp .In)) st Q :=
  op_inI (l := l.map fun n : Nat => (n : Int)) (by rw [← map_nV]; exact hv) hu (by rw [decide_eq_decide.mpr mem_cast]; exact h)
theorem sum_cast (l : List Nat) : (l.map fun n : Nat => (n : Int)).sum = (l.sum : Int) := by
  induction l with
  | nil => rfl
  | cons a r ih => rw [List.map_cons, List.sum_cons, List.sum_cons, ih]; push_cast; rfl
theorem b_sumN {v : V} {l : List Nat} {Q : V → St → Prop} (hv : Lis st v (l.map nV)) (h : Q (nV l.sum) st) : JV C VR [v] (fun ws => call (.builtin "sum") ws) st Q :=
  b_sum (ns := l.map fun n : Nat => (n : Int)) (by rw [← map_nV]; exact hv) (by rw [sum_cast]; exact h)
theorem itb_rngN (st : St) (n : Nat) (h : n ≤ 1000) : Itb st (.rng 0 (n : Int)) ((List.range n).map nV) := by
  have := itb_rng st (n := (n : Int)) (by lia) (by lia)
  rw [Int.toNat_natCast] at this
  unfold idxs at this
  rw [List.map_map] at this
  exact this
theorem range_at {n i : Nat} {x : V} (h : ((List.range n).map nV)[i]? = some x) : x = nV i ∧ i < n := by
  rw [List.getElem?_map] at h
  obtain ⟨y, h1, rfl⟩ := Option.map_eq_some_iff.mp h
  obtain ⟨h2, h3⟩ := List.getElem?_eq_some_iff.mp h1
  rw [List.getElem_range] at h3
  rw [List.length_range] at h2
  exact ⟨by rw [h3], h2⟩
theorem comp_filtN {scope : Scope} {iter : Expr} {ifs : List Expr} {x : Str} {px pe pos : Pos} {v : V} {k : NameKind} {Qi : List V → St → Prop} (l : List Nat) (p : Nat → Bool) (hv : Itb st v (l.map nV)) (hsz : l.length ≤ 100000)
    (hk : scope.names.lookup x = some k) (hkk : k = .local ∨ k = .cell)
    (tests : ∀ a ∈ l, JTs (C.comp scope) ifs ⟨setv x (nV a) (inner scope st.vars), st.heap, st.nx⟩ fun ok st₃ => ok = p a ∧ st₃ = ⟨setv x (nV a) (inner scope st.vars), st.heap, st.nx⟩)
    (fin : Qi ((l.filter p).map nV) st) (hc : (x == ("__classdict__" : Str)) = false := by decide) (hd : (x == ("__debug__" : Str)) = false := by decide) : CompIn C scope (.Name x pe) [⟨.Name x px, iter, ifs, 0⟩] pos st v Qi := by
  refine comp_core l nV (fun a o => (if p a then some (nV a) else none) = o) (setv x) hv (Nat.le_trans hsz (by decide)) (fun a _ vs => a_Name rfl (comp_lk hk hkk) hkk) (fun a b vs => setv_setv x a b vs) (fun a vs h => h.setv hk hkk a)
    (fun a ha => J.mono (tests a ha) fun ok st₃ q => ?_) fun ys h => ?_
  · rw [q.2, ← q.1]
    refine ⟨fun e => ?_, fun e => by rw [e]; exact ⟨rfl, rfl⟩⟩
    rw [e]
    exact ev_Name (lk_here _ _ _) (comp_lk hk hkk) ⟨rfl, rfl⟩ (hkk.imp id .inl) hc hd
  · have e : ∀ l : List Nat, (l.filterMap fun a => if p a then some (nV a) else none) = (l.filter p).map nV := fun l => by
      induction l with
      | nil => rfl
      | cons a r ih => rw [List.filterMap_cons, List.filter_cons, ih]; cases p a <;> rfl
    rw [h.fm, e]; exact fin
end
end Mine
end
section -- SOwn
set_option maxRecDepth 100000
/-! own lists in own lists; sorted(), tuple(), list() of a list, and which of two rows of numbers comes ahead -/
namespace Mine
open PySem PySem.W PyProof.Rows
open PySem.AutoSeq1 (wpAny_loadPart')
open PySem.MeetsSeq PySem.MeetsSeq2 PySem.MeetsSeq3
section
variable {C : Fx} {env : Env} {Z R : PH} {ρ : List Addr} {st : St} {s : Shared}
theorem SR.newZ (h : SR C env Z R ρ st s) {s' : Shared} {a : Addr} {o : Obj} (hn : s.heap.get? a = none) (ha : s'.heap.get? a = some o) (keep : ∀ b o, s.heap.get? b = some o → s'.heap.get? b = some o)
    (hos : s'.os = s.os := by rfl) (hg : s'.gens = s.gens := by rfl) (hdr : s'.drawn = s.drawn := by rfl) (htk : s.toks ≤ s'.toks := by exact Nat.le_refl _) :
    PH.le Z (Z.put a o) ∧ SR C env (Z.put a o) R ρ st s' := by
  obtain ⟨T, h⟩ := h
  have hz := h.znone hn
  have le := PH.le_put (o := o) hz
  refine ⟨le, fun b => if b = a then .z else T b, ?_⟩
  have k := ((h.retag hn .z).keep (s' := s') keep hos (by rw [hg, hdr]; exact h.gens) htk)
  exact { k with
    base := k.base.trans le
    z := fun b o' e => by
      by_cases q : b = a
      · subst q; rw [PH.put_self] at e; cases e
        exact ⟨if_pos rfl, ha⟩
      · rw [PH.put_ne _ _ q] at e; exact k.z b o' e
    objs := fun n ao e => let ⟨b, h1, h2, o', h3, h4⟩ := k.objs n ao e; ⟨b, h1, h2, o', h3, h4.mono le (Ext.refl _)⟩
    loc := let ⟨h1, m, h2, h3⟩ := k.loc; ⟨h1, m, h2, fun x v e1 e2 => let ⟨w, e3, e4⟩ := h3 x v e1 e2; ⟨w, e3, e4.mono le (Ext.refl _)⟩⟩
    cell := fun x kk h1 h2 => let ⟨c, o', h3, h4, h5, h6⟩ := k.cell x kk h1 h2; ⟨c, o', h3, h4, h5, fun v e => let ⟨w, e3, e4⟩ := h6 v e; ⟨w, e3, e4.mono le (Ext.refl _)⟩⟩ }
theorem SR.newO (h : SR C env Z R ρ st s) {s' : Shared} {a : Addr} {o : Obj} (ao : AO) (hr : OR C.w.params Z ρ ao o) (hn : s.heap.get? a = none) (ha : s'.heap.get? a = some o) (keep : ∀ b o, s.heap.get? b = some o → s'.heap.get? b = some o)
    (hos : s'.os = s.os := by rfl) (hg : s'.gens = s.gens := by rfl) (hdr : s'.drawn = s.drawn := by rfl) (htk : s.toks ≤ s'.toks := by exact Nat.le_refl _) :
    SR C env Z R (ρ ++ [a]) { st with heap := upd st.heap st.nx ao, nx := st.nx + 1 } s' := by
  obtain ⟨T, h⟩ := h
  have ex := Ext.snoc ρ a
  refine ⟨fun b => if b = a then .ob st.nx else T b, ?_⟩
  have k := ((h.retag hn (.ob st.nx)).keep (s' := s') keep hos (by rw [hg, hdr]; exact h.gens) htk)
  exact { k with
    nx := by rw [List.length_append, h.nx]; rfl
    pin := fun a e => ex _ _ (k.pin a e)
    objs := fun n ao' e => by
      by_cases q : n = st.nx
      · subst q
        dsimp only at e
        rw [upd_self] at e; cases e
        exact ⟨a, by rw [List.getElem?_append_right (by rw [h.nx]; exact Nat.le_refl _), h.nx, Nat.sub_self]; rfl, if_pos rfl, o, ha, hr.mono (PH.le.refl _) ex⟩
      · dsimp only at e
        rw [upd_ne _ _ q] at e
        obtain ⟨b, h1, h2, o', h3, h4⟩ := k.objs n ao' e
        exact ⟨b, ex _ _ h1, h2, o', h3, h4.mono (PH.le.refl _) ex⟩
    loc := let ⟨h1, m, h2, h3⟩ := k.loc; ⟨h1, m, h2, fun x v e1 e2 => let ⟨w, e3, e4⟩ := h3 x v e1 e2; ⟨w, e3, e4.mono (PH.le.refl _) ex⟩⟩
    cell := fun x kk h1 h2 => let ⟨c, o', h3, h4, h5, h6⟩ := k.cell x kk h1 h2; ⟨c, o', h3, h4, h5, fun v e => let ⟨w, e3, e4⟩ := h6 v e; ⟨w, e3, e4.mono (PH.le.refl _) ex⟩⟩ }
theorem SR.toO {a : Addr} {o : Obj} (h : SR C env Z (R.put a o) ρ st s) (hr : R a = none) (ao : AO) (hor : OR C.w.params Z ρ ao o) :
    SR C env Z R (ρ ++ [a]) { st with heap := upd st.heap st.nx ao, nx := st.nx + 1 } s := by
  obtain ⟨T, h⟩ := h
  have ra := h.r a o (PH.put_self ..)
  have ne : ∀ b, T b ≠ .r → b ≠ a := fun b q z => by subst z; exact q ra.1
  have ex := Ext.snoc ρ a
  refine ⟨fun b => if b = a then .ob st.nx else T b, ?_⟩
  exact {
    tk := h.tk
    base := h.base
    z := fun b o1 e => ⟨by rw [if_neg (ne b (tne (h.z b o1 e).1))]; exact (h.z b o1 e).1, (h.z b o1 e).2⟩
    r := fun b o1 e => by
      have q : b ≠ a := fun z => by subst z; rw [hr] at e; cases e
      rw [if_neg q]; exact h.r b o1 (by rw [PH.put_ne _ _ q]; exact e)
    nx := by rw [List.length_append, h.nx]; rfl
    objs := fun n ao' e => by
      by_cases q : n = st.nx
      · subst q
        dsimp only at e
        rw [upd_self] at e; cases e
        exact ⟨a, by rw [List.getElem?_append_right (by rw [h.nx]; exact Nat.le_refl _), h.nx, Nat.sub_self]; rfl, if_pos rfl, o, ra.2, hor.mono (PH.le.refl _) ex⟩
      · dsimp only at e
        rw [upd_ne _ _ q] at e
        obtain ⟨b, h1, h2, o', h3, h4⟩ := h.objs n ao' e
        exact ⟨b, ex _ _ h1, by rw [if_neg (ne b (tne h2))]; exact h2, o', h3, h4.mono (PH.le.refl _) ex⟩
    scope := h.scope
    kind := h.kind
    globals := h.globals
    builtins := h.builtins
    loc := let ⟨h1, m, h2, h3⟩ := h.loc; ⟨by rw [if_neg (ne _ (tne h1))]; exact h1, m, h2, fun x v e1 e2 => let ⟨w, e3, e4⟩ := h3 x v e1 e2; ⟨w, e3, e4.mono (PH.le.refl _) ex⟩⟩
    cell := fun x kk h1 h2 => let ⟨c, o', h3, h4, h5, h6⟩ := h.cell x kk h1 h2; ⟨c, o', h3, by rw [if_neg (ne c (tne h4))]; exact h4, h5, fun v e => let ⟨w, e3, e4⟩ := h6 v e; ⟨w, e3, e4.mono (PH.le.refl _) ex⟩⟩
    os := h.os
    gens := h.gens
    pin := fun b e => ex _ _ (h.pin b e)
    fl := fun b o e => ⟨by rw [if_neg (ne b (tne (h.fl b o e).1))]; exact (h.fl b o e).1, (h.fl b o e).2⟩
    fr := h.fr }
theorem SR.at_nx (h : SR C env Z R ρ st s) (a : Addr) : VR Z (ρ ++ [a]) (.obj st.nx) (.ref a) := by
  obtain ⟨T, hT⟩ := h
  exact .obj (by rw [List.getElem?_append_right (by rw [hT.nx]; exact Nat.le_refl _), hT.nx, Nat.sub_self]; rfl)

theorem x_AssignCompO {y : Str} {py spos : Pos} {scope : Scope} {elt target iter : Expr} {ifs : List Expr} {rest : List Comprehension} {pos : Pos} {Q : FlowA → St → Prop} (ok : compOk C.sc scope = true) (hy : C.sc.names.lookup y = some .local)
    (hsw : (spos, scope, y) = (spos, scope, y) ∧ py.line = pos.line ∧ (scope.names.any fun (n, k) => n == y && (k == .local || k == .cell)) = false := by refine ⟨rfl, rfl, rfl⟩)
    (h : J C VR (eval iter) st fun v st₁ => CompIn C scope elt (⟨target, iter, ifs, 0⟩ :: rest) pos st₁ v fun ys st' => Q .next { st' with vars := setv y (.obj st'.nx) st'.vars, heap := upd st'.heap st'.nx (.list ys), nx := st'.nx + 1 })
    (hs : ∀ env x, foldedSetIterable iter env x = pure x := by intro _ _; rfl) : JX1 C (.Assign [.Name y py] (.ListComp elt (⟨target, iter, ifs, 0⟩ :: rest) scope pos) spos) st Q :=
  fun env Z R ρ s hs' => by
    obtain ⟨hk, nd, hfree, hnames⟩ := compOk_spec ok
    obtain ⟨cl, hclos, hcl⟩ := closureFor_ok hs' nd hfree
    have sw : swapsWith (.ListComp elt (⟨target, iter, ifs, 0⟩ :: rest) scope pos) (some (.Name y py)) spos.line env = pure true := by
      unfold swapsWith Env.blockKind
      dsimp only
      have e1 := hs'.kind_
      have e2 := (hs'.kindOf_ y).trans hy
      rw [e1, e2, hsw.2.1, hsw.2.2]
      have e3 : (pos.line == pos.line) = true := beq_self_eq_true _
      show pure (_ && (pos.line == pos.line) && _) = _
      rw [e3]
      rfl
    rw [exec_Assign_Name_used _ _ _ _ sw]
    refine wpAny_bind (wpAny_standAt (wpAny_bind ?_))
    show wpAny _ C.A (do let _ ← comprehension (.ListComp elt (⟨target, iter, ifs, 0⟩ :: rest) scope pos) scope env _ (newList []) false (eval iter env) (some (assign (.Name y py) env))) _ _ s
    refine wpAny_bind (wpAny_mono (wpAny_comprehension_free (Q := fun _ s' => Post C env Z R ρ rFlow Q .next s') (use := some (assign (.Name y py) env)) rfl (hs env) hclos hk hnames (wp_use (h env Z R ρ s hs') (fun a s₁ v st₁ Z₁ ρ₁ hz₁ hr₁ rv hs₁ hin => ?_))) (fun _ s' q => wpAny_pure (wpAny_pure q)) fun _ _ e => e)
    refine comp_block ok hin hs₁ rv hcl (W := fun acc L => compPost C.M C.A noE (some (assign (.Name y py) env)) (fun _ s' => Post C env Z R ρ rFlow Q .next s') acc L) ?_
    intro D L oL m ys st' Z' ρ' ws k s' hz hr hs2 rD rL hne hn hy' hq
    have hDL : (R.put D (lobj ws k)).put L oL = (R.put L oL).put D (lobj ws k) := by
      funext b; unfold PH.put
      by_cases q : b = L
      · subst q; rw [if_pos rfl, if_neg hne, if_pos rfl]
      · rw [if_neg q, if_neg q]
    rw [hDL] at hs2
    have k2 := hs2.toO (by rw [PH.put_ne _ _ (Ne.symm hne)]; exact rD) (.list ys) (.list hy')
    refine wp_use (wpAny_assign_Name (store_ (Q := fun _ st'' => Q .next st'') hy hq (by decide) k2 (hs2.at_nx D))) (fun _ s'' _ st₃ Z₃ ρ₃ hz₃ hr₃ _ hs₃ hq₃ => ?_)
    have hL3 := hs₃.r_ (PH.put_self ..)
    have hL0 := k2.r_ (PH.put_self ..)
    obtain ⟨oo, es, ep, ho, hrest⟩ := id hn
    rw [hL0] at ho; cases ho
    refine ⟨m, ⟨_, es, ep, hL3, hrest⟩, fun h' hsb => ?_⟩
    have k3 := hs₃.lose (PH.le_put rL) (PH.put_self ..) rL (fun b o hb e => hsb.extBut b o hb e)
    exact ⟨_, _, Z₃, ρ₃, (hz₁.trans hz).trans hz₃, ((hr₁.trans hr).trans (Ext.snoc _ _)).trans hr₃, .next, k3, hq₃⟩

theorem VRs.uncons {u : V} {vs : List V} {ws : List Value} (h : VRs Z ρ (u :: vs) ws) : ∃ w ws', ws = w :: ws' ∧ VR Z ρ u w ∧ VRs Z ρ vs ws' := by
  cases h with
  | cons a b => exact ⟨_, _, rfl, a, b⟩
theorem VRs.subst {u v : V} {pre post : List V} {ws : List Value} (h : ∀ w, VR Z ρ u w → VR Z ρ v w) (k : VRs Z ρ (pre ++ u :: post) ws) : VRs Z ρ (pre ++ v :: post) ws := by
  induction pre generalizing ws with
  | nil => obtain ⟨w, ws', rfl, a, b⟩ := VRs.uncons k; exact .cons (h _ a) b
  | cons p pre ih => obtain ⟨w, ws', rfl, a, b⟩ := VRs.uncons k; exact .cons a (ih b)
theorem VRs.mid {u : V} {pre post : List V} {ws : List Value} (k : VRs Z ρ (pre ++ u :: post) ws) : ∃ w, VR Z ρ u w := by
  induction pre generalizing ws with
  | nil => obtain ⟨w, ws', rfl, a, b⟩ := VRs.uncons k; exact ⟨_, a⟩
  | cons p pre ih => obtain ⟨w, ws', rfl, a, b⟩ := VRs.uncons k; exact ih b
theorem SR.freezeIn (h : SR C env Z R ρ st s) {m n : Nat} {pre post xs : List V} (em : st.heap m = some (.list (pre ++ .obj n :: post))) (en : st.heap n = some (.list xs)) (hmn : m ≠ n) :
    ∃ Z', PH.le Z Z' ∧ SR C env Z' R ρ { st with heap := upd (del st.heap n) m (.list (pre ++ .lst xs :: post)) } s := by
  obtain ⟨am, om, hm1, hm2, hm3⟩ := h.obj em
  obtain ⟨ws, hw, ev⟩ : ∃ ws : Array Value, (∃ k, om = { cls := .type "list", data := .seq ws k }) ∧ VRs Z ρ (pre ++ .obj n :: post) ws.toList := by
    cases hm3 with
    | list q => exact ⟨_, ⟨_, rfl⟩, q⟩
  obtain ⟨w, hv⟩ := VRs.mid ev
  obtain ⟨Z', le, r2, k⟩ := h.freeze en hv
  refine ⟨Z', le, ?_⟩
  have same : ∀ w', VR Z' ρ (.obj n) w' → VR Z' ρ (.lst xs) w' := fun w' q => by
    cases q with
    | obj e1 => cases hv with
      | obj e2 => rw [e1] at e2; cases e2; exact r2
  obtain ⟨T, k⟩ := k
  exact ⟨T, { k with
    objs := fun j ao e => by
      by_cases q : j = m
      · subst q
        dsimp only at e
        rw [upd_self] at e; cases e
        obtain ⟨b, h1, h2, o', h3, h4⟩ := k.objs j _ ((del_ne _ hmn).trans em)
        refine ⟨b, h1, h2, o', h3, ?_⟩
        cases h4 with
        | list q => exact .list (VRs.subst same q)
      · dsimp only at e
        rw [upd_ne _ _ q] at e
        exact k.objs j ao e }⟩
theorem j_freezeIn {m : Env → Sem Value} {Q : V → St → Prop} (h : J C VR m st fun v st' => ∃ k n pre post xs, st'.heap k = some (.list (pre ++ .obj n :: post)) ∧ st'.heap n = some (.list xs) ∧ k ≠ n ∧ Q v { st' with heap := upd (del st'.heap n) k (.list (pre ++ .lst xs :: post)) }) : J C VR m st Q :=
  fun env Z R ρ s hs => wp_use (h env Z R ρ s hs) (fun w s' v st' Z' ρ' hz hr rv hs' hx => by
    obtain ⟨k, n, pre, post, xs, e1, e2, e3, hq⟩ := hx
    obtain ⟨Z'', le, q⟩ := hs'.freezeIn e1 e2 e3
    exact ⟨_, _, Z'', ρ', hz.trans le, hr, rv.mono le (Ext.refl _), q, hq⟩)
end
section
variable {C : Fx} {st : St}
theorem b_listL {v : V} {xs : List V} {Q : V → St → Prop} (hv : Lis st v xs) (hsz : xs.length ≤ sizeLine) (h : Q (.obj st.nx) { st with heap := upd st.heap st.nx (.list xs), nx := st.nx + 1 }) : JV C VR [v] (fun ws => call (.type "list") ws) st Q :=
  fun env Z R ρ s ws hs hw => by
    obtain ⟨y, rfl, h1⟩ := inv1 hw
    obtain ⟨a, its, k, rfl, ho, rs⟩ := hv.at_ hs h1
    have hl := rs.toArr
    refine call_list_seq a (.inl rfl) ho rfl rfl (fun h' c' keep ha => ?_) (by lia)
    exact ⟨_, _, Z, _, PH.le.refl _, Ext.snoc _ _, hs.at_nx _, hs.newO (s' := { s with heap := h' }) (.list xs) (.list rs) (fresh_none s.heap) ha keep, h⟩
theorem b_tupleL {v : V} {xs : List V} {Q : V → St → Prop} (hv : Lis st v xs) (hsz : xs.length ≤ sizeLine) (h : Q (.tup xs) st) : JV C VR [v] (fun ws => call (.type "tuple") ws) st Q :=
  fun env Z R ρ s ws hs hw => by
    obtain ⟨y, rfl, h1⟩ := inv1 hw
    obtain ⟨a, its, k, rfl, ho, rs⟩ := hv.at_ hs h1
    have hl := rs.toArr
    refine call_tuple_list ⟨_, ho, rfl, _, rfl⟩ (fun h' keep => ?_) (by lia)
    obtain ⟨le, hs2⟩ := (hs.keep (s' := { s with heap := h' }) keep).allocZ { cls := .type "tuple", data := .seq its } s.toks
    exact ⟨_, _, _, ρ, le, Ext.refl _, .tup (PH.put_self ..) (rs.mono le (Ext.refl _)), hs2, h⟩
theorem b_sorted {v : V} {ns : List Int} {Q : V → St → Prop} (hv : Lis st v (ns.map .int)) (hsz : ns.length < 64) (h : ∀ l : List Int, l.Perm ns → l.Pairwise (· ≤ ·) → Q (.lst (l.map .int)) st) : JV C VR [v] (fun ws => call (.builtin "sorted") ws) st Q :=
  fun env Z R ρ s ws hs hw => by
    obtain ⟨y, rfl, h1⟩ := inv1 hw
    obtain ⟨a, its, k, rfl, ho, rs⟩ := hv.at_ hs h1
    obtain ⟨xs, e1, e2⟩ := ints_iv rs
    have hI : IntsAre its.toList ns := by
      rw [e1, ← e2]
      clear e1 e2
      induction xs with
      | nil => exact .nil
      | cons p xs ih => exact .cons _ _ ih
    have hlen : its.toList.length < 64 := by rw [e1, iv, List.length_map, ← List.length_map (f := (·.1)), e2]; exact hsz
    refine sorted_ints (vs := its.toList) ⟨_, ho, rfl, _, rfl⟩ hI hlen fun out ns' hI' hp hs' => ?_
    obtain ⟨e, he⟩ := sortedAll_at s.heap its.toList out
    obtain ⟨le, hs2⟩ := hs.newZ (s' := { s with heap := sortedAll s.heap its.toList out }) (a := s.heap.objs.size + 1) (by
        cases q : s.heap.get? (s.heap.objs.size + 1) with
        | none => rfl
        | some o => exact absurd (Heap.lt_size q) (by lia)) he (fun b o e => sortedAll_old e)
    refine ⟨_, _, _, ρ, le, Ext.refl _, .lst (PH.put_self ..) ?_, hs2, h ns' hp hs'⟩
    revert hI'
    generalize out.toList = l
    intro hI'
    clear he hp hs'
    induction hI' with
    | nil => exact .nil
    | cons n t _ ih => exact .cons (.int _ _) ih
end
noncomputable def lexLe : List Int → List Int → Bool
  | a :: l, b :: m => if a = b then lexLe l m else decide (a < b)
  | _, _ => true
noncomputable abbrev lexY (z : List ((Int × Tok) × (Int × Tok))) : Bool := lexLe (z.map (·.1.1)) (z.map (·.2.1))
theorem lexY_zip : ∀ {xs ys : List (Int × Tok)}, xs.length = ys.length → lexY (xs.zip ys) = lexLe (xs.map (·.1)) (ys.map (·.1))
  | [], [], _ => rfl
  | a :: l, b :: m, h => by
    have ih := lexY_zip (xs := l) (ys := m) (by simpa using h)
    show (if _ then lexY (l.zip m) else _) = if _ then _ else _
    rw [ih]
theorem tuple_leN (l r : Addr) (xs ys : List (Int × Tok)) (hl2 : xs.length = ys.length) (n n2 : Nat) :
    Meets (Builtin.«tuple.__le__» ⟨[.ref l, .ref r], []⟩)
      (fun A R s => s.heap.get? l = some (tobj (iv xs).toArray n) ∧ s.heap.get? r = some (tobj (iv ys).toArray n2) ∧ R (.ok (.ret (.bool (lexLe (xs.map (·.1)) (ys.map (·.1)))))) s) :=
  .of_wp fun prog w A R s h => by
    obtain ⟨hp, g, dd, tk, os⟩ := s; obtain ⟨hl, hb, h⟩ := h
    have f2 := AutoSeq1.sub_tuple_tuple
    rw [← lexY_zip hl2] at h
    have eqi : ∀ (x y : Int) (t u : Tok), SeqAt.EqAt A.in1 ⟨hp, g, dd, tk, os⟩ (.int x t) (.int y u) (x == y) := fun x y t u => SeqAt.EqAt.int_int x t y u
    have lti : ∀ (x y : Int) (t u : Tok) (E' : Value → Shared → Prop) (Q' : Value → Shared → Prop), Q' (.bool (decide (x ≤ y))) ⟨hp, g, dd, tk, os⟩ → wpAny (model prog w) A.in1 (richCompare .LtE (.int x t) (.int y u)) Q' E' ⟨hp, g, dd, tk, os⟩ := fun x y t u E' Q' q => le_int q
    wp_walk using wpAny_loadPart' hl, wpAny_loadPart' hb, wpAny_forIn_list _ (fun rest q s' => q.1 = none ∧ s' = ⟨hp, g, dd, tk, os⟩ ∧ ∃ z, rest = z.map pv ∧ lexY z = lexY (xs.zip ys)) _
    case turn =>
      rintro ⟨y, x⟩ rest q s' ⟨hb', rfl, z, hr, hz⟩
      match z, hr, hz with
      | ((a, t), (b, u)) :: z, hr, hz =>
        injection hr with h1 h2
        injection h1 with h3 h4
        subst h3 h4 h2
        refine wpAny_bind (eqi a b t u prog w _ _ ?_)
        by_cases e : a = b
        · have e' : (a == b) = true := by simpa using e
          rw [e']
          wp_walk
          exact ⟨rfl, rfl, z, rfl, by rw [← hz]; show lexY z = if a = b then lexY z else _; rw [if_pos e]⟩
        · have e' : (a == b) = false := by simpa using e
          rw [e']
          have hz' : decide (a ≤ b) = lexY (xs.zip ys) := by
            rw [← hz]; show _ = if a = b then lexY z else _; rw [if_neg e]
            by_cases q : a < b
            · rw [decide_eq_true q, decide_eq_true (Int.le_of_lt q)]
            · rw [decide_eq_false q, decide_eq_false (by lia)]
          rw [← hz'] at h
          wp_walk using lti
          exact ⟨_, rfl, h⟩
    case fin =>
      rintro ⟨q1, q2⟩ s' ⟨hb', rfl, z, hr, hz⟩
      simp only at hb'
      subst hb'
      have : z = [] := List.map_eq_nil_iff.mp hr.symm
      subst this
      have hz' : true = lexY (xs.zip ys) := hz
      rw [← hz'] at h
      wp_walk
      refine ⟨_, rfl, ?_⟩
      have : (iv xs).length = (iv ys).length := by simp [iv, hl2]
      simpa [Builtin.Tuple.tupleCompareSizes, this] using h
    case h =>
      exact ⟨rfl, rfl, _, by show (iv xs).zip (iv ys) = _; exact iv_zip xs ys, rfl⟩
section
variable {C : Fx} {st : St}
theorem op_leN {l m : List Int} {Q : V → St → Prop} (hlen : l.length = m.length) (hu : C.u < cLine) (h : Q (.bool (lexLe l m)) st) : JV C VR [tV l, tV m] (two (compareOp .LtE)) st Q :=
  fun env Z R ρ s ws hs hw => by
    obtain ⟨x, y, rfl, h1, h2⟩ := inv2 hw
    obtain ⟨a1, w1, k1, rfl, hz1, r1⟩ := h1.tup_inv
    obtain ⟨a2, w2, k2, rfl, hz2, r2⟩ := h2.tup_inv
    obtain ⟨xs, e1, rfl⟩ := ints_iv r1
    obtain ⟨ys, e2, rfl⟩ := ints_iv r2
    have q1 : w1 = (iv xs).toArray := Array.toList_inj.mp e1
    have q2 : w2 = (iv ys).toArray := Array.toList_inj.mp e2
    subst q1 q2
    have ho1 := hs.z_ hz1
    have ho2 := hs.z_ hz2
    have T1 : s.TypeIs (.ref a1) "tuple" := ⟨_, ho1, rfl⟩
    have T2 : s.TypeIs (.ref a2) "tuple" := ⟨_, ho2, rfl⟩
    show wpAny _ _ (richCompare .LtE (.ref a1) (.ref a2)) _ _ s
    exact richCompare_meets_room (op := .LtE) T1 T2 F.slot_tuple_le F.entry_tuple_le (F.args_tuple_le_2 _ _) (tuple_leN a1 a2 xs ys (by simpa using hlen) k1 k2)
      ⟨ho1, ho2, show Value.bool (lexLe (xs.map (·.1)) (ys.map (·.1))) ≠ Value.notImplemented ∧ Post C env Z R ρ VR Q (.bool (lexLe (xs.map (·.1)) (ys.map (·.1)))) s from ⟨(fun x => nomatch x), SR.post hs (.bool _) h⟩⟩ hu
end
end Mine
end
section -- Said04
set_option maxRecDepth 100000
open PySem PySem.W
namespace Mine
noncomputable abbrev rw0 : OpenLaw := PySem.Challenge.rw_oy0341_04
noncomputable def wp0 (p : Program) : Bool := sreFenced p.main
noncomputable def wp1 (p : Program) : Bool := ((moduleNames p.main.body).isEmpty || lookedIntoSs (moduleNames p.main.body) p.main.body)
noncomputable def wp2 (p : Program) : Bool := namesResolve p
noncomputable def wp3 (p : Program) : Bool := p.boundNames.all fun n => !worldNames.contains n
noncomputable def wp4 (p : Program) : Bool := noRoadLSs { strict := !(importedModules p.main.body).all cThrough.contains, foot := none, bare := List.filter (readsOut p p.main.body) [Str.ofString "vars", Str.ofString "dir", Str.ofString "locals"] } p.main.body
noncomputable def wp5 (p : Program) : Bool := namesMeet p p.main.body fun x n => attrL n
noncomputable def wr0 (r : OpenRow) : Bool := r.loose.isEmpty
noncomputable def wr1 (r : OpenRow) : Bool := r.makers.isEmpty
noncomputable def wr2 (r : OpenRow) : Bool := (List.isEmpty r.records || r.raises.all fun ct => ct.fst != ExcName.builtin "AttributeError" && ct.fst != ExcName.builtin "TypeError")
noncomputable def wr3 (r : OpenRow) : Bool := (r.raises.all fun ct => match ct.fst with | ExcName.builtin n => !r.prog.boundNames.contains (Str.ofString n) && !ofTheWorld.contains n | ExcName.own name => true)
noncomputable def wr4 (r : OpenRow) : Bool := decide (List.map (fun x => x.fst) r.records).Nodup
noncomputable def wr5 (r : OpenRow) : Bool := (List.all r.records fun x => !x.fst.opensWith (Str.ofString "__") && !builtinNamed x.fst && r.prog.boundNames.contains x.fst && x.snd.all fun f => !f.fst.opensWith (Str.ofString "__"))
noncomputable def wr6 (r : OpenRow) : Bool := r.solid
noncomputable def wr7 (r : OpenRow) : Bool := r.pre.litsOk
noncomputable def wr8 (r : OpenRow) : Bool := r.post.litsOk
noncomputable def wr9 (r : OpenRow) : Bool := (r.raises.all fun x => x.snd.litsOk)
noncomputable def wr10 (r : OpenRow) : Bool := (r.mutates.all fun i => match r.args[i]? with | some sh => !sh.arms.any WShape.isObj | none => false)
noncomputable def wr11 (r : OpenRow) : Bool := (r.within.all fun i => decide (i < r.args.length))
noncomputable def wr12 (r : OpenRow) : Bool := Option.all (fun i => decide (i < r.args.length)) r.same
noncomputable def wq0 (r : OpenRow) : Bool := r.prog.boundNames.contains r.name
noncomputable def wq1 (r : OpenRow) : Bool := !startupNames.contains r.name
noncomputable def wl0 (l : OpenLaw) : Bool := decide (l.foot ≤ (behindTheImports l.prog).length)
noncomputable def wl1 (l : OpenLaw) : Bool := l.footing.all footLine
noncomputable def wl2 (l : OpenLaw) : Bool := noClassBlock l.prog l.footing
noncomputable def wl3 (l : OpenLaw) : Bool := l.most.all (fun n => decide (63 ≤ n))
noncomputable def wl4 (l : OpenLaw) : Bool := l.bound.all (fun n => decide (2 ^ 63 ≤ n))
noncomputable def wl5 (l : OpenLaw) : Bool := noRoadLSs { strict := true, foot := some l.bound', writes := l.writes, may := l.may } l.footing
noncomputable def wl6 (l : OpenLaw) : Bool := defStands l.about l.above
noncomputable def wl7 (l : OpenLaw) : Bool := l.namesIt
noncomputable def wl8 (l : OpenLaw) : Bool := (["type", "isinstance", "issubclass", "getattr", "hasattr"] : List Str).all (fun n => l.about != [n])
noncomputable def wl9 (l : OpenLaw) : Bool := l.bound'.all (fun n => !builtinNamed n || l.about == [n] || !l.reads n)
noncomputable def wl10 (l : OpenLaw) : Bool := (!l.writes || (l.prog.main.body.flatMap importedNames).all fun n => !l.reads n)
noncomputable def wl11 (l : OpenLaw) : Bool := (l.prog.main.body.flatMap importedNames).all (fun n => !l.reads n || (drawsOf n l.prog.main.body).all fun mn => mn.2 != ("attrgetter" : Str) && mn.2 != ("methodcaller" : Str))
noncomputable def wl12 (l : OpenLaw) : Bool := namesMeet l.prog l.footing (fun sc n => (!(["type", "isinstance", "issubclass", "getattr", "hasattr"] : List Str).contains n || sc.names.lookup n == some .globalImplicit) && (l.may != some n || sc.kind == .module || sc.names.lookup n == some .globalImplicit))
noncomputable def wl13 (l : OpenLaw) : Bool := l.own.contains l.name
noncomputable def wl14 (l : OpenLaw) : Bool := l.own.eraseDups.length == l.own.length
noncomputable def wl15 (l : OpenLaw) : Bool := l.own.all (fun n => !builtinNamed n)
noncomputable def wl16 (l : OpenLaw) : Bool := namesMeet l.prog l.above (fun _ n => !l.own.contains n)
noncomputable def wl17 (l : OpenLaw) : Bool := namesMeet l.prog l.footing fun sc n => sc.kind == .module || sc.names.lookup n != some .globalExplicit
theorem k_wp0 : kp wp0 = true := by k_qdec
theorem k_wp1 : kp wp1 = true := by k_qdec
theorem k_wp2 : kp wp2 = true := by k_qdec
theorem k_wp3 : kp wp3 = true := by k_qdec
theorem k_wp4 : kp wp4 = true := by k_qdec
theorem k_wp5 : kp wp5 = true := by k_qdec
theorem k_wr2 : kp wr2 = true := by k_qdec
theorem k_wr3 : kp wr3 = true := by k_qdec
theorem k_wr4 : kp wr4 = true := by k_qdec
theorem k_wr5 : kp wr5 = true := by k_qdec
theorem k_wr6 : kp wr6 = true := by k_qdec
theorem k_wr7 : kp wr7 = true := by k_qdec
theorem k_wr8 : kp wr8 = true := by k_qdec
theorem k_wr9 : kp wr9 = true := by k_qdec
theorem k_wr10 : kp wr10 = true := by k_qdec
theorem k_wr11 : kp wr11 = true := by k_qdec
theorem k_wq0 : kp wq0 = true := by k_qdec
theorem k_wq1 : kp wq1 = true := by k_qdec
theorem k_wl1 : kp wl1 = true := by k_qdec
theorem k_wl2 : kp wl2 = true := by k_qdec
theorem k_wl5 : kp wl5 = true := by k_qdec
theorem k_wl6 : kp wl6 = true := by k_qdec
theorem k_wl7 : kp wl7 = true := by k_qdec
theorem k_wl8 : kp wl8 = true := by k_qdec
theorem k_wl9 : kp wl9 = true := by k_qdec
theorem k_wl10 : kp wl10 = true := by k_qdec
theorem k_wl11 : kp wl11 = true := by k_qdec
theorem k_wl12 : kp wl12 = true := by k_qdec
theorem k_wl13 : kp wl13 = true := by k_qdec
theorem k_wl14 : kp wl14 = true := by k_qdec
theorem k_wl15 : kp wl15 = true := by k_qdec
theorem k_wl16 : kp wl16 = true := by k_qdec
theorem k_wl17 : kp wl17 = true := by k_qdec
theorem h_wp0 : wp0 rw0.prog = true := (congrFun PySem.W.Fast.te15111359769918459991 rw0.prog).trans (by kernel_rfl)
theorem h_wp1 : wp1 rw0.prog = true := (congrFun PySem.W.Fast.te16526162900121412443 rw0.prog).trans (by kernel_rfl)
theorem h_wp2 : wp2 rw0.prog = true := (congrFun PySem.W.Fast.te594739685272743019 rw0.prog).trans (by kernel_rfl)
theorem h_wp3 : wp3 rw0.prog = true := (congrFun PySem.W.Fast.te15422705863536451196 rw0.prog).trans (by kernel_rfl)
theorem h_wp4 : wp4 rw0.prog = true := (congrFun PySem.W.Fast.te11513139118620229765 rw0.prog).trans (by kernel_rfl)
theorem h_wp5 : wp5 rw0.prog = true := (congrFun PySem.W.Fast.te13679350982852668744 rw0.prog).trans (by kernel_rfl)
theorem h_wr0 : wr0 rw0.row = true := by kernel_rfl
theorem h_wr1 : wr1 rw0.row = true := by kernel_rfl
theorem h_wr2 : wr2 rw0.row = true := (congrFun PySem.W.Fast.te11994247781096443940 rw0.row).trans (by kernel_rfl)
theorem h_wr3 : wr3 rw0.row = true := (congrFun PySem.W.Fast.te15500742504118518471 rw0.row).trans (by kernel_rfl)
theorem h_wr4 : wr4 rw0.row = true := (congrFun PySem.W.Fast.te4641036004720115021 rw0.row).trans (by kernel_rfl)
theorem h_wr5 : wr5 rw0.row = true := (congrFun PySem.W.Fast.te7310496559448184965 rw0.row).trans (by kernel_rfl)
theorem h_wr6 : wr6 rw0.row = true := (congrFun PySem.W.Fast.te1824204576430984513 rw0.row).trans (by kernel_rfl)
theorem h_wr7 : wr7 rw0.row = true := (congrFun PySem.W.Fast.te8535658797672622344 rw0.row).trans (by kernel_rfl)
theorem h_wr8 : wr8 rw0.row = true := (congrFun PySem.W.Fast.te10149393951260109162 rw0.row).trans (by kernel_rfl)
theorem h_wr9 : wr9 rw0.row = true := (congrFun PySem.W.Fast.te11695400962906718828 rw0.row).trans (by kernel_rfl)
theorem h_wr10 : wr10 rw0.row = true := (congrFun PySem.W.Fast.te6492854678714226546 rw0.row).trans (by kernel_rfl)
theorem h_wr11 : wr11 rw0.row = true := (congrFun PySem.W.Fast.te10559224450199896128 rw0.row).trans (by kernel_rfl)
theorem h_wr12 : wr12 rw0.row = true := by kernel_rfl
theorem h_wq0 : wq0 rw0.row = true := (congrFun PySem.W.Fast.te10631548004941772442 rw0.row).trans (by kernel_rfl)
theorem h_wq1 : wq1 rw0.row = true := (congrFun PySem.W.Fast.te11594581842879670084 rw0.row).trans (by kernel_rfl)
theorem h_wl0 : wl0 rw0 = true := by kernel_rfl
theorem h_wl1 : wl1 rw0 = true := (congrFun PySem.W.Fast.te15944679267144286686 rw0).trans (by kernel_rfl)
theorem h_wl2 : wl2 rw0 = true := (congrFun PySem.W.Fast.te18102010416871866950 rw0).trans (by kernel_rfl)
theorem h_wl3 : wl3 rw0 = true := by kernel_rfl
theorem h_wl4 : wl4 rw0 = true := by kernel_rfl
theorem h_wl5 : wl5 rw0 = true := (congrFun PySem.W.Fast.te5795134821187236666 rw0).trans (by kernel_rfl)
theorem h_wl6 : wl6 rw0 = true := (congrFun PySem.W.Fast.te12750548047858743217 rw0).trans (by kernel_rfl)
theorem h_wl7 : wl7 rw0 = true := (congrFun PySem.W.Fast.te4839841088211550549 rw0).trans (by kernel_rfl)
theorem h_wl8 : wl8 rw0 = true := (congrFun PySem.W.Fast.te561981074350916578 rw0).trans (by kernel_rfl)
theorem h_wl9 : wl9 rw0 = true := (congrFun PySem.W.Fast.te13298990681996205226 rw0).trans (by kernel_rfl)
theorem h_wl10 : wl10 rw0 = true := (congrFun PySem.W.Fast.te9047539717123533738 rw0).trans (by kernel_rfl)
theorem h_wl11 : wl11 rw0 = true := (congrFun PySem.W.Fast.te12239576629043324071 rw0).trans (by kernel_rfl)
theorem h_wl12 : wl12 rw0 = true := (congrFun PySem.W.Fast.te15760723585558012177 rw0).trans (by kernel_rfl)
theorem h_wl13 : wl13 rw0 = true := (congrFun PySem.W.Fast.te13037177091574829013 rw0).trans (by kernel_rfl)
theorem h_wl14 : wl14 rw0 = true := (congrFun PySem.W.Fast.te18300399794730339745 rw0).trans (by kernel_rfl)
theorem h_wl15 : wl15 rw0 = true := (congrFun PySem.W.Fast.te7915956316035508148 rw0).trans (by kernel_rfl)
theorem h_wl16 : wl16 rw0 = true := (congrFun PySem.W.Fast.te2101936035261840402 rw0).trans (by kernel_rfl)
theorem h_wl17 : wl17 rw0 = true := (congrFun PySem.W.Fast.te6172010356438100095 rw0).trans (by kernel_rfl)
theorem said_looks : looksOpen rw0.prog = true := (look_both (look_both (look_both (look_both (look_both h_wp0 h_wp1) h_wp2) h_wp3) h_wp4) h_wp5)
theorem said_part : rw0.row.partSaid = true := (look_both (look_both (look_both (look_both (look_both (look_both (look_both (look_both (look_both (look_both (look_both (look_both (look_both said_looks h_wr0) h_wr1) h_wr2) h_wr3) h_wr4) h_wr5) h_wr6) h_wr7) h_wr8) h_wr9) h_wr10) h_wr11) h_wr12)
theorem said_row : rw0.row.wellSaid = true := (look_both (look_both said_part h_wq0) h_wq1)
theorem wellSaid : PySem.Challenge.rw_oy0341_04.wellSaid = true := (look_both (look_both (look_both (look_both (look_both (look_both (look_both (look_both (look_both (look_both (look_both (look_both (look_both (look_both (look_both (look_both (look_both (look_both said_row h_wl0) h_wl1) h_wl2) h_wl3) h_wl4) h_wl5) h_wl6) h_wl7) h_wl8) h_wl9) h_wl10) h_wl11) h_wl12) h_wl13) h_wl14) h_wl15) h_wl16) h_wl17)
end Mine
end
section
namespace Mine
-- MLex_04

set_option maxRecDepth 100000
set_option maxHeartbeats 4000000
open PySem PySem.W PyProof.Rows

noncomputable abbrev gv (vars : List (Str × V)) (x : Str) : Option V := vars.lookup x
noncomputable def thn (C : Fx) (r : List Stmt) (Q : FlowA → St → Prop) (f : FlowA) (st : St) : Prop := match f with
  | .next => JX C r st Q
  | f => Q f st
section
variable {C : Fx} {st : St} {r : List Stmt} {Q : FlowA → St → Prop}
theorem x_seq {b : Stmt} (h : JX1 C b st (thn C r Q)) : JX C (b :: r) st Q := x_cons h
theorem thn_next (h : JX C r st Q) : thn C r Q .next st := h
theorem thn_ret {v : V} (h : Q (.ret v) st) : thn C r Q (.ret v) st := h
theorem thn_brk (h : Q .brk st) : thn C r Q .brk st := h
end
noncomputable abbrev HB (C : Fx) : Prop := BaseK (K C.w.params) C.base

section
variable {P : Params}
theorem cls_sio : ClsK (K P) 597 := ⟨by kernel_rfl, by kernel_rfl, by kernel_rfl, by kernel_rfl⟩
theorem cls_shl : ClsK (K P) 732 := ⟨by kernel_rfl, by kernel_rfl, by kernel_rfl, by kernel_rfl⟩
noncomputable def sioNames : List Str := ["_StringIO__newline", "_StringIO__buf", "_StringIO__pos"]
theorem sio_at : (sioNames.all fun x => findIn (K P) (.ref 597) x == some none) = true := by kernel_rfl
theorem sio_none {x : Str} (h : sioNames.contains x = true) : findIn (K P) (.ref 597) x = some none := beq_iff_eq.mp (List.all_eq_true.mp sio_at x (List.contains_iff_mem.mp h))
noncomputable def shlNames : List Str := ["instream", "infile", "posix", "eof", "commenters", "wordchars", "whitespace", "whitespace_split", "quotes", "escape", "escapedquotes", "state", "pushback", "lineno", "debug", "token", "filestack", "source", "_punctuation_chars"]
theorem shl_at : (shlNames.all fun x => findIn (K P) (.ref 732) x == some none) = true := by kernel_rfl
theorem shl_none {x : Str} (h : shlNames.contains x = true) : findIn (K P) (.ref 732) x = some none := beq_iff_eq.mp (List.all_eq_true.mp shl_at x (List.contains_iff_mem.mp h))
structure MethK (K : Frag) (c : Addr) (x : Str) (f : Addr) : Prop where
  find : findIn K (.ref c) x = some (some (.ref f))
  typ : typeIn K (.ref f) = some (.type "function")
  keep : keepIn K (.ref f) = true
theorem m_read : MethK (K P) 597 "read" 543 := ⟨by kernel_rfl, by kernel_rfl, by kernel_rfl⟩
theorem m_check : MethK (K P) 597 "_StringIO__check" 381 := ⟨by kernel_rfl, by kernel_rfl, by kernel_rfl⟩
theorem m_trans : MethK (K P) 597 "_StringIO__translated" 374 := ⟨by kernel_rfl, by kernel_rfl, by kernel_rfl⟩
theorem m_rdtok : MethK (K P) 732 "read_token" 700 := ⟨by kernel_rfl, by kernel_rfl, by kernel_rfl⟩
theorem m_gettok : MethK (K P) 732 "get_token" 693 := ⟨by kernel_rfl, by kernel_rfl, by kernel_rfl⟩
variable {B : PH}
theorem t_len (H : BaseK (K P) B) : Blt B "len" (.builtin "len") := H.blt (by kernel_rfl) (by kernel_rfl) (by decide)
theorem t_type (H : BaseK (K P) B) : Blt B "type" (.type "type") := H.blt (by kernel_rfl) (by kernel_rfl) (by decide)
theorem t_int (H : BaseK (K P) B) : Blt B "int" (.type "int") := H.blt (by kernel_rfl) (by kernel_rfl) (by decide)
theorem t_str (H : BaseK (K P) B) : Blt B "str" (.type "str") := H.blt (by kernel_rfl) (by kernel_rfl) (by decide)
theorem t_isinst (H : BaseK (K P) B) : Blt B "isinstance" (.builtin "isinstance") := H.blt (by kernel_rfl) (by kernel_rfl) (by decide)
theorem t_object (H : BaseK (K P) B) : Blt B "object" (.type "object") := H.blt (by kernel_rfl) (by kernel_rfl) (by decide)
theorem g_index (H : BaseK (K P) B) : Glo B "_index" (.ref 63) := H.glo (by kernel_rfl)
theorem g_deque (H : BaseK (K P) B) : Glo B "deque" (.type "collections.deque") := H.glo (by kernel_rfl)
noncomputable abbrev fd_index : FuncData := fnF "_index" "_index" pb 6 .none (.str (Str.ofString "io") 371) (.ref 62)
theorem f_index (H : BaseK (K P) B) : Fn0 B 63 fd_index (bodyAt pb 6) := H.fn0 (o := fnO "_index" "_index" pb 6 .none (.str (Str.ofString "io") 371) (.ref 62)) (by kernel_rfl) rfl rfl (by kernel_rfl) (by decide +kernel) rfl rfl rfl rfl
noncomputable abbrev fd_check : FuncData := fnF "__check" "StringIO.__check" (clsBody pb 12) 3 .none (.str (Str.ofString "io") 371) (.ref 380)
theorem f_check (H : BaseK (K P) B) : Fn0 B 381 fd_check (bodyAt (clsBody pb 12) 3) := H.fn0 (o := fnO "__check" "StringIO.__check" (clsBody pb 12) 3 .none (.str (Str.ofString "io") 371) (.ref 380)) (by kernel_rfl) rfl rfl (by kernel_rfl) (by decide +kernel) rfl rfl rfl rfl
noncomputable abbrev fd_read : FuncData := fnF "read" "StringIO.read" (clsBody pb 12) 25 (.ref 536) (.str (Str.ofString "io") 371) (.ref 542)
theorem f_read (H : BaseK (K P) B) : Fn0 B 543 fd_read (bodyAt (clsBody pb 12) 25) := H.fn0 (o := fnO "read" "StringIO.read" (clsBody pb 12) 25 (.ref 536) (.str (Str.ofString "io") 371) (.ref 542)) (by kernel_rfl) rfl rfl (by kernel_rfl) (by decide +kernel) rfl rfl rfl rfl
end

-- a name's value
local macro_rules | `(tactic| walk_at "lk") => `(tactic| first
  | with_reducible assumption
  | with_reducible exact lk_here _ _ _
  | (refine lk_hop (by kernel_rfl) ?_; walk_at "lk")
  | (refine lk_in (by rfl) ?_; walk_at "lk")
  | rfl
  | assumption
  | exact lk_here _ _ _)
-- a test that is decided
local macro_rules | `(tactic| walk_at "br") => `(tactic| first
  | (refine And.intro (fun _ => ?_) (fun h => absurd h (by decide)))
  | (refine And.intro (fun h => absurd h (by decide)) (fun _ => ?_))
  | (refine And.intro ?ya ?yb; (case yb => intro h; cases h; done); (case' ya => intro _))
  | (refine And.intro ?ya ?yb; (case ya => intro h; cases h; done); (case' yb => intro _)))
local macro_rules | `(tactic| walk_at "w") => `(tactic| first
  | ((with_reducible show J _ _ (eval (.Name _ _)) _ _); refine ev_Name (by walk_at "lk") (by rfl) ?_)
  | (with_reducible first | refine l_cons ?_ | refine l_nil ?_ | refine ev_Const_int ?_ | refine ev_Const_str ?_ | refine ev_Const_none ?_ | refine ev_Const_bool ?_ | refine ev_BinOp ?_ | refine ev_UnaryOp ?_ | refine ev_IfExp ?_ | refine ev_Compare ?_ | refine tt_Compare ?_ | refine tt_Not ?_ | refine tt_Bool ?_ | refine ta_cons ?_ | refine to_cons ?_ | refine ta_nil ?_ | refine to_nil ?_ | refine tr_bool ?_ | refine tr_none ?_ | refine tr_deq ?_ | refine op_mod (by decide) ?_ | refine op_fdiv (by decide) (by decide) ?_ | refine op_and ?_ | refine op_or ?_ | refine ip_or ?_ | refine ip_sub ?_ | refine ev_List ?_ | refine ev_Tuple ?_ | refine op_neg ?_ | refine op_gt ?_ | refine op_lt ?_ | refine op_ge ?_ | refine op_le ?_ | refine op_add ?_ | refine op_sub ?_ | refine ip_add ?_ | refine op_eqS ?_ | refine op_neS ?_ | refine op_inS ?_ | refine op_eqSN ?_ | refine op_eqNN ?_ | refine isnot_types ?_ | refine x_nil ?_ | refine thn_ret ?_ | refine thn_brk ?_ | refine thn_cont ?_ | refine x_seq ?_ | refine x_AugAttr ?_ | refine x_If ?_ | refine x_Return ?_ | refine x_Break ?_ | refine x_Continue ?_ | refine x_Assign ?_ (by with_unfolding_all rfl) | refine x_SetAttr ?_ | refine x_Expr ?_ | refine ev_Attr ?_)
  | ((fail_if_success (with_reducible show J _ _ (eval (.Subscript _ (.Slice _ _ _ _) _)) _ _)); with_reducible refine ev_Subscript ?_)
  | ((with_reducible first | show JT _ (.Name _ _) _ _ | show JT _ (.Attribute _ _ _) _ _); refine tt_value ?_)
  | ((with_reducible show JV _ _ [_, .none] (two (compareOp .Is)) _ _); refine is_none ?_)
  | ((with_reducible show JV _ _ [_, .none] (two (compareOp .IsNot)) _ _); refine isnot_none ?_)
  | ((with_reducible show (_ = true → _) ∧ (_ = false → _)); walk_at "br")
  | (with_reducible refine thn_next ?_; try dsimp only)
  | ((with_reducible show JX1 _ (.AugAssign (.Name _ _) _ _ _) _ _); refine x_AugAssign (by walk_at "lk") (by rfl) ?_))

section
variable {C : Fx} {st : St}
theorem c_index (H : HB C) (hd : C.d ≤ 900) {n : Int} {w : Str} (h1 : -1000 ≤ n) (h2 : n ≤ 1000) {Q : V → St → Prop} (h : Q (.int n) st) : JV C VR [.int n, .str w] (fun ws => call (.ref 63) ws) st Q := by
  refine JC.jv (code_fn0 (vars := [("n", .int n), ("what", .str w)]) (f_index H) (by lia) (show parOk fd_index.scope ["n", "what"] = true by decide +kernel) (fun env Z R ρ s ws hs hw => ?_) ?_)
  · obtain ⟨x, y, rfl, r1, r2⟩ := inv2 hw
    exact ⟨_, BindsTo.of_eq rfl, .cons r1 (.cons r2 .nil)⟩
  · refine x_seq ?_
    repeat walk_at "w"
    refine ev_CallT (t_type H) (by rfl) ?_
    repeat walk_at "w"
    refine ty_int ?_
    refine ev_Blt (t_int H) (by rfl) ?_
    repeat walk_at "w"
    refine ev_CallT (t_int H) (by rfl) ?_
    repeat walk_at "w"
    refine int_int ?_
    repeat walk_at "w"
    refine ⟨fun hc => absurd hc (by simp; lia), fun _ => ?_⟩
    repeat walk_at "w"
    refine ⟨fun hc => absurd hc (by simp; lia), fun _ => ?_⟩
    repeat walk_at "w"
    exact h

theorem ev_CallG {f : Str} {p pos : Pos} {es : List Expr} {a : Addr} {K : Frag} {Q : V → St → Prop} (H : BaseK K C.base) (hg : Glo C.base f (.ref a)) (hkeep : keepIn K (.ref a) = true) (hk : C.sc.names.lookup f = some .globalImplicit)
    (h : JL C pos es st fun vs st₁ => JV C VR vs (fun ws => call (.ref a) ws) st₁ Q)
    (he : ∀ env, (backTo pos (starEach es env)).any (·.1) = false := by intro _; rfl) (hd : (f == ("__debug__" : Str)) = false := by decide) : J C VR (eval (.Call (.Name f p) es [] pos)) st Q :=
  ev_CallC H hg hkeep hk h he hd

noncomputable def SIO (buf : Str) (p : Int) : List (Str × V) := [("_StringIO__newline", .str "\n"), ("_StringIO__buf", .str buf), ("_StringIO__pos", .int p)]

theorem c_check (H : HB C) (hd : C.d ≤ 900) {n : Nat} {buf : Str} {p : Int} (hn : st.heap n = some (.ns (SIO buf p))) {Q : V → St → Prop} (h : Q .none st) : JV C VR [.inst 597 n] (fun ws => call (.ref 381) ws) st Q := by
  refine JC.jv (code_fn0 (vars := [("self", .inst 597 n)]) (f_check H) (by lia) (show parOk fd_check.scope ["self"] = true by decide +kernel) (fun env Z R ρ s ws hs hw => ?_) ?_)
  · obtain ⟨x, rfl, r1⟩ := inv1 hw
    exact ⟨_, BindsTo.of_eq rfl, .cons r1 .nil⟩
  · refine x_seq ?_
    repeat walk_at "w"
    refine at_get H cls_sio (sio_none (by kernel_rfl)) hn (by rfl) ?_
    repeat walk_at "w"
    exact h

theorem Txt_slice {x : Str} {i j : Nat} (h1 : i ≤ j) (h2 : j ≤ x.length) : Txt.slice x (some (i : Int)) (some (j : Int)) = ⟨((x.cps.toList.drop i).take (j - i)).toArray⟩ := by
  have h := slice_closes (x := x) (i := i) (j := j) ⟨by lia, by lia, by show (j : Int) ≤ (x.cps.toList.length : Nat); rw [Array.length_toList]; exact_mod_cast h2⟩
  have := beq_iff_eq.mp h
  rw [this]
  simp only [Int.toNat_natCast]
  congr 3
  lia

theorem c_read (H : HB C) (hd : C.d ≤ 800) {n : Nat} {buf : Str} {p : Nat} (hn : st.heap n = some (.ns (SIO buf p))) (hsz : buf.length ≤ 100000) (hp : p ≤ buf.length) {Q : V → St → Prop}
    (h1 : ∀ c, buf.cps.toList[p]? = some c → Q (.str ⟨#[c]⟩) { st with heap := upd st.heap n (.ns (SIO buf ((p + 1 : Nat) : Int))) }) (h0 : p = buf.length → Q (.str (Str.ofString "")) st) :
    JV C VR [.inst 597 n, .int 1] (fun ws => call (.ref 543) ws) st Q := by
  refine JC.jv (code_fn0 (vars := [("self", .inst 597 n), ("size", .int 1)]) (f_read H) (by lia) (show parOk fd_read.scope ["self", "size"] = true by decide +kernel) (fun env Z R ρ s ws hs hw => ?_) ?_)
  · obtain ⟨x, y, rfl, r1, r2⟩ := inv2 hw
    exact ⟨_, binds_K (hs.knows H.inK) rfl (show (K C.w.params).lookup 536 = some _ from rfl) rfl rfl rfl, .cons r1 (.cons r2 .nil)⟩
  · refine x_seq ?_
    repeat walk_at "w"
    refine ev_CallG (a := 63) (H := H) (g_index H) (by kernel_rfl) (by rfl) ?_
    repeat walk_at "w"
    refine c_index (C := C.into _) H (show C.d + 1 ≤ 900 from dk hd (by decide)) (by lia) (by lia) ?_
    repeat walk_at "w"
    refine ev_MethI H cls_sio m_check.find m_check.typ m_check.keep ?_
    repeat walk_at "w"
    refine ⟨⟨n, _, rfl, hn, by rfl⟩, ?_⟩
    repeat walk_at "w"
    refine c_check (C := C.into _) H (show C.d + 1 ≤ 900 from dk hd (by decide)) (by exact hn) ?_
    refine ⟨rfl, ?_⟩
    repeat walk_at "w"
    refine at_get (C := C.into _) H cls_sio (sio_none (by kernel_rfl)) (by exact hn) (by rfl) ?_
    repeat walk_at "w"
    refine ev_CallB (C := C.into _) (t_len H) (by rfl) ?_
    repeat walk_at "w"
    refine at_get (C := C.into _) H cls_sio (sio_none (by kernel_rfl)) (by exact hn) (by rfl) ?_
    repeat walk_at "w"
    refine b_lenS (by rw [sizeLine_eq]; lia) ?_
    repeat walk_at "w"
    refine ⟨fun hc => ?_, fun hc => ?_⟩
    · have hc : (buf.length : Int) ≤ p := of_decide_eq_true hc
      repeat walk_at "w"
      exact h0 (by lia)
    · have hc : ¬ (buf.length : Int) ≤ p := of_decide_eq_false hc
      have hp' : p < buf.length := by lia
      obtain ⟨c, hcc⟩ : ∃ c, buf.cps.toList[p]? = some c := ⟨_, List.getElem?_eq_getElem (by rw [Array.length_toList]; exact hp')⟩
      have hsl : Txt.slice buf (some (p : Int)) (some ((p + 1 : Nat) : Int)) = ⟨#[c]⟩ := by
        rw [Txt_slice (by lia) (by lia)]
        congr 1
        have : p + 1 - p = 1 := by lia
        rw [this, List.take_one, List.head?_drop, hcc]
        rfl
      have fin : ∀ vars, gv vars "self" = some (.inst 597 n) → gv vars "start" = some (.int p) → gv vars "stop" = some (.int ((p + 1 : Nat) : Int)) →
          JX (C.into fd_read.scope) ((bodyAt (clsBody pb 12) 25).drop 7) ⟨vars, st.heap, st.nx⟩ (fun f st' => Q (retV f) ⟨st.vars, st'.heap, st'.nx⟩) := by
        intro vars g1 g2 g3
        refine x_seq ?_
        repeat walk_at "w"
        refine at_set (C := C.into _) H cls_sio (sio_none (by kernel_rfl)) (by exact hn) (by show 3 ≤ 900; lia) ?_
        refine thn_next (x_seq ?_)
        repeat walk_at "w"
        refine ev_SliceS ?_
        repeat walk_at "w"
        refine at_get (C := C.into _) H cls_sio (sio_none (by kernel_rfl)) (upd_self _ _ _) (by rfl) ?_
        repeat walk_at "w"
        refine ⟨buf, p, ((p + 1 : Nat) : Int), rfl, rfl, rfl, by rw [sizeLine_eq]; lia, ?_⟩
        rw [hsl]
        exact h1 c hcc
      repeat walk_at "w"
      refine ⟨fun hq => ?_, fun hq => ?_⟩
      · iterate 8 walk_at "w"
        have e : (p : Int) + 1 = ((p + 1 : Nat) : Int) := by lia
        rw [e]
        iterate 3 walk_at "w"
        exact fin _ (by walk_at "lk") (by walk_at "lk") (by walk_at "lk")
      · have hq : ¬ (p : Int) + 1 < buf.length := of_decide_eq_false hq
        iterate 3 walk_at "w"
        have e : (buf.length : Int) = ((p + 1 : Nat) : Int) := by lia
        rw [e]
        exact fin _ (by walk_at "lk") (by walk_at "lk") (by walk_at "lk")
end
-- MLex2_04

set_option maxRecDepth 100000
set_option maxHeartbeats 4000000
open PySem PySem.W PyProof.Rows

local macro_rules | `(tactic| walk_at "hp") => `(tactic| first
  | assumption
  | exact upd_self _ _ _
  | (refine hp_hop (by first | assumption | (apply Ne.symm; assumption)) ?_; walk_at "hp"))



noncomputable def LX (wc : Str) (m : Nat) (state : V) (tok : Str) (l : Int) : List (Str × V) :=
  [("instream", .inst 597 m), ("infile", .none), ("posix", .bool true), ("eof", .none), ("commenters", .str "#"), ("wordchars", .str wc), ("whitespace", .str " \t\r\n"), ("whitespace_split", .bool false), ("quotes", .str "'\""), ("escape", .str "\\"),
   ("escapedquotes", .str "\""), ("state", state), ("pushback", .deq), ("lineno", .int l), ("debug", .int 0), ("token", .str tok), ("filestack", .deq), ("source", .none), ("_punctuation_chars", .str "")]

section
variable {P : Params} {B : PH}
noncomputable abbrev fd_punct : FuncData := fnF "punctuation_chars" "shlex.punctuation_chars" (clsBody pb 22) 1 .none (.str (Str.ofString "cpy313.shlex") 1087) (.ref 662)
theorem f_punct (H : BaseK (K P) B) : Fn0 B 663 fd_punct (bodyAt (clsBody pb 22) 1) := H.fn0 (o := fnO "punctuation_chars" "shlex.punctuation_chars" (clsBody pb 22) 1 .none (.str (Str.ofString "cpy313.shlex") 1087) (.ref 662)) (by kernel_rfl) rfl rfl (by kernel_rfl) (by decide +kernel) rfl rfl rfl rfl
theorem p_find : findIn (K P) (.ref 732) "punctuation_chars" = some (some (.ref 664)) := by kernel_rfl
theorem p_get : specialIn (K P) (.ref 664) "__get__" = some (some (.builtin "property.__get__")) := by kernel_rfl
theorem p_takes : takesIn (K P) (.ref 664) = some true := by kernel_rfl
theorem p_rec : recIn (K P) 664 "property" = some (.ref 663 :: [.none, .none, .none, .str (Str.ofString "punctuation_chars") 1120, .bool false]) := by kernel_rfl
end

section
variable {C : Fx} {st : St}
theorem op_in1 {c : Nat} {x : Str} {Q : V → St → Prop} (h : Q (.bool (decide (c ∈ x.cps.toList))) st) : JV C VR [.str ⟨#[c]⟩, .str x] (two (compareOp .In)) st Q :=
  op_inS (by rw [StrLaws.found_one]; exact h)
theorem eq1 (c k : Nat) {x : Str} (hx : x = ⟨#[k]⟩) : ((⟨#[c]⟩ : Str) == x) = decide (c = k) := by
  subst hx
  rw [Bool.eq_iff_iff, beq_iff_eq, decide_eq_true_eq]
  exact ⟨fun h => by injection h with h; simpa using h, fun h => by rw [h]⟩
theorem op_in1t {c : Nat} {x : Str} {Q : V → St → Prop} (l : List Nat) (hl : x.cps.toList = l) (hm : c ∈ l) (h : Q (.bool true) st) : JV C VR [.str ⟨#[c]⟩, .str x] (two (compareOp .In)) st Q :=
  op_in1 (by rw [hl, decide_eq_true hm]; exact h)
theorem op_in1f {c : Nat} {x : Str} {Q : V → St → Prop} (l : List Nat) (hl : x.cps.toList = l) (hm : c ∉ l) (h : Q (.bool false) st) : JV C VR [.str ⟨#[c]⟩, .str x] (two (compareOp .In)) st Q :=
  op_in1 (by rw [hl, decide_eq_false hm]; exact h)
theorem tr_one {c : Nat} {Q : Bool → St → Prop} (h : Q true st) : JV C rBool [.str ⟨#[c]⟩] (one truthy) st Q := tr_str (by rw [sizeLine_eq]; show 1 ≤ _; decide) h
theorem l_ws : (Str.ofString " \t\r\n").cps.toList = [32, 9, 13, 10] := by decide +kernel
theorem l_com : (Str.ofString "#").cps.toList = [35] := by decide +kernel
theorem l_esc : (Str.ofString "\\").cps.toList = [92] := by decide +kernel
theorem l_quo : (Str.ofString "'\"").cps.toList = [39, 34] := by decide +kernel

theorem c_punct (H : HB C) (hd : C.d ≤ 800) {n m : Nat} {wc tok : Str} {state : V} {l : Int} (hn : st.heap n = some (.ns (LX wc m state tok l))) {Q : V → St → Prop} (h : Q (.str "") st) : JV C VR [.inst 732 n] (one fun w => getAttr w "punctuation_chars" true) st Q := by
  refine at_prop H cls_shl hn p_find p_get p_takes p_rec ?_
  refine code_fn0 (vars := [("self", .inst 732 n)]) (f_punct H) (by show C.d < 1000; lia) (show parOk fd_punct.scope ["self"] = true by decide +kernel) (fun env Z R ρ s ws hs hw => ?_) ?_
  · obtain ⟨x, rfl, r1⟩ := inv1 hw
    exact ⟨_, BindsTo.of_eq rfl, .cons r1 .nil⟩
  · refine x_seq ?_
    repeat walk_at "w"
    (refine at_get (by assumption) cls_shl (shl_none (by kernel_rfl)) (by walk_at "hp") (by rfl) ?_)
    exact ⟨rfl, h⟩

noncomputable def whB : Option Stmt → List Stmt
  | some (.While _ b _ _) => b
  | _ => []
noncomputable abbrev tbody : List Stmt := whB (bodyAt (clsBody pb 22) 6)[2]?
noncomputable abbrev scRT : Scope := scopeAt (clsBody pb 22) 6

structure LVars (n : Nat) (qd : Bool) (vars : List (Str × V)) : Prop where
  self : gv vars "self" = some (.inst 732 n)
  quoted : gv vars "quoted" = some (.bool qd)
  esc : gv vars "escapedstate" = some (.str " ")
structure LState (H₀ : Nat → Option AO) (n m : Nat) (wc buf : Str) (state : V) (tok : Str) (l : Int) (p : Nat) (H : Nat → Option AO) : Prop where
  lex : H n = some (.ns (LX wc m state tok l))
  io : H m = some (.ns (SIO buf p))
  rest : ∀ k, k ≠ n → k ≠ m → H k = H₀ k

structure LC (C : Fx) (n m : Nat) (buf : Str) : Prop where
  H : HB C
  sc : C.sc = scRT
  d : C.d ≤ 700
  ne : n ≠ m
  sz : buf.length ≤ 100000

theorem pre_c {n m : Nat} {wc buf : Str} {qd : Bool} {state : V} {tok : Str} {l : Int} {p : Nat} {vars : List (Str × V)} {H₀ H : Nat → Option AO} {nx c : Nat} {Q : FlowA → St → Prop} (L : LC C n m buf) (hv : LVars n qd vars) (hs : LState H₀ n m wc buf state tok l p H)
    (hc : buf.cps.toList[p]? = some c)
    (h : ∀ vars' H', LVars n qd vars' → gv vars' "nextchar" = some (.str ⟨#[c]⟩) → LState H₀ n m wc buf state tok (if c = 10 then l + 1 else l) (p + 1) H' → JX C (tbody.drop 3) ⟨vars', H', nx⟩ Q) : JX C tbody ⟨vars, H, nx⟩ Q := by
  obtain ⟨prog, w, os, base, d, u, sc, gp, pin, tkC, frC, flC⟩ := C
  obtain ⟨HBc, hsc, hd, hne, hsz⟩ := L
  obtain rfl : sc = scRT := hsc
  obtain ⟨g1, g2, g3⟩ := hv
  obtain ⟨e1, e2, e3⟩ := hs
  have hlt : p < buf.length := by have := (List.getElem?_eq_some_iff.mp hc).1; rwa [Array.length_toList] at this
  refine x_seq ?_
  repeat walk_at "w"
  refine c_punct (by exact HBc) (by show d ≤ 800; exact Nat.le_trans hd (by decide)) (by exact e1) ?_
  refine tr_str (by decide) ?_
  repeat walk_at "w"
  refine ev_MethI HBc cls_sio m_read.find m_read.typ m_read.keep ?_
  repeat walk_at "w"
  (refine at_get (by assumption) cls_shl (shl_none (by kernel_rfl)) (by walk_at "hp") (by rfl) ?_)
  refine ⟨⟨m, _, rfl, e2, by rfl⟩, ?_⟩
  repeat walk_at "w"
  refine c_read (by exact HBc) (by show d ≤ 800; exact Nat.le_trans hd (by decide)) (by exact e2) hsz (by lia) (fun c' hc' => ?_) (fun h => absurd h (by lia))
  obtain rfl : c = c' := by rw [hc] at hc'; exact Option.some.inj hc'
  repeat walk_at "w"
  rw [eq1 c 10 (by decide)]
  have fin : ∀ H' l', LState H₀ n m wc buf state tok l' (p + 1) H' → l' = (if c = 10 then l + 1 else l) →
      JX ⟨prog, w, os, base, d, u, scRT, gp, pin, tkC, frC, flC⟩ (tbody.drop 2) ⟨setv "nextchar" (.str ⟨#[c]⟩) vars, H', nx⟩ Q := by
    intro H' l' hs' el
    obtain ⟨k1, k2, k3⟩ := id hs'
    refine x_seq ?_
    repeat walk_at "w"
    (refine at_get (by assumption) cls_shl (shl_none (by kernel_rfl)) (by walk_at "hp") (by rfl) ?_)
    iterate 6 walk_at "w"
    refine h _ _ ⟨?_, ?_, ?_⟩ ?_ (el ▸ hs')
    all_goals walk_at "lk"
  refine ⟨fun hq => ?_, fun hq => ?_⟩
  · have hq := of_decide_eq_true hq
    refine x_seq ?_
    walk_at "w"
    walk_at "w"
    (refine at_get (by assumption) cls_shl (shl_none (by kernel_rfl)) (by walk_at "hp") (by rfl) ?_)
    walk_at "w"
    walk_at "w"
    refine at_set (by assumption) cls_shl (shl_none (by kernel_rfl)) (by walk_at "hp") (by show 19 ≤ 900; decide) ?_
    iterate 3 walk_at "w"
    exact fin _ (l + 1) ⟨by walk_at "hp", by walk_at "hp", fun k h1 h2 => (upd_ne _ _ h1).trans ((upd_ne _ _ h2).trans (e3 k h1 h2))⟩ (by rw [if_pos hq])
  · have hq := of_decide_eq_false hq
    iterate 2 walk_at "w"
    exact fin _ l ⟨by walk_at "hp", by walk_at "hp", fun k h1 h2 => (upd_ne _ _ h2).trans (e3 k h1 h2)⟩ (by rw [if_neg hq])

theorem pre_e {n m : Nat} {wc buf : Str} {qd : Bool} {state : V} {tok : Str} {l : Int} {p : Nat} {vars : List (Str × V)} {H₀ H : Nat → Option AO} {nx : Nat} {Q : FlowA → St → Prop} (L : LC C n m buf) (hv : LVars n qd vars) (hs : LState H₀ n m wc buf state tok l p H)
    (hp : p = buf.length)
    (h : ∀ vars', LVars n qd vars' → gv vars' "nextchar" = some (.str "") → JX C (tbody.drop 3) ⟨vars', H, nx⟩ Q) : JX C tbody ⟨vars, H, nx⟩ Q := by
  obtain ⟨prog, w, os, base, d, u, sc, gp, pin, tkC, frC, flC⟩ := C
  obtain ⟨HBc, hsc, hd, hne, hsz⟩ := L
  obtain rfl : sc = scRT := hsc
  obtain ⟨g1, g2, g3⟩ := hv
  obtain ⟨e1, e2, e3⟩ := hs
  refine x_seq ?_
  repeat walk_at "w"
  refine c_punct (by exact HBc) (by show d ≤ 800; exact Nat.le_trans hd (by decide)) (by exact e1) ?_
  refine tr_str (by decide) ?_
  repeat walk_at "w"
  refine ev_MethI HBc cls_sio m_read.find m_read.typ m_read.keep ?_
  repeat walk_at "w"
  (refine at_get (by assumption) cls_shl (shl_none (by kernel_rfl)) (by walk_at "hp") (by rfl) ?_)
  refine ⟨⟨m, _, rfl, e2, by rfl⟩, ?_⟩
  repeat walk_at "w"
  refine c_read (by exact HBc) (by show d ≤ 800; exact Nat.le_trans hd (by decide)) (by exact e2) hsz (by lia) (fun c' hc' => ?_) (fun _ => ?_)
  · have := (List.getElem?_eq_some_iff.mp hc').1
    rw [Array.length_toList] at this
    exact absurd this (by rw [hp]; exact Nat.lt_irrefl _)
  repeat walk_at "w"
  (refine at_get (by assumption) cls_shl (shl_none (by kernel_rfl)) (by walk_at "hp") (by rfl) ?_)
  iterate 6 walk_at "w"
  refine h _ ⟨?_, ?_, ?_⟩ ?_
  all_goals walk_at "lk"

theorem set_tok (H : HB C) {n m : Nat} {wc t u : Str} {s : V} {l : Int} {Q : Unit → St → Prop} (hn : st.heap n = some (.ns (LX wc m s t l))) (h : Q () { st with heap := upd st.heap n (.ns (LX wc m s u l)) }) : JV C rUnit [.inst 732 n, .str u] (two fun a b => setAttr a "token" b) st Q :=
  at_set H cls_shl (shl_none (by kernel_rfl)) hn (by show 19 ≤ 900; decide) h
theorem set_state (H : HB C) {n m : Nat} {wc t : Str} {s u : V} {l : Int} {Q : Unit → St → Prop} (hn : st.heap n = some (.ns (LX wc m s t l))) (h : Q () { st with heap := upd st.heap n (.ns (LX wc m u t l)) }) : JV C rUnit [.inst 732 n, u] (two fun a b => setAttr a "state" b) st Q :=
  at_set H cls_shl (shl_none (by kernel_rfl)) hn (by show 19 ≤ 900; decide) h
end
section
variable {C : Fx} {st : St}

theorem it_word {n m : Nat} {wc buf : Str} {qd : Bool} {tok : Str} {l : Int} {p : Nat} {vars : List (Str × V)} {H₀ H : Nat → Option AO} {nx c : Nat} {Q : FlowA → St → Prop} (L : LC C n m buf) (hv : LVars n qd vars) (hs : LState H₀ n m wc buf (.str " ") tok l p H)
    (hc : buf.cps.toList[p]? = some c) (h97 : 97 ≤ c) (h122 : c ≤ 122) (hw : c ∈ wc.cps.toList)
    (h : ∀ vars' H', LVars n qd vars' → LState H₀ n m wc buf (.str "a") ⟨#[c]⟩ l (p + 1) H' → Q .next ⟨vars', H', nx⟩) : JX C tbody ⟨vars, H, nx⟩ Q := by
  refine pre_c L hv hs hc fun vars H hv hx hs => ?_
  rw [if_neg (by lia)] at hs
  obtain ⟨prog, w, os, base, d, u, sc, gp, pin, tkC, frC, flC⟩ := C
  obtain ⟨HBc, hsc, hd, hne, hsz⟩ := L
  obtain rfl : sc = scRT := hsc
  obtain ⟨g1, g2, g3⟩ := hv
  obtain ⟨e1, e2, e3⟩ := hs
  refine x_seq ?_
  repeat walk_at "w"
  (refine at_get (by assumption) cls_shl (shl_none (by kernel_rfl)) (by walk_at "hp") (by rfl) ?_)
  repeat walk_at "w"
  (refine at_get (by assumption) cls_shl (shl_none (by kernel_rfl)) (by walk_at "hp") (by rfl) ?_)
  repeat walk_at "w"
  refine tr_one ?_
  repeat walk_at "w"
  (refine at_get (by assumption) cls_shl (shl_none (by kernel_rfl)) (by walk_at "hp") (by rfl) ?_)
  refine op_in1f _ l_ws (by simp; lia) ?_
  repeat walk_at "w"
  (refine at_get (by assumption) cls_shl (shl_none (by kernel_rfl)) (by walk_at "hp") (by rfl) ?_)
  refine op_in1f _ l_com (by simp; lia) ?_
  repeat walk_at "w"
  (refine at_get (by assumption) cls_shl (shl_none (by kernel_rfl)) (by walk_at "hp") (by rfl) ?_)
  repeat walk_at "w"
  (refine at_get (by assumption) cls_shl (shl_none (by kernel_rfl)) (by walk_at "hp") (by rfl) ?_)
  refine op_in1f _ l_esc (by simp; lia) ?_
  repeat walk_at "w"
  (refine at_get (by assumption) cls_shl (shl_none (by kernel_rfl)) (by walk_at "hp") (by rfl) ?_)
  refine op_in1t _ rfl hw ?_
  repeat walk_at "w"
  (first | refine set_tok (by assumption) (by walk_at "hp") ?_ | refine set_state (by assumption) (by walk_at "hp") ?_ | refine set_line (by assumption) (by walk_at "hp") ?_)
  repeat walk_at "w"
  (first | refine set_tok (by assumption) (by walk_at "hp") ?_ | refine set_state (by assumption) (by walk_at "hp") ?_ | refine set_line (by assumption) (by walk_at "hp") ?_)
  repeat walk_at "w"
  refine h _ _ ⟨?_, ?_, ?_⟩ ⟨?_, ?_, fun k h1 h2 => ?_⟩
  · walk_at "lk"
  · walk_at "lk"
  · walk_at "lk"
  · walk_at "hp"
  · walk_at "hp"
  · exact (upd_ne _ _ h1).trans ((upd_ne _ _ h1).trans (e3 k h1 h2))

theorem it_quote {n m : Nat} {wc buf : Str} {qd : Bool} {tok : Str} {l : Int} {p : Nat} {vars : List (Str × V)} {H₀ H : Nat → Option AO} {nx c : Nat} {Q : FlowA → St → Prop} (L : LC C n m buf) (hv : LVars n qd vars) (hs : LState H₀ n m wc buf (.str " ") tok l p H)
    (hc : buf.cps.toList[p]? = some c) (hq : c = 39) (hw : c ∉ wc.cps.toList)
    (h : ∀ vars' H', LVars n qd vars' → LState H₀ n m wc buf (.str "'") tok l (p + 1) H' → Q .next ⟨vars', H', nx⟩) : JX C tbody ⟨vars, H, nx⟩ Q := by
  refine pre_c L hv hs hc fun vars H hv hx hs => ?_
  rw [if_neg (by lia)] at hs
  obtain ⟨prog, w, os, base, d, u, sc, gp, pin, tkC, frC, flC⟩ := C
  obtain ⟨HBc, hsc, hd, hne, hsz⟩ := L
  obtain rfl : sc = scRT := hsc
  obtain ⟨g1, g2, g3⟩ := hv
  obtain ⟨e1, e2, e3⟩ := hs
  refine x_seq ?_
  repeat walk_at "w"
  (refine at_get (by assumption) cls_shl (shl_none (by kernel_rfl)) (by walk_at "hp") (by rfl) ?_)
  repeat walk_at "w"
  (refine at_get (by assumption) cls_shl (shl_none (by kernel_rfl)) (by walk_at "hp") (by rfl) ?_)
  repeat walk_at "w"
  refine tr_one ?_
  repeat walk_at "w"
  (refine at_get (by assumption) cls_shl (shl_none (by kernel_rfl)) (by walk_at "hp") (by rfl) ?_)
  refine op_in1f _ l_ws (by simp; lia) ?_
  repeat walk_at "w"
  (refine at_get (by assumption) cls_shl (shl_none (by kernel_rfl)) (by walk_at "hp") (by rfl) ?_)
  refine op_in1f _ l_com (by simp; lia) ?_
  repeat walk_at "w"
  (refine at_get (by assumption) cls_shl (shl_none (by kernel_rfl)) (by walk_at "hp") (by rfl) ?_)
  repeat walk_at "w"
  (refine at_get (by assumption) cls_shl (shl_none (by kernel_rfl)) (by walk_at "hp") (by rfl) ?_)
  refine op_in1f _ l_esc (by simp; lia) ?_
  repeat walk_at "w"
  (refine at_get (by assumption) cls_shl (shl_none (by kernel_rfl)) (by walk_at "hp") (by rfl) ?_)
  refine op_in1f _ rfl hw ?_
  repeat walk_at "w"
  refine c_punct (by exact HBc) (by show d ≤ 800; exact Nat.le_trans hd (by decide)) (by exact e1) ?_
  refine op_in1f [] (by decide) (by simp) ?_
  repeat walk_at "w"
  (refine at_get (by assumption) cls_shl (shl_none (by kernel_rfl)) (by walk_at "hp") (by rfl) ?_)
  refine op_in1t _ l_quo (by simp; lia) ?_
  repeat walk_at "w"
  (refine at_get (by assumption) cls_shl (shl_none (by kernel_rfl)) (by walk_at "hp") (by rfl) ?_)
  repeat walk_at "w"
  subst hq
  (first | refine set_tok (by assumption) (by walk_at "hp") ?_ | refine set_state (by assumption) (by walk_at "hp") ?_ | refine set_line (by assumption) (by walk_at "hp") ?_)
  repeat walk_at "w"
  refine h _ _ ⟨?_, ?_, ?_⟩ ⟨?_, ?_, fun k h1 h2 => ?_⟩
  · walk_at "lk"
  · walk_at "lk"
  · walk_at "lk"
  · exact upd_self _ _ _
  · walk_at "hp"
  · exact (upd_ne _ _ h1).trans (e3 k h1 h2)

theorem it_in {n m : Nat} {wc buf : Str} {qd : Bool} {tok : Str} {l : Int} {p : Nat} {vars : List (Str × V)} {H₀ H : Nat → Option AO} {nx c : Nat} {Q : FlowA → St → Prop} (L : LC C n m buf) (hv : LVars n qd vars) {q : Nat} (hs : LState H₀ n m wc buf (.str ⟨#[q]⟩) tok l p H)
    (hc : buf.cps.toList[p]? = some c) (hq : q = 39 ∨ q = 34) (hcq : c ≠ q) (h92 : c ≠ 92) (h10 : c ≠ 10) (hts : tok.length ≤ 100000)
    (h : ∀ vars' H', LVars n true vars' → LState H₀ n m wc buf (.str ⟨#[q]⟩) (tok ++ ⟨#[c]⟩) l (p + 1) H' → Q .next ⟨vars', H', nx⟩) : JX C tbody ⟨vars, H, nx⟩ Q := by
  refine pre_c L hv hs hc fun vars H hv hx hs => ?_
  rw [if_neg h10] at hs
  obtain ⟨prog, w, os, base, d, u, sc, gp, pin, tkC, frC, flC⟩ := C
  obtain ⟨HBc, hsc, hd, hne, hsz⟩ := L
  obtain rfl : sc = scRT := hsc
  obtain ⟨g1, g2, g3⟩ := hv
  obtain ⟨e1, e2, e3⟩ := hs
  refine x_seq ?_
  repeat walk_at "w"
  (refine at_get (by assumption) cls_shl (shl_none (by kernel_rfl)) (by walk_at "hp") (by rfl) ?_)
  repeat walk_at "w"
  (refine at_get (by assumption) cls_shl (shl_none (by kernel_rfl)) (by walk_at "hp") (by rfl) ?_)
  repeat walk_at "w"
  rw [eq1 q 32 (by decide)]
  refine ⟨fun hh => absurd (of_decide_eq_true hh) (by lia), fun _ => ?_⟩
  repeat walk_at "w"
  (refine at_get (by assumption) cls_shl (shl_none (by kernel_rfl)) (by walk_at "hp") (by rfl) ?_)
  repeat walk_at "w"
  (refine at_get (by assumption) cls_shl (shl_none (by kernel_rfl)) (by walk_at "hp") (by rfl) ?_)
  refine op_in1t _ l_quo (by simp; lia) ?_
  repeat walk_at "w"
  refine tr_one ?_
  repeat walk_at "w"
  (refine at_get (by assumption) cls_shl (shl_none (by kernel_rfl)) (by walk_at "hp") (by rfl) ?_)
  repeat walk_at "w"
  rw [eq1 c q rfl]
  refine ⟨fun hh => absurd (of_decide_eq_true hh) hcq, fun _ => ?_⟩
  repeat walk_at "w"
  (refine at_get (by assumption) cls_shl (shl_none (by kernel_rfl)) (by walk_at "hp") (by rfl) ?_)
  repeat walk_at "w"
  (refine at_get (by assumption) cls_shl (shl_none (by kernel_rfl)) (by walk_at "hp") (by rfl) ?_)
  refine op_in1f _ l_esc (by simp; lia) ?_
  repeat walk_at "w"
  (refine at_get (by assumption) cls_shl (shl_none (by kernel_rfl)) (by walk_at "hp") (by rfl) ?_)
  repeat walk_at "w"
  refine ip_addS (by rw [sizeLine_eq]; show tok.length + 1 ≤ _; lia) ?_
  (first | refine set_tok (by assumption) (by walk_at "hp") ?_ | refine set_state (by assumption) (by walk_at "hp") ?_ | refine set_line (by assumption) (by walk_at "hp") ?_)
  repeat walk_at "w"
  refine h _ _ ⟨?_, ?_, ?_⟩ ⟨?_, ?_, fun k h1 h2 => ?_⟩
  · walk_at "lk"
  · walk_at "lk"
  · walk_at "lk"
  · walk_at "hp"
  · walk_at "hp"
  · exact (upd_ne _ _ h1).trans (e3 k h1 h2)
end
-- MHeap_04

set_option maxRecDepth 100000
open PySem PySem.W PyProof.Rows

noncomputable def LtOk (P : V → Prop) (lt : V → V → Bool) : Prop := ∀ (C : Fx) (st : St) (Q : V → St → Prop) (a b : V), C.d ≤ 800 → C.u ≤ 5000 → P a → P b → Q (.bool (lt a b)) st → JV C VR [a, b] (two (compareOp .Lt)) st Q


noncomputable def sdown (lt : V → V → Bool) (x : V) (k : Nat) (xs : List V) : List V :=
  if h : k = 0 then xs.set 0 x else
    match xs[(k - 1) / 2]? with
    | some y => if lt x y then sdown lt x ((k - 1) / 2) (xs.set k y) else xs.set k x
    | none => xs.set k x
termination_by k
decreasing_by lia

theorem upd_same {α : Type} {H : Nat → Option α} {n : Nat} {x : α} (h : H n = some x) : upd H n x = H := by
  funext k; unfold upd; split
  · rename_i q; rw [q, h]
  · rfl
theorem upd_upd {α : Type} (H : Nat → Option α) (n : Nat) (x y : α) : upd (upd H n x) n y = upd H n y := by
  funext k; unfold upd; split <;> rfl


inductive SdnI (lt : V → V → Bool) (P : V → Prop) (heap : Nat → Option AO) (n nx : Nat) (xs : List V) (x : V) (k m : Nat) (st' : St) : Prop
  | mk (k' : Nat) (xs' : List V) (vars : List (Str × V)) (e : st' = ⟨vars, upd heap n (.list xs'), nx⟩) (e2 : m = k') (h1 : gv vars "heap" = some (.obj n)) (h2 : gv vars "pos" = some (.int k')) (h3 : gv vars "newitem" = some x) (h4 : gv vars "startpos" = some (.int 0))
    (h5 : k' < xs'.length) (h6 : xs'.length = xs.length) (h7 : ∀ y ∈ xs', P y) (h8 : sdown lt x k' xs' = sdown lt x k xs)
theorem siftdown_body (P : V → Prop) (lt : V → V → Bool) (hlt : LtOk P lt) (C : Fx) (hsc : C.sc = scopeAt pb 32) (hd : C.d ≤ 800) (hu : C.u ≤ 5000) (st : St) (n : Nat) (xs : List V) (k : Nat) (x : V)
    (hv : st.vars = [(("heap" : Str), V.obj n), (("startpos" : Str), V.int 0), (("pos" : Str), V.int k)]) (hh : st.heap n = some (.list xs)) (hk : xs[k]? = some x) (hP : ∀ y ∈ xs, P y) (hsz : xs.length ≤ 1000)
    (Q : FlowA → St → Prop) (h : ∀ vars, Q .next { st with vars := vars, heap := upd st.heap n (.list (sdown lt x k xs)) }) : JX C (bodyAt pb 32) st Q := by
  obtain ⟨prog, w, os, base, d, u, sc, gp, pin, tkC, frC, flC⟩ := C
  obtain rfl : sc = scopeAt pb 32 := hsc
  obtain ⟨vars, heap, nx⟩ := st
  obtain rfl : vars = _ := hv
  have hkl := (List.getElem?_eq_some_iff.mp hk).1
  -- behind the loop: the last row
  have key : ∀ (vars : List (Str × V)) (k' : Nat) (xs' : List V), gv vars "heap" = some (.obj n) → gv vars "pos" = some (.int k') → gv vars "newitem" = some x → k' < xs'.length → xs'.length = xs.length → xs'.set k' x = sdown lt x k xs →
      JX ⟨prog, w, os, base, d, u, scopeAt pb 32, gp, pin, tkC, frC, flC⟩ ((bodyAt pb 32).drop 2) ⟨vars, upd heap n (.list xs'), nx⟩ Q := by
    intro vars k' xs' h1 h2 h3 h4 h5 h6
    refine x_cons (x_SetItem ?_)
    (first | refine ev_Name (by walk_at "lk") (by rfl) ?_ | refine ev_Const_int ?_ | refine ev_BinOp ?_ | refine ev_Compare ?_ | refine ev_Subscript ?_ | refine tt_Compare ?_ | refine tt_And2 ?_ | refine tt_Not ?_ | refine op_sub ?_ | refine op_add ?_ | refine op_gt ?_ | refine op_lt ?_ | refine tr_bool ?_)
    (first | refine ev_Name (by walk_at "lk") (by rfl) ?_ | refine ev_Const_int ?_ | refine ev_BinOp ?_ | refine ev_Compare ?_ | refine ev_Subscript ?_ | refine tt_Compare ?_ | refine tt_And2 ?_ | refine tt_Not ?_ | refine op_sub ?_ | refine op_add ?_ | refine op_gt ?_ | refine op_lt ?_ | refine tr_bool ?_)
    (first | refine ev_Name (by walk_at "lk") (by rfl) ?_ | refine ev_Const_int ?_ | refine ev_BinOp ?_ | refine ev_Compare ?_ | refine ev_Subscript ?_ | refine tt_Compare ?_ | refine tt_And2 ?_ | refine tt_Not ?_ | refine op_sub ?_ | refine op_add ?_ | refine op_gt ?_ | refine op_lt ?_ | refine tr_bool ?_)
    refine set_obj (upd_self ..) (by lia) (by lia) (by lia) ?_
    refine x_nil ?_
    rw [upd_upd, Int.toNat_natCast, h6]
    exact h vars
  refine x_cons (x_Assign ?_ (by rfl))
  (first | refine ev_Name (by walk_at "lk") (by rfl) ?_ | refine ev_Const_int ?_ | refine ev_BinOp ?_ | refine ev_Compare ?_ | refine ev_Subscript ?_ | refine tt_Compare ?_ | refine tt_And2 ?_ | refine tt_Not ?_ | refine op_sub ?_ | refine op_add ?_ | refine op_gt ?_ | refine op_lt ?_ | refine tr_bool ?_)
  (first | refine ev_Name (by walk_at "lk") (by rfl) ?_ | refine ev_Const_int ?_ | refine ev_BinOp ?_ | refine ev_Compare ?_ | refine ev_Subscript ?_ | refine tt_Compare ?_ | refine tt_And2 ?_ | refine tt_Not ?_ | refine op_sub ?_ | refine op_add ?_ | refine op_gt ?_ | refine op_lt ?_ | refine tr_bool ?_)
  (first | refine ev_Name (by walk_at "lk") (by rfl) ?_ | refine ev_Const_int ?_ | refine ev_BinOp ?_ | refine ev_Compare ?_ | refine ev_Subscript ?_ | refine tt_Compare ?_ | refine tt_And2 ?_ | refine tt_Not ?_ | refine op_sub ?_ | refine op_add ?_ | refine op_gt ?_ | refine op_lt ?_ | refine tr_bool ?_)
  refine sub_obj hh (by lia) (by simpa using hk) (by lia) ?_
  refine x_cons (x_While (SdnI lt P heap n nx xs x k) k ?_ ?_)
  · refine ⟨k, xs, _, by rw [upd_same hh], rfl, by rfl, by rfl, by rfl, by rfl, hkl, rfl, hP, rfl⟩
  · rintro m st' ⟨k', xs', vars, rfl, rfl, h1, h2, h3, h4, h5, h6, h7, h8⟩
    have hPx : P x := hP x (List.mem_of_getElem? hk)
    (first | refine ev_Name (by walk_at "lk") (by rfl) ?_ | refine ev_Const_int ?_ | refine ev_BinOp ?_ | refine ev_Compare ?_ | refine ev_Subscript ?_ | refine tt_Compare ?_ | refine tt_And2 ?_ | refine tt_Not ?_ | refine op_sub ?_ | refine op_add ?_ | refine op_gt ?_ | refine op_lt ?_ | refine tr_bool ?_)
    (first | refine ev_Name (by walk_at "lk") (by rfl) ?_ | refine ev_Const_int ?_ | refine ev_BinOp ?_ | refine ev_Compare ?_ | refine ev_Subscript ?_ | refine tt_Compare ?_ | refine tt_And2 ?_ | refine tt_Not ?_ | refine op_sub ?_ | refine op_add ?_ | refine op_gt ?_ | refine op_lt ?_ | refine tr_bool ?_)
    (first | refine ev_Name (by walk_at "lk") (by rfl) ?_ | refine ev_Const_int ?_ | refine ev_BinOp ?_ | refine ev_Compare ?_ | refine ev_Subscript ?_ | refine tt_Compare ?_ | refine tt_And2 ?_ | refine tt_Not ?_ | refine op_sub ?_ | refine op_add ?_ | refine op_gt ?_ | refine op_lt ?_ | refine tr_bool ?_)
    (first | refine ev_Name (by walk_at "lk") (by rfl) ?_ | refine ev_Const_int ?_ | refine ev_BinOp ?_ | refine ev_Compare ?_ | refine ev_Subscript ?_ | refine tt_Compare ?_ | refine tt_And2 ?_ | refine tt_Not ?_ | refine op_sub ?_ | refine op_add ?_ | refine op_gt ?_ | refine op_lt ?_ | refine tr_bool ?_)
    (first | refine ev_Name (by walk_at "lk") (by rfl) ?_ | refine ev_Const_int ?_ | refine ev_BinOp ?_ | refine ev_Compare ?_ | refine ev_Subscript ?_ | refine tt_Compare ?_ | refine tt_And2 ?_ | refine tt_Not ?_ | refine op_sub ?_ | refine op_add ?_ | refine op_gt ?_ | refine op_lt ?_ | refine tr_bool ?_)
    refine ⟨fun hc => ?_, fun hc => ?_⟩
    · have hk' : 0 < m := by simpa using hc
      have hp : (m - 1) / 2 < xs'.length := by lia
      obtain ⟨y, hy⟩ : ∃ y, xs'[(m - 1) / 2]? = some y := ⟨_, List.getElem?_eq_getElem hp⟩
      refine x_cons (x_Assign ?_ (by rfl))
      (first | refine ev_Name (by walk_at "lk") (by rfl) ?_ | refine ev_Const_int ?_ | refine ev_BinOp ?_ | refine ev_Compare ?_ | refine ev_Subscript ?_ | refine tt_Compare ?_ | refine tt_And2 ?_ | refine tt_Not ?_ | refine op_sub ?_ | refine op_add ?_ | refine op_gt ?_ | refine op_lt ?_ | refine tr_bool ?_)
      (first | refine ev_Name (by walk_at "lk") (by rfl) ?_ | refine ev_Const_int ?_ | refine ev_BinOp ?_ | refine ev_Compare ?_ | refine ev_Subscript ?_ | refine tt_Compare ?_ | refine tt_And2 ?_ | refine tt_Not ?_ | refine op_sub ?_ | refine op_add ?_ | refine op_gt ?_ | refine op_lt ?_ | refine tr_bool ?_)
      (first | refine ev_Name (by walk_at "lk") (by rfl) ?_ | refine ev_Const_int ?_ | refine ev_BinOp ?_ | refine ev_Compare ?_ | refine ev_Subscript ?_ | refine tt_Compare ?_ | refine tt_And2 ?_ | refine tt_Not ?_ | refine op_sub ?_ | refine op_add ?_ | refine op_gt ?_ | refine op_lt ?_ | refine tr_bool ?_)
      (first | refine ev_Name (by walk_at "lk") (by rfl) ?_ | refine ev_Const_int ?_ | refine ev_BinOp ?_ | refine ev_Compare ?_ | refine ev_Subscript ?_ | refine tt_Compare ?_ | refine tt_And2 ?_ | refine tt_Not ?_ | refine op_sub ?_ | refine op_add ?_ | refine op_gt ?_ | refine op_lt ?_ | refine tr_bool ?_)
      (first | refine ev_Name (by walk_at "lk") (by rfl) ?_ | refine ev_Const_int ?_ | refine ev_BinOp ?_ | refine ev_Compare ?_ | refine ev_Subscript ?_ | refine tt_Compare ?_ | refine tt_And2 ?_ | refine tt_Not ?_ | refine op_sub ?_ | refine op_add ?_ | refine op_gt ?_ | refine op_lt ?_ | refine tr_bool ?_)
      (first | refine ev_Name (by walk_at "lk") (by rfl) ?_ | refine ev_Const_int ?_ | refine ev_BinOp ?_ | refine ev_Compare ?_ | refine ev_Subscript ?_ | refine tt_Compare ?_ | refine tt_And2 ?_ | refine tt_Not ?_ | refine op_sub ?_ | refine op_add ?_ | refine op_gt ?_ | refine op_lt ?_ | refine tr_bool ?_)
      refine op_rshift1 (by lia) ?_
      have e1 : ((m : Int) - 1) / 2 = (((m - 1) / 2 : Nat) : Int) := by lia
      rw [e1]
      refine x_cons (x_Assign ?_ (by rfl))
      (first | refine ev_Name (by walk_at "lk") (by rfl) ?_ | refine ev_Const_int ?_ | refine ev_BinOp ?_ | refine ev_Compare ?_ | refine ev_Subscript ?_ | refine tt_Compare ?_ | refine tt_And2 ?_ | refine tt_Not ?_ | refine op_sub ?_ | refine op_add ?_ | refine op_gt ?_ | refine op_lt ?_ | refine tr_bool ?_)
      (first | refine ev_Name (by walk_at "lk") (by rfl) ?_ | refine ev_Const_int ?_ | refine ev_BinOp ?_ | refine ev_Compare ?_ | refine ev_Subscript ?_ | refine tt_Compare ?_ | refine tt_And2 ?_ | refine tt_Not ?_ | refine op_sub ?_ | refine op_add ?_ | refine op_gt ?_ | refine op_lt ?_ | refine tr_bool ?_)
      (first | refine ev_Name (by walk_at "lk") (by rfl) ?_ | refine ev_Const_int ?_ | refine ev_BinOp ?_ | refine ev_Compare ?_ | refine ev_Subscript ?_ | refine tt_Compare ?_ | refine tt_And2 ?_ | refine tt_Not ?_ | refine op_sub ?_ | refine op_add ?_ | refine op_gt ?_ | refine op_lt ?_ | refine tr_bool ?_)
      refine sub_obj (upd_self ..) (by lia) (by rw [Int.toNat_natCast]; exact hy) (by lia) ?_
      refine x_cons (x_If ?_)
      (first | refine ev_Name (by walk_at "lk") (by rfl) ?_ | refine ev_Const_int ?_ | refine ev_BinOp ?_ | refine ev_Compare ?_ | refine ev_Subscript ?_ | refine tt_Compare ?_ | refine tt_And2 ?_ | refine tt_Not ?_ | refine op_sub ?_ | refine op_add ?_ | refine op_gt ?_ | refine op_lt ?_ | refine tr_bool ?_)
      (first | refine ev_Name (by walk_at "lk") (by rfl) ?_ | refine ev_Const_int ?_ | refine ev_BinOp ?_ | refine ev_Compare ?_ | refine ev_Subscript ?_ | refine tt_Compare ?_ | refine tt_And2 ?_ | refine tt_Not ?_ | refine op_sub ?_ | refine op_add ?_ | refine op_gt ?_ | refine op_lt ?_ | refine tr_bool ?_)
      (first | refine ev_Name (by walk_at "lk") (by rfl) ?_ | refine ev_Const_int ?_ | refine ev_BinOp ?_ | refine ev_Compare ?_ | refine ev_Subscript ?_ | refine tt_Compare ?_ | refine tt_And2 ?_ | refine tt_Not ?_ | refine op_sub ?_ | refine op_add ?_ | refine op_gt ?_ | refine op_lt ?_ | refine tr_bool ?_)
      refine hlt _ _ _ _ _ hd hu hPx (h7 y (List.mem_of_getElem? hy)) ?_
      (first | refine ev_Name (by walk_at "lk") (by rfl) ?_ | refine ev_Const_int ?_ | refine ev_BinOp ?_ | refine ev_Compare ?_ | refine ev_Subscript ?_ | refine tt_Compare ?_ | refine tt_And2 ?_ | refine tt_Not ?_ | refine op_sub ?_ | refine op_add ?_ | refine op_gt ?_ | refine op_lt ?_ | refine tr_bool ?_)
      have hs : sdown lt x m xs' = if lt x y then sdown lt x ((m - 1) / 2) (xs'.set m y) else xs'.set m x := by
        rw [sdown, dif_neg (by lia)]; simp only [hy]
      refine ⟨fun hc => ?_, fun hc => ?_⟩
      · rw [if_pos hc] at hs
        refine x_cons (x_SetItem ?_)
        (first | refine ev_Name (by walk_at "lk") (by rfl) ?_ | refine ev_Const_int ?_ | refine ev_BinOp ?_ | refine ev_Compare ?_ | refine ev_Subscript ?_ | refine tt_Compare ?_ | refine tt_And2 ?_ | refine tt_Not ?_ | refine op_sub ?_ | refine op_add ?_ | refine op_gt ?_ | refine op_lt ?_ | refine tr_bool ?_)
        (first | refine ev_Name (by walk_at "lk") (by rfl) ?_ | refine ev_Const_int ?_ | refine ev_BinOp ?_ | refine ev_Compare ?_ | refine ev_Subscript ?_ | refine tt_Compare ?_ | refine tt_And2 ?_ | refine tt_Not ?_ | refine op_sub ?_ | refine op_add ?_ | refine op_gt ?_ | refine op_lt ?_ | refine tr_bool ?_)
        (first | refine ev_Name (by walk_at "lk") (by rfl) ?_ | refine ev_Const_int ?_ | refine ev_BinOp ?_ | refine ev_Compare ?_ | refine ev_Subscript ?_ | refine tt_Compare ?_ | refine tt_And2 ?_ | refine tt_Not ?_ | refine op_sub ?_ | refine op_add ?_ | refine op_gt ?_ | refine op_lt ?_ | refine tr_bool ?_)
        refine set_obj (upd_self ..) (by lia) (by lia) (by lia) ?_
        refine x_cons (x_Assign ?_ (by rfl))
        (first | refine ev_Name (by walk_at "lk") (by rfl) ?_ | refine ev_Const_int ?_ | refine ev_BinOp ?_ | refine ev_Compare ?_ | refine ev_Subscript ?_ | refine tt_Compare ?_ | refine tt_And2 ?_ | refine tt_Not ?_ | refine op_sub ?_ | refine op_add ?_ | refine op_gt ?_ | refine op_lt ?_ | refine tr_bool ?_)
        refine x_cons (x_Continue ?_)
        refine ⟨(m - 1) / 2, by lia, (m - 1) / 2, xs'.set m y, _, by dsimp only; rw [upd_upd, Int.toNat_natCast], rfl, by walk_at "lk", by walk_at "lk", by walk_at "lk", by walk_at "lk", by simp; lia, by simp [h6], fun z hz => ?_, by rw [← hs, h8]⟩
        rcases List.mem_or_eq_of_mem_set hz with q | q
        · exact h7 z q
        · rw [q]; exact h7 y (List.mem_of_getElem? hy)
      · rw [if_neg (by rw [hc]; simp)] at hs
        refine x_nil ?_
        refine x_cons (x_Break ?_)
        exact key _ m xs' (by walk_at "lk") (by walk_at "lk") (by walk_at "lk") h5 h6 (by rw [← hs, h8])
    · have hk' : m = 0 := by simp at hc; lia
      subst hk'
      refine x_nil ?_
      have := key vars 0 xs' h1 h2 h3 h5 h6 (by rw [← h8]; unfold sdown; rw [dif_pos rfl])
      exact this
-- MHeap2_04

set_option maxRecDepth 100000
set_option maxHeartbeats 8000000
open PySem PySem.W PyProof.Rows

noncomputable def supc (lt : V → V → Bool) (xs : List V) (c : Nat) : Nat := if c + 1 < xs.length ∧ lt (xs.getD c .none) (xs.getD (c + 1) .none) = false then c + 1 else c
theorem supc_lt (lt : V → V → Bool) (xs : List V) {c : Nat} (h : c < xs.length) : supc lt xs c < xs.length ∧ c ≤ supc lt xs c := by
  unfold supc; split <;> lia
noncomputable def sup (lt : V → V → Bool) (k : Nat) (xs : List V) : List V × Nat :=
  if h : 2 * k + 1 < xs.length then sup lt (supc lt xs (2 * k + 1)) (xs.set k (xs.getD (supc lt xs (2 * k + 1)) .none)) else (xs, k)
termination_by xs.length - k
decreasing_by
  have := supc_lt lt xs h
  simp only [List.length_set]
  lia


inductive SupI (lt : V → V → Bool) (P : V → Prop) (heap : Nat → Option AO) (n nx : Nat) (xs : List V) (x : V) (m : Nat) (st' : St) : Prop
  | mk (k' : Nat) (xs' : List V) (vars : List (Str × V)) (e1 : st' = ⟨vars, upd heap n (.list xs'), nx⟩) (e2 : m = xs.length - k') (h1 : gv vars "heap" = some (.obj n)) (h2 : gv vars "pos" = some (.int k')) (h3 : gv vars "newitem" = some x) (h4 : gv vars "startpos" = some (.int 0))
    (h5 : gv vars "endpos" = some (.int xs.length)) (h6 : gv vars "childpos" = some (.int (2 * k' + 1))) (h7 : k' < xs'.length) (h8 : xs'.length = xs.length) (h9 : ∀ y ∈ xs', P y) (h10 : sup lt k' xs' = sup lt 0 xs)
noncomputable def nextOnly (I : St → Prop) : FlowA → St → Prop
  | .next, st => I st
  | _, _ => False
theorem getD_of {xs : List V} {i : Nat} (h : i < xs.length) : xs[i]? = some (xs.getD i .none) := by
  rw [List.getD_eq_getElem?_getD, List.getElem?_eq_getElem h]; rfl

theorem siftup_body (P : V → Prop) (lt : V → V → Bool) (hlt : LtOk P lt) (C : Fx) (hsc : C.sc = scopeAt pb 33) (hd : C.d ≤ 700) (hu : C.u ≤ 4000) (a al : Addr) (fd : FuncData) (hg : Glo C.base "_siftdown" (.ref a)) (F : Fn C.base a fd (bodyAt pb 32) ["heap", "startpos", "pos"]) (hfs : fd.scope = scopeAt pb 32)
    (hlen : Blt C.base "len" (.builtin "len"))
    (st : St) (n : Nat) (xs : List V) (x : V)
    (hv : st.vars = [(("heap" : Str), V.obj n), (("pos" : Str), V.int 0)]) (hh : st.heap n = some (.list xs)) (hk : xs[0]? = some x) (hP : ∀ y ∈ xs, P y) (hsz : xs.length ≤ 1000)
    (Q : FlowA → St → Prop) (h : ∀ vars, Q .next { st with vars := vars, heap := upd st.heap n (.list (sdown lt x (sup lt 0 xs).2 ((sup lt 0 xs).1.set (sup lt 0 xs).2 x))) }) : JX C (bodyAt pb 33) st Q := by
  obtain ⟨prog, w, os, base, d, u, sc, gp, pin, tkC, frC, flC⟩ := C
  obtain rfl : sc = scopeAt pb 33 := hsc
  obtain ⟨vars, heap, nx⟩ := st
  obtain rfl : vars = _ := hv
  have hkl := (List.getElem?_eq_some_iff.mp hk).1
  refine x_cons (x_Assign ?_ (by rfl))
  refine ev_CallB hlen (by rfl) ?_
  refine l_cons ?_
  (first | refine ev_Name (by walk_at "lk") (by rfl) ?_ | refine ev_Const_int ?_ | refine ev_BinOp ?_ | refine ev_Compare ?_ | refine ev_Subscript ?_ | refine tt_Compare ?_ | refine tt_And2 ?_ | refine tt_Not ?_ | refine op_sub ?_ | refine op_add ?_ | refine op_gt ?_ | refine op_lt ?_ | refine tr_bool ?_)
  refine l_nil ?_
  refine b_len (xs := xs) hh (by lia) ?_
  refine x_cons (x_Assign ?_ (by rfl))
  (first | refine ev_Name (by walk_at "lk") (by rfl) ?_ | refine ev_Const_int ?_ | refine ev_BinOp ?_ | refine ev_Compare ?_ | refine ev_Subscript ?_ | refine tt_Compare ?_ | refine tt_And2 ?_ | refine tt_Not ?_ | refine op_sub ?_ | refine op_add ?_ | refine op_gt ?_ | refine op_lt ?_ | refine tr_bool ?_)
  refine x_cons (x_Assign ?_ (by rfl))
  (first | refine ev_Name (by walk_at "lk") (by rfl) ?_ | refine ev_Const_int ?_ | refine ev_BinOp ?_ | refine ev_Compare ?_ | refine ev_Subscript ?_ | refine tt_Compare ?_ | refine tt_And2 ?_ | refine tt_Not ?_ | refine op_sub ?_ | refine op_add ?_ | refine op_gt ?_ | refine op_lt ?_ | refine tr_bool ?_)
  (first | refine ev_Name (by walk_at "lk") (by rfl) ?_ | refine ev_Const_int ?_ | refine ev_BinOp ?_ | refine ev_Compare ?_ | refine ev_Subscript ?_ | refine tt_Compare ?_ | refine tt_And2 ?_ | refine tt_Not ?_ | refine op_sub ?_ | refine op_add ?_ | refine op_gt ?_ | refine op_lt ?_ | refine tr_bool ?_)
  (first | refine ev_Name (by walk_at "lk") (by rfl) ?_ | refine ev_Const_int ?_ | refine ev_BinOp ?_ | refine ev_Compare ?_ | refine ev_Subscript ?_ | refine tt_Compare ?_ | refine tt_And2 ?_ | refine tt_Not ?_ | refine op_sub ?_ | refine op_add ?_ | refine op_gt ?_ | refine op_lt ?_ | refine tr_bool ?_)
  refine sub_obj hh (by lia) (by simpa using hk) (by lia) ?_
  refine x_cons (x_Assign ?_ (by rfl))
  (first | refine ev_Name (by walk_at "lk") (by rfl) ?_ | refine ev_Const_int ?_ | refine ev_BinOp ?_ | refine ev_Compare ?_ | refine ev_Subscript ?_ | refine tt_Compare ?_ | refine tt_And2 ?_ | refine tt_Not ?_ | refine op_sub ?_ | refine op_add ?_ | refine op_gt ?_ | refine op_lt ?_ | refine tr_bool ?_)
  (first | refine ev_Name (by walk_at "lk") (by rfl) ?_ | refine ev_Const_int ?_ | refine ev_BinOp ?_ | refine ev_Compare ?_ | refine ev_Subscript ?_ | refine tt_Compare ?_ | refine tt_And2 ?_ | refine tt_Not ?_ | refine op_sub ?_ | refine op_add ?_ | refine op_gt ?_ | refine op_lt ?_ | refine tr_bool ?_)
  (first | refine ev_Name (by walk_at "lk") (by rfl) ?_ | refine ev_Const_int ?_ | refine ev_BinOp ?_ | refine ev_Compare ?_ | refine ev_Subscript ?_ | refine tt_Compare ?_ | refine tt_And2 ?_ | refine tt_Not ?_ | refine op_sub ?_ | refine op_add ?_ | refine op_gt ?_ | refine op_lt ?_ | refine tr_bool ?_)
  (first | refine ev_Name (by walk_at "lk") (by rfl) ?_ | refine ev_Const_int ?_ | refine ev_BinOp ?_ | refine ev_Compare ?_ | refine ev_Subscript ?_ | refine tt_Compare ?_ | refine tt_And2 ?_ | refine tt_Not ?_ | refine op_sub ?_ | refine op_add ?_ | refine op_gt ?_ | refine op_lt ?_ | refine tr_bool ?_)
  refine op_mul ?_ (IntMulOk.of_left (by decide))
  (first | refine ev_Name (by walk_at "lk") (by rfl) ?_ | refine ev_Const_int ?_ | refine ev_BinOp ?_ | refine ev_Compare ?_ | refine ev_Subscript ?_ | refine tt_Compare ?_ | refine tt_And2 ?_ | refine tt_Not ?_ | refine op_sub ?_ | refine op_add ?_ | refine op_gt ?_ | refine op_lt ?_ | refine tr_bool ?_)
  (first | refine ev_Name (by walk_at "lk") (by rfl) ?_ | refine ev_Const_int ?_ | refine ev_BinOp ?_ | refine ev_Compare ?_ | refine ev_Subscript ?_ | refine tt_Compare ?_ | refine tt_And2 ?_ | refine tt_Not ?_ | refine op_sub ?_ | refine op_add ?_ | refine op_gt ?_ | refine op_lt ?_ | refine tr_bool ?_)
  refine x_cons (x_While (SupI lt P heap n nx xs x) (xs.length - 0) ?_ ?_)
  · refine ⟨0, xs, _, by rw [upd_same hh], rfl, by rfl, by rfl, by rfl, by rfl, by rfl, by rfl, hkl, rfl, hP, rfl⟩
  · rintro m st' ⟨k', xs', vars, rfl, rfl, h1, h2, h3, h4, h9, h10, h5, h6, h7, h8⟩
    have hPx : P x := hP x (List.mem_of_getElem? hk)
    (first | refine ev_Name (by walk_at "lk") (by rfl) ?_ | refine ev_Const_int ?_ | refine ev_BinOp ?_ | refine ev_Compare ?_ | refine ev_Subscript ?_ | refine tt_Compare ?_ | refine tt_And2 ?_ | refine tt_Not ?_ | refine op_sub ?_ | refine op_add ?_ | refine op_gt ?_ | refine op_lt ?_ | refine tr_bool ?_)
    (first | refine ev_Name (by walk_at "lk") (by rfl) ?_ | refine ev_Const_int ?_ | refine ev_BinOp ?_ | refine ev_Compare ?_ | refine ev_Subscript ?_ | refine tt_Compare ?_ | refine tt_And2 ?_ | refine tt_Not ?_ | refine op_sub ?_ | refine op_add ?_ | refine op_gt ?_ | refine op_lt ?_ | refine tr_bool ?_)
    (first | refine ev_Name (by walk_at "lk") (by rfl) ?_ | refine ev_Const_int ?_ | refine ev_BinOp ?_ | refine ev_Compare ?_ | refine ev_Subscript ?_ | refine tt_Compare ?_ | refine tt_And2 ?_ | refine tt_Not ?_ | refine op_sub ?_ | refine op_add ?_ | refine op_gt ?_ | refine op_lt ?_ | refine tr_bool ?_)
    (first | refine ev_Name (by walk_at "lk") (by rfl) ?_ | refine ev_Const_int ?_ | refine ev_BinOp ?_ | refine ev_Compare ?_ | refine ev_Subscript ?_ | refine tt_Compare ?_ | refine tt_And2 ?_ | refine tt_Not ?_ | refine op_sub ?_ | refine op_add ?_ | refine op_gt ?_ | refine op_lt ?_ | refine tr_bool ?_)
    (first | refine ev_Name (by walk_at "lk") (by rfl) ?_ | refine ev_Const_int ?_ | refine ev_BinOp ?_ | refine ev_Compare ?_ | refine ev_Subscript ?_ | refine tt_Compare ?_ | refine tt_And2 ?_ | refine tt_Not ?_ | refine op_sub ?_ | refine op_add ?_ | refine op_gt ?_ | refine op_lt ?_ | refine tr_bool ?_)
    refine ⟨fun hc => ?_, fun hc => ?_⟩
    · have hc' : 2 * k' + 1 < xs'.length := by have := of_decide_eq_true hc; lia
      obtain ⟨s1, s2⟩ := supc_lt lt xs' hc'
      have hs : sup lt k' xs' = sup lt (supc lt xs' (2 * k' + 1)) (xs'.set k' (xs'.getD (supc lt xs' (2 * k' + 1)) .none)) := by rw [sup, dif_pos hc']
      have hmem : ∀ i, i < xs'.length → P (xs'.getD i .none) := fun i hi => h7 _ (List.mem_of_getElem? (getD_of hi))
      refine x_cons (x_Assign ?_ (by rfl))
      (first | refine ev_Name (by walk_at "lk") (by rfl) ?_ | refine ev_Const_int ?_ | refine ev_BinOp ?_ | refine ev_Compare ?_ | refine ev_Subscript ?_ | refine tt_Compare ?_ | refine tt_And2 ?_ | refine tt_Not ?_ | refine op_sub ?_ | refine op_add ?_ | refine op_gt ?_ | refine op_lt ?_ | refine tr_bool ?_)
      (first | refine ev_Name (by walk_at "lk") (by rfl) ?_ | refine ev_Const_int ?_ | refine ev_BinOp ?_ | refine ev_Compare ?_ | refine ev_Subscript ?_ | refine tt_Compare ?_ | refine tt_And2 ?_ | refine tt_Not ?_ | refine op_sub ?_ | refine op_add ?_ | refine op_gt ?_ | refine op_lt ?_ | refine tr_bool ?_)
      (first | refine ev_Name (by walk_at "lk") (by rfl) ?_ | refine ev_Const_int ?_ | refine ev_BinOp ?_ | refine ev_Compare ?_ | refine ev_Subscript ?_ | refine tt_Compare ?_ | refine tt_And2 ?_ | refine tt_Not ?_ | refine op_sub ?_ | refine op_add ?_ | refine op_gt ?_ | refine op_lt ?_ | refine tr_bool ?_)
      (first | refine ev_Name (by walk_at "lk") (by rfl) ?_ | refine ev_Const_int ?_ | refine ev_BinOp ?_ | refine ev_Compare ?_ | refine ev_Subscript ?_ | refine tt_Compare ?_ | refine tt_And2 ?_ | refine tt_Not ?_ | refine op_sub ?_ | refine op_add ?_ | refine op_gt ?_ | refine op_lt ?_ | refine tr_bool ?_)
      -- behind the choice
      have go : ∀ (vars' : List (Str × V)) (c : Nat) (ci : Int), ci = (c : Int) → c = supc lt xs' (2 * k' + 1) → gv vars' "heap" = some (.obj n) → gv vars' "pos" = some (.int k') → gv vars' "newitem" = some x → gv vars' "startpos" = some (.int 0) → gv vars' "endpos" = some (.int xs.length) → gv vars' "childpos" = some (.int ci) →
          JX ⟨prog, w, os, base, d, u, scopeAt pb 33, gp, pin, tkC, frC, flC⟩ ((whB (bodyAt pb 33)[4]?).drop 2) ⟨vars', upd heap n (.list xs'), nx⟩ (nextOnly fun st₂ => ∃ m', m' < xs.length - k' ∧ SupI lt P heap n nx xs x m' st₂) := by
        intro vars' c ci eci ec g1 g2 g3 g4 g5 g6
        subst eci
        subst ec
        refine x_cons (x_SetItem ?_)
        (first | refine ev_Name (by walk_at "lk") (by rfl) ?_ | refine ev_Const_int ?_ | refine ev_BinOp ?_ | refine ev_Compare ?_ | refine ev_Subscript ?_ | refine tt_Compare ?_ | refine tt_And2 ?_ | refine tt_Not ?_ | refine op_sub ?_ | refine op_add ?_ | refine op_gt ?_ | refine op_lt ?_ | refine tr_bool ?_)
        (first | refine ev_Name (by walk_at "lk") (by rfl) ?_ | refine ev_Const_int ?_ | refine ev_BinOp ?_ | refine ev_Compare ?_ | refine ev_Subscript ?_ | refine tt_Compare ?_ | refine tt_And2 ?_ | refine tt_Not ?_ | refine op_sub ?_ | refine op_add ?_ | refine op_gt ?_ | refine op_lt ?_ | refine tr_bool ?_)
        (first | refine ev_Name (by walk_at "lk") (by rfl) ?_ | refine ev_Const_int ?_ | refine ev_BinOp ?_ | refine ev_Compare ?_ | refine ev_Subscript ?_ | refine tt_Compare ?_ | refine tt_And2 ?_ | refine tt_Not ?_ | refine op_sub ?_ | refine op_add ?_ | refine op_gt ?_ | refine op_lt ?_ | refine tr_bool ?_)
        refine sub_obj (upd_self ..) (by lia) (by rw [Int.toNat_natCast]; exact getD_of s1) (by lia) ?_
        (first | refine ev_Name (by walk_at "lk") (by rfl) ?_ | refine ev_Const_int ?_ | refine ev_BinOp ?_ | refine ev_Compare ?_ | refine ev_Subscript ?_ | refine tt_Compare ?_ | refine tt_And2 ?_ | refine tt_Not ?_ | refine op_sub ?_ | refine op_add ?_ | refine op_gt ?_ | refine op_lt ?_ | refine tr_bool ?_)
        (first | refine ev_Name (by walk_at "lk") (by rfl) ?_ | refine ev_Const_int ?_ | refine ev_BinOp ?_ | refine ev_Compare ?_ | refine ev_Subscript ?_ | refine tt_Compare ?_ | refine tt_And2 ?_ | refine tt_Not ?_ | refine op_sub ?_ | refine op_add ?_ | refine op_gt ?_ | refine op_lt ?_ | refine tr_bool ?_)
        refine set_obj (upd_self ..) (by lia) (by lia) (by lia) ?_
        refine x_cons (x_Assign ?_ (by rfl))
        (first | refine ev_Name (by walk_at "lk") (by rfl) ?_ | refine ev_Const_int ?_ | refine ev_BinOp ?_ | refine ev_Compare ?_ | refine ev_Subscript ?_ | refine tt_Compare ?_ | refine tt_And2 ?_ | refine tt_Not ?_ | refine op_sub ?_ | refine op_add ?_ | refine op_gt ?_ | refine op_lt ?_ | refine tr_bool ?_)
        refine x_cons (x_Assign ?_ (by rfl))
        (first | refine ev_Name (by walk_at "lk") (by rfl) ?_ | refine ev_Const_int ?_ | refine ev_BinOp ?_ | refine ev_Compare ?_ | refine ev_Subscript ?_ | refine tt_Compare ?_ | refine tt_And2 ?_ | refine tt_Not ?_ | refine op_sub ?_ | refine op_add ?_ | refine op_gt ?_ | refine op_lt ?_ | refine tr_bool ?_)
        (first | refine ev_Name (by walk_at "lk") (by rfl) ?_ | refine ev_Const_int ?_ | refine ev_BinOp ?_ | refine ev_Compare ?_ | refine ev_Subscript ?_ | refine tt_Compare ?_ | refine tt_And2 ?_ | refine tt_Not ?_ | refine op_sub ?_ | refine op_add ?_ | refine op_gt ?_ | refine op_lt ?_ | refine tr_bool ?_)
        (first | refine ev_Name (by walk_at "lk") (by rfl) ?_ | refine ev_Const_int ?_ | refine ev_BinOp ?_ | refine ev_Compare ?_ | refine ev_Subscript ?_ | refine tt_Compare ?_ | refine tt_And2 ?_ | refine tt_Not ?_ | refine op_sub ?_ | refine op_add ?_ | refine op_gt ?_ | refine op_lt ?_ | refine tr_bool ?_)
        (first | refine ev_Name (by walk_at "lk") (by rfl) ?_ | refine ev_Const_int ?_ | refine ev_BinOp ?_ | refine ev_Compare ?_ | refine ev_Subscript ?_ | refine tt_Compare ?_ | refine tt_And2 ?_ | refine tt_Not ?_ | refine op_sub ?_ | refine op_add ?_ | refine op_gt ?_ | refine op_lt ?_ | refine tr_bool ?_)
        refine op_mul ?_ (IntMulOk.of_left (by decide))
        (first | refine ev_Name (by walk_at "lk") (by rfl) ?_ | refine ev_Const_int ?_ | refine ev_BinOp ?_ | refine ev_Compare ?_ | refine ev_Subscript ?_ | refine tt_Compare ?_ | refine tt_And2 ?_ | refine tt_Not ?_ | refine op_sub ?_ | refine op_add ?_ | refine op_gt ?_ | refine op_lt ?_ | refine tr_bool ?_)
        (first | refine ev_Name (by walk_at "lk") (by rfl) ?_ | refine ev_Const_int ?_ | refine ev_BinOp ?_ | refine ev_Compare ?_ | refine ev_Subscript ?_ | refine tt_Compare ?_ | refine tt_And2 ?_ | refine tt_Not ?_ | refine op_sub ?_ | refine op_add ?_ | refine op_gt ?_ | refine op_lt ?_ | refine tr_bool ?_)
        refine x_nil ?_
        refine ⟨xs.length - supc lt xs' (2 * k' + 1), by lia, supc lt xs' (2 * k' + 1), _, _, by dsimp only; rw [upd_upd, Int.toNat_natCast], rfl, by walk_at "lk", by walk_at "lk", by walk_at "lk", by walk_at "lk", by walk_at "lk", by walk_at "lk", by simp; lia, by simp [h6], fun z hz => ?_, by rw [← hs, h8]⟩
        rcases List.mem_or_eq_of_mem_set hz with q | q
        · exact h7 z q
        · rw [q]; exact hmem _ s1
      refine x_cons (x_If ?_)
      (first | refine ev_Name (by walk_at "lk") (by rfl) ?_ | refine ev_Const_int ?_ | refine ev_BinOp ?_ | refine ev_Compare ?_ | refine ev_Subscript ?_ | refine tt_Compare ?_ | refine tt_And2 ?_ | refine tt_Not ?_ | refine op_sub ?_ | refine op_add ?_ | refine op_gt ?_ | refine op_lt ?_ | refine tr_bool ?_)
      (first | refine ev_Name (by walk_at "lk") (by rfl) ?_ | refine ev_Const_int ?_ | refine ev_BinOp ?_ | refine ev_Compare ?_ | refine ev_Subscript ?_ | refine tt_Compare ?_ | refine tt_And2 ?_ | refine tt_Not ?_ | refine op_sub ?_ | refine op_add ?_ | refine op_gt ?_ | refine op_lt ?_ | refine tr_bool ?_)
      (first | refine ev_Name (by walk_at "lk") (by rfl) ?_ | refine ev_Const_int ?_ | refine ev_BinOp ?_ | refine ev_Compare ?_ | refine ev_Subscript ?_ | refine tt_Compare ?_ | refine tt_And2 ?_ | refine tt_Not ?_ | refine op_sub ?_ | refine op_add ?_ | refine op_gt ?_ | refine op_lt ?_ | refine tr_bool ?_)
      (first | refine ev_Name (by walk_at "lk") (by rfl) ?_ | refine ev_Const_int ?_ | refine ev_BinOp ?_ | refine ev_Compare ?_ | refine ev_Subscript ?_ | refine tt_Compare ?_ | refine tt_And2 ?_ | refine tt_Not ?_ | refine op_sub ?_ | refine op_add ?_ | refine op_gt ?_ | refine op_lt ?_ | refine tr_bool ?_)
      (first | refine ev_Name (by walk_at "lk") (by rfl) ?_ | refine ev_Const_int ?_ | refine ev_BinOp ?_ | refine ev_Compare ?_ | refine ev_Subscript ?_ | refine tt_Compare ?_ | refine tt_And2 ?_ | refine tt_Not ?_ | refine op_sub ?_ | refine op_add ?_ | refine op_gt ?_ | refine op_lt ?_ | refine tr_bool ?_)
      (first | refine ev_Name (by walk_at "lk") (by rfl) ?_ | refine ev_Const_int ?_ | refine ev_BinOp ?_ | refine ev_Compare ?_ | refine ev_Subscript ?_ | refine tt_Compare ?_ | refine tt_And2 ?_ | refine tt_Not ?_ | refine op_sub ?_ | refine op_add ?_ | refine op_gt ?_ | refine op_lt ?_ | refine tr_bool ?_)
      have ec1 : (2 * (k' : Int) + 1).toNat = 2 * k' + 1 := by lia
      have ec2 : (2 * (k' : Int) + 1 + 1).toNat = 2 * k' + 1 + 1 := by lia
      refine ⟨fun hr => ?_, fun hr => ?_⟩
      · have hr' : 2 * k' + 1 + 1 < xs'.length := by have := of_decide_eq_true hr; lia
        (first | refine ev_Name (by walk_at "lk") (by rfl) ?_ | refine ev_Const_int ?_ | refine ev_BinOp ?_ | refine ev_Compare ?_ | refine ev_Subscript ?_ | refine tt_Compare ?_ | refine tt_And2 ?_ | refine tt_Not ?_ | refine op_sub ?_ | refine op_add ?_ | refine op_gt ?_ | refine op_lt ?_ | refine tr_bool ?_)
        (first | refine ev_Name (by walk_at "lk") (by rfl) ?_ | refine ev_Const_int ?_ | refine ev_BinOp ?_ | refine ev_Compare ?_ | refine ev_Subscript ?_ | refine tt_Compare ?_ | refine tt_And2 ?_ | refine tt_Not ?_ | refine op_sub ?_ | refine op_add ?_ | refine op_gt ?_ | refine op_lt ?_ | refine tr_bool ?_)
        (first | refine ev_Name (by walk_at "lk") (by rfl) ?_ | refine ev_Const_int ?_ | refine ev_BinOp ?_ | refine ev_Compare ?_ | refine ev_Subscript ?_ | refine tt_Compare ?_ | refine tt_And2 ?_ | refine tt_Not ?_ | refine op_sub ?_ | refine op_add ?_ | refine op_gt ?_ | refine op_lt ?_ | refine tr_bool ?_)
        (first | refine ev_Name (by walk_at "lk") (by rfl) ?_ | refine ev_Const_int ?_ | refine ev_BinOp ?_ | refine ev_Compare ?_ | refine ev_Subscript ?_ | refine tt_Compare ?_ | refine tt_And2 ?_ | refine tt_Not ?_ | refine op_sub ?_ | refine op_add ?_ | refine op_gt ?_ | refine op_lt ?_ | refine tr_bool ?_)
        (first | refine ev_Name (by walk_at "lk") (by rfl) ?_ | refine ev_Const_int ?_ | refine ev_BinOp ?_ | refine ev_Compare ?_ | refine ev_Subscript ?_ | refine tt_Compare ?_ | refine tt_And2 ?_ | refine tt_Not ?_ | refine op_sub ?_ | refine op_add ?_ | refine op_gt ?_ | refine op_lt ?_ | refine tr_bool ?_)
        refine sub_obj (upd_self ..) (by lia) (by rw [ec1]; exact getD_of hc') (by lia) ?_
        (first | refine ev_Name (by walk_at "lk") (by rfl) ?_ | refine ev_Const_int ?_ | refine ev_BinOp ?_ | refine ev_Compare ?_ | refine ev_Subscript ?_ | refine tt_Compare ?_ | refine tt_And2 ?_ | refine tt_Not ?_ | refine op_sub ?_ | refine op_add ?_ | refine op_gt ?_ | refine op_lt ?_ | refine tr_bool ?_)
        (first | refine ev_Name (by walk_at "lk") (by rfl) ?_ | refine ev_Const_int ?_ | refine ev_BinOp ?_ | refine ev_Compare ?_ | refine ev_Subscript ?_ | refine tt_Compare ?_ | refine tt_And2 ?_ | refine tt_Not ?_ | refine op_sub ?_ | refine op_add ?_ | refine op_gt ?_ | refine op_lt ?_ | refine tr_bool ?_)
        (first | refine ev_Name (by walk_at "lk") (by rfl) ?_ | refine ev_Const_int ?_ | refine ev_BinOp ?_ | refine ev_Compare ?_ | refine ev_Subscript ?_ | refine tt_Compare ?_ | refine tt_And2 ?_ | refine tt_Not ?_ | refine op_sub ?_ | refine op_add ?_ | refine op_gt ?_ | refine op_lt ?_ | refine tr_bool ?_)
        refine sub_obj (upd_self ..) (by lia) (by rw [ec2]; exact getD_of hr') (by lia) ?_
        refine hlt _ _ _ _ _ (by show d ≤ 800; exact Nat.le_trans hd (by decide)) (by show u ≤ 5000; exact Nat.le_trans hu (by decide)) (hmem _ hc') (hmem _ hr') ?_
        (first | refine ev_Name (by walk_at "lk") (by rfl) ?_ | refine ev_Const_int ?_ | refine ev_BinOp ?_ | refine ev_Compare ?_ | refine ev_Subscript ?_ | refine tt_Compare ?_ | refine tt_And2 ?_ | refine tt_Not ?_ | refine op_sub ?_ | refine op_add ?_ | refine op_gt ?_ | refine op_lt ?_ | refine tr_bool ?_)
        refine ⟨fun hq => ?_, fun hq => ?_⟩
        · refine x_cons (x_Assign ?_ (by rfl))
          (first | refine ev_Name (by walk_at "lk") (by rfl) ?_ | refine ev_Const_int ?_ | refine ev_BinOp ?_ | refine ev_Compare ?_ | refine ev_Subscript ?_ | refine tt_Compare ?_ | refine tt_And2 ?_ | refine tt_Not ?_ | refine op_sub ?_ | refine op_add ?_ | refine op_gt ?_ | refine op_lt ?_ | refine tr_bool ?_)
          refine x_nil ?_
          refine J.mono (go _ (2 * k' + 1 + 1) (2 * (k' : Int) + 1 + 1) (by lia) ?_ (by walk_at "lk") (by walk_at "lk") (by walk_at "lk") (by walk_at "lk") (by walk_at "lk") (by walk_at "lk")) (fun f st₂ hf => by cases f with | next => exact hf | _ => exact hf.elim)
          unfold supc; rw [if_pos ⟨hr', by simpa using hq⟩]
        · refine x_nil ?_
          refine J.mono (go _ (2 * k' + 1) (2 * (k' : Int) + 1) (by lia) ?_ (by walk_at "lk") (by walk_at "lk") (by walk_at "lk") (by walk_at "lk") (by walk_at "lk") (by walk_at "lk")) (fun f st₂ hf => by cases f with | next => exact hf | _ => exact hf.elim)
          unfold supc; rw [if_neg (by simp at hq; simp [hq])]
      · refine ⟨fun hq => (by cases hq), fun _ => ?_⟩
        refine x_nil ?_
        have hr' : ¬ 2 * k' + 1 + 1 < xs'.length := by have := of_decide_eq_false hr; lia
        refine J.mono (go _ (2 * k' + 1) (2 * (k' : Int) + 1) (by lia) ?_ (by walk_at "lk") (by walk_at "lk") (by walk_at "lk") (by walk_at "lk") (by walk_at "lk") (by walk_at "lk")) (fun f st₂ hf => by cases f with | next => exact hf | _ => exact hf.elim)
        unfold supc; rw [if_neg (by simp [hr'])]
    · have hc' : ¬ 2 * k' + 1 < xs'.length := by have := of_decide_eq_false hc; lia
      have hs : sup lt k' xs' = (xs', k') := by rw [sup, dif_neg hc']
      rw [hs] at h8
      refine x_nil ?_
      refine x_cons (x_SetItem ?_)
      (first | refine ev_Name (by walk_at "lk") (by rfl) ?_ | refine ev_Const_int ?_ | refine ev_BinOp ?_ | refine ev_Compare ?_ | refine ev_Subscript ?_ | refine tt_Compare ?_ | refine tt_And2 ?_ | refine tt_Not ?_ | refine op_sub ?_ | refine op_add ?_ | refine op_gt ?_ | refine op_lt ?_ | refine tr_bool ?_)
      (first | refine ev_Name (by walk_at "lk") (by rfl) ?_ | refine ev_Const_int ?_ | refine ev_BinOp ?_ | refine ev_Compare ?_ | refine ev_Subscript ?_ | refine tt_Compare ?_ | refine tt_And2 ?_ | refine tt_Not ?_ | refine op_sub ?_ | refine op_add ?_ | refine op_gt ?_ | refine op_lt ?_ | refine tr_bool ?_)
      (first | refine ev_Name (by walk_at "lk") (by rfl) ?_ | refine ev_Const_int ?_ | refine ev_BinOp ?_ | refine ev_Compare ?_ | refine ev_Subscript ?_ | refine tt_Compare ?_ | refine tt_And2 ?_ | refine tt_Not ?_ | refine op_sub ?_ | refine op_add ?_ | refine op_gt ?_ | refine op_lt ?_ | refine tr_bool ?_)
      refine set_obj (upd_self ..) (by lia) (by lia) (by lia) ?_
      refine x_cons (x_Expr ?_)
      refine ev_CallFn hg F (by rfl) ?_
      refine l_cons ?_
      (first | refine ev_Name (by walk_at "lk") (by rfl) ?_ | refine ev_Const_int ?_ | refine ev_BinOp ?_ | refine ev_Compare ?_ | refine ev_Subscript ?_ | refine tt_Compare ?_ | refine tt_And2 ?_ | refine tt_Not ?_ | refine op_sub ?_ | refine op_add ?_ | refine op_gt ?_ | refine op_lt ?_ | refine tr_bool ?_)
      refine l_cons ?_
      (first | refine ev_Name (by walk_at "lk") (by rfl) ?_ | refine ev_Const_int ?_ | refine ev_BinOp ?_ | refine ev_Compare ?_ | refine ev_Subscript ?_ | refine tt_Compare ?_ | refine tt_And2 ?_ | refine tt_Not ?_ | refine op_sub ?_ | refine op_add ?_ | refine op_gt ?_ | refine op_lt ?_ | refine tr_bool ?_)
      refine l_cons ?_
      (first | refine ev_Name (by walk_at "lk") (by rfl) ?_ | refine ev_Const_int ?_ | refine ev_BinOp ?_ | refine ev_Compare ?_ | refine ev_Subscript ?_ | refine tt_Compare ?_ | refine tt_And2 ?_ | refine tt_Not ?_ | refine op_sub ?_ | refine op_add ?_ | refine op_gt ?_ | refine op_lt ?_ | refine tr_bool ?_)
      refine l_nil ?_
      rw [upd_upd, Int.toNat_natCast]
      refine call_fn F (by show d < 1000; exact Nat.lt_of_le_of_lt hd (by decide)) rfl ?_
      refine siftdown_body P lt hlt _ hfs (by show d + 1 ≤ 800; exact Nat.succ_le_of_lt (Nat.lt_of_le_of_lt hd (by decide))) (by show u + 3 ≤ 5000; exact Nat.le_trans (Nat.add_le_add_right hu 3) (by decide)) _ n (xs'.set k' x) k' x rfl (upd_self ..) (by rw [List.getElem?_set_self h5]) (fun z hz => ?_) (by simp; lia) _ (fun vs => ?_)
      · rcases List.mem_or_eq_of_mem_set hz with q | q
        · exact h7 z q
        · rw [q]; exact hPx
      · refine ⟨rfl, x_nil ?_⟩
        have := h vars
        rw [← h8] at this
        dsimp only
        rw [upd_upd]
        exact this
-- MHeap3_04

set_option maxRecDepth 100000
set_option maxHeartbeats 8000000
open PySem PySem.W PyProof.Rows


theorem heappush_body (P : V → Prop) (lt : V → V → Bool) (hlt : LtOk P lt) (C : Fx) (hsc : C.sc = scopeAt pb 30) (hd : C.d ≤ 700) (hu : C.u ≤ 4000) (a : Addr) (fd : FuncData) (hg : Glo C.base "_siftdown" (.ref a)) (F : Fn C.base a fd (bodyAt pb 32) ["heap", "startpos", "pos"]) (hfs : fd.scope = scopeAt pb 32)
    (hlen : Blt C.base "len" (.builtin "len"))
    (st : St) (n : Nat) (xs : List V) (x : V)
    (hv : st.vars = [(("heap" : Str), V.obj n), (("item" : Str), x)]) (hh : st.heap n = some (.list xs)) (hP : ∀ y ∈ xs, P y) (hPx : P x) (hsz : xs.length < 1000)
    (Q : FlowA → St → Prop) (h : Q .next { st with heap := upd st.heap n (.list (sdown lt x xs.length (xs ++ [x]))) }) : JX C (bodyAt pb 30) st Q := by
  obtain ⟨prog, w, os, base, d, u, sc, gp, pin, tkC, frC, flC⟩ := C
  obtain rfl : sc = scopeAt pb 30 := hsc
  obtain ⟨vars, heap, nx⟩ := st
  obtain rfl : vars = _ := hv
  refine x_cons (x_Expr ?_)
  refine ev_MethO PySem.F.slot_list_append PySem.F.type_list_append ?_
  (first | refine ev_Name (by walk_at "lk") (by rfl) ?_ | refine ev_Const_int ?_ | refine ev_BinOp ?_ | refine ev_Compare ?_ | refine ev_Subscript ?_ | refine tt_Compare ?_ | refine tt_And2 ?_ | refine tt_Not ?_ | refine op_sub ?_ | refine op_add ?_ | refine op_gt ?_ | refine op_lt ?_ | refine tr_bool ?_)
  refine ⟨⟨n, xs, rfl, hh⟩, ?_⟩
  refine l_cons ?_
  (first | refine ev_Name (by walk_at "lk") (by rfl) ?_ | refine ev_Const_int ?_ | refine ev_BinOp ?_ | refine ev_Compare ?_ | refine ev_Subscript ?_ | refine tt_Compare ?_ | refine tt_And2 ?_ | refine tt_Not ?_ | refine op_sub ?_ | refine op_add ?_ | refine op_gt ?_ | refine op_lt ?_ | refine tr_bool ?_)
  refine l_nil ?_
  refine m_append hh (by have : sizeLine ≥ 1000 := by decide
                         lia) ?_
  refine ⟨rfl, ?_⟩
  refine x_cons (x_Expr ?_)
  refine ev_CallFn hg F (by rfl) ?_
  refine l_cons ?_
  (first | refine ev_Name (by walk_at "lk") (by rfl) ?_ | refine ev_Const_int ?_ | refine ev_BinOp ?_ | refine ev_Compare ?_ | refine ev_Subscript ?_ | refine tt_Compare ?_ | refine tt_And2 ?_ | refine tt_Not ?_ | refine op_sub ?_ | refine op_add ?_ | refine op_gt ?_ | refine op_lt ?_ | refine tr_bool ?_)
  refine l_cons ?_
  (first | refine ev_Name (by walk_at "lk") (by rfl) ?_ | refine ev_Const_int ?_ | refine ev_BinOp ?_ | refine ev_Compare ?_ | refine ev_Subscript ?_ | refine tt_Compare ?_ | refine tt_And2 ?_ | refine tt_Not ?_ | refine op_sub ?_ | refine op_add ?_ | refine op_gt ?_ | refine op_lt ?_ | refine tr_bool ?_)
  refine l_cons ?_
  (first | refine ev_Name (by walk_at "lk") (by rfl) ?_ | refine ev_Const_int ?_ | refine ev_BinOp ?_ | refine ev_Compare ?_ | refine ev_Subscript ?_ | refine tt_Compare ?_ | refine tt_And2 ?_ | refine tt_Not ?_ | refine op_sub ?_ | refine op_add ?_ | refine op_gt ?_ | refine op_lt ?_ | refine tr_bool ?_)
  refine ev_CallB hlen (by rfl) ?_
  refine l_cons ?_
  (first | refine ev_Name (by walk_at "lk") (by rfl) ?_ | refine ev_Const_int ?_ | refine ev_BinOp ?_ | refine ev_Compare ?_ | refine ev_Subscript ?_ | refine tt_Compare ?_ | refine tt_And2 ?_ | refine tt_Not ?_ | refine op_sub ?_ | refine op_add ?_ | refine op_gt ?_ | refine op_lt ?_ | refine tr_bool ?_)
  refine l_nil ?_
  refine b_len (xs := xs ++ [x]) (upd_self ..) (by simp; lia) ?_
  (first | refine ev_Name (by walk_at "lk") (by rfl) ?_ | refine ev_Const_int ?_ | refine ev_BinOp ?_ | refine ev_Compare ?_ | refine ev_Subscript ?_ | refine tt_Compare ?_ | refine tt_And2 ?_ | refine tt_Not ?_ | refine op_sub ?_ | refine op_add ?_ | refine op_gt ?_ | refine op_lt ?_ | refine tr_bool ?_)
  (first | refine ev_Name (by walk_at "lk") (by rfl) ?_ | refine ev_Const_int ?_ | refine ev_BinOp ?_ | refine ev_Compare ?_ | refine ev_Subscript ?_ | refine tt_Compare ?_ | refine tt_And2 ?_ | refine tt_Not ?_ | refine op_sub ?_ | refine op_add ?_ | refine op_gt ?_ | refine op_lt ?_ | refine tr_bool ?_)
  refine l_nil ?_
  have e1 : (((xs ++ [x]).length : Nat) : Int) - 1 = (xs.length : Nat) := by simp
  rw [e1]
  refine call_fn F (by show d < 1000; exact Nat.lt_of_le_of_lt hd (by decide)) rfl ?_
  refine siftdown_body P lt hlt _ hfs (by show d + 1 ≤ 800; exact Nat.succ_le_of_lt (Nat.lt_of_le_of_lt hd (by decide))) (by show u + 3 ≤ 5000; exact Nat.le_trans (Nat.add_le_add_right hu 3) (by decide)) _ n (xs ++ [x]) xs.length x rfl (upd_self ..) (by simp) (fun z hz => ?_) (by simp; lia) _ (fun vs => ?_)
  · rcases List.mem_append.mp hz with q | q
    · exact hP z q
    · rw [List.mem_singleton.mp q]; exact hPx
  · refine ⟨rfl, x_nil ?_⟩
    dsimp only
    rw [upd_upd]
    exact h
-- MHeap4_04

set_option maxRecDepth 100000
set_option maxHeartbeats 8000000
open PySem PySem.W PyProof.Rows

theorem tr_list {C : Fx} {st : St} {v : V} {xs : List V} {Q : Bool → St → Prop} (hv : Lis st v xs) (hsz : xs.length < 2 ^ 62) (h : Q (!xs.isEmpty) st) : JV C rBool [v] (one truthy) st Q :=
  fun env Z R ρ s ws hs hw => by
    obtain ⟨x, rfl, h1⟩ := inv1 hw
    obtain ⟨a, its, k, rfl, ho, ri⟩ := hv.at_ hs h1
    have hl := ri.toArr
    have e : (!its.isEmpty) = !xs.isEmpty := by
      cases xs with
      | nil => have : its.size = 0 := hl.symm; simp [Array.isEmpty, this]
      | cons y r => have : its.size = r.length + 1 := hl.symm; simp [Array.isEmpty, this]
    refine wpAny_truthy_list ⟨_, ho, rfl, _, rfl⟩ (by lia) ?_
    exact SR.post (hs.tok _) e h


noncomputable def popped (lt : V → V → Bool) (xs : List V) (l : V) : List V := sdown lt l (sup lt 0 (xs.set 0 l)).2 ((sup lt 0 (xs.set 0 l)).1.set (sup lt 0 (xs.set 0 l)).2 l)

theorem heappop_body (P : V → Prop) (lt : V → V → Bool) (hlt : LtOk P lt) (C : Fx) (hsc : C.sc = scopeAt pb 31) (hd : C.d ≤ 600) (hu : C.u ≤ 3000) (a a' : Addr) (fd fd' : FuncData) (hg : Glo C.base "_siftdown" (.ref a)) (F : Fn C.base a fd (bodyAt pb 32) ["heap", "startpos", "pos"]) (hfs : fd.scope = scopeAt pb 32)
    (hg' : Glo C.base "_siftup" (.ref a')) (F' : Fn C.base a' fd' (bodyAt pb 33) ["heap", "pos"]) (hfs' : fd'.scope = scopeAt pb 33) (hlen : Blt C.base "len" (.builtin "len"))
    (st : St) (n : Nat) (xs : List V) (l : V)
    (hv : st.vars = [(("heap" : Str), V.obj n)]) (hh : st.heap n = some (.list (xs ++ [l]))) (hP : ∀ y ∈ xs, P y) (hPl : P l) (hsz : xs.length < 1000)
    (Q : FlowA → St → Prop) (h0 : xs = [] → ∀ vars, Q (.ret l) { st with vars := vars, heap := upd st.heap n (.list []) })
    (h : ∀ y r, xs = y :: r → ∀ vars, Q (.ret y) { st with vars := vars, heap := upd st.heap n (.list (popped lt xs l)) }) : JX C (bodyAt pb 31) st Q := by
  obtain ⟨prog, w, os, base, d, u, sc, gp, pin, tkC, frC, flC⟩ := C
  obtain rfl : sc = scopeAt pb 31 := hsc
  obtain ⟨vars, heap, nx⟩ := st
  obtain rfl : vars = _ := hv
  refine x_cons (x_Assign ?_ (by rfl))
  refine ev_MethO PySem.F.slot_list_pop PySem.F.type_list_pop ?_
  (first | refine ev_Name (by walk_at "lk") (by rfl) ?_ | refine ev_Const_int ?_ | refine ev_BinOp ?_ | refine ev_Compare ?_ | refine ev_Subscript ?_ | refine tt_Compare ?_ | refine tt_And2 ?_ | refine tt_Not ?_ | refine op_sub ?_ | refine op_add ?_ | refine op_gt ?_ | refine op_lt ?_ | refine tr_bool ?_)
  refine ⟨⟨n, _, rfl, hh⟩, ?_⟩
  refine l_nil ?_
  refine m_pop hh (by have : sizeLine ≥ 1000 := by decide
                      lia) ?_
  refine x_cons (x_If (tt_value ?_))
  (first | refine ev_Name (by walk_at "lk") (by rfl) ?_ | refine ev_Const_int ?_ | refine ev_BinOp ?_ | refine ev_Compare ?_ | refine ev_Subscript ?_ | refine tt_Compare ?_ | refine tt_And2 ?_ | refine tt_Not ?_ | refine op_sub ?_ | refine op_add ?_ | refine op_gt ?_ | refine op_lt ?_ | refine tr_bool ?_)
  refine tr_list (xs := xs) (upd_self ..) (by lia) ?_
  refine ⟨fun hc => ?_, fun hc => ?_⟩
  · cases xs with
    | nil => simp at hc
    | cons y r =>
      refine x_cons (x_Assign ?_ (by rfl))
      (first | refine ev_Name (by walk_at "lk") (by rfl) ?_ | refine ev_Const_int ?_ | refine ev_BinOp ?_ | refine ev_Compare ?_ | refine ev_Subscript ?_ | refine tt_Compare ?_ | refine tt_And2 ?_ | refine tt_Not ?_ | refine op_sub ?_ | refine op_add ?_ | refine op_gt ?_ | refine op_lt ?_ | refine tr_bool ?_)
      (first | refine ev_Name (by walk_at "lk") (by rfl) ?_ | refine ev_Const_int ?_ | refine ev_BinOp ?_ | refine ev_Compare ?_ | refine ev_Subscript ?_ | refine tt_Compare ?_ | refine tt_And2 ?_ | refine tt_Not ?_ | refine op_sub ?_ | refine op_add ?_ | refine op_gt ?_ | refine op_lt ?_ | refine tr_bool ?_)
      (first | refine ev_Name (by walk_at "lk") (by rfl) ?_ | refine ev_Const_int ?_ | refine ev_BinOp ?_ | refine ev_Compare ?_ | refine ev_Subscript ?_ | refine tt_Compare ?_ | refine tt_And2 ?_ | refine tt_Not ?_ | refine op_sub ?_ | refine op_add ?_ | refine op_gt ?_ | refine op_lt ?_ | refine tr_bool ?_)
      refine sub_obj (upd_self ..) (by lia) rfl (by lia) ?_
      refine x_cons (x_SetItem ?_)
      (first | refine ev_Name (by walk_at "lk") (by rfl) ?_ | refine ev_Const_int ?_ | refine ev_BinOp ?_ | refine ev_Compare ?_ | refine ev_Subscript ?_ | refine tt_Compare ?_ | refine tt_And2 ?_ | refine tt_Not ?_ | refine op_sub ?_ | refine op_add ?_ | refine op_gt ?_ | refine op_lt ?_ | refine tr_bool ?_)
      (first | refine ev_Name (by walk_at "lk") (by rfl) ?_ | refine ev_Const_int ?_ | refine ev_BinOp ?_ | refine ev_Compare ?_ | refine ev_Subscript ?_ | refine tt_Compare ?_ | refine tt_And2 ?_ | refine tt_Not ?_ | refine op_sub ?_ | refine op_add ?_ | refine op_gt ?_ | refine op_lt ?_ | refine tr_bool ?_)
      (first | refine ev_Name (by walk_at "lk") (by rfl) ?_ | refine ev_Const_int ?_ | refine ev_BinOp ?_ | refine ev_Compare ?_ | refine ev_Subscript ?_ | refine tt_Compare ?_ | refine tt_And2 ?_ | refine tt_Not ?_ | refine op_sub ?_ | refine op_add ?_ | refine op_gt ?_ | refine op_lt ?_ | refine tr_bool ?_)
      refine set_obj (upd_self ..) (by lia) (by simp) (by lia) ?_
      refine x_cons (x_Expr ?_)
      refine ev_CallFn hg' F' (by rfl) ?_
      refine l_cons ?_
      (first | refine ev_Name (by walk_at "lk") (by rfl) ?_ | refine ev_Const_int ?_ | refine ev_BinOp ?_ | refine ev_Compare ?_ | refine ev_Subscript ?_ | refine tt_Compare ?_ | refine tt_And2 ?_ | refine tt_Not ?_ | refine op_sub ?_ | refine op_add ?_ | refine op_gt ?_ | refine op_lt ?_ | refine tr_bool ?_)
      refine l_cons ?_
      (first | refine ev_Name (by walk_at "lk") (by rfl) ?_ | refine ev_Const_int ?_ | refine ev_BinOp ?_ | refine ev_Compare ?_ | refine ev_Subscript ?_ | refine tt_Compare ?_ | refine tt_And2 ?_ | refine tt_Not ?_ | refine op_sub ?_ | refine op_add ?_ | refine op_gt ?_ | refine op_lt ?_ | refine tr_bool ?_)
      refine l_nil ?_
      dsimp only
      rw [upd_upd]
      refine call_fn F' (by show d < 1000; exact Nat.lt_of_le_of_lt hd (by decide)) rfl ?_
      refine siftup_body P lt hlt (Fx.into ⟨prog, w, os, base, d, u, scopeAt pb 31, gp, pin, tkC, frC, flC⟩ fd'.scope) hfs' (by show d + 1 ≤ 700; exact Nat.succ_le_of_lt (Nat.lt_of_le_of_lt hd (by decide))) (by show u + 3 ≤ 4000; exact Nat.le_trans (Nat.add_le_add_right hu 3) (by decide)) a a fd hg F hfs hlen _ n ((y :: r).set 0 l) l rfl (upd_self ..) rfl (fun z hz => ?_) (by simp at hsz ⊢; lia) _ (fun vs => ?_)
      · rcases List.mem_or_eq_of_mem_set hz with q | q
        · exact hP z q
        · rw [q]; exact hPl
      · refine ⟨rfl, ?_⟩
        refine x_cons (x_Return ?_)
        (first | refine ev_Name (by walk_at "lk") (by rfl) ?_ | refine ev_Const_int ?_ | refine ev_BinOp ?_ | refine ev_Compare ?_ | refine ev_Subscript ?_ | refine tt_Compare ?_ | refine tt_And2 ?_ | refine tt_Not ?_ | refine op_sub ?_ | refine op_add ?_ | refine op_gt ?_ | refine op_lt ?_ | refine tr_bool ?_)
        dsimp only
        rw [upd_upd]
        exact h y r rfl _
  · have hx : xs = [] := by simpa using hc
    subst hx
    refine x_nil ?_
    refine x_cons (x_Return ?_)
    (first | refine ev_Name (by walk_at "lk") (by rfl) ?_ | refine ev_Const_int ?_ | refine ev_BinOp ?_ | refine ev_Compare ?_ | refine ev_Subscript ?_ | refine tt_Compare ?_ | refine tt_And2 ?_ | refine tt_Not ?_ | refine op_sub ?_ | refine op_add ?_ | refine op_gt ?_ | refine op_lt ?_ | refine tr_bool ?_)
    exact h0 rfl _
-- MHm_04

open PySem PySem.W PyProof.Rows

theorem sdown_perm (lt : V → V → Bool) (x : V) : ∀ (k : Nat) (xs : List V), k < xs.length → (sdown lt x k xs).Perm (xs.set k x) := by
  intro k
  induction k using Nat.strongRecOn with
  | ind k ih =>
    intro xs hk
    unfold sdown
    by_cases h : k = 0
    · rw [dif_pos h]; subst h; exact List.Perm.refl _
    · rw [dif_neg h]
      have hp : (k - 1) / 2 < xs.length := by omega
      have hne : k ≠ (k - 1) / 2 := by omega
      simp only [List.getElem?_eq_getElem hp]
      split
      · refine (ih ((k - 1) / 2) (by omega) (xs.set k xs[(k - 1) / 2]) (by simpa using hp)).trans ?_
        have := List.set_set_perm (as := xs.set k x) (i := k) (j := (k - 1) / 2) (by simpa using hk) (by simpa using hp)
        simpa [List.getElem_set_ne hne, List.set_set] using this
      · exact List.Perm.refl _
theorem sup_perm (lt : V → V → Bool) (x : V) : ∀ (m k : Nat) (xs : List V), xs.length - k = m → k < xs.length → (sup lt k xs).2 < (sup lt k xs).1.length ∧ (sup lt k xs).1.length = xs.length ∧ ((sup lt k xs).1.set (sup lt k xs).2 x).Perm (xs.set k x) := by
  intro m
  induction m using Nat.strongRecOn with
  | ind m ih =>
    intro k xs hm hk
    rw [sup]
    by_cases h : 2 * k + 1 < xs.length
    · rw [dif_pos h]
      obtain ⟨s1, s2⟩ := supc_lt lt xs h
      generalize supc lt xs (2 * k + 1) = c at *
      have hne : k ≠ c := by omega
      obtain ⟨q1, q2, q3⟩ := ih (xs.length - c) (by omega) c (xs.set k (xs.getD c .none)) (by simp) (by simpa using s1)
      refine ⟨q1, by rw [q2]; simp, q3.trans ?_⟩
      have e : xs.getD c .none = xs[c] := by rw [List.getD_eq_getElem?_getD, List.getElem?_eq_getElem s1]; rfl
      rw [e]
      have := List.set_set_perm (as := xs.set k x) (i := k) (j := c) (by simpa using hk) (by simpa using s1)
      simpa [List.getElem_set_ne hne, List.set_set] using this
    · rw [dif_neg h]
      exact ⟨hk, rfl, List.Perm.refl _⟩
theorem popped_perm (lt : V → V → Bool) (y l : V) (r : List V) : (y :: popped lt (y :: r) l).Perm (y :: r ++ [l]) := by
  unfold popped
  obtain ⟨q1, q2, q3⟩ := sup_perm lt l _ 0 ((y :: r).set 0 l) rfl (by simp)
  refine List.Perm.cons y ?_
  have p1 := sdown_perm lt l (sup lt 0 ((y :: r).set 0 l)).2 ((sup lt 0 ((y :: r).set 0 l)).1.set (sup lt 0 ((y :: r).set 0 l)).2 l) (by simpa using q1)
  rw [List.set_set] at p1
  refine p1.trans (q3.trans ?_)
  simp only [List.set_cons_zero]
  exact (List.perm_append_singleton l r).symm
theorem push_perm (lt : V → V → Bool) (x : V) (xs : List V) : (sdown lt x xs.length (xs ++ [x])).Perm (x :: xs) := by
  refine (sdown_perm lt x xs.length (xs ++ [x]) (by simp)).trans ?_
  have : (xs ++ [x]).set xs.length x = xs ++ [x] := by simp
  rw [this]
  exact List.perm_append_singleton x xs
-- MHo_04

open PySem PySem.W PyProof.Rows

structure Swo (P : V → Prop) (lt : V → V → Bool) : Prop where
  irr : ∀ a, P a → lt a a = false
  asym : ∀ a b, P a → P b → lt a b = true → lt b a = false
  tr : ∀ a b c, P a → P b → P c → lt b a = false → lt c b = false → lt c a = false

noncomputable def HO (lt : V → V → Bool) (xs : List V) : Prop := ∀ i (h : i < xs.length), 0 < i → lt xs[i] (xs[(i - 1) / 2]'(by lia)) = false
noncomputable def HO' (lt : V → V → Bool) (k : Nat) (xs : List V) : Prop :=
  (∀ i (h : i < xs.length), 0 < i → i ≠ k → (i - 1) / 2 ≠ k → lt xs[i] (xs[(i - 1) / 2]'(by lia)) = false) ∧
  (∀ i (h : i < xs.length) (hk : k < xs.length), 0 < i → (i - 1) / 2 = k → 0 < k → lt xs[i] (xs[(k - 1) / 2]'(by lia)) = false)

theorem pl {i : Nat} (h : 0 < i) : (i - 1) / 2 < i := by lia
theorem sdown_ho (P : V → Prop) (lt : V → V → Bool) (W : Swo P lt) (x : V) (hx : P x) : ∀ (k : Nat) (xs : List V), k < xs.length → (∀ y ∈ xs, P y) → HO' lt k xs → (∀ i (h : i < xs.length), 0 < i → (i - 1) / 2 = k → lt xs[i] x = false) → HO lt (sdown lt x k xs) := by
  intro k
  induction k using Nat.strongRecOn with
  | ind k ih =>
    intro xs hk hP hH hc
    unfold sdown
    by_cases h : k = 0
    · rw [dif_pos h]; subst h
      intro i hi h0
      simp only [List.length_set] at hi
      rw [List.getElem_set_ne (Nat.ne_of_lt h0)]
      by_cases q : (i - 1) / 2 = 0
      · simp only [q, List.getElem_set_self]; exact hc i hi h0 q
      · rw [List.getElem_set_ne (Ne.symm q)]; exact hH.1 i hi h0 (Nat.ne_of_gt h0) q
    · rw [dif_neg h]
      have k0 := Nat.pos_of_ne_zero h
      have hp : (k - 1) / 2 < xs.length := Nat.lt_trans (pl k0) hk
      have hne : k ≠ (k - 1) / 2 := Nat.ne_of_gt (pl k0)
      simp only [List.getElem?_eq_getElem hp]
      have Py : P xs[(k - 1) / 2] := hP _ (List.getElem_mem hp)
      cases hlt : lt x xs[(k - 1) / 2] with
      | true =>
        rw [if_pos rfl]
        refine ih ((k - 1) / 2) (pl k0) (xs.set k xs[(k - 1) / 2]) (by simpa using hp) (fun z hz => ?_) ⟨fun i hi h0 h1 h2 => ?_, fun i hi hk' h0 h1 h2 => ?_⟩ (fun i hi h0 h1 => ?_)
        · rcases List.mem_or_eq_of_mem_set hz with q | q
          · exact hP z q
          · rw [q]; exact Py
        · simp only [List.length_set] at hi
          by_cases q : i = k
          · subst q; exact absurd rfl h2
          · rw [List.getElem_set_ne (Ne.symm q)]
            by_cases q2 : (i - 1) / 2 = k
            · simp only [q2, List.getElem_set_self]; exact hH.2 i hi hk h0 q2 k0
            · rw [List.getElem_set_ne (Ne.symm q2)]; exact hH.1 i hi h0 q q2
        · simp only [List.length_set] at hi hk'
          have p2 := pl h2
          have pp : ((k - 1) / 2 - 1) / 2 ≠ k := Nat.ne_of_lt (Nat.lt_trans p2 (pl k0))
          have base : lt xs[(k - 1) / 2] (xs[((k - 1) / 2 - 1) / 2]'(Nat.lt_trans p2 hp)) = false := hH.1 _ hp h2 (Ne.symm hne) pp
          rw [List.getElem_set_ne (Ne.symm pp)]
          by_cases q : i = k
          · subst q; rw [List.getElem_set_self]; exact base
          · rw [List.getElem_set_ne (Ne.symm q)]
            have := hH.1 i hi h0 q (fun z => hne (z.symm.trans h1))
            simp only [h1] at this
            exact W.tr _ _ _ (hP _ (List.getElem_mem _)) Py (hP _ (List.getElem_mem _)) base this
        · simp only [List.length_set] at hi
          by_cases q : i = k
          · subst q; rw [List.getElem_set_self]; exact W.asym _ _ hx Py hlt
          · rw [List.getElem_set_ne (Ne.symm q)]
            have := hH.1 i hi h0 q (fun z => hne (z.symm.trans h1))
            simp only [h1] at this
            exact W.tr _ _ _ hx Py (hP _ (List.getElem_mem _)) (W.asym _ _ hx Py hlt) this
      | false =>
        rw [if_neg (by simp)]
        intro i hi h0
        simp only [List.length_set] at hi
        by_cases q : i = k
        · subst q; rw [List.getElem_set_self, List.getElem_set_ne hne]; exact hlt
        · rw [List.getElem_set_ne (Ne.symm q)]
          by_cases q2 : (i - 1) / 2 = k
          · simp only [q2, List.getElem_set_self]; exact hc i hi h0 q2
          · rw [List.getElem_set_ne (Ne.symm q2)]; exact hH.1 i hi h0 q q2

theorem sup_ho (P : V → Prop) (lt : V → V → Bool) (W : Swo P lt) : ∀ (m k : Nat) (xs : List V), xs.length - k = m → k < xs.length → (∀ y ∈ xs, P y) → HO' lt k xs →
    HO' lt (sup lt k xs).2 (sup lt k xs).1 ∧ (∀ i, i < (sup lt k xs).1.length → 0 < i → (i - 1) / 2 ≠ (sup lt k xs).2) := by
  intro m
  induction m using Nat.strongRecOn with
  | ind m ih =>
    intro k xs hm hk hP hH
    rw [sup]
    by_cases h : 2 * k + 1 < xs.length
    · rw [dif_pos h]
      obtain ⟨s1, s2⟩ := supc_lt lt xs h
      have best : ∀ i (hi : i < xs.length), 0 < i → (i - 1) / 2 = k → lt xs[i] (xs[supc lt xs (2 * k + 1)]'s1) = false := by
        intro i hi h0 hp
        have hi2 : i = 2 * k + 1 ∨ i = 2 * k + 2 := by lia
        have Pm : ∀ j (hj : j < xs.length), P xs[j] := fun j hj => hP _ (List.getElem_mem hj)
        by_cases q : 2 * k + 1 + 1 < xs.length ∧ lt (xs.getD (2 * k + 1) .none) (xs.getD (2 * k + 1 + 1) .none) = false
        · have e : supc lt xs (2 * k + 1) = 2 * k + 1 + 1 := by unfold supc; rw [if_pos q]
          have q2 := q.2
          rw [List.getD_eq_getElem?_getD, List.getD_eq_getElem?_getD, List.getElem?_eq_getElem h, List.getElem?_eq_getElem q.1] at q2
          simp only [Option.getD_some] at q2
          simp only [e]
          rcases hi2 with rfl | rfl
          · exact q2
          · exact W.irr _ (Pm _ _)
        · have e : supc lt xs (2 * k + 1) = 2 * k + 1 := by unfold supc; rw [if_neg q]
          simp only [e]
          rcases hi2 with rfl | rfl
          · exact W.irr _ (Pm _ _)
          · have q3 : ¬ lt (xs.getD (2 * k + 1) .none) (xs.getD (2 * k + 1 + 1) .none) = false := fun z => q ⟨hi, z⟩
            rw [List.getD_eq_getElem?_getD, List.getD_eq_getElem?_getD, List.getElem?_eq_getElem h, List.getElem?_eq_getElem hi] at q3
            simp only [Option.getD_some, Bool.not_eq_false] at q3
            exact W.asym _ _ (Pm _ _) (Pm _ _) q3
      have par : (supc lt xs (2 * k + 1) - 1) / 2 = k := by unfold supc; split <;> lia
      generalize supc lt xs (2 * k + 1) = c at *
      have hne : k ≠ c := by lia
      have e : xs.getD c .none = xs[c] := by rw [List.getD_eq_getElem?_getD, List.getElem?_eq_getElem s1]; rfl
      rw [e]
      refine ih (xs.length - c) (by lia) c (xs.set k xs[c]) (by simp) (by simpa using s1) (fun z hz => ?_) ⟨fun i hi h0 h1 h2 => ?_, fun i hi hk' h0 h1 h2 => ?_⟩
      · rcases List.mem_or_eq_of_mem_set hz with q | q
        · exact hP z q
        · rw [q]; exact hP _ (List.getElem_mem s1)
      · simp only [List.length_set] at hi
        by_cases q : i = k
        · subst q
          rw [List.getElem_set_self, List.getElem_set_ne (by lia)]
          exact hH.2 c s1 hk (by lia) par h0
        · rw [List.getElem_set_ne (Ne.symm q)]
          by_cases q2 : (i - 1) / 2 = k
          · simp only [q2, List.getElem_set_self]; exact best i hi h0 q2
          · rw [List.getElem_set_ne (Ne.symm q2)]; exact hH.1 i hi h0 q q2
      · simp only [List.length_set] at hi hk'
        simp only [par, List.getElem_set_self]
        rw [List.getElem_set_ne (by lia)]
        have := hH.1 i hi h0 (by lia) (by lia)
        simp only [h1] at this
        exact this
    · rw [dif_neg h]
      exact ⟨hH, fun i hi h0 => by dsimp only at hi ⊢; lia⟩

theorem push_ho (P : V → Prop) (lt : V → V → Bool) (W : Swo P lt) (x : V) (hx : P x) (xs : List V) (hP : ∀ y ∈ xs, P y) (h : HO lt xs) : HO lt (sdown lt x xs.length (xs ++ [x])) := by
  refine sdown_ho P lt W x hx xs.length (xs ++ [x]) (by simp) (fun y hy => ?_) ⟨fun i hi h0 h1 h2 => ?_, fun i hi hk h0 h1 h2 => ?_⟩ (fun i hi h0 h1 => ?_)
  · rcases List.mem_append.mp hy with q | q
    · exact hP y q
    · rw [List.mem_singleton.mp q]; exact hx
  · simp only [List.length_append, List.length_singleton] at hi
    rw [List.getElem_append_left (by lia), List.getElem_append_left (by lia)]
    exact h i (by lia) h0
  · simp only [List.length_append, List.length_singleton] at hi
    lia
  · simp only [List.length_append, List.length_singleton] at hi
    lia

theorem first_least (P : V → Prop) (lt : V → V → Bool) (W : Swo P lt) (xs : List V) (hP : ∀ y ∈ xs, P y) (h : HO lt xs) (h0 : 0 < xs.length) : ∀ i (hi : i < xs.length), lt xs[i] xs[0] = false := by
  intro i
  induction i using Nat.strongRecOn with
  | ind i ih =>
    intro hi
    by_cases q : i = 0
    · subst q; exact W.irr _ (hP _ (List.getElem_mem _))
    · have a := ih ((i - 1) / 2) (by lia) (by lia)
      have b := h i hi (by lia)
      exact W.tr _ _ _ (hP _ (List.getElem_mem _)) (hP _ (List.getElem_mem _)) (hP _ (List.getElem_mem _)) a b

theorem popped_ho (P : V → Prop) (lt : V → V → Bool) (W : Swo P lt) (y l : V) (r : List V) (hP : ∀ z ∈ y :: r ++ [l], P z) (h : HO lt (y :: r ++ [l])) : HO lt (popped lt (y :: r) l) := by
  have Pl : P l := hP l (by simp)
  have hP' : ∀ z ∈ (y :: r).set 0 l, P z := fun z hz => by
    rcases List.mem_or_eq_of_mem_set hz with q | q
    · exact hP z (List.mem_append_left _ q)
    · rw [q]; exact Pl
  have hH : HO' lt 0 ((y :: r).set 0 l) := ⟨fun i hi h0 h1 h2 => by
    simp only [List.length_set] at hi
    rw [List.getElem_set_ne (by lia), List.getElem_set_ne (by lia)]
    have := h i (by simp only [List.length_append]; lia) h0
    rw [List.getElem_append_left (by lia), List.getElem_append_left (by lia)] at this
    exact this, fun i hi hk h0 h1 h2 => absurd h2 (by lia)⟩
  obtain ⟨a, b⟩ := sup_ho P lt W _ 0 ((y :: r).set 0 l) rfl (by simp) hP' hH
  obtain ⟨q1, q2, q3⟩ := sup_perm lt l _ 0 ((y :: r).set 0 l) rfl (by simp)
  unfold popped
  generalize (sup lt 0 ((y :: r).set 0 l)).2 = k at *
  generalize (sup lt 0 ((y :: r).set 0 l)).1 = zs at *
  refine sdown_ho P lt W l Pl k (zs.set k l) (by simpa using q1) (fun z hz => ?_) ⟨fun i hi h0 h1 h2 => ?_, fun i hi hk h0 h1 h2 => ?_⟩ (fun i hi h0 h1 => ?_)
  · have := q3.mem_iff.mp hz
    rw [List.set_set] at this
    exact hP' z this
  · simp only [List.length_set] at hi
    rw [List.getElem_set_ne (Ne.symm h1), List.getElem_set_ne (Ne.symm h2)]
    exact a.1 i hi h0 h1 h2
  · simp only [List.length_set] at hi
    exact absurd h1 (b i hi h0)
  · simp only [List.length_set] at hi
    exact absurd h1 (b i hi h0)
-- MLex3_04

set_option maxRecDepth 100000
set_option maxHeartbeats 4000000
open PySem PySem.W PyProof.Rows




section
variable {C : Fx} {st : St}
theorem it_close {n m : Nat} {wc buf : Str} {qd : Bool} {tok : Str} {l : Int} {p : Nat} {vars : List (Str × V)} {H₀ H : Nat → Option AO} {nx c : Nat} {Q : FlowA → St → Prop} (L : LC C n m buf) (hv : LVars n qd vars) {q : Nat} (hs : LState H₀ n m wc buf (.str ⟨#[q]⟩) tok l p H)
    (hc : buf.cps.toList[p]? = some q) (hq : q = 39 ∨ q = 34)
    (h : ∀ vars' H', LVars n true vars' → LState H₀ n m wc buf (.str "a") tok l (p + 1) H' → Q .next ⟨vars', H', nx⟩) : JX C tbody ⟨vars, H, nx⟩ Q := by
  refine pre_c L hv hs hc fun vars H hv hx hs => ?_
  rw [if_neg (by lia)] at hs
  obtain ⟨prog, w, os, base, d, u, sc, gp, pin, tkC, frC, flC⟩ := C
  obtain ⟨HBc, hsc, hd, hne, hsz⟩ := L
  obtain rfl : sc = scRT := hsc
  obtain ⟨g1, g2, g3⟩ := hv
  obtain ⟨e1, e2, e3⟩ := hs
  refine x_seq ?_
  repeat walk_at "w"
  (refine at_get (by assumption) cls_shl (shl_none (by kernel_rfl)) (by walk_at "hp") (by rfl) ?_)
  repeat walk_at "w"
  (refine at_get (by assumption) cls_shl (shl_none (by kernel_rfl)) (by walk_at "hp") (by rfl) ?_)
  repeat walk_at "w"
  rw [eq1 q 32 (by decide)]
  refine ⟨fun hh => absurd (of_decide_eq_true hh) (by lia), fun _ => ?_⟩
  repeat walk_at "w"
  (refine at_get (by assumption) cls_shl (shl_none (by kernel_rfl)) (by walk_at "hp") (by rfl) ?_)
  repeat walk_at "w"
  (refine at_get (by assumption) cls_shl (shl_none (by kernel_rfl)) (by walk_at "hp") (by rfl) ?_)
  refine op_in1t _ l_quo (by simp; lia) ?_
  repeat walk_at "w"
  refine tr_one ?_
  repeat walk_at "w"
  (refine at_get (by assumption) cls_shl (shl_none (by kernel_rfl)) (by walk_at "hp") (by rfl) ?_)
  repeat walk_at "w"
  rw [eq1 q q rfl]
  refine ⟨fun _ => ?_, fun hh => absurd rfl (of_decide_eq_false hh)⟩
  repeat walk_at "w"
  (refine at_get (by assumption) cls_shl (shl_none (by kernel_rfl)) (by walk_at "hp") (by rfl) ?_)
  repeat walk_at "w"
  (first | refine set_tok (by assumption) (by walk_at "hp") ?_ | refine set_state (by assumption) (by walk_at "hp") ?_ | refine set_line (by assumption) (by walk_at "hp") ?_)
  repeat walk_at "w"
  refine h _ _ ⟨?_, ?_, ?_⟩ ⟨?_, ?_, fun k h1 h2 => ?_⟩
  · walk_at "lk"
  · walk_at "lk"
  · walk_at "lk"
  · walk_at "hp"
  · walk_at "hp"
  · exact (upd_ne _ _ h1).trans (e3 k h1 h2)

theorem it_ws {n m : Nat} {wc buf : Str} {qd : Bool} {tok : Str} {l : Int} {p : Nat} {vars : List (Str × V)} {H₀ H : Nat → Option AO} {nx c : Nat} {Q : FlowA → St → Prop} (L : LC C n m buf) (hv : LVars n qd vars) (hs : LState H₀ n m wc buf (.str "a") tok l p H)
    (hc : buf.cps.toList[p]? = some c) (hq : c = 32 ∨ c = 10) (hts : tok.length ≤ 100000) (hfull : tok.length ≠ 0 ∨ qd = true)
    (h : ∀ vars' H', LVars n qd vars' → LState H₀ n m wc buf (.str " ") tok (if c = 10 then l + 1 else l) (p + 1) H' → Q .brk ⟨vars', H', nx⟩) : JX C tbody ⟨vars, H, nx⟩ Q := by
  refine pre_c L hv hs hc fun vars H hv hx hs => ?_
  generalize (if c = 10 then l + 1 else l) = l' at *
  obtain ⟨prog, w, os, base, d, u, sc, gp, pin, tkC, frC, flC⟩ := C
  obtain ⟨HBc, hsc, hd, hne, hsz⟩ := L
  obtain rfl : sc = scRT := hsc
  obtain ⟨g1, g2, g3⟩ := hv
  obtain ⟨e1, e2, e3⟩ := hs
  refine x_seq ?_
  repeat walk_at "w"
  (refine at_get (by assumption) cls_shl (shl_none (by kernel_rfl)) (by walk_at "hp") (by rfl) ?_)
  repeat walk_at "w"
  (refine at_get (by assumption) cls_shl (shl_none (by kernel_rfl)) (by walk_at "hp") (by rfl) ?_)
  repeat walk_at "w"
  (refine at_get (by assumption) cls_shl (shl_none (by kernel_rfl)) (by walk_at "hp") (by rfl) ?_)
  repeat walk_at "w"
  (refine at_get (by assumption) cls_shl (shl_none (by kernel_rfl)) (by walk_at "hp") (by rfl) ?_)
  refine op_in1f _ l_quo (by simp) ?_
  repeat walk_at "w"
  (refine at_get (by assumption) cls_shl (shl_none (by kernel_rfl)) (by walk_at "hp") (by rfl) ?_)
  repeat walk_at "w"
  (refine at_get (by assumption) cls_shl (shl_none (by kernel_rfl)) (by walk_at "hp") (by rfl) ?_)
  refine op_in1f _ l_esc (by simp) ?_
  repeat walk_at "w"
  (refine at_get (by assumption) cls_shl (shl_none (by kernel_rfl)) (by walk_at "hp") (by rfl) ?_)
  refine ev_Tuple ?_
  repeat walk_at "w"
  refine ⟨by decide, ?_⟩
  refine op_inT (ys := [Str.ofString "a", Str.ofString "c"]) ?_
  repeat walk_at "w"
  refine tr_one ?_
  repeat walk_at "w"
  (refine at_get (by assumption) cls_shl (shl_none (by kernel_rfl)) (by walk_at "hp") (by rfl) ?_)
  refine op_in1t _ l_ws (by simp; lia) ?_
  repeat walk_at "w"
  (refine at_get (by assumption) cls_shl (shl_none (by kernel_rfl)) (by walk_at "hp") (by rfl) ?_)
  repeat walk_at "w"
  (first | refine set_tok (by assumption) (by walk_at "hp") ?_ | refine set_state (by assumption) (by walk_at "hp") ?_ | refine set_line (by assumption) (by walk_at "hp") ?_)
  repeat walk_at "w"
  (refine at_get (by assumption) cls_shl (shl_none (by kernel_rfl)) (by walk_at "hp") (by rfl) ?_)
  refine tr_str (by rw [sizeLine_eq]; lia) ?_
  refine ⟨fun hh => ?_, fun hh => ?_⟩
  · refine ⟨fun _ => ?_, fun hf => by cases hf⟩
    repeat walk_at "w"
    refine h _ _ ⟨?_, ?_, ?_⟩ ⟨?_, ?_, fun k h1 h2 => ?_⟩
    · walk_at "lk"
    · walk_at "lk"
    · walk_at "lk"
    · walk_at "hp"
    · walk_at "hp"
    · exact (upd_ne _ _ h1).trans (e3 k h1 h2)
  · have hqd : qd = true := hfull.resolve_left (by simpa using hh)
    subst hqd
    repeat walk_at "w"
    (refine at_get (by assumption) cls_shl (shl_none (by kernel_rfl)) (by walk_at "hp") (by rfl) ?_)
    repeat walk_at "w"
    refine h _ _ ⟨?_, ?_, ?_⟩ ⟨?_, ?_, fun k h1 h2 => ?_⟩
    · walk_at "lk"
    · walk_at "lk"
    · walk_at "lk"
    · walk_at "hp"
    · walk_at "hp"
    · exact (upd_ne _ _ h1).trans (e3 k h1 h2)

theorem it_again {n m : Nat} {wc buf : Str} {qd : Bool} {tok : Str} {l : Int} {p : Nat} {vars : List (Str × V)} {H₀ H : Nat → Option AO} {nx c : Nat} {Q : FlowA → St → Prop} (L : LC C n m buf) (hv : LVars n qd vars) (hs : LState H₀ n m wc buf (.str "a") tok l p H)
    (hc : buf.cps.toList[p]? = some c) (hq : c = 39 ∨ c = 34)
    (h : ∀ vars' H', LVars n qd vars' → LState H₀ n m wc buf (.str ⟨#[c]⟩) tok l (p + 1) H' → Q .next ⟨vars', H', nx⟩) : JX C tbody ⟨vars, H, nx⟩ Q := by
  refine pre_c L hv hs hc fun vars H hv hx hs => ?_
  rw [if_neg (by lia)] at hs
  obtain ⟨prog, w, os, base, d, u, sc, gp, pin, tkC, frC, flC⟩ := C
  obtain ⟨HBc, hsc, hd, hne, hsz⟩ := L
  obtain rfl : sc = scRT := hsc
  obtain ⟨g1, g2, g3⟩ := hv
  obtain ⟨e1, e2, e3⟩ := hs
  refine x_seq ?_
  repeat walk_at "w"
  (refine at_get (by assumption) cls_shl (shl_none (by kernel_rfl)) (by walk_at "hp") (by rfl) ?_)
  repeat walk_at "w"
  (refine at_get (by assumption) cls_shl (shl_none (by kernel_rfl)) (by walk_at "hp") (by rfl) ?_)
  repeat walk_at "w"
  (refine at_get (by assumption) cls_shl (shl_none (by kernel_rfl)) (by walk_at "hp") (by rfl) ?_)
  repeat walk_at "w"
  (refine at_get (by assumption) cls_shl (shl_none (by kernel_rfl)) (by walk_at "hp") (by rfl) ?_)
  refine op_in1f _ l_quo (by simp) ?_
  repeat walk_at "w"
  (refine at_get (by assumption) cls_shl (shl_none (by kernel_rfl)) (by walk_at "hp") (by rfl) ?_)
  repeat walk_at "w"
  (refine at_get (by assumption) cls_shl (shl_none (by kernel_rfl)) (by walk_at "hp") (by rfl) ?_)
  refine op_in1f _ l_esc (by simp) ?_
  repeat walk_at "w"
  (refine at_get (by assumption) cls_shl (shl_none (by kernel_rfl)) (by walk_at "hp") (by rfl) ?_)
  refine ev_Tuple ?_
  repeat walk_at "w"
  refine ⟨by decide, ?_⟩
  refine op_inT (ys := [Str.ofString "a", Str.ofString "c"]) ?_
  repeat walk_at "w"
  refine tr_one ?_
  repeat walk_at "w"
  (refine at_get (by assumption) cls_shl (shl_none (by kernel_rfl)) (by walk_at "hp") (by rfl) ?_)
  refine op_in1f _ l_ws (by simp; lia) ?_
  repeat walk_at "w"
  (refine at_get (by assumption) cls_shl (shl_none (by kernel_rfl)) (by walk_at "hp") (by rfl) ?_)
  refine op_in1f _ l_com (by simp; lia) ?_
  repeat walk_at "w"
  (refine at_get (by assumption) cls_shl (shl_none (by kernel_rfl)) (by walk_at "hp") (by rfl) ?_)
  repeat walk_at "w"
  (refine at_get (by assumption) cls_shl (shl_none (by kernel_rfl)) (by walk_at "hp") (by rfl) ?_)
  repeat walk_at "w"
  (refine at_get (by assumption) cls_shl (shl_none (by kernel_rfl)) (by walk_at "hp") (by rfl) ?_)
  refine op_in1t _ l_quo (by simp; lia) ?_
  repeat walk_at "w"
  (first | refine set_tok (by assumption) (by walk_at "hp") ?_ | refine set_state (by assumption) (by walk_at "hp") ?_ | refine set_line (by assumption) (by walk_at "hp") ?_)
  repeat walk_at "w"
  refine h _ _ ⟨?_, ?_, ?_⟩ ⟨?_, ?_, fun k h1 h2 => ?_⟩
  · walk_at "lk"
  · walk_at "lk"
  · walk_at "lk"
  · walk_at "hp"
  · walk_at "hp"
  · exact (upd_ne _ _ h1).trans (e3 k h1 h2)

theorem it_fin {n m : Nat} {wc buf : Str} {qd : Bool} {tok : Str} {l : Int} {p : Nat} {vars : List (Str × V)} {H₀ H : Nat → Option AO} {nx : Nat} {Q : FlowA → St → Prop} (L : LC C n m buf) (hv : LVars n qd vars) (hs : LState H₀ n m wc buf (.str "a") tok l p H)
    (hp : p = buf.length)
    (h : ∀ vars' H', LVars n qd vars' → LState H₀ n m wc buf .none tok l p H' → Q .brk ⟨vars', H', nx⟩) : JX C tbody ⟨vars, H, nx⟩ Q := by
  refine pre_e L hv hs hp fun vars hv hx => ?_
  obtain ⟨prog, w, os, base, d, u, sc, gp, pin, tkC, frC, flC⟩ := C
  obtain ⟨HBc, hsc, hd, hne, hsz⟩ := L
  obtain rfl : sc = scRT := hsc
  obtain ⟨g1, g2, g3⟩ := hv
  obtain ⟨e1, e2, e3⟩ := hs
  refine x_seq ?_
  repeat walk_at "w"
  (refine at_get (by assumption) cls_shl (shl_none (by kernel_rfl)) (by walk_at "hp") (by rfl) ?_)
  repeat walk_at "w"
  (refine at_get (by assumption) cls_shl (shl_none (by kernel_rfl)) (by walk_at "hp") (by rfl) ?_)
  repeat walk_at "w"
  (refine at_get (by assumption) cls_shl (shl_none (by kernel_rfl)) (by walk_at "hp") (by rfl) ?_)
  repeat walk_at "w"
  (refine at_get (by assumption) cls_shl (shl_none (by kernel_rfl)) (by walk_at "hp") (by rfl) ?_)
  refine op_in1f _ l_quo (by simp) ?_
  repeat walk_at "w"
  (refine at_get (by assumption) cls_shl (shl_none (by kernel_rfl)) (by walk_at "hp") (by rfl) ?_)
  repeat walk_at "w"
  (refine at_get (by assumption) cls_shl (shl_none (by kernel_rfl)) (by walk_at "hp") (by rfl) ?_)
  refine op_in1f _ l_esc (by simp) ?_
  repeat walk_at "w"
  (refine at_get (by assumption) cls_shl (shl_none (by kernel_rfl)) (by walk_at "hp") (by rfl) ?_)
  refine ev_Tuple ?_
  repeat walk_at "w"
  refine ⟨by decide, ?_⟩
  refine op_inT (ys := [Str.ofString "a", Str.ofString "c"]) ?_
  repeat walk_at "w"
  refine tr_str (by decide) ?_
  repeat walk_at "w"
  (first | refine set_tok (by assumption) (by walk_at "hp") ?_ | refine set_state (by assumption) (by walk_at "hp") ?_ | refine set_line (by assumption) (by walk_at "hp") ?_)
  repeat walk_at "w"
  refine h _ _ ⟨?_, ?_, ?_⟩ ⟨?_, ?_, fun k h1 h2 => ?_⟩
  · walk_at "lk"
  · walk_at "lk"
  · walk_at "lk"
  · walk_at "hp"
  · walk_at "hp"
  · exact (upd_ne _ _ h1).trans (e3 k h1 h2)

theorem it_none {n m : Nat} {wc buf : Str} {qd : Bool} {tok : Str} {l : Int} {p : Nat} {vars : List (Str × V)} {H₀ H : Nat → Option AO} {nx : Nat} {Q : FlowA → St → Prop} (L : LC C n m buf) (hv : LVars n qd vars) (hs : LState H₀ n m wc buf .none tok l p H)
    (hp : p = buf.length)
    (h : ∀ vars' H', LVars n qd vars' → LState H₀ n m wc buf .none "" l p H' → Q .brk ⟨vars', H', nx⟩) : JX C tbody ⟨vars, H, nx⟩ Q := by
  refine pre_e L hv hs hp fun vars hv hx => ?_
  obtain ⟨prog, w, os, base, d, u, sc, gp, pin, tkC, frC, flC⟩ := C
  obtain ⟨HBc, hsc, hd, hne, hsz⟩ := L
  obtain rfl : sc = scRT := hsc
  obtain ⟨g1, g2, g3⟩ := hv
  obtain ⟨e1, e2, e3⟩ := hs
  refine x_seq ?_
  repeat walk_at "w"
  (refine at_get (by assumption) cls_shl (shl_none (by kernel_rfl)) (by walk_at "hp") (by rfl) ?_)
  repeat walk_at "w"
  (first | refine set_tok (by assumption) (by walk_at "hp") ?_ | refine set_state (by assumption) (by walk_at "hp") ?_ | refine set_line (by assumption) (by walk_at "hp") ?_)
  repeat walk_at "w"
  refine h _ _ ⟨?_, ?_, ?_⟩ ⟨?_, ?_, fun k h1 h2 => ?_⟩
  · walk_at "lk"
  · walk_at "lk"
  · walk_at "lk"
  · walk_at "hp"
  · walk_at "hp"
  · exact (upd_ne _ _ h1).trans (e3 k h1 h2)
end
-- MLex4_04

set_option maxRecDepth 100000
set_option maxHeartbeats 4000000
open PySem PySem.W PyProof.Rows

inductive LS where
  | sp | wd
  | q (c : Nat)
noncomputable def LS.v : LS → V
  | .sp => .str " "
  | .wd => .str "a"
  | .q c => .str ⟨#[c]⟩
noncomputable def lx : LS → Bool → List Nat → List Nat → Option (List Nat × Bool × Bool × List Nat)
  | .wd, qd, tok, [] => if tok ≠ [] ∨ qd = true then some (tok, qd, true, []) else none
  | .wd, qd, tok, c :: r => if c = 32 ∨ c = 10 then (if tok ≠ [] ∨ qd = true then some (tok, qd, false, r) else none) else if c = 39 ∨ c = 34 then lx (.q c) qd tok r else none
  | .q k, qd, tok, c :: r => if c = k then lx .wd true tok r else if c = 92 ∨ c = 10 then none else lx (.q k) true (tok ++ [c]) r
  | .sp, qd, tok, c :: r => if c = 39 then lx (.q 39) qd tok r else if 97 ≤ c ∧ c ≤ 122 then lx .wd qd [c] r else none
  | .q _, _, _, [] => none
  | .sp, _, _, [] => none
noncomputable def LS.ok : LS → Prop
  | .q k => k = 39 ∨ k = 34
  | _ => True
structure WcOk (wc : Str) : Prop where
  letter : ∀ c, 97 ≤ c → c ≤ 122 → c ∈ wc.cps.toList
  mark : 39 ∉ wc.cps.toList




section
variable {C : Fx} {st : St}
theorem strc (l : List Nat) (c : Nat) : (⟨l.toArray⟩ : Str) ++ (⟨#[c]⟩ : Str) = ⟨(l ++ [c]).toArray⟩ := by
  show Str.mk _ = _
  congr 1
  simp
theorem str_len (l : List Nat) : (⟨l.toArray⟩ : Str).length = l.length := by show l.toArray.size = _; simp

inductive RtI (H₀ : Nat → Option AO) (n m nx : Nat) (wc buf : Str) (tok' rest' : List Nat) (qd' e : Bool) (nn : Nat) (st' : St) : Prop
  | mk (ls : LS) (qd : Bool) (tok : List Nat) (l : Int) (p : Nat) (vars : List (Str × V)) (H : Nat → Option AO) (e1 : st' = ⟨vars, H, nx⟩) (e2 : nn = buf.length - p) (hok : LS.ok ls) (hl : lx ls qd tok (buf.cps.toList.drop p) = some (tok', qd', e, rest')) (hp : p ≤ buf.length) (htp : tok.length ≤ p) (hv : LVars n qd vars) (hs : LState H₀ n m wc buf ls.v ⟨tok.toArray⟩ l p H)
theorem rt_loop {n m : Nat} {wc buf : Str} (L : LC C n m buf) (hwc : WcOk wc) {H₀ : Nat → Option AO} {nx : Nat} {Q : FlowA → St → Prop} {tok' rest' : List Nat} {qd' e : Bool} {t : Expr} {o : List Stmt} {pos : Pos}
    (ht : ∃ k cp, t = .Constant (.bool true) k cp)
    (h : ∀ vars' H' l' p', LVars n qd' vars' → LState H₀ n m wc buf (if e then .none else .str " ") ⟨tok'.toArray⟩ l' p' H' → buf.cps.toList.drop p' = rest' → p' ≤ buf.length → Q .next ⟨vars', H', nx⟩)
    {ls : LS} {qd : Bool} {tok : List Nat} {l : Int} {p : Nat} {vars : List (Str × V)} {H : Nat → Option AO} (hok : ls.ok) (hl : lx ls qd tok (buf.cps.toList.drop p) = some (tok', qd', e, rest')) (hp : p ≤ buf.length) (htp : tok.length ≤ p)
    (hv : LVars n qd vars) (hs : LState H₀ n m wc buf ls.v ⟨tok.toArray⟩ l p H) : JX1 C (.While t tbody o pos) ⟨vars, H, nx⟩ Q := by
  obtain ⟨k, cp, rfl⟩ := ht
  have hsz := L.sz
  have hlen : buf.cps.toList.length = buf.length := Array.length_toList
  refine x_While (RtI H₀ n m nx wc buf tok' rest' qd' e) _
    ⟨ls, qd, tok, l, p, vars, H, rfl, rfl, hok, hl, hp, htp, hv, hs⟩ ?_
  rintro nn st' ⟨ls, qd, tok, l, p, vars, H, rfl, rfl, hok, hl, hp, htp, hv, hs⟩
  refine tt_value (ev_Const_bool (tr_bool ⟨fun _ => ?_, fun hf => by cases hf⟩))
  by_cases hlt : p < buf.length
  · obtain ⟨c, hc⟩ : ∃ c, buf.cps.toList[p]? = some c := ⟨_, List.getElem?_eq_getElem (by lia)⟩
    have hd : buf.cps.toList.drop p = c :: buf.cps.toList.drop (p + 1) := by
      rw [List.drop_eq_getElem_cons (by lia)]
      congr 1
      rw [List.getElem?_eq_getElem (by lia)] at hc
      exact Option.some.inj hc
    rw [hd] at hl
    cases ls with
    | sp =>
      unfold lx at hl
      split at hl
      · rename_i h39
        subst h39
        refine it_quote L hv hs hc rfl hwc.mark fun vars' H' hv' hs' => ?_
        exact ⟨buf.length - (p + 1), by lia, .q 39, qd, tok, l, p + 1, vars', H', rfl, rfl, .inl rfl, hl, hlt, by lia, hv', hs'⟩
      · split at hl
        · rename_i hw
          refine it_word L hv hs hc hw.1 hw.2 (hwc.letter c hw.1 hw.2) fun vars' H' hv' hs' => ?_
          exact ⟨buf.length - (p + 1), by lia, .wd, qd, [c], l, p + 1, vars', H', rfl, rfl, trivial, hl, hlt, by simp, hv', hs'⟩
        · cases hl
    | q k =>
      unfold lx at hl
      split at hl
      · rename_i hk
        subst hk
        refine it_close (c := 0) L hv hs hc hok fun vars' H' hv' hs' => ?_
        exact ⟨buf.length - (p + 1), by lia, .wd, true, tok, l, p + 1, vars', H', rfl, rfl, trivial, hl, hlt, by lia, hv', hs'⟩
      · rename_i hk
        split at hl
        · cases hl
        · rename_i h2
          refine it_in L hv hs hc hok hk (fun z => h2 (.inl z)) (fun z => h2 (.inr z)) (by rw [str_len]; lia) fun vars' H' hv' hs' => ?_
          rw [strc] at hs'
          exact ⟨buf.length - (p + 1), by lia, .q k, true, tok ++ [c], l, p + 1, vars', H', rfl, rfl, hok, hl, hlt, by simp; lia, hv', hs'⟩
    | wd =>
      unfold lx at hl
      split at hl
      · rename_i hw
        split at hl
        · rename_i hfull
          cases hl
          refine it_ws L hv hs hc hw (by rw [str_len]; lia) (by rw [str_len]; rcases hfull with z | z; exact .inl (by simpa using z); exact .inr z) fun vars' H' hv' hs' => ?_
          exact h vars' H' _ (p + 1) hv' hs' rfl hlt
        · cases hl
      · split at hl
        · rename_i hw hq
          refine it_again L hv hs hc hq fun vars' H' hv' hs' => ?_
          exact ⟨buf.length - (p + 1), by lia, .q c, qd, tok, l, p + 1, vars', H', rfl, rfl, hq, hl, hlt, by lia, hv', hs'⟩
        · cases hl
  · have hpe : p = buf.length := by lia
    have hd : buf.cps.toList.drop p = [] := List.drop_eq_nil_of_le (by lia)
    rw [hd] at hl
    cases ls with
    | sp => unfold lx at hl; cases hl
    | q k => unfold lx at hl; cases hl
    | wd =>
      unfold lx at hl
      split at hl
      · cases hl
        refine it_fin L hv hs hpe fun vars' H' hv' hs' => ?_
        exact h vars' H' _ p hv' hs' hd hp
      · cases hl

end
section
variable {P : Params} {B : PH}
noncomputable abbrev fd_rt : FuncData := fnF "read_token" "shlex.read_token" (clsBody pb 22) 6 .none (.str (Str.ofString "cpy313.shlex") 1087) (.ref 699)
theorem f_rt (H : BaseK (K P) B) : Fn0 B 700 fd_rt (bodyAt (clsBody pb 22) 6) := H.fn0 (o := fnO "read_token" "shlex.read_token" (clsBody pb 22) 6 .none (.str (Str.ofString "cpy313.shlex") 1087) (.ref 699)) (by kernel_rfl) rfl rfl (by kernel_rfl) (by decide +kernel) rfl rfl rfl rfl
noncomputable abbrev fd_gt : FuncData := fnF "get_token" "shlex.get_token" (clsBody pb 22) 5 .none (.str (Str.ofString "cpy313.shlex") 1087) (.ref 692)
theorem f_gt (H : BaseK (K P) B) : Fn0 B 693 fd_gt (bodyAt (clsBody pb 22) 5) := H.fn0 (o := fnO "get_token" "shlex.get_token" (clsBody pb 22) 5 .none (.str (Str.ofString "cpy313.shlex") 1087) (.ref 692)) (by kernel_rfl) rfl rfl (by kernel_rfl) (by decide +kernel) rfl rfl rfl rfl
end

noncomputable def stv : Option (List Nat) → V
  | some _ => .str " "
  | none => .none
structure LexAt (H : Nat → Option AO) (n m : Nat) (wc buf : Str) (left : Option (List Nat)) : Prop where
  ne : n ≠ m
  sz : buf.length ≤ 100000
  at_ : ∃ l p, H n = some (.ns (LX wc m (stv left) "" l)) ∧ H m = some (.ns (SIO buf (p : Nat))) ∧ p ≤ buf.length ∧ buf.cps.toList.drop p = left.getD []

noncomputable def lxOne (left : Option (List Nat)) : Option (V × Option (List Nat)) := match left with
  | none => some (.none, none)
  | some r => match lx .sp false [] r with
    | some (tok, _, e, r') => some (.str ⟨tok.toArray⟩, if e then none else some r')
    | none => none
theorem lx_end : ∀ {r : List Nat} {ls : LS} {qd : Bool} {tok tok' r' : List Nat} {qd' : Bool}, lx ls qd tok r = some (tok', qd', true, r') → r' = []
  | [], .sp, _, _, _, _, _, h => by unfold lx at h; cases h
  | [], .q _, _, _, _, _, _, h => by unfold lx at h; cases h
  | [], .wd, _, _, _, _, _, h => by
    unfold lx at h
    split at h
    · cases h; rfl
    · cases h
  | c :: r, .sp, _, _, _, _, _, h => by
    unfold lx at h
    split at h
    · exact lx_end h
    · split at h
      · exact lx_end h
      · cases h
  | c :: r, .q k, _, _, _, _, _, h => by
    unfold lx at h
    split at h
    · exact lx_end h
    · split at h
      · cases h
      · exact lx_end h
  | c :: r, .wd, _, _, _, _, _, h => by
    unfold lx at h
    split at h
    · split at h <;> cases h
    · split at h
      · exact lx_end h
      · cases h
theorem lx_full : ∀ {r : List Nat} {ls : LS} {qd : Bool} {tok tok' r' : List Nat} {qd' e : Bool}, lx ls qd tok r = some (tok', qd', e, r') → tok' ≠ [] ∨ qd' = true
  | [], .sp, _, _, _, _, _, _, h => by unfold lx at h; cases h
  | [], .q _, _, _, _, _, _, _, h => by unfold lx at h; cases h
  | [], .wd, _, _, _, _, _, _, h => by
    unfold lx at h
    split at h
    · rename_i q; cases h; exact q
    · cases h
  | c :: r, .sp, _, _, _, _, _, _, h => by
    unfold lx at h
    split at h
    · exact lx_full h
    · split at h
      · exact lx_full h
      · cases h
  | c :: r, .q k, _, _, _, _, _, _, h => by
    unfold lx at h
    split at h
    · exact lx_full h
    · split at h
      · cases h
      · exact lx_full h
  | c :: r, .wd, _, _, _, _, _, _, h => by
    unfold lx at h
    split at h
    · split at h
      · rename_i q; cases h; exact q
      · cases h
    · split at h
      · exact lx_full h
      · cases h

theorem lx_len : ∀ {r : List Nat} {ls : LS} {qd : Bool} {tok tok' r' : List Nat} {qd' e : Bool}, lx ls qd tok r = some (tok', qd', e, r') → tok'.length ≤ tok.length + r.length
  | [], .sp, _, _, _, _, _, _, h => by unfold lx at h; cases h
  | [], .q _, _, _, _, _, _, _, h => by unfold lx at h; cases h
  | [], .wd, _, _, _, _, _, _, h => by
    unfold lx at h
    split at h
    · cases h; exact Nat.le_refl _
    · cases h
  | c :: r, .sp, _, _, _, _, _, _, h => by
    unfold lx at h
    split at h
    · have := lx_len h; simp; lia
    · split at h
      · have := lx_len h; simp at this; simp; lia
      · cases h
  | c :: r, .q k, _, _, _, _, _, _, h => by
    unfold lx at h
    split at h
    · have := lx_len h; simp; lia
    · split at h
      · cases h
      · have := lx_len h; simp at this; simp; lia
  | c :: r, .wd, _, _, _, _, _, _, h => by
    unfold lx at h
    split at h
    · split at h
      · cases h; simp
      · cases h
    · split at h
      · have := lx_len h; simp; lia
      · cases h

theorem c_rt {C : Fx} {st : St} {n m : Nat} {wc buf : Str} (H : HB C) (hd : C.d ≤ 600) (hwc : WcOk wc) {left left' : Option (List Nat)} {v : V} (A : LexAt st.heap n m wc buf left) (hl : lxOne left = some (v, left')) {Q : V → St → Prop}
    (h : ∀ H', LexAt H' n m wc buf left' → (∀ k, k ≠ n → k ≠ m → H' k = st.heap k) → Q v ⟨st.vars, H', st.nx⟩) : JV C VR [.inst 732 n] (fun ws => call (.ref 700) ws) st Q := by
  refine JC.jv (code_fn0 (vars := [("self", .inst 732 n)]) (f_rt H) (by lia) (show parOk fd_rt.scope ["self"] = true by decide +kernel) (fun env Z R ρ s ws hs hw => ?_) ?_)
  · obtain ⟨x, rfl, r1⟩ := inv1 hw
    exact ⟨_, BindsTo.of_eq rfl, .cons r1 .nil⟩
  obtain ⟨ne, sz, l, p, a1, a2, a3, a4⟩ := A
  have L : LC (C.into fd_rt.scope) n m buf := ⟨H, rfl, show C.d + 1 ≤ 700 from dk hd (by decide), ne, sz⟩
  have HBc : HB (C.into fd_rt.scope) := H
  obtain ⟨vars₀, H₀, nx⟩ := st
  dsimp only at a1 a2 h
  -- behind the loop
  have fin : ∀ (vars' : List (Str × V)) (H' : Nat → Option AO) (l' : Int) (p' : Nat) (qd' : Bool) (tok : List Nat) (s' : V), LVars n qd' vars' → LState H₀ n m wc buf s' ⟨tok.toArray⟩ l' p' H' → tok.length ≤ 100000 → p' ≤ buf.length →
      (tok ≠ [] ∨ qd' = true → v = .str ⟨tok.toArray⟩) → (tok = [] → qd' = false → v = .none) → s' = stv left' → buf.cps.toList.drop p' = left'.getD [] →
      JX (C.into fd_rt.scope) ((bodyAt (clsBody pb 22) 6).drop 3) ⟨vars', H', nx⟩ (fun f st' => Q (retV f) ⟨vars₀, st'.heap, st'.nx⟩) := by
    intro vars' H' l' p' qd' tok s' hv hs htl hp' v1 v2 es ed
    obtain ⟨g1, g2, g3⟩ := hv
    obtain ⟨e1, e2, e3⟩ := hs
    refine x_seq ?_
    repeat walk_at "w"
    (refine at_get (by assumption) cls_shl (shl_none (by kernel_rfl)) (by walk_at "hp") (by rfl) ?_)
    repeat walk_at "w"
    (first | refine set_tok (by assumption) (by walk_at "hp") ?_ | refine set_state (by assumption) (by walk_at "hp") ?_ | refine set_line (by assumption) (by walk_at "hp") ?_)
    repeat walk_at "w"
    (refine at_get (by assumption) cls_shl (shl_none (by kernel_rfl)) (by walk_at "hp") (by rfl) ?_)
    repeat walk_at "w"
    have done : Q v ⟨vars₀, upd H' n (.ns (LX wc m s' "" l')), nx⟩ := h _ ⟨ne, sz, l', p', by rw [es]; exact upd_self _ _ _, (upd_ne _ _ (Ne.symm ne)).trans e2, hp', ed⟩ fun k h1 h2 => (upd_ne _ _ h1).trans (e3 k h1 h2)
    cases qd' with
    | true =>
      repeat walk_at "w"
      (refine at_get (by assumption) cls_shl (shl_none (by kernel_rfl)) (by walk_at "hp") (by rfl) ?_)
      repeat walk_at "w"
      rw [v1 (.inr rfl)] at done
      exact done
    | false =>
      repeat walk_at "w"
      have ee : ((⟨tok.toArray⟩ : Str) == Str.ofString "") = decide (tok = []) := by
        rw [Bool.eq_iff_iff, beq_iff_eq, decide_eq_true_eq]
        constructor
        · intro hh
          have : (⟨tok.toArray⟩ : Str).length = 0 := by rw [hh]; rfl
          rw [str_len] at this
          exact List.eq_nil_of_length_eq_zero this
        · rintro rfl; rfl
      rw [ee]
      refine ⟨fun hh => ?_, fun hh => ?_⟩
      · have hh := of_decide_eq_true hh
        repeat walk_at "w"
        (refine at_get (by assumption) cls_shl (shl_none (by kernel_rfl)) (by walk_at "hp") (by rfl) ?_)
        repeat walk_at "w"
        rw [v2 hh rfl] at done
        exact done
      · have hh := of_decide_eq_false hh
        repeat walk_at "w"
        (refine at_get (by assumption) cls_shl (shl_none (by kernel_rfl)) (by walk_at "hp") (by rfl) ?_)
        repeat walk_at "w"
        rw [v1 (.inl hh)] at done
        exact done
  refine x_seq ?_
  iterate 6 walk_at "w"
  refine x_seq ?_
  cases left with
  | none =>
    cases hl
    have hpe : p = buf.length := by
      have := congrArg List.length a4
      simp at this
      have h2 : buf.length = buf.cps.size := rfl
      lia
    refine x_While (fun nn st' => st' = ⟨_, H₀, nx⟩) 0 rfl ?_
    rintro nn st' rfl
    refine tt_value (ev_Const_bool (tr_bool ⟨fun _ => ?_, fun hf => by cases hf⟩))
    refine it_none (qd := false) L ⟨?_, ?_, ?_⟩ ⟨a1, a2, fun _ _ _ => rfl⟩ hpe fun vars' H' hv' hs' => ?_
    · walk_at "lk"
    · walk_at "lk"
    · walk_at "lk"
    · refine thn_next ?_
      exact fin vars' H' l p _ [] .none hv' hs' (by simp) a3 (fun hh => by rcases hh with z | z; exact absurd rfl z; cases z) (fun _ _ => rfl) rfl a4
  | some r =>
    unfold lxOne at hl
    dsimp only at hl a4
    cases hlx : lx .sp false [] r with
    | none => rw [hlx] at hl; cases hl
    | some x =>
      obtain ⟨tok, qd', e, r'⟩ := x
      rw [hlx] at hl
      cases hl
      rw [← show buf.cps.toList.drop p = r from a4] at hlx
      refine rt_loop L hwc (H₀ := H₀) ⟨_, _, rfl⟩ (fun vars' H' l' p' hv' hs' hd' hp' => ?_) (ls := .sp) trivial hlx a3 (Nat.zero_le _) ⟨?_, ?_, ?_⟩ ⟨a1, a2, fun _ _ _ => rfl⟩
      · refine thn_next ?_
        have hful := lx_full hlx
        refine fin vars' H' l' p' qd' tok _ hv' hs' ?_ hp' (fun _ => rfl) (fun z1 z2 => ?_) ?_ ?_
        · have := lx_len hlx
          simp at this
          have h2 : buf.length = buf.cps.size := rfl
          lia
        · rcases hful with z | z
          · exact absurd z1 z
          · rw [z2] at z; cases z
        · cases e <;> rfl
        · cases e with
          | true => rw [hd', lx_end hlx]; rfl
          | false => exact hd'
      · walk_at "lk"
      · walk_at "lk"
      · walk_at "lk"

theorem c_gt {C : Fx} {st : St} {n m : Nat} {wc buf : Str} (H : HB C) (hd : C.d ≤ 500) (hwc : WcOk wc) {left left' : Option (List Nat)} {v : V} (A : LexAt st.heap n m wc buf left) (hl : lxOne left = some (v, left')) {Q : V → St → Prop}
    (h : ∀ H', LexAt H' n m wc buf left' → (∀ k, k ≠ n → k ≠ m → H' k = st.heap k) → Q v ⟨st.vars, H', st.nx⟩) : JV C VR [.inst 732 n] (fun ws => call (.ref 693) ws) st Q := by
  refine JC.jv (code_fn0 (vars := [("self", .inst 732 n)]) (f_gt H) (by lia) (show parOk fd_gt.scope ["self"] = true by decide +kernel) (fun env Z R ρ s ws hs hw => ?_) ?_)
  · obtain ⟨x, rfl, r1⟩ := inv1 hw
    exact ⟨_, BindsTo.of_eq rfl, .cons r1 .nil⟩
  have HBc : HB (C.into fd_gt.scope) := H
  obtain ⟨vars₀, H₀, nx⟩ := st
  obtain ⟨ne, sz, l, p, a1, a2, a3, a4⟩ := id A
  dsimp only at a1 a2 h
  refine x_seq ?_
  repeat walk_at "w"
  (refine at_get (by assumption) cls_shl (shl_none (by kernel_rfl)) (by walk_at "hp") (by rfl) ?_)
  repeat walk_at "w"
  refine ev_MethI HBc cls_shl m_rdtok.find m_rdtok.typ m_rdtok.keep ?_
  repeat walk_at "w"
  refine ⟨⟨n, _, rfl, a1, by rfl⟩, ?_⟩
  repeat walk_at "w"
  refine c_rt (C := C.into fd_gt.scope) H (show C.d + 1 ≤ 600 from dk hd (by decide)) hwc (by exact A) hl fun H' A' hk => ?_
  have hfin := h H' A' hk
  obtain ⟨ne', sz', l', p', a1', a2', a3', a4'⟩ := id A'
  repeat walk_at "w"
  (refine at_get (by assumption) cls_shl (shl_none (by kernel_rfl)) (by walk_at "hp") (by rfl) ?_)
  repeat walk_at "w"
  refine x_While (fun _ st' => st' = ⟨_, H', nx⟩) 0 rfl ?_
  rintro nn st' rfl
  repeat walk_at "w"
  (refine at_get (by assumption) cls_shl (shl_none (by kernel_rfl)) (by walk_at "hp") (by rfl) ?_)
  cases left with
  | none =>
    cases hl
    repeat walk_at "w"
    (refine at_get (by assumption) cls_shl (shl_none (by kernel_rfl)) (by walk_at "hp") (by rfl) ?_)
    repeat walk_at "w"
    (refine at_get (by assumption) cls_shl (shl_none (by kernel_rfl)) (by walk_at "hp") (by rfl) ?_)
    repeat walk_at "w"
    exact hfin
  | some r =>
    unfold lxOne at hl
    dsimp only at hl
    cases hlx : lx .sp false [] r with
    | none => rw [hlx] at hl; cases hl
    | some x =>
      obtain ⟨tok, qd', e, r'⟩ := x
      rw [hlx] at hl
      cases hl
      repeat walk_at "w"
      (refine at_get (by assumption) cls_shl (shl_none (by kernel_rfl)) (by walk_at "hp") (by rfl) ?_)
      repeat walk_at "w"
      exact hfin
-- MLexI_04

set_option maxRecDepth 100000
set_option maxHeartbeats 4000000
open PySem PySem.W PyProof.Rows




theorem updd {α : Type} (H : Nat → Option α) (n : Nat) (x y : α) : upd (upd H n x) n y = upd H n y := by
  funext k; unfold upd; split <;> rfl
section
variable {P : Params} {B : PH}
noncomputable abbrev fd_trans : FuncData := fnF "__translated" "StringIO.__translated" (clsBody pb 12) 2 .none (.str (Str.ofString "io") 371) (.ref 373)
theorem f_trans (H : BaseK (K P) B) : Fn0 B 374 fd_trans (bodyAt (clsBody pb 12) 2) := H.fn0 (o := fnO "__translated" "StringIO.__translated" (clsBody pb 12) 2 .none (.str (Str.ofString "io") 371) (.ref 373)) (by kernel_rfl) rfl rfl (by kernel_rfl) (by decide +kernel) rfl rfl rfl rfl
noncomputable abbrev fd_sini : FuncData := fnF "__init__" "StringIO.__init__" (clsBody pb 12) 1 (.ref 360) (.str (Str.ofString "io") 371) (.ref 366)
theorem f_sini (H : BaseK (K P) B) : Fn0 B 367 fd_sini (bodyAt (clsBody pb 12) 1) := H.fn0 (o := fnO "__init__" "StringIO.__init__" (clsBody pb 12) 1 (.ref 360) (.str (Str.ofString "io") 371) (.ref 366)) (by kernel_rfl) rfl rfl (by kernel_rfl) (by decide +kernel) rfl rfl rfl rfl
noncomputable abbrev fd_snew : FuncData := fnF "__new__" "IOBase.__new__" (clsBody pb 8) 1 .none (.str (Str.ofString "io") 371) (.ref 89)
theorem f_snew (H : BaseK (K P) B) : Fn0 B 90 fd_snew (bodyAt (clsBody pb 8) 1) := H.fn0 (o := fnO "__new__" "IOBase.__new__" (clsBody pb 8) 1 .none (.str (Str.ofString "io") 371) (.ref 89)) (by kernel_rfl) rfl rfl (by kernel_rfl) (by decide +kernel) rfl rfl rfl rfl
theorem g_sio (H : BaseK (K P) B) : Glo B "StringIO" (.ref 597) := H.glo (by kernel_rfl)
theorem g_bio (H : BaseK (K P) B) : Glo B "BytesIO" (.ref 350) := H.glo (by kernel_rfl)
theorem sio_make (M : Model) (h : Heap) (X : (K P).In h) : Makes2 M h 597 := makes2_of X (by kernel_rfl) (fun S => by kernel_rfl) (fun S => by kernel_rfl) (fun S => by kernel_rfl)
theorem sio_n1 : ∀ S n tk, pk (K P) S (checkBuiltinCall "object.__new__" ⟨[.ref 597], []⟩) n tk [] = some ((), [], tk) := fun S n tk => by kernel_rfl
theorem sio_n2 : ∀ S n tk, pk (K P) S (Builtin.«object.__new__» ⟨[.ref 597], []⟩) n tk [] = some (.done (.ret (.ref (n + 1))), [emptyDict, instObj 597 n], tk) := fun S n tk => by kernel_rfl
theorem snew_find : findCls (K P) (.ref 597) (.type "type") "__new__" = some (.get (.builtin "staticmethod.__get__") (.ref 94) .none (.ref 597)) := by kernel_rfl
theorem onew_find : findCls (K P) (.type "object") (.type "type") "__new__" = some (.val (.builtin "object.__new__")) := by kernel_rfl
theorem sio_reads : readsIn (K P) 597 (.type "type") = true := by kernel_rfl
theorem sio_keep : keepIn (K P) (.ref 597) = true := by kernel_rfl
theorem m_sinit : MethK (K P) 597 "__init__" 367 := ⟨by kernel_rfl, by kernel_rfl, by kernel_rfl⟩
end

section
variable {C : Fx} {st : St}
theorem c_trans (H : HB C) (hd : C.d ≤ 900) {n : Nat} {fs : List (Str × V)} {s : Str} (hn : st.heap n = some (.ns fs)) (hf : fs.lookup ("_StringIO__newline" : Str) = some (.str "\n")) {Q : V → St → Prop} (h : Q (.str s) st) : JV C VR [.inst 597 n, .str s] (fun ws => call (.ref 374) ws) st Q := by
  refine JC.jv (code_fn0 (vars := [("self", .inst 597 n), ("s", .str s)]) (f_trans H) (by lia) (show parOk fd_trans.scope ["self", "s"] = true by decide +kernel) (fun env Z R ρ s ws hs hw => ?_) ?_)
  · obtain ⟨x, y, rfl, r1, r2⟩ := inv2 hw
    exact ⟨_, BindsTo.of_eq rfl, .cons r1 (.cons r2 .nil)⟩
  have HBc : HB (C.into fd_trans.scope) := H
  refine x_seq ?_
  repeat walk_at "w"
  refine at_get HBc cls_sio (sio_none (by kernel_rfl)) (by exact hn) (by exact hf) ?_
  repeat walk_at "w"
  exact h

theorem c_sini (H : HB C) (hd : C.d ≤ 800) {n : Nat} {s : Str} (hn : st.heap n = some (.ns [])) {Q : V → St → Prop} (h : Q .none { st with heap := upd st.heap n (.ns (SIO s 0)) }) : JC C 367 [.inst 597 n, .str s] [] st Q := by
  refine code_fn0 (vars := [("self", .inst 597 n), ("initial_value", .str s), ("newline", .str "\n")]) (f_sini H) (by lia) (show parOk fd_sini.scope ["self", "initial_value", "newline"] = true by decide +kernel) (fun env Z R ρ s ws hs hw => ?_) ?_
  · obtain ⟨x, y, rfl, r1, r2⟩ := inv2 hw
    exact ⟨_, binds_K (hs.knows H.inK) rfl (show (K C.w.params).lookup 360 = some _ from rfl) rfl rfl rfl, .cons r1 (.cons r2 (.cons (.str _ _) .nil))⟩
  have HBc : HB (C.into fd_sini.scope) := H
  refine x_seq ?_
  repeat walk_at "w"
  refine ev_CallT (t_type (by exact HBc)) (by rfl) ?_
  repeat walk_at "w"
  refine ty_str ?_
  refine ev_Blt (t_str (by exact HBc)) (by rfl) ?_
  repeat walk_at "w"
  refine ev_CallT (t_type (by exact HBc)) (by rfl) ?_
  repeat walk_at "w"
  refine ty_str ?_
  refine ev_Blt (t_str (by exact HBc)) (by rfl) ?_
  repeat walk_at "w"
  (refine at_set (by assumption) cls_sio (sio_none (by kernel_rfl)) (by walk_at "hp") (by first | (show 0 ≤ 900; decide) | (show 1 ≤ 900; decide) | (show 2 ≤ 900; decide) | (show 3 ≤ 900; decide)) ?_)
  repeat walk_at "w"
  (refine at_set (by assumption) cls_sio (sio_none (by kernel_rfl)) (by walk_at "hp") (by first | (show 0 ≤ 900; decide) | (show 1 ≤ 900; decide) | (show 2 ≤ 900; decide) | (show 3 ≤ 900; decide)) ?_)
  repeat walk_at "w"
  (refine at_set (by assumption) cls_sio (sio_none (by kernel_rfl)) (by walk_at "hp") (by first | (show 0 ≤ 900; decide) | (show 1 ≤ 900; decide) | (show 2 ≤ 900; decide) | (show 3 ≤ 900; decide)) ?_)
  repeat walk_at "w"
  refine ev_MethI HBc cls_sio m_trans.find m_trans.typ m_trans.keep ?_
  repeat walk_at "w"
  refine ⟨⟨n, _, rfl, upd_self _ _ _, by rfl⟩, ?_⟩
  repeat walk_at "w"
  refine c_trans (C := C.into fd_sini.scope) H (show C.d + 1 ≤ 900 from dk hd (by decide)) (by exact upd_self _ _ _) (by rfl) ?_
  repeat walk_at "w"
  (refine at_set (by assumption) cls_sio (sio_none (by kernel_rfl)) (by walk_at "hp") (by first | (show 0 ≤ 900; decide) | (show 1 ≤ 900; decide) | (show 2 ≤ 900; decide) | (show 3 ≤ 900; decide)) ?_)
  repeat walk_at "w"
  simp only [updd]
  exact h

theorem c_snew (H : HB C) (hd : C.d ≤ 800) {s : Str} {Q : V → St → Prop} (h : Q (.inst 597 (st.nx + 1)) ⟨st.vars, upd (upd st.heap st.nx (.ns [])) (st.nx + 1) (.ns []), st.nx + 2⟩) : JC C 90 [.val (.ref 597), .str s] [] st Q := by
  refine code_fn (st₁ := ⟨st.vars, upd st.heap st.nx (.ns []), st.nx + 1⟩) (vars := [("cls", .val (.ref 597)), ("args", .tup [.str s]), ("kwargs", .obj st.nx)]) (f_snew H) (by lia) (show parOk fd_snew.scope ["cls", "args", "kwargs"] = true by decide +kernel) (fun env Z R ρ sh ws hs hw => ?_) ?_
  · obtain ⟨x, y, rfl, r1, r2⟩ := inv2 hw
    have e : bindArgs fd_snew ⟨[x, y], []⟩ = (newTuple [y] >>= fun t => alloc { cls := .type "dict", data := .dict #[] } >>= fun d => pure [(Str.ofString "cls", x), (Str.ofString "args", t), (Str.ofString "kwargs", .ref d)]) := by rfl
    rw [e]
    obtain ⟨le, k⟩ := hs.allocZ (tobj #[y] 0) sh.toks
    have k2 := k.allocO emptyDict (.ns []) sh.toks (.ns (n := 0) .nil)
    have hnx : ρ.length = st.nx := let ⟨_, k⟩ := hs; k.nx
    refine wpAny_bind (wpAny_newTuple ?_ (by show 1 ≤ _; rw [sizeLine_eq]; decide))
    refine wpAny_bind (wpAny_alloc (wpAny_pure ?_))
    refine ⟨_, _, le, Ext.snoc _ _, k2, .cons (r1.mono le (Ext.snoc _ _)) (.cons ?_ (.cons ?_ .nil))⟩
    · exact .tup (ws := #[y]) (n := 0) (PH.put_self ..) (.cons (r2.mono le (Ext.snoc _ _)) .nil)
    · exact .obj (by rw [List.getElem?_append_right (by rw [hnx]; exact Nat.le_refl _), hnx, Nat.sub_self]; rfl)
  have HBc : HB (C.into fd_snew.scope) := H
  refine x_seq ?_
  repeat walk_at "w"
  refine ev_Glo (g_bio (by exact HBc)) (by rfl) ?_
  refine isnot_refs (by exact HBc) (show (K C.w.params).lookup 597 = some _ from rfl) (show (K C.w.params).lookup 350 = some _ from rfl) (by simp) ?_
  repeat walk_at "w"
  refine ev_Glo (g_sio (by exact HBc)) (by rfl) ?_
  refine isnot_refs (by exact HBc) (show (K C.w.params).lookup 597 = some _ from rfl) (show (K C.w.params).lookup 597 = some _ from rfl) (by simp) ?_
  repeat walk_at "w"
  refine ev_ObjNew (by exact HBc) (t_object (by exact HBc)) (by rfl) onew_find ?_
  repeat walk_at "w"
  refine new_obj (by exact HBc) sio_n1 sio_n2 ?_
  repeat walk_at "w"
  exact h

theorem c_sio (H : HB C) (hd : C.d ≤ 700) {s : Str} {Q : V → St → Prop} (h : Q (.inst 597 (st.nx + 1)) ⟨st.vars, upd (upd st.heap st.nx (.ns [])) (st.nx + 1) (.ns (SIO s 0)), st.nx + 2⟩) : JV C VR [.str s] (fun ws => call (.ref 597) ws) st Q := by
  refine mk_inst2 (kws := []) H (fun M h X => sio_make M h X) sio_reads snew_find (show recIn (K C.w.params) 94 "staticmethod" = some (.ref 90 :: []) by kernel_rfl) m_sinit.find m_sinit.typ ?_
  refine c_snew (C := C.make) H (show C.d + 1 ≤ 800 from dk hd (by decide)) ?_
  refine ⟨st.nx + 1, [], rfl, upd_self _ _ _, ?_⟩
  refine c_sini (C := C.make) H (show C.d + 1 ≤ 800 from dk hd (by decide)) (by exact upd_self _ _ _) ?_
  refine ⟨rfl, ?_⟩
  rw [updd]
  exact h
end

section
variable {P : Params} {B : PH}
noncomputable abbrev fd_lini : FuncData := fnF "__init__" "shlex.__init__" (clsBody pb 22) 0 (.ref 649) (.str (Str.ofString "cpy313.shlex") 1087) (.ref 655)
theorem f_lini (H : BaseK (K P) B) : Fn0 B 656 fd_lini (bodyAt (clsBody pb 22) 0) := H.fn0 (o := fnO "__init__" "shlex.__init__" (clsBody pb 22) 0 (.ref 649) (.str (Str.ofString "cpy313.shlex") 1087) (.ref 655)) (by kernel_rfl) rfl rfl (by kernel_rfl) (by decide +kernel) rfl rfl rfl rfl
theorem m_linit : MethK (K P) 732 "__init__" 656 := ⟨by kernel_rfl, by kernel_rfl, by kernel_rfl⟩
theorem g_shl (H : BaseK (K P) B) : Glo B "shlex" (.ref 732) := H.glo (by kernel_rfl)
theorem shl_makes : makesIn (K P) 732 = true := by kernel_rfl
theorem shl_keep : keepIn (K P) (.ref 732) = true := by kernel_rfl
end
theorem setv_new (x : Str) (v : V) : ∀ l : List (Str × V), l.lookup x = none → setv x v l = l ++ [(x, v)]
  | [], _ => rfl
  | (y, u) :: r, h => by
    rw [List.lookup_cons] at h
    unfold setv
    by_cases q : (y == x) = true
    · have := beq_iff_eq.mp q
      subst this
      simp at h
    · have q2 : (x == y) = false := by
        rw [Bool.not_eq_true] at q
        rw [beq_eq_false_iff_ne] at q ⊢
        exact Ne.symm q
      rw [q2] at h
      rw [if_neg q, setv_new x v r h]
      rfl
theorem at_setN {C : Fx} {st : St} {K : Frag} {c : Addr} {n : Nat} {fs : List (Str × V)} {x : Str} {u : V} {Q : Unit → St → Prop} (H : BaseK K C.base) (k : ClsK K c) (ha : findIn K (.ref c) x = some none) (hh : st.heap n = some (.ns fs)) (hno : fs.lookup x = none) (hz : fs.length ≤ 900)
    (h : Q () { st with heap := upd st.heap n (.ns (fs ++ [(x, u)])) }) : JV C rUnit [.inst c n, u] (two fun a b => setAttr a x b) st Q :=
  at_set H k ha hh hz (by rw [setv_new x u fs hno]; exact h)
theorem at_setE {C : Fx} {st : St} {K : Frag} {c : Addr} {n : Nat} {fs : List (Str × V)} {x : Str} {u : V} {Q : Unit → St → Prop} (fs' : List (Str × V)) (H : BaseK K C.base) (k : ClsK K c) (ha : findIn K (.ref c) x = some none) (hh : st.heap n = some (.ns fs)) (hs : setv x u fs = fs') (hz : fs.length ≤ 900)
    (h : Q () { st with heap := upd st.heap n (.ns fs') }) : JV C rUnit [.inst c n, u] (two fun a b => setAttr a x b) st Q :=
  at_set H k ha hh hz (by rw [hs]; exact h)
section
variable {C : Fx} {st : St}
theorem ev_CallTG {f : Str} {p pos : Pos} {es : List Expr} {id : String} {Q : V → St → Prop} (hg : Glo C.base f (.type id)) (hk : C.sc.names.lookup f = some .globalImplicit)
    (h : JL C pos es st fun vs st₁ => JV C VR vs (fun ws => call (.type id) ws) st₁ Q)
    (he : ∀ env, (backTo pos (starEach es env)).any (·.1) = false := by intro _; rfl) (hd : (f == ("__debug__" : Str)) = false := by decide) : J C VR (eval (.Call (.Name f p) es [] pos)) st Q :=
  fun env Z R ρ s hs => by
    refine wpAny_Call_NameR (wp_use (ev_Glo (Q := fun v st' => v = .val (.type id) ∧ st' = st) hg hk ⟨rfl, rfl⟩ hd env Z R ρ s hs) (fun w s₁ v st₁ Z₁ ρ₁ hz hr rv hs₁ ⟨e1, e2⟩ => ?_))
    subst e1; subst e2
    cases rv
    refine PyProof.Rows.callWith_type (he env) (wpAny_mono (args_ h he hs₁ (.type id)) (fun ar s₂ ⟨hkw, pp⟩ => pp.ex fun vs st₂ Z₂ ρ₂ hz2 hr2 rvs hs₂ h₂ => ?_) fun _ _ e => e)
    rw [hkw]
    exact wp_up (hz.trans hz2) (hr.trans hr2) (h₂ env Z₂ R ρ₂ s₂ ar.pos hs₂ rvs)
theorem wcOk_of {wc : Str} (h : ((List.range 26).all fun k => wc.cps.toList.contains (97 + k)) && !wc.cps.toList.contains 39 = true) : WcOk wc := by
  rw [Bool.and_eq_true, List.all_eq_true] at h
  refine ⟨fun c h1 h2 => ?_, fun hm => ?_⟩
  · have := h.1 (c - 97) (List.mem_range.mpr (by lia))
    rw [show 97 + (c - 97) = c by lia] at this
    exact List.contains_iff_mem.mp this
  · have := h.2
    rw [List.contains_iff_mem.mpr hm] at this
    cases this
theorem c_lini (H : HB C) (hd : C.d ≤ 600) {n : Nat} {s : Str} (hn : st.heap n = some (.ns [])) (hlt : n < st.nx) {Q : V → St → Prop} (h : ∀ wc, WcOk wc → Q .none ⟨st.vars, upd (upd (upd st.heap st.nx (.ns [])) (st.nx + 1) (.ns (SIO s 0))) n (.ns (LX wc (st.nx + 1) (.str " ") "" 1)), st.nx + 2⟩) :
    JC C 656 [.inst 732 n, .str s] [(("posix" : Str), .bool true)] st Q := by
  refine code_fn0 (vars := [("self", .inst 732 n), ("instream", .str s), ("infile", .none), ("posix", .bool true), ("punctuation_chars", .bool false)]) (f_lini H) (by lia) (show parOk fd_lini.scope ["self", "instream", "infile", "posix", "punctuation_chars"] = true by decide +kernel) (fun env Z R ρ s ws hs hw => ?_) ?_
  · obtain ⟨x, y, rfl, r1, r2⟩ := inv2 hw
    exact ⟨_, binds_K (hs.knows H.inK) rfl (show (K C.w.params).lookup 649 = some _ from rfl) rfl rfl rfl, .cons r1 (.cons r2 (.cons .none (.cons (.bool _) (.cons (.bool _) .nil))))⟩
  have HBc : HB (C.into fd_lini.scope) := H
  refine x_seq ?_
  repeat walk_at "w"
  refine tt_value ?_
  refine ev_CallB (t_isinst (by exact HBc)) (by rfl) ?_
  repeat walk_at "w"
  refine ev_Blt (t_str (by exact HBc)) (by rfl) ?_
  repeat walk_at "w"
  refine isi_str ?_
  repeat walk_at "w"
  refine ev_CallC (by exact HBc) (g_sio (by exact HBc)) sio_keep (by rfl) ?_
  repeat walk_at "w"
  refine c_sio (C := C.into fd_lini.scope) H (show C.d + 1 ≤ 700 from dk hd (by decide)) ?_
  repeat walk_at "w"
  have q1 : n ≠ st.nx := by lia
  have q2 : n ≠ st.nx + 1 := by lia
  iterate 5 ((refine at_setN (by assumption) cls_shl (shl_none (by kernel_rfl)) (by walk_at "hp") (by rfl) (by exact Nat.le_of_ble_eq_true rfl) ?_; simp only [List.cons_append, List.nil_append, updd]); repeat walk_at "w")
  (refine at_setN (by assumption) cls_shl (shl_none (by kernel_rfl)) (by walk_at "hp") (by rfl) (by exact Nat.le_of_ble_eq_true rfl) ?_; simp only [List.cons_append, List.nil_append, updd])
  repeat walk_at "w"
  (refine at_get (by assumption) cls_shl (shl_none (by kernel_rfl)) (by walk_at "hp") (by rfl) ?_)
  repeat walk_at "w"
  (refine at_get (by assumption) cls_shl (shl_none (by kernel_rfl)) (by walk_at "hp") (by rfl) ?_)
  repeat walk_at "w"
  refine ip_addS (by decide +kernel) ?_
  refine at_setE [("instream", .inst 597 (st.nx + 1)), ("infile", .none), ("posix", .bool true), ("eof", .none), ("commenters", .str "#"), ("wordchars", .str _)] (by exact HBc) cls_shl (shl_none (by kernel_rfl)) (by walk_at "hp") (by rfl) (by exact Nat.le_of_ble_eq_true rfl) ?_
  rw [updd]
  repeat walk_at "w"
  iterate 6 ((refine at_setN (by assumption) cls_shl (shl_none (by kernel_rfl)) (by walk_at "hp") (by rfl) (by exact Nat.le_of_ble_eq_true rfl) ?_; simp only [List.cons_append, List.nil_append, updd]); repeat walk_at "w")
  refine ev_CallTG (g_deque (by exact HBc)) (by rfl) ?_
  repeat walk_at "w"
  refine mk_deq ?_
  repeat walk_at "w"
  iterate 4 ((refine at_setN (by assumption) cls_shl (shl_none (by kernel_rfl)) (by walk_at "hp") (by rfl) (by exact Nat.le_of_ble_eq_true rfl) ?_; simp only [List.cons_append, List.nil_append, updd]); repeat walk_at "w")
  refine ev_CallTG (g_deque (by exact HBc)) (by rfl) ?_
  repeat walk_at "w"
  refine mk_deq ?_
  repeat walk_at "w"
  iterate 3 ((refine at_setN (by assumption) cls_shl (shl_none (by kernel_rfl)) (by walk_at "hp") (by rfl) (by exact Nat.le_of_ble_eq_true rfl) ?_; simp only [List.cons_append, List.nil_append, updd]); repeat walk_at "w")
  refine tr_str (by decide) ?_
  repeat walk_at "w"
  exact h _ (wcOk_of (by decide +kernel))

theorem c_shl (H : HB C) (hd : C.d ≤ 500) {s : Str} (hsz : s.length ≤ 100000) {Q : V → St → Prop} (h : ∀ wc H', WcOk wc → LexAt H' st.nx (st.nx + 2) wc s (some s.cps.toList) → (∀ k, k < st.nx → H' k = st.heap k) → Q (.inst 732 st.nx) ⟨st.vars, H', st.nx + 3⟩) :
    JV C VR [.str s] (fun ws => call (.ref 732) ws [(("posix" : Str), .bool true)]) st Q := by
  refine mk_inst H shl_makes m_linit.find m_linit.typ ?_
  refine c_lini (C := C.make) H (show C.d + 1 ≤ 600 from dk hd (by decide)) (by exact upd_self _ _ _) (Nat.lt_succ_self _) (fun wc hwc => ⟨rfl, ?_⟩)
  refine h wc _ hwc ⟨by lia, hsz, 1, 0, upd_self _ _ _, ?_, Nat.zero_le _, rfl⟩ (fun k hk => ?_)
  · exact (upd_ne _ _ (by show st.nx + 2 ≠ st.nx; lia)).trans (upd_self _ _ _)
  · dsimp only
    rw [upd_ne _ _ (by lia), upd_ne _ _ (by lia), upd_ne _ _ (by lia), upd_ne _ _ (by lia)]

theorem ev_Shl {p pos kp cpos : Pos} {e₀ : Expr} {ck : Nat} {Q : V → St → Prop} (H : HB C) (hk : C.sc.names.lookup ("shlex" : Str) = some .globalImplicit)
    (h : JL C pos [e₀] st fun vs st₁ => JV C VR vs (fun ws => call (.ref 732) ws [(("posix" : Str), .bool true)]) st₁ Q)
    (he : ∀ env, (backTo pos (starEach [e₀] env)).any (·.1) = false := by intro _; rfl) (hx : ∀ env, ∃ x r, backTo pos (starEach [e₀] env) = (false, x) :: r := by intro _; exact ⟨_, _, rfl⟩)
    (hkw : ∀ env, ∃ t, backToKw pos (keywordEach [⟨some ("posix" : Str), .Constant (.bool true) ck cpos, kp⟩] env) = [(some ("posix" : Str), t)] ∧ ∀ (M : Model) A Q E s, Q (.bool true) s → wpAny M A t Q E s := by intro _; exact ⟨_, rfl, fun M A Q E s h => wpAny_bind (wpAny_Constant_bool (wpAny_bind (wpAny_standAt (wpAny_pure h))))⟩) :
    J C VR (eval (.Call (.Name "shlex" p) [e₀] [⟨some "posix", .Constant (.bool true) ck cpos, kp⟩] pos)) st Q :=
  ev_CallCk H (g_shl H) shl_keep hk h he hx hkw
end
-- MQt_04
section

set_option maxRecDepth 100000
set_option maxHeartbeats 4000000
open PySem PySem.W PyProof.Rows


noncomputable def isM : Option (Fin × List Obj × Tok) → Bool
  | some (.done (.ret (.ref _)), _, _) => true
  | _ => false
noncomputable def isN : Option (Fin × List Obj × Tok) → Bool
  | some (.done (.ret .none), _, _) => true
  | _ => false
theorem isM_ex {x : Option (Fin × List Obj × Tok)} (h : isM x = true) : ∃ r os tk, x = some (.done (.ret (.ref r)), os, tk) := by
  unfold isM at h
  split at h
  · exact ⟨_, _, _, rfl⟩
  · cases h
theorem isN_ex {x : Option (Fin × List Obj × Tok)} (h : isN x = true) : ∃ os tk, x = some (.done (.ret .none), os, tk) := by
  unfold isN at h
  split at h
  · exact ⟨_, _, rfl⟩
  · cases h
section
variable {C : Fx} {st : St} {K : Frag}
theorem ev_CallKp {f : Str} {p pos : Pos} {es : List Expr} {a : Addr} {Q : V → St → Prop} (H : BaseK K C.base) (hg : Glo C.base f (.ref a)) (hkeep : ∀ S, peek K S (keeperOf (.ref a)) = some .machine) (hk : C.sc.names.lookup f = some .globalImplicit)
    (h : JL C pos es st fun vs st₁ => JV C VR vs (fun ws => call (.ref a) ws) st₁ Q)
    (he : ∀ env, (backTo pos (starEach es env)).any (·.1) = false := by intro _; rfl) (hd : (f == ("__debug__" : Str)) = false := by decide) : J C VR (eval (.Call (.Name f p) es [] pos)) st Q :=
  fun env Z R ρ s hs => by
    refine wpAny_Call_NameR (wp_use (ev_Glo (Q := fun v st' => v = .val (.ref a) ∧ st' = st) hg hk ⟨rfl, rfl⟩ hd env Z R ρ s hs) (fun w s₁ v st₁ Z₁ ρ₁ hz hr rv hs₁ ⟨e1, e2⟩ => ?_))
    subst e1; subst e2
    cases rv
    refine callWith_of (P := K.In) (by rw [he env]; rfl) (fun h X => ⟨_, .inr (.inl rfl), Looks.of_peek X (hkeep _)⟩) (wpAny_mono (args_ h he hs₁ (.ref a)) (fun ar s₂ ⟨hkw, pp⟩ => pp.ex fun vs st₂ Z₂ ρ₂ hz2 hr2 rvs hs₂ h₂ => ?_) fun _ _ e => e)
    rw [hkw]
    exact ⟨hs₂.knows H.inK, wp_up (hz.trans hz2) (hr.trans hr2) (h₂ env Z₂ R ρ₂ s₂ ar.pos hs₂ rvs)⟩
theorem call_bound {a self : Addr} {o : Obj} {id : String} {b : Builtin} {x : Str} {Q : V → St → Prop} (H : BaseK K C.base)
    (ho : K.lookup a = some o) (hd : o.data = .fields #[.builtin id, .ref self]) (hc : o.cls = .type "builtin_function_or_method") (hq : plainId id = true) (hb : entryFor table id = some b)
    (h1 : ∀ S t, peek K S (checkBoundCall id ⟨[.ref self, .str x t], []⟩) = some ())
    (h2 : ∀ S t n tk, (isM (pk K S (b ⟨[.ref self, .str x t], []⟩) n tk []) = true ∧ Q .ref st) ∨ (isN (pk K S (b ⟨[.ref self, .str x t], []⟩) n tk []) = true ∧ Q .none st)) :
    JV C VR [.str x] (fun ws => call (.ref a) ws) st Q :=
  fun env Z R ρ s ws hs hw => by
    obtain ⟨y, rfl, r⟩ := inv1 hw
    obtain ⟨t, rfl⟩ := inv_str r
    have X := hs.knows H.inK
    refine wpAny_call (codeAny_of_tree ?_)
    show wpAny _ _ (callAny (.ref a) _) _ _ s
    unfold callAny
    obtain ⟨oc, od, ot, os'⟩ := o
    dsimp only at hd hc
    subst hd hc
    refine wpAny_bind (wpAny_load (X _ _ ho) ?_)
    show wpAny _ _ (do checkBoundCall id ⟨[.ref self, .str x t], []⟩; again (.builtin id ⟨[.ref self, .str x t], []⟩)) _ _ s
    refine wpAny_bind ((Looks.of_peek X (h1 _ t)).here ?_)
    refine wpAny_pure (And.intro (plainId_quiet hq _) (codeAny_builtin hb ?_))
    rcases h2 ⟨C.prog, C.w.params⟩ t s.heap.objs.size s.toks with ⟨e, q⟩ | ⟨e, q⟩
    · obtain ⟨r, os, tk, e⟩ := isM_ex e
      refine wp_toks (any_of_pk X e fun hle => ?_)
      have hs' : SR C env Z R ρ st { s with heap := pushes s.heap os, toks := tk } := hs.keep0 (fun b o e => pushes_keep _ _ _ _ e) (Nat.le_trans hs.tk_ hle)
      exact SR.post hs' (.ref _) q
    · obtain ⟨os, tk, e⟩ := isN_ex e
      refine wp_toks (any_of_pk X e fun hle => ?_)
      have hs' : SR C env Z R ρ st { s with heap := pushes s.heap os, toks := tk } := hs.keep0 (fun b o e => pushes_keep _ _ _ _ e) (Nat.le_trans hs.tk_ hle)
      exact SR.post hs' .none q
end

section
variable {C : Fx} {st : St}
theorem inv3' {Z : PH} {ρ : List Addr} {a b c : V} {ws : List Value} (h : VRs Z ρ [a, b, c] ws) : ∃ x y z, ws = [x, y, z] ∧ VR Z ρ a x ∧ VR Z ρ b y ∧ VR Z ρ c z := by
  cases h with | cons h t => cases t with | cons h' t => cases t with | cons h'' t => cases t; exact ⟨_, _, _, rfl, h, h', h''⟩
theorem ev_BinLit {a : Str} {k : Nat} {r : Expr} {op : Operator} {p pos : Pos} {Q : V → St → Prop} (h : J { C with tk := 1 } VR (eval r) st fun b st₂ => JV { C with tk := 1 } VR [.str a, b] (two (binaryOp op)) st₂ Q) : J C VR (eval (.BinOp (.Constant (.str a) k p) op r pos)) st Q :=
  fun env Z R ρ s hs => wpAny_BinOp (wpAny_Constant_str (by
    have up : SR { C with tk := 1 } env Z R ρ st { s with toks := s.toks + 1 } := by
      obtain ⟨T, k⟩ := hs.tok (s.toks + 1)
      exact ⟨T, { k with tk := Nat.succ_le_succ (Nat.zero_le _) }⟩
    have down : ∀ {Z' : PH} {ρ' : List Addr} {st' : St} {s' : Shared}, SR { C with tk := 1 } env Z' R ρ' st' s' → C.tk ≤ s'.toks → SR C env Z' R ρ' st' s' := fun ⟨T, k⟩ ht => ⟨T, { k with tk := ht }⟩
    refine wp_toks (wp_use (C := { C with tk := 1 }) (h env Z R ρ _ up) fun b s₂ vb st₂ Z₂ ρ₂ hz2 hr2 rb hs₂ h₂ hle => ?_)
    refine wp_toks (wp_use (C := { C with tk := 1 }) (h₂ env Z₂ R ρ₂ s₂ [.str a s.toks, b] hs₂ (.cons (.str _ _) (.cons rb .nil))) fun c s₃ vc st₃ Z₃ ρ₃ hz3 hr3 rc hs₃ h₃ hle2 => ?_)
    exact ⟨vc, st₃, Z₃, ρ₃, hz2.trans hz3, hr2.trans hr3, rc, down hs₃ (Nat.le_trans hs.tk_ (Nat.le_trans (Nat.le_succ _) (Nat.le_trans hle hle2))), h₃⟩))
theorem l_lits2 {y z : Str} {k1 k2 : Nat} {p1 p2 pos : Pos} {Q : List V → St → Prop} (ht : 1 ≤ C.tk) (h : ∀ u v, u ≠ 0 → v ≠ 0 → u ≠ v → Q [.val (.str y u), .val (.str z v)] st) : JL C pos [.Constant (.str y) k1 p1, .Constant (.str z) k2 p2] st Q :=
  fun env Z R ρ s hs => wpAny_items_cons (wpAny_Constant_str (wpAny_items_cons (wpAny_Constant_str (wpAny_items_nil (SR.post (hs.tok _ (Nat.le_trans (Nat.le_succ _) (Nat.le_succ _))) (.cons (.val _) (.cons (.val _) .nil)) (h s.toks (s.toks + 1) (Nat.ne_of_gt (Nat.lt_of_lt_of_le ht hs.tk_)) (Nat.succ_ne_zero _) (Nat.ne_of_lt (Nat.lt_succ_self _))))))))
theorem rep_lit {x y z : Str} {u v : Tok} {Q : V → St → Prop} (hu : u ≠ 0) (hv : v ≠ 0) (huv : u ≠ v) (hyz : (y == z) = false) (hb : x.length + (x.length + 1) * z.length ≤ 16777216) (h : Q (.str (Txt.replace x y z)) st) :
    JV C VR [.str x, .val (.str y u), .val (.str z v)] (fun ws => call (.builtin "str.replace") ws) st Q :=
  fun env Z R ρ s ws hs hw => by
    obtain ⟨a, b, c, rfl, h1, h2, h3⟩ := inv3' hw
    obtain ⟨t, rfl⟩ := inv_str h1
    cases h2; cases h3
    exact wp_toks (SC.replace hu hv huv hyz hb fun t' k (hle : s.toks ≤ k) => SR.post (hs.tok _) (.str _ _) h)
theorem ev_MethS {o : Expr} {name : Str} {apos pos : Pos} {es : List Expr} {id : String} {Q : V → St → Prop} (slot : Slot "str" name id) (hty : typeOf (.builtin id) = pure (.type "method_descriptor"))
    (h : J C VR (eval o) st fun ov st₁ => (∃ x, ov = .str x) ∧ JL C pos es st₁ fun vs st₂ => JV C VR (ov :: vs) (fun ws => call (.builtin id) ws) st₂ Q)
    (hbase : ∀ env, attributeBase o name env (eval o env) = eval o env := by intro _; rfl) (hline : (apos.endLine == pos.line) = true := by rfl)
    (he : ∀ env, (backTo pos (starEach es env)).any (·.1) = false := by intro _; rfl)
    (hfew : ∀ env, ((backTo pos (starEach es env)).all (fun x => !x.1) && (backToKw pos (keywordEach [] env)).all (fun x => x.1.isSome) && decide (es.length + ([] : List Keyword).length + (if ([] : List Keyword).isEmpty then 0 else 1) < 30)) = true := by intro _; rfl) :
    J C VR (eval (.Call (.Attribute o name apos) es [] pos)) st Q :=
  fun env Z R ρ s hs => by
    refine wpAny_Call_method (hbase env) (hfew env) hline PySem.F.plainAttrs_str slot hty (wpAny_mono (h env Z R ρ s hs) (fun w s₁ ⟨v, st₁, Z₁, ρ₁, hz, hr, rv, hs₁, ⟨x, e1⟩, h₁⟩ => ?_) fun _ _ e => e)
    subst e1
    obtain ⟨t, rfl⟩ := inv_str rv
    refine ⟨typeIs_str _ _ _, (fun b e => nomatch e), ?_⟩
    refine Calls.callWith_builtin (he env) (wpAny_mono (args_ h₁ he hs₁ (.builtin id)) (fun ar s₂ ⟨hkw, pp⟩ => pp.ex fun vs st₂ Z₂ ρ₂ hz2 hr2 rvs hs₂ h₂ => ?_) fun _ _ e => e)
    rw [hkw]
    exact wp_up (hz.trans hz2) (hr.trans hr2) (h₂ env Z₂ R ρ₂ s₂ (.str x t :: ar.pos) hs₂ (.cons (rv.mono hz2 hr2) rvs))
end

section
variable {P : Params} {B : PH}
noncomputable abbrev fd_quote : FuncData := fnF "quote" "quote" pb 26 .none (.str (Str.ofString "cpy313.shlex") 1087) (.ref 750)
theorem f_quote (H : BaseK (K P) B) : Fn0 B 751 fd_quote (bodyAt pb 26) := H.fn0 (o := fnO "quote" "quote" pb 26 .none (.str (Str.ofString "cpy313.shlex") 1087) (.ref 750)) (by kernel_rfl) rfl rfl (by kernel_rfl) (by decide +kernel) rfl rfl rfl rfl
theorem g_quote (H : BaseK (K P) B) : Glo B "quote" (.ref 751) := H.glo (by kernel_rfl)
theorem g_find (H : BaseK (K P) B) : Glo B "_find_unsafe" (.ref 744) := H.glo (by kernel_rfl)
theorem find_keep (S : Setting) : peek (K P) S (keeperOf (.ref 744)) = some .machine := by kernel_rfl
end
local macro_rules | `(tactic| walk_at "w") => `(tactic| (with_reducible refine ev_BinLit ?_))
inductive Qt : Str → Str → Prop
  | nil : Qt ⟨#[]⟩ "''"
  | safe {x : Str} (h0 : x.length ≠ 0) (hz : x.length ≤ 100) (h : ∀ (P : Params) S t n tk, isN (pk (K P) S (Builtin.«re.Pattern.search» ⟨[.ref 49, .str x t], []⟩) n tk []) = true) (hc : ∀ (P : Params) S t, peek (K P) S (checkBoundCall "re.Pattern.search" ⟨[.ref 49, .str x t], []⟩) = some ()) : Qt x x
  | odd {x : Str} (h0 : x.length ≠ 0) (hz : x.length ≤ 100) (h : ∀ (P : Params) S t n tk, isM (pk (K P) S (Builtin.«re.Pattern.search» ⟨[.ref 49, .str x t], []⟩) n tk []) = true) (hc : ∀ (P : Params) S t, peek (K P) S (checkBoundCall "re.Pattern.search" ⟨[.ref 49, .str x t], []⟩) = some ()) {z : Str} (hr : Txt.replace x "'" "'\"'\"'" = z) (hl : z.length ≤ 1000) : Qt x ("'" ++ z ++ "'")
theorem qt_a : Qt "a" "a" := .safe (by decide) (by decide) (fun P S t n tk => by kernel_rfl) (fun P S t => by kernel_rfl)
theorem qt_h : Qt "#" ("'" ++ "#" ++ "'") := .odd (by decide) (by decide) (fun P S t n tk => by kernel_rfl) (fun P S t => by kernel_rfl) (z := "#") (by decide +kernel) (by decide)

section
variable {C : Fx} {st : St}
theorem b_quote (H : HB C) (hd : C.d ≤ 900) {x y : Str} (q : Qt x y) {Q : V → St → Prop} (h : Q (.str y) { st with vars := [("s", .str x)] }) : JX (C.into fd_quote.scope) (bodyAt pb 26) { st with vars := [("s", .str x)] } fun f st' => Q (retV f) st' := by
  have HBc : HB (C.into fd_quote.scope) := H
  cases q with
  | nil =>
    refine x_seq ?_
    repeat walk_at "w"
    refine tr_str (by decide) ?_
    repeat walk_at "w"
    exact h
  | safe h0 hz hs hc =>
    refine x_seq ?_
    repeat walk_at "w"
    refine tr_str (Nat.le_trans hz (by decide)) ?_
    rw [show (x.length != 0) = true from bne_iff_ne.mpr h0]
    repeat walk_at "w"
    refine ev_CallKp (by exact HBc) (g_find (by exact HBc)) find_keep (by rfl) ?_
    repeat walk_at "w"
    refine call_bound (by exact HBc) (show (K _).lookup 744 = some _ from rfl) rfl rfl (by decide +kernel) (entryFor_of_tree (by kernel_rfl)) (fun S t => hc _ S t) (fun S t n tk => .inr ⟨hs _ S t n tk, ?_⟩)
    repeat walk_at "w"
    exact h
  | @odd _ h0 hz hs hc z hr hl =>
    refine x_seq ?_
    repeat walk_at "w"
    refine tr_str (Nat.le_trans hz (by decide)) ?_
    rw [show (x.length != 0) = true from bne_iff_ne.mpr h0]
    repeat walk_at "w"
    refine ev_CallKp (by exact HBc) (g_find (by exact HBc)) find_keep (by rfl) ?_
    repeat walk_at "w"
    refine call_bound (by exact HBc) (show (K _).lookup 744 = some _ from rfl) rfl rfl (by decide +kernel) (entryFor_of_tree (by kernel_rfl)) (fun S t => hc _ S t) (fun S t n tk => .inl ⟨hs _ S t n tk, ?_⟩)
    repeat walk_at "w"
    refine ev_MethS F.slot_str_replace F.type_str_replace ?_
    repeat walk_at "w"
    refine ⟨⟨_, rfl⟩, ?_⟩
    refine l_lits2 (Nat.le_refl 1) fun u v hu hv huv => ?_
    refine rep_lit hu hv huv (by decide) ?_ ?_
    · have : (("'\"'\"'" : Str)).length = 5 := by decide
      rw [this]; omega
    rw [hr]
    have l1 : (("'" : Str)).length = 1 := by decide
    refine op_addS (by rw [l1]; exact Nat.le_trans (Nat.add_le_add_left hl 1) (by decide)) ?_
    repeat walk_at "w"
    refine op_addS (by rw [l1, show ("'" ++ z : Str).length = ("'" : Str).length + z.length from by show (_ ++ _ : Array Nat).size = _; rw [Array.size_append]; rfl, l1]; exact Nat.le_trans (Nat.add_le_add_right (Nat.add_le_add_left hl 1) 1) (by decide)) ?_
    repeat walk_at "w"
    exact h
end
end
-- MBook_04

set_option maxRecDepth 100000
/-! lines of quoted words, and what the lexer makes of them (plain) -/
open PySem PySem.W PyProof.Rows

inductive Lexes : List Str → Option (List Nat) → Prop
  | nil : Lexes [] none
  | cons {w : Str} {ws : List Str} {left left' : Option (List Nat)} : lxOne left = some (.str w, left') → Lexes ws left' → Lexes (w :: ws) left
structure Wd (x y : Str) : Prop where
  sep : ∀ c r, c = 32 ∨ c = 10 → lxOne (some (y.cps.toList ++ c :: r)) = some (.str x, some r)
  fin : lxOne (some y.cps.toList) = some (.str x, none)
inductive Wds : List Str → List Str → Prop
  | nil : Wds [] []
  | cons {x y : Str} {xs ys : List Str} : Wd x y → Wds xs ys → Wds (x :: xs) (y :: ys)

noncomputable def joinC (c : Nat) : List (List Nat) → List Nat
  | [] => []
  | [x] => x
  | x :: y :: r => x ++ c :: joinC c (y :: r)
theorem cps_append (a b : Str) : (a ++ b).cps.toList = a.cps.toList ++ b.cps.toList := by
  show (a.cps ++ b.cps).toList = _
  simp
theorem joinC_cons (c : Nat) (x y : List Nat) (r : List (List Nat)) : joinC c (x :: y :: r) = x ++ c :: joinC c (y :: r) := rfl
theorem joinS_cps (sep : Str) (c : Nat) (hs : sep.cps.toList = [c]) : ∀ ys : List Str, (Str.join sep ys).cps.toList = joinC c (ys.map fun y => y.cps.toList)
  | [] => rfl
  | [y] => rfl
  | x :: y :: r => by
    have ih := joinS_cps sep c hs (y :: r)
    rw [show Str.join sep (x :: y :: r) = x ++ sep ++ Str.join sep (y :: r) from rfl, cps_append, cps_append, ih, hs, List.map_cons, List.map_cons, List.map_cons, joinC_cons, List.append_assoc]
    rfl
theorem join_cps (sep : Str) (c : Nat) (hs : sep.cps.toList = [c]) (ys : List Str) : (Txt.join sep ys).cps.toList = joinC c (ys.map fun y => y.cps.toList) := by
  rw [show Txt.join sep ys = Str.join sep ys from StrLaws.glued_eq_join sep ys]
  exact joinS_cps sep c hs ys

theorem lexes_line {xs ys : List Str} (h : Wds xs ys) (hne : xs ≠ []) {ws : List Str} : ∀ {tail : List Nat}, ((tail = [] ∧ ws = []) ∨ ∃ r, tail = 10 :: r ∧ Lexes ws (some r)) →
    Lexes (xs ++ ws) (some (joinC 32 (ys.map fun y => y.cps.toList) ++ tail)) := by
  induction h with
  | nil => exact absurd rfl hne
  | @cons x y xs ys hw ht ih =>
    intro tail hc
    cases ht with
    | nil =>
      show Lexes (x :: ws) (some (y.cps.toList ++ tail))
      rcases hc with ⟨rfl, rfl⟩ | ⟨r, rfl, hr⟩
      · rw [List.append_nil]; exact .cons hw.fin .nil
      · exact .cons (hw.sep 10 r (.inr rfl)) hr
    | @cons x' y' xs' ys' hw' ht' =>
      rw [List.map_cons, List.map_cons, joinC_cons, List.append_assoc]
      exact .cons (hw.sep 32 _ (.inl rfl)) (ih (List.cons_ne_nil _ _) hc)
theorem lex_wd {left left' : List Nat} {x : Str} {qd e : Bool} (h : lx .sp false [] left = some (x.cps.toList, qd, e, left')) : lxOne (some left) = some (.str x, if e then none else some left') := by
  unfold lxOne
  dsimp only
  rw [h]
-- MGt_04

set_option maxRecDepth 100000
set_option maxHeartbeats 4000000
/-! lexer.get_token(), of a line whose words are known -/
open PySem PySem.W PyProof.Rows
noncomputable def hdV : List Str → V
  | [] => .none
  | w :: _ => .str w
theorem Lexes.step {ws : List Str} {left : Option (List Nat)} (h : Lexes ws left) : ∃ left', lxOne left = some (hdV ws, left') ∧ Lexes ws.tail left' := by
  cases h with
  | nil => exact ⟨none, rfl, .nil⟩
  | cons h t => exact ⟨_, h, t⟩

section
variable {C : Fx} {st : St}
theorem ev_gt {o : Expr} {apos pos : Pos} {n m : Nat} {wc buf : Str} {left : Option (List Nat)} {ws : List Str} {Q : V → St → Prop} (H : HB C) (hd : C.d ≤ 500) (hwc : WcOk wc) (A : LexAt st.heap n m wc buf left) (hx : Lexes ws left)
    (ho : J C VR (eval o) st fun ov st₁ => ov = .inst 732 n ∧ st₁ = st)
    (h : ∀ H' left', LexAt H' n m wc buf left' → Lexes ws.tail left' → (∀ k, k ≠ n → k ≠ m → H' k = st.heap k) → Q (hdV ws) ⟨st.vars, H', st.nx⟩)
    (hbase : ∀ env, attributeBase o "get_token" env (eval o env) = eval o env := by intro _; rfl) (hline : (apos.endLine == pos.line) = true := by rfl) :
    J C VR (eval (.Call (.Attribute o "get_token" apos) [] [] pos)) st Q := by
  refine ev_MethI H cls_shl m_gettok.find m_gettok.typ m_gettok.keep (J.mono ho fun ov st₁ ⟨e1, e2⟩ => ?_) hbase hline
  subst e1; subst e2
  obtain ⟨l, p, a1, _⟩ := A.at_
  refine ⟨⟨n, _, rfl, a1, by rfl⟩, l_nil ?_⟩
  obtain ⟨left', hl, hx'⟩ := hx.step
  exact c_gt H hd hwc A hl fun H' A' hk => h H' left' A' hx' hk

theorem LexAt.of {H H' : Nat → Option AO} {n m : Nat} {wc buf : Str} {left : Option (List Nat)} (A : LexAt H n m wc buf left) (h1 : H' n = H n) (h2 : H' m = H m) : LexAt H' n m wc buf left :=
  let ⟨a, b, l, p, c1, c2, c3⟩ := A
  ⟨a, b, l, p, h1.trans c1, h2.trans c2, c3⟩
end
-- MJoin_04

set_option maxRecDepth 100000
set_option maxHeartbeats 4000000
open PySem PySem.W PyProof.Rows

theorem upd_eta {α : Type} {H : Nat → Option α} {n : Nat} {x : α} (h : H n = some x) : upd H n x = H := by
  funext k; unfold upd; split
  · rename_i e; subst e; exact h.symm
  · rfl

section
variable {C : Fx} {st : St}
theorem code_fnE {a : Addr} {fd : FuncData} {body : List Stmt} {vs : List V} {kws : List (Str × Value)} {vars : List (Str × V)} {Q : V → St → Prop} (F : Fn0 C.base a fd body) (hd : C.d < 1000)
    (hp : parOk fd.scope (vars.map (·.1)) = true)
    (hb : ∀ (env : Env) (Z R : PH) (ρ : List Addr) (s : Shared) (ws : List Value), SR C env Z R ρ st s → VRs Z ρ vs ws → ∃ binds, BindsTo s fd ⟨ws, kws⟩ binds ∧ BR Z ρ vars binds)
    (h : ∀ env Z R ρ s, env.code = fd.code → SR (C.into fd.scope) env Z R ρ { st with vars := vars } s → wpAny C.M (C.into fd.scope).A (execs body env) (Post (C.into fd.scope) env Z R ρ rFlow fun f st' => Q (retV f) { st' with vars := st.vars }) noE s) : JC C a vs kws st Q :=
  code_fnX F hd hp (fun env Z R ρ s ws hs hw => let ⟨binds, h1, h2⟩ := hb env Z R ρ s ws hs hw; h1 _ _ _ _ ⟨Z, ρ, PH.le.refl _, Ext.refl _, hs, h2⟩) h
end

theorem leaf_quote {C : Fx} (H : HB C) {A' : Around} {E' : Value → Shared → Prop} (hA : A'.handled = none) (hD : A'.depth ≤ 900) {cenv : Env} {t : Shared} {m₂ : Str → Option Value} {x y : Str} {tk : Tok} {p1 p2 p3 : Pos}
    (kfn : cenv.scope.kind = .function) (kq : cenv.kindOf "quote" = some .globalImplicit) (ka : cenv.kindOf "arg" = some .local) (hg : cenv.globals = mainGlobals) (hn : t.heap.Ns cenv.locals m₂) (hv : m₂ "arg" = some (.str x tk))
    (hb : ∀ a o, C.base a = some o → t.heap.get? a = some o) (q : Qt x y) :
    wpAny C.M A' (eval (.Call (.Name "quote" p1) [.Name "arg" p2] [] p3) cenv) (fun r t' => (∃ tk', r = .str y tk') ∧ Keeps t t') E' t := by
  obtain ⟨mg, h1, h2⟩ := g_quote H t.heap hb
  refine wpAny_Call_NameR (Calls.Name_function_global kfn kq (Calls.loadGlobal_global (by rw [hg]; exact h1) h2 ?_) (by decide))
  obtain ⟨o, ho, hdata, _⟩ := (f_quote H).at_
  refine Calls.callWith_function (o := o) (fd := fd_quote) (Calls.evalArgs_plain (Calls.spliced_cons (wpAny_Name (wpAny_loadName_local kfn ka hn hv (Calls.spliced_nil ⟨⟨hb _ _ ho, hdata⟩, ?_⟩)))))
  show wpAny C.M A' (call (.ref 751) [.str x tk]) _ E' t
  let C2 : Fx := { C with os := t.os, d := A'.depth, u := A'.units, gp := fun g d => g = t.gens ∧ d = t.drawn, pin := none, tk := 0, fr := none, fl := fun _ => none }
  have H2 : HB C2 := H
  refine wpAny_weaker (A := C2.A) hA.symm (Nat.le_refl _) rfl rfl (Nat.le_refl _) ?_
  refine wpAny_call (codeAny_mono (call_raw (C := C2) (Z := C.base) (vars := [("s", .str x)]) (Q := fun v st' => v = .str y) (f_quote H2) (by show A'.depth < 1000; lia) (show parOk fd_quote.scope ["s"] = true by decide +kernel) (PH.le.refl _) hb (fun p e => nomatch e) rfl (Nat.zero_le _) ⟨rfl, rfl⟩ (BindsTo.of_eq rfl) (.cons (.str x tk) .nil)
    (b_quote (Q := fun v _ => v = .str y) (st := ⟨[], pinned none, 0⟩) H2 hD q rfl)) fun r s' hr => ?_)
  obtain ⟨v, w, st', Z', ρ', rfl, _, _, rv, kk, e1, ⟨e2, e3⟩, _, hv'⟩ := hr
  subst hv'
  obtain ⟨u, rfl⟩ := inv_str rv
  refine ⟨⟨u, rfl⟩, s'.heap, s'.toks, ?_, fun b o e => kk b o (by intro z; cases z) e⟩
  obtain ⟨hh, g, d, tt, os⟩ := s'
  obtain ⟨hh0, g0, d0, tt0, os0⟩ := t
  dsimp only at e1 e2 e3
  subst e2; subst e3
  rw [e1]

section
variable {P : Params} {B : PH}
noncomputable abbrev fd_join : FuncData := fnF "join" "join" pb 23 .none (.str (Str.ofString "cpy313.shlex") 1087) (.ref 742)
theorem f_join (H : BaseK (K P) B) : Fn0 B 743 fd_join (bodyAt pb 23) := H.fn0 (o := fnO "join" "join" pb 23 .none (.str (Str.ofString "cpy313.shlex") 1087) (.ref 742)) (by kernel_rfl) rfl rfl (by kernel_rfl) (by decide +kernel) rfl rfl rfl rfl
theorem g_joins (H : BaseK (K P) B) : Glo B "join_shlex" (.ref 743) := H.glo (by kernel_rfl)
end

theorem code_of {C : Fx} (H : HB C) {env : Env} {Z R : PH} {ρ : List Addr} {st : St} {s : Shared} (hs : SR C env Z R ρ st s) (hp : C.pin = some 738) (h0 : st.heap 0 = some .codes) : ∃ ps, s.heap.IsCode 742 738 ps ∧ s.heap.TableAt 742 738 ps := by
  have X := hs.knows H.inK
  obtain ⟨T, k⟩ := hs
  obtain ⟨a, e1, _, o, e3, e4⟩ := k.objs 0 _ h0
  rw [k.pin _ hp] at e1; cases e1
  cases e4 with
  | codes hd ht =>
    subst hd
    have h7 := X _ _ (show (K C.w.params).lookup 742 = some _ from rfl)
    exact ⟨_, ⟨_, _, _, _, _, _, _, _, _, _, h7, rfl, rfl, rfl, rfl, rfl, rfl, e3, rfl, ht, by decide⟩, ⟨_, _, h7, rfl, rfl, rfl⟩, e3⟩
theorem isCode_tri {h : Heap} {c P : Addr} {ps : Array Value} (x : h.IsCode c P ps) : TriplesOk ps.toList :=
  x.elim fun _ x => x.elim fun _ x => x.elim fun _ x => x.elim fun _ x => x.elim fun _ x => x.elim fun _ x => x.elim fun _ x => x.elim fun _ x => x.elim fun _ x => x.elim fun _ x => x.2.2.2.2.2.2.2.2.2.1
theorem genexprCodeT {M : Model} {A : Around} {E : Value → Shared → Prop} {s : Shared} {env : Env} {c P : Addr} {ps : Array Value} {pos : Pos} {qualname : Str} {scope : Scope} {Q : Value → Shared → Prop} (hc : env.code = .ref c) (hok : s.heap.IsCode c P ps ∧ s.heap.TableAt c P ps)
    (hQ : ∀ code h' tk ps', Heap.ExtBut P s.heap h' → h'.IsCode c P ps' ∧ h'.TableAt c P ps' → Q code { s with heap := h', toks := tk }) :
    wpAny M A (genexprCode env pos qualname scope) Q E s := by
  cases hnf : codeAmong pos ps.toList with
  | some cv => exact wpAny_genexprCode_hit hc hok.1 hnf (hQ cv s.heap s.toks ps (Heap.ExtBut.refl _ _) hok)
  | none => exact wpAny_genexprCodeX hc hok.1 hok.2 hnf fun c' h' tk hx _ _ h1 _ h2 _ => hQ _ _ _ _ hx ⟨h1, h2⟩

inductive Qts : List Str → List Str → Prop
  | nil : Qts [] []
  | cons {x y : Str} {xs ys : List Str} : Qt x y → Qts xs ys → Qts (x :: xs) (y :: ys)
theorem Qts.length {xs ys : List Str} (h : Qts xs ys) : xs.length = ys.length :=
  Qts.rec (motive := fun xs ys _ => xs.length = ys.length) rfl (fun _ _ ih => by rw [List.length_cons, List.length_cons, ih]) h
theorem Qts.get {xs ys : List Str} (h : Qts xs ys) : ∀ (i : Nat) (x : Str), xs[i]? = some x → ∃ y, ys[i]? = some y ∧ Qt x y := by
  induction h with
  | nil => intro i x h; simp at h
  | cons q t ih =>
    intro i x h
    cases i with
    | zero => simp at h; subst h; exact ⟨_, rfl, q⟩
    | succ i => simpa using ih i x (by simpa using h)
theorem VRs.strsAt {Z : PH} {ρ : List Addr} {xs : List Str} {ws : List Value} (h : VRs Z ρ (xs.map .str) ws) (i : Nat) (v : Value) (e : ws[i]? = some v) : ∃ x t, xs[i]? = some x ∧ v = .str x t := by
  have hl := h.length
  rw [List.length_map] at hl
  have hi : i < xs.length := by rw [hl]; exact (List.getElem?_eq_some_iff.mp e).1
  obtain ⟨y, e1, r⟩ := h.get i (.str xs[i]) (by simp [hi])
  rw [e] at e1; cases e1
  obtain ⟨t, rfl⟩ := inv_str r
  exact ⟨_, t, List.getElem?_eq_getElem hi, rfl⟩
theorem SR.pin_ne {C : Fx} {env : Env} {Z R : PH} {ρ : List Addr} {st : St} {s : Shared} (hs : SR C env Z R ρ st s) {p : Addr} (hp : C.pin = some p) {ao : AO} (h0 : st.heap 0 = some ao) {b : Addr} {o : Obj} (e : Z b = some o) : b ≠ p := fun z => by
  obtain ⟨T, k⟩ := hs
  obtain ⟨a, e1, e2, _⟩ := k.objs 0 _ h0
  rw [k.pin _ hp] at e1; cases e1
  have := (k.z b o e).1
  rw [z, e2] at this; cases this

theorem passing_all (n : Nat) : passing (fun _ => true) n 0 = List.range n := by
  unfold passing; rw [List.drop_zero]; exact List.filter_eq_self.mpr fun _ _ => rfl

theorem b_join {C : Fx} (H : HB C) (hd : C.d ≤ 800) (hgp : C.gp = fun g _ => AllBare g) (hpin : C.pin = some 738) {st : St} (h0 : st.heap 0 = some .codes) {xs ys : List Str} (hq : Qts xs ys) (hjo : JoinOk " " ys = true) (hl' : xs.length ≤ 1000)
    {k : Nat} {cp ap p1 p2 p3 px ip gp pos : Pos} {sc : Scope} (hk : C.sc.names.lookup ("split_command" : Str) = some .local)
    (hsc : sc.kind = .function) (hco : sc.isCoroutine = false) (hcl : ∀ env, closureFor sc env = pure []) (hcell : ∀ y ∈ sc.names, y.2 ≠ .cell) (hn0 : sc.names.lookup (".0" : Str) = some NameKind.local) (hna : sc.names.lookup ("arg" : Str) = some .local) (hnq : sc.names.lookup ("quote" : Str) = some .globalImplicit)
    (hline : (ap.endLine == pos.line) = true) (hv : st.vars.lookup ("split_command" : Str) = some (.lst (xs.map .str)))
    {Q : V → St → Prop} (h : Q (.str (Txt.join " " ys)) st) {env : Env} {Z R : PH} {ρ : List Addr} {s : Shared} (hcode : env.code = .ref 742) (hs : SR C env Z R ρ st s) :
    wpAny C.M C.A (eval (.Call (.Attribute (.Constant (.str " ") k cp) "join" ap) [.GeneratorExp (.Call (.Name "quote" p1) [.Name "arg" p2] [] p3) [⟨.Name "arg" px, .Name "split_command" ip, [], 0⟩] sc gp] [] pos) env) (Post C env Z R ρ VR Q) noE s := by
  refine wp_toks (wpAny_Call_method (by rfl) (by rfl) hline PySem.F.plainAttrs_str F.slot_str_join F.type_str_join (wp_use (ev_Const_str (x := " ") (Q := fun v st' => v = .str " " ∧ st' = st) ⟨rfl, rfl⟩ env Z R ρ s hs) (fun w s₁ v st₁ Z₁ ρ₁ hz hr rv hs₁ ⟨e1, e2⟩ => ?_)))
  subst e1; subst e2
  obtain ⟨t, rfl⟩ := inv_str rv
  refine ⟨typeIs_str _ _ _, (fun b e => nomatch e), ?_⟩
  refine Calls.callWith_builtin (by rfl) (evalArgs_any _ (by rfl) (wpAny_items_cons ?_ (by rfl)))
  refine wpAny_GeneratorExp_walksQD rfl hco (hcl env) hcell hn0 hna hsc (show C.d < 1000 by lia) ?_ (fun x => rfl)
  refine wp_use (ev_Name (Q := fun v st' => v = .lst (xs.map .str) ∧ st' = st₁) hv hk ⟨rfl, rfl⟩ (by decide) (by decide) (by decide) env Z₁ R ρ₁ s₁ hs₁) (fun w s₂ v st₂ Z₂ ρ₂ hz2 hr2 rv2 hs₂ ⟨e1, e2⟩ => ?_)
  subst e1; subst e2
  obtain ⟨a, its, m, rfl, hzo, ri⟩ := rv2.lst_inv
  have hl := hs₂.z_ hzo
  obtain ⟨ps, hcd⟩ := code_of H hs₂ hpin h0
  have X := hs₂.knows H.inK
  refine wpAny_pyIter_list ⟨_, hl, rfl, _, rfl⟩ ?_
  have hnl : (s₂.heap.push { cls := .type "list_iterator", data := .fields #[.ref a, .int 0 0] }).NoLimit := (hs₂.knows H.nl).keeps fun b o e => Heap.get?_push_of_some _ e
  refine ⟨hnl, genexprCodeT hcode ⟨hcd.1.push _, hcd.2.push _⟩ fun code h₃ tk₃ ps' hx₃ ⟨hcd₃, htb₃⟩ => ?_⟩
  have kp₃ : ∀ b o, b ≠ 738 → s₂.heap.get? b = some o → h₃.get? b = some o := fun b o hb e => hx₃ b o hb (Heap.get?_push_of_some _ e)
  have hbs : ∀ b o, C.base b = some o → s₂.heap.get? b = some o ∧ b ≠ 738 := fun b o e => ⟨hs₂.base_ e, by obtain ⟨T, k⟩ := id hs₂; exact hs₂.pin_ne hpin h0 (k.base b o e)⟩
  have hb3 : ∀ b o, C.base b = some o → h₃.get? b = some o := fun b o e => kp₃ b o (hbs b o e).2 (hbs b o e).1
  have hgl : env.globals = mainGlobals := let ⟨_, k⟩ := hs₂; k.globals
  have h773 : (738 : Addr) < s₂.heap.objs.size := Heap.lt_size hcd.2.2
  have hIne : s₂.heap.objs.size ≠ 738 := Nat.ne_of_gt h773
  have hane : a ≠ s₂.heap.objs.size := Nat.ne_of_lt (Heap.lt_size hl)
  have h2lt : cStatics < s₂.heap.objs.size := let ⟨_, hn, _⟩ := (hs₂.knows H.nl); hn.lt
  obtain ⟨mg, g1, g2⟩ := (H.glo (by kernel_rfl) : Glo C.base "__builtins__" (.ref 4)) h₃ hb3
  refine wpAny_builtinsFor (by rw [hgl]; exact g1) g2 (by decide) (H.inK h₃ hb3 4 _ rfl) rfl rfl rfl ?_
  have hit₃ : h₃.get? s₂.heap.objs.size = some { cls := .type "list_iterator", data := .fields #[.ref a, .int 0 0] } := hx₃ _ _ hIne (Heap.get?_push_size _ rfl)
  have hl₃ := kp₃ a _ (hs₂.pin_ne hpin h0 hzo) hl
  refine ⟨s₂.heap.objs.size, [s₂.heap.objs.size, a], [s₂.heap.objs.size], its.size, _, _, fun _ => true, fun i v => ∃ y tk, ys[i]? = some y ∧ v = .str y tk, rfl, fun A' hA => Walks.list hA _ a hane its, ⟨⟨_, hit₃, rfl, rfl⟩, ⟨_, hl₃, rfl, _, rfl⟩⟩, ?_, H.nl h₃ hb3, ?_, fun href hhref => ⟨?_, ?_⟩, ?_⟩
  · intro b hb
    simp at hb
    rcases hb with rfl | rfl
    · exact Heap.lt_size hit₃
    · exact Heap.lt_size hl₃
  · simp; exact Nat.ne_of_lt h2lt
  · intro A' E' i v t' m₂ _ _ _ _ _ _ _
    exact wpAny_pure ⟨rfl, t'.heap, t'.toks, rfl, fun _ _ e => e⟩
  · intro A' E' i v t' m₂ hA hD hU hP _ hn hm hkp
    obtain ⟨x, tk, e1, rfl⟩ := ri.strsAt i v (by simpa using hP)
    obtain ⟨y, e2, q⟩ := hq.get i x e1
    refine wpAny_mono (leaf_quote H hA (by have : C.A.depth = C.d := rfl; lia) (hn := hn) (hv := hm) (kfn := hsc) (kq := hnq) (ka := hna) (hg := hgl) (q := q) fun b o e => ?_) (fun r t'' ⟨⟨tk', e⟩, hk⟩ => ⟨⟨y, tk', e2, e⟩, hk⟩) fun _ _ e => e
    refine hkp b (List.mem_range.mpr (Heap.lt_size (hb3 b o e))) (by simp; exact Nat.ne_of_lt (Heap.lt_size (hbs b o e).1)) o (hhref b o (hb3 b o e))
  · intro a' h₅ tk₅ gs hgb hlt hsz hk₅ W hat
    refine wpAny_items_nil ?_
    show wpAny C.M C.A (call (.builtin "str.join") [.str " " t, .ref a']) _ _ _
    have hys : its.size = ys.length := by
      have := ri.length
      rw [List.length_map, hq.length] at this
      simpa using this.symm
    refine SC.joinGen (W.of_in1.of_in1) (fun i s st => st.1.typeIs) hat ?_ List.mem_cons_self (fun i v ⟨j, _, y, tk, _, e⟩ => ⟨y, tk, e⟩) ?_ ?_
    · intro b hb
      show b < h₅.objs.size
      rw [hsz]
      have hlt' : h₃.objs.size < a' := hlt
      simp at hb
      rcases hb with rfl | rfl | hb
      · exact Nat.lt_succ_self _
      · exact Nat.lt_succ_of_lt hlt'
      · exact Nat.lt_succ_of_lt (Nat.lt_trans hb hlt')
    · intro s' l hm hit
      have el : l.map (·.1) = ys := by
        obtain ⟨e1, e2⟩ := hit
        rw [passing_all, List.length_range] at e1
        simp [strValues] at e1
        refine List.ext_getElem? fun i => ?_
        cases e3 : l[i]? with
        | none =>
          have := List.getElem?_eq_none_iff.mp e3
          rw [List.getElem?_eq_none_iff.mpr (by simp; lia), List.getElem?_eq_none_iff.mpr (by lia)]
        | some p =>
          obtain ⟨j, ej, y, tk, ey, ev⟩ := e2 i (.str p.1 p.2) (by simp [strValues, e3])
          rw [passing_all] at ej
          obtain ⟨hj1, hj2⟩ := List.getElem?_eq_some_iff.mp ej
          simp at hj2
          subst hj2
          cases ev
          rw [ey]; simp [e3]
      rw [el]
      refine ⟨hjo, fun t' k' hle => ?_⟩
      have q8 := htb₃.2
      have q10 := isCode_tri hcd₃
      have hL : (738 : Addr) < h₃.objs.size := Heap.lt_size q8
      have keep : ∀ b o, b ≠ 738 → s₂.heap.get? b = some o → s'.heap.get? b = some o := fun b o hb e => hm.heap b o (by
        have l1 := Heap.lt_size e
        have l2 := Heap.lt_size (kp₃ b o hb e)
        simp; exact ⟨Nat.ne_of_lt l2, Nat.ne_of_lt l1⟩) (hk₅ b o (kp₃ b o hb e))
      have hs' : SR C env Z₂ R ρ₂ { st₂ with heap := upd st₂.heap 0 .codes } { s' with toks := k' } := hs₂.extO0 (s' := { s' with toks := k' }) h0 (by obtain ⟨T, k⟩ := id hs₂; exact k.pin _ hpin) keep (hm.heap 738 _ (by simp; exact ⟨Nat.ne_of_lt hL, Nat.ne_of_lt h773⟩) (hk₅ 738 _ q8)) (.codes rfl q10) (by rw [hm.os]) (by
        rw [hgp]
        have hg0 : AllBare s₂.gens := by obtain ⟨T, k⟩ := id hs₂; have := k.gens; rw [hgp] at this; exact this
        exact hm.gens.bare (hg0.push hgb)) (Nat.le_trans hs.tk_ hle)
      rw [upd_eta h0] at hs'
      exact ⟨_, _, _, _, hz.trans hz2, hr.trans hr2, .str _ _, hs', h⟩
    · rw [passing_all, List.length_range, hys, ← hq.length]; exact Nat.le_trans hl' (by decide)

theorem c_join {C : Fx} (H : HB C) (hd : C.d ≤ 700) (hgp : C.gp = fun g _ => AllBare g) (hpin : C.pin = some 738) {st : St} (h0 : st.heap 0 = some .codes) {xs ys : List Str} (hq : Qts xs ys) (hjo : JoinOk " " ys = true) (hl : xs.length ≤ 1000) {Q : V → St → Prop} (h : Q (.str (Txt.join " " ys)) st) : JC C 743 [.lst (xs.map .str)] [] st Q := by
  refine code_fnE (vars := [("split_command", .lst (xs.map .str))]) (f_join H) (by lia) (show parOk fd_join.scope ["split_command"] = true by decide +kernel) (fun env Z R ρ s ws hs hw => ?_) fun env Z R ρ s hcode hs => ?_
  · obtain ⟨x, rfl, r1⟩ := inv1 hw
    exact ⟨_, BindsTo.of_eq rfl, .cons r1 .nil⟩
  have HBc : HB (C.into fd_join.scope) := H
  refine wpAny_execs_cons (wpAny_Return_some ?_)
  let st₁ : St := { st with vars := [("split_command", .lst (xs.map .str))] }
  refine wp_use (b_join (C := C.into fd_join.scope) (st := st₁) (Q := fun v st' => v = .str (Txt.join " " ys) ∧ st' = st₁) (env := env) (Z := Z) (R := R) (ρ := ρ) (s := s) HBc (show C.d + 1 ≤ 800 from dk hd (by decide)) hgp hpin h0 hq hjo hl rfl rfl rfl (fun _ => rfl) (by decide) rfl rfl rfl rfl rfl ⟨rfl, rfl⟩ hcode hs) (fun w s' v st' Z' ρ' hz hr rv hs' ⟨e1, e2⟩ => ?_)
  subst e1; subst e2
  exact ⟨_, _, Z', ρ', hz, hr, .ret rv, hs', h⟩
-- MVar_04

set_option maxRecDepth 100000
set_option maxHeartbeats 4000000
open PySem PySem.W PyProof.Rows



noncomputable def dg (m : Nat) (acc : List Int) : List Int := if h : 63 < m then dg (m / 64) (((m / 64 % 64 : Nat) + 64 : Int) :: acc) else acc
termination_by m
decreasing_by lia
noncomputable def octs (n : Nat) : List Int := match dg n [((n % 64 : Nat) : Int)] with
  | h :: t => (h + 128) :: t
  | [] => []
inductive Rd : Int → Int → List Int → Int → List Int → Prop
  | done {v b : Int} {t : List Int} : b / 64 % 2 = 0 → Rd v b t v t
  | more {v b b' n : Int} {r t : List Int} : b / 64 % 2 = 1 → 0 ≤ b' → b' < 256 → Rd (v * 64 + b' % 64) b' r n t → Rd v b (b' :: r) n t
theorem dg_rd (n : Nat) (t : List Int) : ∀ (m : Nat) (o : Int) (acc : List Int), 0 ≤ o → o < 128 → o % 64 = ((m % 64 : Nat) : Int) → Rd m o (acc ++ t) n t → ∃ o' acc', dg m (o :: acc) = o' :: acc' ∧ 0 ≤ o' ∧ o' < 128 ∧ Rd (o' % 64) o' (acc' ++ t) n t := by
  intro m
  induction m using Nat.strongRecOn with
  | ind m ih =>
    intro o acc h0 h1 h2 hr
    unfold dg
    by_cases q : 63 < m
    · rw [dif_pos q]
      refine ih (m / 64) (by lia) _ (o :: acc) (by lia) (by lia) (by lia) ?_
      have e : (m : Int) = ((m / 64 : Nat) : Int) * 64 + o % 64 := by rw [h2]; lia
      exact .more (by lia) h0 (by lia) (by rw [← e]; exact hr)
    · rw [dif_neg q]
      refine ⟨o, acc, rfl, h0, h1, ?_⟩
      have e : o % 64 = (m : Int) := by rw [h2]; lia
      rw [e]; exact hr
theorem octs_rd (n : Nat) (t : List Int) : ∃ b r, octs n ++ t = b :: r ∧ 0 ≤ b ∧ b < 256 ∧ Rd (b % 64) b r n t := by
  obtain ⟨o, acc, e, h0, h1, hr⟩ := dg_rd n t n ((n % 64 : Nat) : Int) [] (by lia) (by lia) (by lia) (.done (by lia))
  refine ⟨o + 128, acc ++ t, by unfold octs; rw [e]; rfl, by lia, by lia, ?_⟩
  have e1 : (o + 128) % 64 = o % 64 := by lia
  rw [e1]
  generalize hl : acc ++ t = l at hr
  generalize o % 64 = v at hr
  cases hr with
  | done h => exact .done (by lia)
  | more h a b c => exact .more (by lia) a b c
theorem dg_len (m : Nat) (acc : List Int) : (dg m acc).length ≤ acc.length + m.log2 := by
  induction m using Nat.strongRecOn generalizing acc with
  | ind m ih =>
    unfold dg
    split
    · rename_i q
      refine Nat.le_trans (ih (m / 64) (by lia) _) ?_
      have e1 : m.log2 = (m / 2).log2 + 1 := by rw [Nat.log2_def, if_pos (by lia)]
      have e2 : (m / 2).log2 = (m / 4).log2 + 1 := by rw [Nat.log2_def, if_pos (by lia), Nat.div_div_eq_div_mul]
      have e3 : (m / 64).log2 ≤ (m / 4).log2 := by
        rcases Nat.eq_zero_or_pos (m / 64) with z | z
        · rw [z]; exact Nat.zero_le _
        · rw [Nat.le_log2 (by lia)]
          exact Nat.le_trans (Nat.log2_self_le (by lia)) (by lia)
      rw [List.length_cons]; lia
    · lia

section
variable {P : Params} {B : PH}
noncomputable abbrev fd_oct : FuncData := fnF "_law_octets" "_law_octets" pb 35 .none (.str (Str.ofString "law_oy0341_04") 1300) (.ref 792)
theorem f_oct (H : BaseK (K P) B) : Fn0 B 793 fd_oct (bodyAt pb 35) := H.fn0 (o := fnO "_law_octets" "_law_octets" pb 35 .none (.str (Str.ofString "law_oy0341_04") 1300) (.ref 792)) (by kernel_rfl) rfl rfl (by kernel_rfl) (by decide +kernel) rfl rfl rfl rfl
theorem g_oct (H : BaseK (K P) B) : Glo B "_law_octets" (.ref 793) := H.glo (by kernel_rfl)
noncomputable abbrev fd_var : FuncData := fnF "_parse_varint" "_parse_varint" pb 28 .none (.str (Str.ofString "cpy313.dis") 1245) (.ref 757)
theorem f_var (H : BaseK (K P) B) : Fn0 B 758 fd_var (bodyAt pb 28) := H.fn0 (o := fnO "_parse_varint" "_parse_varint" pb 28 .none (.str (Str.ofString "cpy313.dis") 1245) (.ref 757)) (by kernel_rfl) rfl rfl (by kernel_rfl) (by decide +kernel) rfl rfl rfl rfl
theorem g_var (H : BaseK (K P) B) : Glo B "_parse_varint" (.ref 758) := H.glo (by kernel_rfl)
theorem t_next (H : BaseK (K P) B) : Blt B "next" (.builtin "next") := H.blt (by kernel_rfl) (by kernel_rfl) (by decide)
end

inductive OctI (n : Nat) (st : St) (k : Nat) (st' : St) : Prop
  | mk (m : Nat) (acc : List Int) (vars' : List (Str × V)) (e1 : st' = ⟨vars', st.heap, st.nx⟩) (e2 : k = m) (v1 : gv vars' "number" = some (.int (m : Int))) (v2 : gv vars' "octets" = some (.lst (acc.map .int))) (e : dg m acc = dg n [((n % 64 : Nat) : Int)]) (hl : acc.length + m.log2 ≤ 1 + n.log2) (hne : acc ≠ [])
inductive VarI (k : Nat) (xs : List Int) (n : Int) (t : List Int) (st : St) (m : Nat) (st' : St) : Prop
  | mk (i : Nat) (v b : Int) (r : List Int) (vars' : List (Str × V)) (e1 : st' = ⟨vars', upd st.heap k (.iter (xs.map .int) i), st.nx⟩) (e2 : m = r.length) (v1 : gv vars' "iterator" = some (.obj k)) (v2 : gv vars' "val" = some (.int v)) (v3 : gv vars' "b" = some (.int b)) (hd : xs.drop i = r) (h0 : 0 ≤ b) (h1 : b < 256) (hv0 : 0 ≤ v) (hr : Rd v b r n t)
section
variable {C : Fx} {st : St}
theorem b_oct (H : HB C) (n : Nat) (hn : n.log2 ≤ 1000) {vars : List (Str × V)} (hv : vars = [(("number" : Str), .int (n : Int))]) {Q : FlowA → St → Prop}
    (h : ∀ vars, Q (.ret (.lst ((octs n).map .int))) { st with vars := vars }) : JX (C.into fd_oct.scope) (bodyAt pb 35) { st with vars := vars } Q := by
  have HBc : HB (C.into fd_oct.scope) := H
  subst hv
  refine x_seq ?_
  repeat walk_at "w"
  refine ⟨Nat.le_of_ble_eq_true rfl, ?_⟩
  repeat walk_at "w"
  refine x_While (OctI n st) n ⟨n, [((n % 64 : Nat) : Int)], _, rfl, rfl, by walk_at "lk", by walk_at "lk", rfl, Nat.le_refl _, by simp⟩ ?_
  rintro k st' ⟨m, acc, vars', rfl, rfl, v1, v2, e, hl, hne⟩
  repeat walk_at "w"
  refine ⟨fun hc => ?_, fun hc => ?_⟩
  · have hm : 63 < k := by have := of_decide_eq_true hc; lia
    repeat walk_at "w"
    refine ⟨Nat.le_of_ble_eq_true rfl, ?_⟩
    repeat walk_at "w"
    have e1 : k.log2 = (k / 2).log2 + 1 := by rw [Nat.log2_def, if_pos (by lia)]
    have e2 : (k / 64).log2 ≤ (k / 2).log2 := by
      rcases Nat.eq_zero_or_pos (k / 64) with z | z
      · rw [z]; exact Nat.zero_le _
      · rw [Nat.le_log2 (by lia)]
        exact Nat.le_trans (Nat.log2_self_le (by lia)) (by lia)
    refine op_cat (xs := [_]) (ys := acc.map .int) rfl rfl ?_ ?_
    · rw [List.length_map]
      exact Nat.le_trans (show 1 + acc.length ≤ 2002 by lia) (by decide)
    repeat walk_at "w"
    refine ⟨k / 64, by lia, k / 64, ((k / 64 % 64 : Nat) + 64 : Int) :: acc, _, rfl, rfl, by walk_at "lk", by walk_at "lk", ?_, by rw [List.length_cons]; lia, by simp⟩
    rw [← e]
    conv => rhs; unfold dg
    rw [dif_pos hm]
  · have hm : ¬ 63 < k := by have := of_decide_eq_false hc; lia
    have ea : dg n [((n % 64 : Nat) : Int)] = acc := by rw [← e]; unfold dg; rw [dif_neg hm]
    cases acc with
    | nil => exact absurd rfl hne
    | cons o acc =>
    repeat walk_at "w"
    refine sub_lst (x := .int o) (by decide) rfl (by decide) ?_
    repeat walk_at "w"
    refine ⟨Nat.le_of_ble_eq_true rfl, ?_⟩
    repeat walk_at "w"
    refine ev_Slice ?_
    repeat walk_at "w"
    refine p_some ?_
    repeat walk_at "w"
    refine ⟨_, rfl, p_none ?_⟩
    refine ⟨_, rfl, ?_, ?_⟩
    · rw [List.length_map]
      exact Nat.le_trans (show (o :: acc).length ≤ 2002 by lia) (by decide)
    refine op_cat (xs := [_]) (ys := _) rfl rfl ?_ ?_
    · rw [show sl (some 1) none ((o :: acc).map V.int) = ((o :: acc).map V.int).drop 1 from sl_from 1 _, List.length_drop, List.length_map]
      exact Nat.le_trans (show 1 + ((o :: acc).length - 1) ≤ 2002 by lia) (by decide)
    repeat walk_at "w"
    have := h vars'
    unfold octs at this
    rw [ea] at this
    rw [show sl (some 1) none ((o :: acc).map V.int) = ((o :: acc).map V.int).drop 1 from sl_from 1 _]
    exact this
theorem c_oct (H : HB C) (hd : C.d ≤ 900) (n : Nat) (hn : n.log2 ≤ 1000) {Q : V → St → Prop} (h : Q (.lst ((octs n).map .int)) st) : JC C 793 [.int (n : Int)] [] st Q := by
  refine code_fn0 (vars := [("number", .int (n : Int))]) (f_oct H) (by lia) (show parOk fd_oct.scope ["number"] = true by decide +kernel) (fun env Z R ρ s ws hs hw => ?_) ?_
  · obtain ⟨x, rfl, r1⟩ := inv1 hw
    exact ⟨_, BindsTo.of_eq rfl, .cons r1 .nil⟩
  exact b_oct H n hn rfl fun vars => h
end

theorem Rd.le {v b n : Int} {r t : List Int} (h : Rd v b r n t) (hv : 0 ≤ v) : v ≤ n := by
  induction h with
  | done _ => exact Int.le_refl _
  | more _ _ _ _ ih => have := ih (by lia); lia
theorem bits_le {a n : Int} (h0 : 0 ≤ a) (h : a ≤ n) (hn : n.natAbs.log2 ≤ 1000) : (Builtin.Int.intBits a : Int) + 6 ≤ 2 ^ 27 := by
  have : Builtin.Int.intBits a ≤ 1001 := by
    unfold Builtin.Int.intBits
    split
    · lia
    · have : a.natAbs.log2 ≤ n.natAbs.log2 := by
        rename_i q
        have ha : a.natAbs ≠ 0 := by intro z; apply q; simp [Int.natAbs_eq_zero.mp z]
        rw [Nat.le_log2 (by lia)]
        exact Nat.le_trans (Nat.log2_self_le ha) (by lia)
      lia
  have e : (2 : Int) ^ 27 = 134217728 := by decide
  rw [e]; lia
section
variable {C : Fx} {st : St}
theorem b_var (H : HB C) {k i : Nat} {xs : List Int} {b n : Int} {r t : List Int} (hk : st.heap k = some (.iter (xs.map .int) i)) (hx : xs.drop i = b :: r) (h0 : 0 ≤ b) (h1 : b < 256) (hr : Rd (b % 64) b r n t) (hn : n.natAbs.log2 ≤ 1000)
    {vars : List (Str × V)} (hv : vars = [(("iterator" : Str), .obj k)]) {Q : FlowA → St → Prop}
    (h : ∀ vars j, xs.drop j = t → Q (.ret (.int n)) { st with vars := vars, heap := upd st.heap k (.iter (xs.map .int) j) }) : JX (C.into fd_var.scope) (bodyAt pb 28) { st with vars := vars } Q := by
  have HBc : HB (C.into fd_var.scope) := H
  subst hv
  have get : ∀ {i : Nat} {b : Int} {r : List Int}, xs.drop i = b :: r → (xs.map V.int)[i]? = some (.int b) ∧ xs.drop (i + 1) = r := fun {i b r} e => by
    have : xs[i]? = some b := by rw [← List.head?_drop, e]; rfl
    exact ⟨by rw [List.getElem?_map, this]; rfl, by rw [← List.tail_drop, e]; rfl⟩
  refine x_seq ?_
  repeat walk_at "w"
  refine ev_CallB (t_next (by exact HBc)) (by rfl) ?_
  repeat walk_at "w"
  refine b_next (by exact hk) (get hx).1 ?_
  repeat walk_at "w"
  rw [band63 h0]
  refine x_While (VarI k xs n t st) r.length ⟨i + 1, b % 64, b, r, _, rfl, rfl, by walk_at "lk", by walk_at "lk", by walk_at "lk", (get hx).2, h0, h1, by lia, hr⟩ ?_
  rintro m st' ⟨i, v, b, r, vars', rfl, rfl, v1, v2, v3, hd, h0, h1, hv0, hr⟩
  refine tt_value ?_
  repeat walk_at "w"
  refine tr_int ?_
  rw [band64 h0 h1]
  refine ⟨fun hc => ?_, fun hc => ?_⟩
  · have hb := of_decide_eq_true hc
    cases hr with
    | done q => exact absurd hb (by lia)
    | more _ g0 g1 hr =>
      rename_i b' r' _
      repeat walk_at "w"
      refine ip_shl (by decide) (bits_le hv0 (by have := hr.le (by lia); lia) hn) ?_
      repeat walk_at "w"
      refine ev_CallB (t_next (by exact HBc)) (by rfl) ?_
      repeat walk_at "w"
      refine b_next (by walk_at "hp") (get hd).1 ?_
      repeat walk_at "w"
      rw [band63 g0, show (v * 2 ^ (6 : Int).toNat : Int) = v * 64 from rfl, bor_low hv0 (by lia) (by lia)]
      refine ⟨r'.length, Nat.lt_succ_self _, i + 1, v * 64 + b' % 64, b', r', _, (by rw [updd]), rfl, by walk_at "lk", by walk_at "lk", by walk_at "lk", (get hd).2, g0, g1, by lia, hr⟩
  · have hb := of_decide_eq_false hc
    cases hr with
    | more q _ _ _ => exact absurd q hb
    | done q =>
      repeat walk_at "w"
      exact h vars' i hd
theorem c_var (H : HB C) (hd : C.d ≤ 900) {k i : Nat} {xs : List Int} {b n : Int} {r t : List Int} (hk : st.heap k = some (.iter (xs.map .int) i)) (hx : xs.drop i = b :: r) (h0 : 0 ≤ b) (h1 : b < 256) (hr : Rd (b % 64) b r n t) (hn : n.natAbs.log2 ≤ 1000)
    {Q : V → St → Prop} (h : ∀ j, xs.drop j = t → Q (.int n) { st with heap := upd st.heap k (.iter (xs.map .int) j) }) : JC C 758 [.obj k] [] st Q := by
  refine code_fn0 (vars := [("iterator", .obj k)]) (f_var H) (by lia) (show parOk fd_var.scope ["iterator"] = true by decide +kernel) (fun env Z R ρ s ws hs hw => ?_) ?_
  · obtain ⟨x, rfl, r1⟩ := inv1 hw
    exact ⟨_, BindsTo.of_eq rfl, .cons r1 .nil⟩
  exact b_var H hk hx h0 h1 hr hn rfl fun vars j e => h j e
end
-- MHq_04

set_option maxRecDepth 100000
set_option maxHeartbeats 4000000
open PySem PySem.W PyProof.Rows

theorem len2 {α : Type} {l : List α} (h : l.length = 2) : ∃ a b, l = [a, b] := by
  match l, h with
  | [a, b], _ => exact ⟨a, b, rfl⟩
theorem len3 {α : Type} {l : List α} (h : l.length = 3) : ∃ a b c, l = [a, b, c] := by
  match l, h with
  | [a, b, c], _ => exact ⟨a, b, c, rfl⟩
section
variable {P : Params} {B : PH}
noncomputable abbrev fd_hpush : FuncData := fnF "heappush" "heappush" pb 30 .none (.str (Str.ofString "cpy313.heapq") 1256) (.ref 764)
theorem f_hpush (H : BaseK (K P) B) : Fn0 B 765 fd_hpush (bodyAt pb 30) := H.fn0 (o := fnO "heappush" "heappush" pb 30 .none (.str (Str.ofString "cpy313.heapq") 1256) (.ref 764)) (by kernel_rfl) rfl rfl (by kernel_rfl) (by decide +kernel) rfl rfl rfl rfl
theorem g_hpush (H : BaseK (K P) B) : Glo B "heappush" (.ref 765) := H.glo (by kernel_rfl)
noncomputable abbrev fd_hpop : FuncData := fnF "heappop" "heappop" pb 31 .none (.str (Str.ofString "cpy313.heapq") 1256) (.ref 771)
theorem f_hpop (H : BaseK (K P) B) : Fn0 B 772 fd_hpop (bodyAt pb 31) := H.fn0 (o := fnO "heappop" "heappop" pb 31 .none (.str (Str.ofString "cpy313.heapq") 1256) (.ref 771)) (by kernel_rfl) rfl rfl (by kernel_rfl) (by decide +kernel) rfl rfl rfl rfl
theorem g_hpop (H : BaseK (K P) B) : Glo B "heappop" (.ref 772) := H.glo (by kernel_rfl)
noncomputable abbrev fd_sdn : FuncData := fnF "_siftdown" "_siftdown" pb 32 .none (.str (Str.ofString "cpy313.heapq") 1256) (.ref 778)
theorem f_sdn (H : BaseK (K P) B) : Fn B 779 fd_sdn (bodyAt pb 32) ["heap", "startpos", "pos"] :=
  (H.fn0 (o := fnO "_siftdown" "_siftdown" pb 32 .none (.str (Str.ofString "cpy313.heapq") 1256) (.ref 778)) (by kernel_rfl) rfl rfl (by kernel_rfl) (by decide +kernel) rfl rfl rfl rfl : Fn0 B 779 fd_sdn (bodyAt pb 32)).fn (by decide +kernel) (fun ws h => by
    obtain ⟨a, b, c, e⟩ := len3 h
    rw [e]; rfl)
theorem g_sdn (H : BaseK (K P) B) : Glo B "_siftdown" (.ref 779) := H.glo (by kernel_rfl)
noncomputable abbrev fd_sup : FuncData := fnF "_siftup" "_siftup" pb 33 .none (.str (Str.ofString "cpy313.heapq") 1256) (.ref 785)
theorem f_sup (H : BaseK (K P) B) : Fn B 786 fd_sup (bodyAt pb 33) ["heap", "pos"] :=
  (H.fn0 (o := fnO "_siftup" "_siftup" pb 33 .none (.str (Str.ofString "cpy313.heapq") 1256) (.ref 785)) (by kernel_rfl) rfl rfl (by kernel_rfl) (by decide +kernel) rfl rfl rfl rfl : Fn0 B 786 fd_sup (bodyAt pb 33)).fn (by decide +kernel) (fun ws h => by
    obtain ⟨a, b, e⟩ := len2 h
    rw [e]; rfl)
theorem g_sup (H : BaseK (K P) B) : Glo B "_siftup" (.ref 786) := H.glo (by kernel_rfl)
theorem hpush_keep : keepIn (K P) (.ref 765) = true := by kernel_rfl
theorem hpop_keep : keepIn (K P) (.ref 772) = true := by kernel_rfl
end
section
variable {C : Fx} {st : St}
theorem c_hpushG {PP : V → Prop} {lt : V → V → Bool} (ok : LtOk PP lt) (sw : Swo PP lt) (H : HB C) (hd : C.d ≤ 600) (hu : C.u ≤ 3000) {n : Nat} {xs : List V} {p : V} (hp0 : PP p) (hh : st.heap n = some (.list xs)) (hP : ∀ y ∈ xs, PP y) (ho : HO lt xs) (hsz : xs.length < 1000)
    {Q : V → St → Prop} (h : ∀ xs', xs'.Perm (p :: xs) → HO lt xs' → Q .none { st with heap := upd st.heap n (.list xs') }) : JC C 765 [.obj n, p] [] st Q := by
  refine code_fn0 (vars := [("heap", .obj n), ("item", p)]) (f_hpush H) (by lia) (show parOk fd_hpush.scope ["heap", "item"] = true by decide +kernel) (fun env Z R ρ s ws hs hw => ?_) ?_
  · obtain ⟨x, y, rfl, r1, r2⟩ := inv2 hw
    exact ⟨_, BindsTo.of_eq rfl, .cons r1 (.cons r2 .nil)⟩
  refine heappush_body PP lt ok (C.into fd_hpush.scope) rfl (show C.d + 1 ≤ 700 from dk hd (by decide)) (show C.u + 3 ≤ 4000 from dk hu (by decide)) 779 fd_sdn (g_sdn H) (f_sdn H) rfl (t_len H) { st with vars := [("heap", .obj n), ("item", p)] } n xs (p) rfl hh hP hp0 hsz _ ?_
  exact h _ (push_perm lt (p) xs) (push_ho PP lt sw (p) hp0 xs hP ho)
theorem c_hpopG {PP : V → Prop} {lt : V → V → Bool} (ok : LtOk PP lt) (sw : Swo PP lt) (H : HB C) (hd : C.d ≤ 500) (hu : C.u ≤ 2500) {n : Nat} {xs : List V} (hh : st.heap n = some (.list xs)) (hP : ∀ y ∈ xs, PP y) (ho : HO lt xs) (hsz : xs.length < 1000) (hne : xs ≠ [])
    {Q : V → St → Prop} (h : ∀ x xs', (x :: xs').Perm xs → HO lt xs' → (∀ y ∈ xs, lt y x = false) → Q x { st with heap := upd st.heap n (.list xs') }) : JC C 772 [.obj n] [] st Q := by
  refine code_fn0 (vars := [("heap", .obj n)]) (f_hpop H) (by lia) (show parOk fd_hpop.scope ["heap"] = true by decide +kernel) (fun env Z R ρ s ws hs hw => ?_) ?_
  · obtain ⟨x, rfl, r1⟩ := inv1 hw
    exact ⟨_, BindsTo.of_eq rfl, .cons r1 .nil⟩
  obtain ⟨ys, l, rfl⟩ : ∃ ys l, xs = ys ++ [l] := ⟨_, _, (List.dropLast_concat_getLast hne).symm⟩
  have hPy : ∀ y ∈ ys, PP y := fun y hy => hP y (by simp [hy])
  have hPl : PP l := hP l (by simp)
  have least := first_least PP lt sw (ys ++ [l]) hP ho (by simp)
  have least' : ∀ y ∈ ys ++ [l], lt y ((ys ++ [l])[0]'(by simp)) = false := fun y hy => by
    obtain ⟨i, hi, rfl⟩ := List.mem_iff_getElem.mp hy
    exact least i hi
  refine heappop_body PP lt ok (C.into fd_hpop.scope) rfl (show C.d + 1 ≤ 600 from dk hd (by decide)) (show C.u + 3 ≤ 3000 from dk hu (by decide)) 779 786 fd_sdn fd_sup (g_sdn H) (f_sdn H) rfl (g_sup H) (f_sup H) rfl (t_len H) { st with vars := [("heap", .obj n)] } n ys l rfl hh hPy hPl (by simp at hsz; lia) _ (fun e vars => ?_) (fun y r e vars => ?_)
  · subst e
    exact h l [] (.refl _) (fun i hi => by simp at hi) least'
  · subst e
    exact h y _ (popped_perm lt y l r) (popped_ho PP lt sw y l r hP ho) least'
end
-- MLen_04

set_option maxRecDepth 100000
/-! how long a joined line is -/
open PySem PySem.W PyProof.Rows
theorem joinC_len (c B : Nat) : ∀ l : List (List Nat), (∀ x ∈ l, x.length ≤ B) → (joinC c l).length ≤ l.length * (B + 1)
  | [], _ => Nat.zero_le _
  | [x], h => by have := h x (.head _); simp [joinC]; lia
  | x :: y :: r, h => by
    have h1 := h x (.head _)
    have h2 := joinC_len c B (y :: r) fun z hz => h z (.tail _ hz)
    rw [joinC_cons, List.length_append, List.length_cons, List.length_cons, Nat.succ_mul]
    lia
theorem cps_len (x : Str) : x.length = x.cps.toList.length := by simp [Str.length]
theorem join_len {sep : Str} {c B : Nat} (hs : sep.cps.toList = [c]) {ys : List Str} (h : ∀ y ∈ ys, y.length ≤ B) : (Txt.join sep ys).length ≤ ys.length * (B + 1) := by
  rw [cps_len, join_cps sep c hs]
  have := joinC_len c B (ys.map fun y => y.cps.toList) (fun x hx => by obtain ⟨y, hy, rfl⟩ := List.mem_map.mp hx; rw [← cps_len]; exact h y hy)
  rwa [List.length_map] at this

theorem octs_len (n : Nat) : (octs n).length ≤ 1 + n.log2 := by
  have := dg_len n [((n % 64 : Nat) : Int)]
  unfold octs
  split <;> (rename_i h; rw [h] at this; simpa using this)
-- MPq_04

set_option maxRecDepth 100000
set_option maxHeartbeats 4000000
open PySem PySem.W PyProof.Rows

noncomputable abbrev eV (p : Int × Int) : V := .tup [.int p.1, .int p.2]
noncomputable def PairP (v : V) : Prop := ∃ p : Int × Int, v = eV p
noncomputable def prV : V → Option (Int × Int)
  | .tup [.int a, .int b] => some (a, b)
  | _ => none
noncomputable def ltV (u v : V) : Bool := ((prV u).bind fun p => (prV v).map fun q => pairLt p.1 p.2 q.1 q.2).getD false
theorem pair_ltok : LtOk PairP ltV := fun C st Q a b hd hu ⟨p, ha⟩ ⟨q, hb⟩ h => by
  subst ha; subst hb
  exact op_lt2 (Nat.lt_of_le_of_lt hu (by decide)) h
theorem pl_no {a b c d : Int} : pairLt a b c d = false ↔ c < a ∨ (a = c ∧ d ≤ b) := by
  unfold pairLt
  by_cases e : a = c
  · rw [if_pos e, decide_eq_false_iff_not]; lia
  · rw [if_neg e, decide_eq_false_iff_not]; lia
theorem ltV_eV (p q : Int × Int) : ltV (eV p) (eV q) = pairLt p.1 p.2 q.1 q.2 := rfl
theorem pair_swo : Swo PairP ltV where
  irr := fun a ⟨p, ha⟩ => by subst ha; exact pl_no.mpr (.inr ⟨rfl, Int.le_refl _⟩)
  asym := fun a b ⟨p, ha⟩ ⟨q, hb⟩ h => by
    subst ha; subst hb
    rw [ltV_eV] at h ⊢
    rw [pl_no]
    have h' : ¬ pairLt p.1 p.2 q.1 q.2 = false := by rw [h]; decide
    rw [pl_no] at h'
    clear h; lia
  tr := fun a b c ⟨p, ha⟩ ⟨q, hb⟩ ⟨r, hc⟩ h1 h2 => by
    subst ha; subst hb; subst hc
    rw [ltV_eV, pl_no] at *
    lia
section
variable {C : Fx} {st : St}
theorem c_hpush (H : HB C) (hd : C.d ≤ 600) (hu : C.u ≤ 3000) {n : Nat} {xs : List V} {p : Int × Int} (hh : st.heap n = some (.list xs)) (hP : ∀ y ∈ xs, PairP y) (ho : HO ltV xs) (hsz : xs.length < 1000)
    {Q : V → St → Prop} (h : ∀ xs', xs'.Perm (eV p :: xs) → HO ltV xs' → Q .none { st with heap := upd st.heap n (.list xs') }) : JC C 765 [.obj n, eV p] [] st Q :=
  c_hpushG pair_ltok pair_swo H hd hu ⟨p, rfl⟩ hh hP ho hsz h
theorem c_hpop (H : HB C) (hd : C.d ≤ 500) (hu : C.u ≤ 2500) {n : Nat} {xs : List V} (hh : st.heap n = some (.list xs)) (hP : ∀ y ∈ xs, PairP y) (ho : HO ltV xs) (hsz : xs.length < 1000) (hne : xs ≠ [])
    {Q : V → St → Prop} (h : ∀ x xs', (x :: xs').Perm xs → HO ltV xs' → (∀ y ∈ xs, ltV y x = false) → Q x { st with heap := upd st.heap n (.list xs') }) : JC C 772 [.obj n] [] st Q :=
  c_hpopG pair_ltok pair_swo H hd hu hh hP ho hsz hne h
end
-- SBase

set_option maxRecDepth 100000
set_option maxHeartbeats 4000000
open PySem PySem.W PyProof.Rows

section
variable {P : Params} {B : PH}
theorem t_range (H : BaseK (K P) B) : Blt B "range" (.type "range") := H.blt (by kernel_rfl) (by kernel_rfl) (by decide)
theorem t_sum (H : BaseK (K P) B) : Blt B "sum" (.builtin "sum") := H.blt (by kernel_rfl) (by kernel_rfl) (by decide)
theorem t_max (H : BaseK (K P) B) : Blt B "max" (.builtin "max") := H.blt (by kernel_rfl) (by kernel_rfl) (by decide)
theorem t_sorted (H : BaseK (K P) B) : Blt B "sorted" (.builtin "sorted") := H.blt (by kernel_rfl) (by kernel_rfl) (by decide)
theorem t_list (H : BaseK (K P) B) : Blt B "list" (.type "list") := H.blt (by kernel_rfl) (by kernel_rfl) (by decide)
theorem t_tuple (H : BaseK (K P) B) : Blt B "tuple" (.type "tuple") := H.blt (by kernel_rfl) (by kernel_rfl) (by decide)
theorem t_iter (H : BaseK (K P) B) : Blt B "iter" (.builtin "iter") := H.blt (by kernel_rfl) (by kernel_rfl) (by decide)
theorem oct_keep : keepIn (K P) (.ref 793) = true := by kernel_rfl
theorem var_keep : keepIn (K P) (.ref 758) = true := by kernel_rfl
theorem joins_keep : keepIn (K P) (.ref 743) = true := by kernel_rfl
noncomputable abbrev fd_wish : FuncData := fnF "_law_wishes" "_law_wishes" pb 36 .none (.str (Str.ofString "law_oy0341_04") 1300) (.ref 799)
theorem f_wish (H : BaseK (K P) B) : Fn0 B 800 fd_wish (bodyAt pb 36) := H.fn0 (o := fnO "_law_wishes" "_law_wishes" pb 36 .none (.str (Str.ofString "law_oy0341_04") 1300) (.ref 799)) (by kernel_rfl) rfl rfl (by kernel_rfl) (by decide +kernel) rfl rfl rfl rfl
theorem g_wish (H : BaseK (K P) B) : Glo B "_law_wishes" (.ref 800) := H.glo (by kernel_rfl)
theorem wish_keep : keepIn (K P) (.ref 800) = true := by kernel_rfl
noncomputable abbrev fd_eaten : FuncData := fnF "_law_eaten" "_law_eaten" pb 37 .none (.str (Str.ofString "law_oy0341_04") 1300) (.ref 804)
theorem f_eaten (H : BaseK (K P) B) : Fn0 B 805 fd_eaten (bodyAt pb 37) := H.fn0 (o := fnO "_law_eaten" "_law_eaten" pb 37 .none (.str (Str.ofString "law_oy0341_04") 1300) (.ref 804)) (by kernel_rfl) rfl rfl (by kernel_rfl) (by decide +kernel) rfl rfl rfl rfl
theorem g_eaten (H : BaseK (K P) B) : Glo B "_law_eaten" (.ref 805) := H.glo (by kernel_rfl)
theorem eaten_keep : keepIn (K P) (.ref 805) = true := by kernel_rfl
noncomputable abbrev fd_sums : FuncData := fnF "_law_sums" "_law_sums" pb 38 .none (.str (Str.ofString "law_oy0341_04") 1300) (.ref 809)
theorem f_sums (H : BaseK (K P) B) : Fn0 B 810 fd_sums (bodyAt pb 38) := H.fn0 (o := fnO "_law_sums" "_law_sums" pb 38 .none (.str (Str.ofString "law_oy0341_04") 1300) (.ref 809)) (by kernel_rfl) rfl rfl (by kernel_rfl) (by decide +kernel) rfl rfl rfl rfl
theorem g_sums (H : BaseK (K P) B) : Glo B "_law_sums" (.ref 810) := H.glo (by kernel_rfl)
theorem sums_keep : keepIn (K P) (.ref 810) = true := by kernel_rfl
noncomputable abbrev fd_dealt : FuncData := fnF "_law_dealt" "_law_dealt" pb 39 .none (.str (Str.ofString "law_oy0341_04") 1300) (.ref 814)
theorem f_dealt (H : BaseK (K P) B) : Fn0 B 815 fd_dealt (bodyAt pb 39) := H.fn0 (o := fnO "_law_dealt" "_law_dealt" pb 39 .none (.str (Str.ofString "law_oy0341_04") 1300) (.ref 814)) (by kernel_rfl) rfl rfl (by kernel_rfl) (by decide +kernel) rfl rfl rfl rfl
theorem g_dealt (H : BaseK (K P) B) : Glo B "_law_dealt" (.ref 815) := H.glo (by kernel_rfl)
theorem dealt_keep : keepIn (K P) (.ref 815) = true := by kernel_rfl
noncomputable abbrev fd_envied : FuncData := fnF "_law_envied" "_law_envied" pb 40 .none (.str (Str.ofString "law_oy0341_04") 1300) (.ref 819)
theorem f_envied (H : BaseK (K P) B) : Fn0 B 820 fd_envied (bodyAt pb 40) := H.fn0 (o := fnO "_law_envied" "_law_envied" pb 40 .none (.str (Str.ofString "law_oy0341_04") 1300) (.ref 819)) (by kernel_rfl) rfl rfl (by kernel_rfl) (by decide +kernel) rfl rfl rfl rfl
theorem g_envied (H : BaseK (K P) B) : Glo B "_law_envied" (.ref 820) := H.glo (by kernel_rfl)
theorem envied_keep : keepIn (K P) (.ref 820) = true := by kernel_rfl
noncomputable abbrev fd_law : FuncData := fnF "law" "law" pb 41 .none (.str (Str.ofString "law_oy0341_04") 1300) (.ref 824)
theorem f_law (H : BaseK (K P) B) : Fn0 B 825 fd_law (bodyAt pb 41) := H.fn0 (o := fnO "law" "law" pb 41 .none (.str (Str.ofString "law_oy0341_04") 1300) (.ref 824)) (by kernel_rfl) rfl rfl (by kernel_rfl) (by decide +kernel) rfl rfl rfl rfl
end
noncomputable abbrev q4 (f : Nat → Nat) : List V := [nV (f 0), nV (f 1), nV (f 2), nV (f 3)]
theorem q4_map (f : Nat → Nat) : q4 f = ([f 0, f 1, f 2, f 3].map fun n : Nat => (n : Int)).map .int := rfl
theorem q4_len (f : Nat → Nat) : (q4 f).length = 4 := rfl
theorem q4_at (f : Nat → Nat) {i : Nat} (h : i < 4) : (q4 f)[((i : Nat) : Int).toNat]? = some (nV (f i)) := by
  rw [Int.toNat_natCast]
  match i, h with
  | 0, _ => rfl
  | 1, _ => rfl
  | 2, _ => rfl
  | 3, _ => rfl
theorem q4_set (f : Nat → Nat) {i : Nat} (h : i < 4) (v : Nat) : (q4 f).set ((i : Nat) : Int).toNat (nV v) = q4 (upf f i v) := by
  rw [Int.toNat_natCast]
  match i, h with
  | 0, _ => rfl
  | 1, _ => rfl
  | 2, _ => rfl
  | 3, _ => rfl
theorem q4_congr {f g : Nat → Nat} (h : ∀ i, i < 4 → f i = g i) : q4 f = q4 g := by
  show [nV (f 0), nV (f 1), nV (f 2), nV (f 3)] = _
  rw [h 0 (by decide), h 1 (by decide), h 2 (by decide), h 3 (by decide)]
noncomputable abbrev four (f : Nat → V) : List V := [f 0, f 1, f 2, f 3]
theorem four_at (f : Nat → V) {i : Nat} (h : i < 4) : (four f)[((i : Nat) : Int).toNat]? = some (f i) := by
  rw [Int.toNat_natCast]
  match i, h with
  | 0, _ => rfl
  | 1, _ => rfl
  | 2, _ => rfl
  | 3, _ => rfl
noncomputable abbrev shV (S : Nat → Nat → Nat) : V := .lst (four fun i => .lst (q4 (S i)))
noncomputable abbrev wiV (rw : Nat → List Nat) : V := .lst (four fun i => .lst ((rw i).map nV))

noncomputable def names4 : List Str := ["a", "", "#", "b c"]
noncomputable def nm (i : Nat) : Str := names4.getD i ""
noncomputable def quoted4 : List Str := ["a", "''", "'" ++ "#" ++ "'", "'" ++ "b c" ++ "'"]
noncomputable def nq (i : Nat) : Str := quoted4.getD i ""
theorem qt_nm {i : Nat} (h : i < 4) : Qt (nm i) (nq i) := by
  match i, h with
  | 0, _ => exact qt_a
  | 1, _ => exact .nil
  | 2, _ => exact qt_h
  | 3, _ => exact .odd (by decide) (by decide) (fun P S t n tk => by kernel_rfl) (fun P S t => by kernel_rfl) (z := "b c") (by decide +kernel) (by decide)
theorem qts_nm {l : List Nat} (h : ∀ i ∈ l, i < 4) : Qts (l.map nm) (l.map nq) := by
  induction l with
  | nil => exact .nil
  | cons i r ih => exact .cons (qt_nm (h i (.head _))) (ih fun j hj => h j (.tail _ hj))
theorem wd_nm {i : Nat} (h : i < 4) : Wd (nm i) (nq i) := by
  have key : ∀ (x y : Str) (a b : List Nat), x.cps.toList = a → y.cps.toList = b → (∀ c r, c = 32 ∨ c = 10 → ∃ qd, lx .sp false [] (b ++ c :: r) = some (a, qd, false, r)) → (∃ qd, lx .sp false [] b = some (a, qd, true, [])) → Wd x y := by
    rintro x y a b rfl rfl h1 ⟨qd, h2⟩
    refine ⟨fun c r hc => ?_, ?_⟩
    · obtain ⟨qd, h⟩ := h1 c r hc
      exact lex_wd h
    · exact lex_wd h2
  match i, h with
  | 0, _ => exact key _ _ [97] [97] (by decide) (by decide) (fun c r hc => ⟨false, by rcases hc with rfl | rfl <;> rfl⟩) ⟨_, rfl⟩
  | 1, _ => exact key _ _ [] [39, 39] (by decide) (by decide) (fun c r hc => ⟨true, by rcases hc with rfl | rfl <;> rfl⟩) ⟨_, rfl⟩
  | 2, _ => exact key _ _ [35] [39, 35, 39] (by decide) (by decide) (fun c r hc => ⟨true, by rcases hc with rfl | rfl <;> rfl⟩) ⟨_, rfl⟩
  | 3, _ => exact key _ _ [98, 32, 99] [39, 98, 32, 99, 39] (by decide) (by decide) (fun c r hc => ⟨true, by rcases hc with rfl | rfl <;> rfl⟩) ⟨_, rfl⟩
theorem wds_nm {l : List Nat} (h : ∀ i ∈ l, i < 4) : Wds (l.map nm) (l.map nq) := by
  induction l with
  | nil => exact .nil
  | cons i r ih => exact .cons (wd_nm (h i (.head _))) (ih fun j hj => h j (.tail _ hj))
noncomputable def lineN (l : List Nat) : Str := Txt.join " " (l.map nq)
theorem lineN_lex {l : List Nat} (h : ∀ i ∈ l, i < 4) (hne : l ≠ []) : Lexes (l.map nm) (some (lineN l).cps.toList) := by
  have := lexes_line (wds_nm h) (fun e => hne (List.map_eq_nil_iff.mp e)) (ws := []) (tail := []) (.inl ⟨rfl, rfl⟩)
  unfold lineN
  rw [join_cps " " 32 (by decide)]
  rw [List.append_nil, List.append_nil] at this
  exact this
theorem nq_len (i : Nat) : (nq i).length ≤ 5 := by
  unfold nq
  have : ∀ o ∈ quoted4, o.length ≤ 5 := by decide +kernel
  rw [List.getD_eq_getElem?_getD]
  cases h : quoted4[i]? with
  | none => decide
  | some o => exact this o (List.mem_of_getElem? h)
theorem lineN_ok (l : List Nat) (h : l.length ≤ 4) : JoinOk " " (l.map nq) = true := by
  have := joinOk_few (sep := " ") (as := l) (pz := fun _ => true) (f := nq) (by lia) (fun a => Nat.le_trans (nq_len a) (by decide)) (by decide)
  rwa [List.filter_eq_self.mpr fun _ _ => rfl] at this
theorem lineN_len (l : List Nat) (h : l.length ≤ 4) : (lineN l).length ≤ 100000 := by
  have := join_len (sep := " ") (c := 32) (B := 5) (by decide) (ys := l.map nq) fun y hy => by
    obtain ⟨i, _, rfl⟩ := List.mem_map.mp hy; exact nq_len i
  unfold lineN
  rw [List.length_map] at this
  lia
theorem nm_ok {i : Nat} (h : i < 4) : PyData.strOk (nm i) = true := by
  match i, h with
  | 0, _ => decide +kernel
  | 1, _ => decide +kernel
  | 2, _ => decide +kernel
  | 3, _ => decide +kernel
noncomputable abbrev eN (p : Nat × Nat) : V := eV ((p.1 : Int), (p.2 : Int))
theorem perm_map_inv {α β : Type} {f : α → β} {l l' : List β} (h : l.Perm l') : ∀ m : List α, l' = m.map f → ∃ m' : List α, m'.Perm m ∧ l = m'.map f := by
  induction h with
  | nil => exact fun m e => ⟨[], by rw [List.map_eq_nil_iff.mp e.symm], rfl⟩
  | cons x _ ih =>
    intro m e
    match m, e with
    | a :: m, e =>
      obtain ⟨e1, e2⟩ := List.cons_eq_cons.mp e
      obtain ⟨m', h1, h2⟩ := ih m e2
      exact ⟨a :: m', h1.cons a, by rw [List.map_cons, ← h2, ← e1]⟩
  | swap x y l =>
    intro m e
    match m, e with
    | a :: b :: m, e =>
      obtain ⟨e1, e2⟩ := List.cons_eq_cons.mp e
      obtain ⟨e3, e4⟩ := List.cons_eq_cons.mp e2
      exact ⟨b :: a :: m, .swap .., by rw [List.map_cons, List.map_cons, ← e4, ← e1, ← e3]⟩
  | trans _ _ ih1 ih2 =>
    intro m e
    obtain ⟨m1, h1, h2⟩ := ih2 m e
    obtain ⟨m2, h3, h4⟩ := ih1 m1 h2
    exact ⟨m2, h3.trans h1, h4⟩
theorem eN_pair (xs : List (Nat × Nat)) : ∀ y ∈ xs.map eN, PairP y := fun y hy => by
  obtain ⟨p, _, rfl⟩ := List.mem_map.mp hy
  exact ⟨_, rfl⟩
theorem eN_push {h : List (Nat × Nat)} {x : Nat × Nat} {xs' : List V} (p : xs'.Perm (eN x :: h.map eN)) : ∃ h' : List (Nat × Nat), h'.Perm (x :: h) ∧ xs' = h'.map eN := perm_map_inv p (x :: h) rfl
theorem eN_pop {h : List (Nat × Nat)} {v : V} {xs' : List V} (p : (v :: xs').Perm (h.map eN)) (hl : ∀ y ∈ h.map eN, ltV y v = false) :
    ∃ (x : Nat × Nat) (h' : List (Nat × Nat)), v = eN x ∧ xs' = h'.map eN ∧ (x :: h').Perm h ∧ ∀ y ∈ h, x.1 < y.1 ∨ x.1 = y.1 ∧ x.2 ≤ y.2 := by
  obtain ⟨m, h1, h2⟩ := perm_map_inv p h rfl
  match m, h2 with
  | x :: h', h2 =>
    obtain ⟨e1, e2⟩ := List.cons_eq_cons.mp h2
    refine ⟨x, h', e1, e2, h1, fun y hy => ?_⟩
    have := hl (eN y) (List.mem_map_of_mem hy)
    rw [e1, ltV_eV, pl_no] at this
    dsimp only at this
    lia
-- SWish

set_option maxRecDepth 100000
set_option maxHeartbeats 4000000
open PySem PySem.W PyProof.Rows


noncomputable def insN (l : List Nat) (i x : Nat) : List Nat := l.take i ++ x :: l.drop i
theorem insN_map (l : List Nat) (i x : Nat) : (l.map nV).take i ++ nV x :: (l.map nV).drop i = (insN l i x).map nV := by
  unfold insN; rw [List.map_append, List.map_cons, List.map_take, List.map_drop]
theorem insN_perm (l : List Nat) (i x : Nat) : (insN l i x).Perm (x :: l) := by
  unfold insN
  refine List.perm_middle.trans (.cons x ?_)
  rw [List.take_append_drop]
theorem insN_len (l : List Nat) (i x : Nat) : (insN l i x).length = l.length + 1 := (insN_perm l i x).length_eq
noncomputable def rowW (n : Int) : List Nat := insN (insN (insN [0] (n % 2).toNat 1) (n / 2 % 3).toNat 2) (n / 6 % 4).toNat 3
theorem rowW_perm (n : Int) : (rowW n).Perm [0, 1, 2, 3] := by
  refine (insN_perm _ _ _).trans (((insN_perm _ _ _).trans ((insN_perm _ _ _).cons _)).cons _ |>.trans ?_)
  decide
section
variable {C : Fx} {st : St}
theorem b_wish (H : HB C) (hu : C.u ≤ 4000) (n : Int) {vars : List (Str × V)} (hv : vars = [(("number" : Str), .int n)]) {Q : FlowA → St → Prop}
    (h : ∀ vars H' nx, (∀ k, k < st.nx → H' k = st.heap k) → Q (.ret (.lst ((rowW n).map nV))) ⟨vars, H', nx⟩) : JX (C.into fd_wish.scope) (bodyAt pb 36) { st with vars := vars } Q := by
  have HBc : HB (C.into fd_wish.scope) := H
  subst hv
  refine x_seq ?_
  refine x_Assign ?_ (by rfl)
  refine ev_ListO ?_
  repeat walk_at "w"
  refine ⟨Nat.le_of_ble_eq_true rfl, ?_⟩
  repeat walk_at "w"
  refine ev_MethO PySem.F.slot_list_insert PySem.F.type_list_insert ?_
  repeat walk_at "w"
  refine ⟨⟨_, _, rfl, by walk_at "hp"⟩, ?_⟩
  repeat walk_at "w"
  refine m_insert (by walk_at "hp") (by decide) (em0 _ (by decide)) (em1 _ (by decide) (by decide)) ?_
  repeat walk_at "w"
  refine ⟨rfl, ?_⟩
  rw [show (List.take (n % 2).toNat [V.int 0] ++ V.int 1 :: List.drop (n % 2).toNat [V.int 0]) = (insN [0] (n % 2).toNat 1).map nV from insN_map [0] _ 1]
  dsimp only
  rw [upd_upd]
  repeat walk_at "w"
  refine ev_MethO PySem.F.slot_list_insert PySem.F.type_list_insert ?_
  repeat walk_at "w"
  refine ⟨⟨_, _, rfl, by walk_at "hp"⟩, ?_⟩
  repeat walk_at "w"
  refine m_insert (by walk_at "hp") (by rw [List.length_map]; simp only [insN_len]; decide) (em0 _ (by decide)) (em1 _ (by decide) (by decide)) ?_
  repeat walk_at "w"
  refine ⟨rfl, ?_⟩
  rw [show V.int 2 = nV 2 from rfl, insN_map]
  dsimp only
  rw [upd_upd]
  repeat walk_at "w"
  refine ev_MethO PySem.F.slot_list_insert PySem.F.type_list_insert ?_
  repeat walk_at "w"
  refine ⟨⟨_, _, rfl, by walk_at "hp"⟩, ?_⟩
  repeat walk_at "w"
  refine m_insert (by walk_at "hp") (by rw [List.length_map]; simp only [insN_len]; decide) (em0 _ (by decide)) (em1 _ (by decide) (by decide)) ?_
  repeat walk_at "w"
  refine ⟨rfl, ?_⟩
  rw [show V.int 3 = nV 3 from rfl, insN_map]
  dsimp only
  rw [upd_upd]
  refine thn_next ?_
  refine x_seq ?_
  refine x_Return ?_
  refine j_freeze ?_
  walk_at "w"
  refine ⟨_, _, rfl, by walk_at "hp", ?_⟩
  refine thn_ret ?_
  exact h _ _ _ fun k hk => (del_ne _ (Nat.ne_of_lt hk)).trans (upd_ne _ _ (Nat.ne_of_lt hk))
theorem bel_nats (n : Nat) (l : List Nat) : bel n (.lst (l.map nV)) := by rw [bel]; exact bels_map _ nV (fun b => by simp [bel]) _
theorem c_wish (H : HB C) (hd : C.d ≤ 900) (hu : C.u ≤ 4000) (n : Int) {Q : V → St → Prop} (h : Q (.lst ((rowW n).map nV)) st) : JV C VR [.int n] (fun ws => call (.ref 800) ws) st Q :=
  jv_hh fun hh => by
    refine jv_trunc (JC.jv ?_)
    refine code_fn0 (vars := [("number", .int n)]) (f_wish H) (by lia) (show parOk fd_wish.scope ["number"] = true by decide +kernel) (fun env Z R ρ s ws hs hw => ?_) ?_
    · obtain ⟨x, rfl, r1⟩ := inv1 hw
      exact ⟨_, BindsTo.of_eq rfl, .cons r1 .nil⟩
    exact b_wish H hu n rfl fun vars H' nx hk => ⟨rfl, bel_nats _ _, st.heap, fun m ao e => ⟨by rw [e]; rfl, (hk m (hh m (by rw [e]; rfl))).trans e, .inl e⟩, h⟩
end
-- SDeal

set_option maxRecDepth 100000
set_option maxHeartbeats 4000000
open PySem PySem.W PyProof.Rows


inductive Own4 (H : Nat → Option AO) (n : Nat) (X : Nat → Nat → Nat) : Prop
  | mk (h0 : H n = some (.list (q4 (X 0)))) (h1 : H (n + 1) = some (.list (q4 (X 1)))) (h2 : H (n + 2) = some (.list (q4 (X 2)))) (h3 : H (n + 3) = some (.list (q4 (X 3))))
theorem Own4.at_ {H : Nat → Option AO} {n : Nat} {X : Nat → Nat → Nat} (h : Own4 H n X) {i : Nat} (hi : i < 4) : H (n + i) = some (.list (q4 (X i))) := by
  cases h with | mk h0 h1 h2 h3
  match i, hi with
  | 0, _ => exact h0
  | 1, _ => exact h1
  | 2, _ => exact h2
  | 3, _ => exact h3
theorem Own4.of {H : Nat → Option AO} {n : Nat} {X : Nat → Nat → Nat} (h : ∀ i, i < 4 → H (n + i) = some (.list (q4 (X i)))) : Own4 H n X := ⟨h 0 (by decide), h 1 (by decide), h 2 (by decide), h 3 (by decide)⟩
noncomputable def up2 (X : Nat → Nat → Nat) (i t v : Nat) : Nat → Nat → Nat := fun j => if j = i then upf (X i) t v else X j
theorem Own4.set {H : Nat → Option AO} {n : Nat} {X : Nat → Nat → Nat} (h : Own4 H n X) {i : Nat} (hi : i < 4) (t v : Nat) : Own4 (upd H (n + i) (.list (q4 (upf (X i) t v)))) n (up2 X i t v) :=
  .of fun j hj => by
    by_cases e : j = i
    · subst e
      rw [upd_self]
      unfold up2
      rw [if_pos rfl]
    · rw [upd_ne _ _ (by lia), h.at_ hj]
      unfold up2
      rw [if_neg e]
theorem Own4.keep {H H' : Nat → Option AO} {n : Nat} {X : Nat → Nat → Nat} (h : Own4 H n X) (k : ∀ i, i < 4 → H' (n + i) = H (n + i)) : Own4 H' n X := .of fun i hi => (k i hi).trans (h.at_ hi)
theorem Own4.congr {H : Nat → Option AO} {n : Nat} {X Y : Nat → Nat → Nat} (h : Own4 H n X) (e : ∀ i t, i < 4 → t < 4 → X i t = Y i t) : Own4 H n Y := .of fun i hi => by
  rw [h.at_ hi, q4_congr fun t ht => e i t hi ht]
noncomputable abbrev objs4 (n : Nat) : List V := four fun i => .obj (n + i)
section
variable {C : Fx} {st : St}
theorem j_freeze4 {m : Env → Sem Value} {Q : V → St → Prop} (h : J C VR m st fun v st' => ∃ k n X, v = .obj k ∧ st'.heap k = some (.list (objs4 n)) ∧ Own4 st'.heap n X ∧ (k < n ∨ n + 3 < k) ∧ (∀ H', (∀ j, j < n → j ≠ k → H' j = st'.heap j) → Q (shV X) { st' with heap := H' })) : J C VR m st Q := by
  refine j_freeze (j_freezeIn (j_freezeIn (j_freezeIn (j_freezeIn (J.mono h ?_)))))
  rintro v st' ⟨k, n, X, rfl, hk, hX, hkn, hQ⟩
  cases hX with | mk h0 h1 h2 h3
  have k0 : k ≠ n := by lia
  have k1 : k ≠ n + 1 := by lia
  have k2 : k ≠ n + 2 := by lia
  have k3 : k ≠ n + 3 := by lia
  have o : ∀ (H : Nat → Option AO) (a b c : Nat) (x : AO), b ≠ a → b ≠ c → (upd (del H a) c x) b = H b := fun H a b c x e1 e2 => (upd_ne _ _ e2).trans (del_ne _ e1)
  refine ⟨k, n, [], [.obj (n + 1), .obj (n + 2), .obj (n + 3)], _, hk, h0, k0, ?_⟩
  refine ⟨k, n + 1, [.lst (q4 (X 0))], [.obj (n + 2), .obj (n + 3)], _, upd_self _ _ _, (o _ _ _ _ _ (by lia) (Ne.symm k1)).trans h1, k1, ?_⟩
  refine ⟨k, n + 2, [.lst (q4 (X 0)), .lst (q4 (X 1))], [.obj (n + 3)], _, upd_self _ _ _, (o _ _ _ _ _ (by lia) (Ne.symm k2)).trans ((o _ _ _ _ _ (by lia) (Ne.symm k2)).trans h2), k2, ?_⟩
  refine ⟨k, n + 3, [.lst (q4 (X 0)), .lst (q4 (X 1)), .lst (q4 (X 2))], [], _, upd_self _ _ _, (o _ _ _ _ _ (by lia) (Ne.symm k3)).trans ((o _ _ _ _ _ (by lia) (Ne.symm k3)).trans ((o _ _ _ _ _ (by lia) (Ne.symm k3)).trans h3)), k3, ?_⟩
  refine ⟨k, _, rfl, upd_self _ _ _, ?_⟩
  refine hQ _ fun j hj hjk => ?_
  refine (del_ne _ hjk).trans ?_
  exact (o _ _ _ _ _ (by lia) hjk).trans ((o _ _ _ _ _ (by lia) hjk).trans ((o _ _ _ _ _ (by lia) hjk).trans (o _ _ _ _ _ (by lia) hjk)))
theorem free_no {l : List (Str × NameKind)} {x : Str} {P : Prop} (h : l.lookup x = some .free) (k : ∀ p ∈ l, p.2 ≠ .free) : P := absurd rfl (k _ (PySem.mem_of_lookup h))
inductive DlC (S : Nat → Nat → Nat) (st : St) (i : Nat) (ys : List V) (st' : St) : Prop
  | mk (vars' : List (Str × V)) (H' : Nat → Option AO) (e : st' = ⟨vars', H', st.nx + i⟩) (ey : ys = (List.range i).map fun j => .obj (st.nx + j)) (g : ∀ j, j < i → H' (st.nx + j) = some (.list (q4 (S j)))) (g0 : ∀ k, k < st.nx → H' k = st.heap k) (hi : i ≤ 4)
inductive DlI (A : Nat → Nat) (st : St) (i : Nat) (st' : St) : Prop
  | mk (vars' : List (Str × V)) (H' : Nat → Option AO) (X : Nat → Nat → Nat) (e : st' = ⟨vars', H', st.nx + 5⟩) (v1 : gv vars' "deal" = some (.obj (st.nx + 4))) (g : Own4 H' st.nx X) (g4 : H' (st.nx + 4) = some (.list (objs4 st.nx))) (g0 : ∀ k, k < st.nx → H' k = st.heap k) (hA : ∀ t, t < 4 → X 0 t + X 1 t + X 2 t + X 3 t = A t)
theorem sum4_mv {X : Nat → Nat → Nat} {one two thing much : Nat} (h1 : one < 4) (h2 : two < 4) (hne : two ≠ one) (hm : much ≤ X one thing) (t : Nat) :
    b4 (fun i => up2 (up2 X one thing (X one thing - much)) two thing (up2 X one thing (X one thing - much) two thing + much) i t) = b4 fun i => X i t := by
  have a1 := b4_up (f := fun i => X i t) (g := fun i => up2 X one thing (X one thing - much) i t) h1 fun j _ e => by unfold up2; rw [if_neg e]
  have a2 := b4_up (f := fun i => up2 X one thing (X one thing - much) i t) (g := fun i => up2 (up2 X one thing (X one thing - much)) two thing (up2 X one thing (X one thing - much) two thing + much) i t) h2 fun j _ e => by
    show up2 (up2 X one thing (X one thing - much)) two thing _ j t = _
    rw [show up2 (up2 X one thing (X one thing - much)) two thing (up2 X one thing (X one thing - much) two thing + much) j = up2 X one thing (X one thing - much) j from if_neg e]
  have e1 : up2 X one thing (X one thing - much) two = X two := if_neg hne
  have e2 : up2 X one thing (X one thing - much) one = upf (X one) thing (X one thing - much) := if_pos rfl
  have e3 : up2 (up2 X one thing (X one thing - much)) two thing (X two thing + much) two = upf (X two) thing (X two thing + much) := by
    rw [show up2 (up2 X one thing (X one thing - much)) two thing (X two thing + much) two = upf (up2 X one thing (X one thing - much) two) thing (X two thing + much) from if_pos rfl, e1]
  rw [e1] at a2 ⊢
  rw [e2] at a1
  rw [e3] at a2
  by_cases q : t = thing
  · subst q
    rw [upf_self] at a1 a2
    omega
  · rw [upf_ne _ _ q] at a1 a2
    omega
theorem mod_nat (m : Int) {k : Nat} (h : 0 < k) : ∃ n : Nat, m % (k : Int) = (n : Int) ∧ n < k := by
  have h0 := Int.emod_nonneg m (show (k : Int) ≠ 0 by lia)
  have h1 := Int.emod_lt_of_pos m (show (0 : Int) < k by lia)
  exact ⟨(m % k).toNat, by lia, by lia⟩
theorem b_dealt (H : HB C) (hu : C.u ≤ 3000) {A : Nat → Nat} {S : Nat → Nat → Nat} (hA : ∀ t, t < 4 → S 0 t + S 1 t + S 2 t + S 3 t = A t) {ms : List Int} (hms : ms.length ≤ 1000) {vars : List (Str × V)} (hv : vars = [(("shares" : Str), shV S), (("moves" : Str), .lst (ms.map .int))]) {Q : FlowA → St → Prop}
    (h : ∀ vars H' nx X, (∀ k, k < st.nx → H' k = st.heap k) → (∀ t, t < 4 → X 0 t + X 1 t + X 2 t + X 3 t = A t) → Q (.ret (shV X)) ⟨vars, H', nx⟩) : JX (C.into fd_dealt.scope) (bodyAt pb 39) { st with vars := vars } Q := by
  have HBc : HB (C.into fd_dealt.scope) := H
  subst hv
  refine x_seq ?_
  refine x_AssignCompO (by kernel_rfl) (by rfl) (by exact ⟨rfl, rfl, rfl⟩) ?_
  repeat walk_at "w"
  refine comp_1 (four fun i => .lst (q4 (S i))) (DlC S st) rfl ⟨_, _, rfl, rfl, nofun, fun _ _ => rfl, by decide⟩ (fun _ _ _ _ => rfl) ?_ ?_
  · rintro i ys x st' hx ⟨vs, H', rfl, rfl, g, g0, hi⟩
    have hi4 : i < 4 := (List.getElem?_eq_some_iff.mp hx).1
    have e := four_at (fun i => V.lst (q4 (S i))) hi4
    rw [Int.toNat_natCast, hx] at e
    cases e
    refine a_Name ?_ (by rfl) (by first | exact .inl rfl | exact .inr rfl)
    refine ts_nil ⟨fun _ => e_emit ?_, fun e => by cases e⟩
    refine ev_CallT (t_list (by exact HBc)) (by rfl) ?_
    repeat walk_at "w"
    refine b_listL rfl (by rw [q4_len]; decide) ?_
    refine ⟨by rw [List.length_map, List.length_range]; exact Nat.le_trans hi (by decide), _, _, rfl, by rw [List.range_succ, List.map_append]; rfl, fun j hj => ?_, fun k hk => (upd_ne _ _ (by lia)).trans (g0 k hk), hi4⟩
    by_cases e : j = i
    · subst e; exact upd_self _ _ _
    · exact (upd_ne _ _ (by lia)).trans (g j (by lia))
  · rintro ys st' ⟨vs, H', rfl, rfl, g, g0, hi⟩
    refine ⟨fun x v hx e => ?_, ?_⟩
    · exact free_no hx (by decide)
    have gO : Own4 H' st.nx S := .of fun i hi => g i hi
    refine thn_next ?_
    dsimp only
    refine x_seq ?_
    refine x_For ?_
    repeat walk_at "w"
    refine ⟨ms.map .int, DlI A st, ⟨_, _, S, rfl, by walk_at "lk", gO.keep fun i hi => upd_ne _ _ (by show _ ≠ st.nx + 4; lia), upd_self _ _ _, fun k hk => (upd_ne _ _ (by show _ ≠ st.nx + 4; lia)).trans (g0 k hk), hA⟩, fun _ _ _ => rfl, ?_, ?_⟩
    · rintro i x st' hx ⟨vars', H', X, rfl, v1, g, g4, g0, hA⟩
      obtain ⟨m, hm, rfl⟩ := List.mem_map.mp (List.mem_of_getElem? hx)
      obtain ⟨one, e1, h1⟩ := mod_nat m (k := 4) (by decide)
      obtain ⟨d, e2, h2⟩ := mod_nat (m / 4) (k := 3) (by decide)
      obtain ⟨thing, e3, h3⟩ := mod_nat (m / 12) (k := 4) (by decide)
      obtain ⟨much, e4, h4⟩ := mod_nat (m / 48) (k := X one thing + 1) (by lia)
      have e5 : (one + 1 + d : Int) % 4 = (((one + 1 + d) % 4 : Nat) : Int) := by lia
      have hne : (one + 1 + d) % 4 ≠ one := by lia
      have h5 : (one + 1 + d) % 4 < 4 := Nat.mod_lt _ (by decide)
      refine a_Name ?_ (by rfl) (by first | exact .inl rfl | exact .inr rfl)
      repeat walk_at "w"
      rw [show m % 4 = (one : Int) from e1]
      rw [show m / 4 % 3 = (d : Int) from e2, e5]
      rw [show m / 12 % 4 = (thing : Int) from e3]
      generalize (one + 1 + d) % 4 = two at hne h5
      clear e1 e2 e3 e5 h2 hx d
      refine sub_obj g4 (by lia) (four_at _ h1) (by lia) ?_
      repeat walk_at "w"
      refine sub_obj (g.at_ h1) (by lia) (q4_at _ h3) (by lia) ?_
      repeat walk_at "w"
      refine op_mod (by lia) ?_
      rw [show m / 48 % ((X one thing : Int) + 1) = (much : Int) from e4]
      clear e4
      repeat walk_at "w"
      refine x_SetItem ?_
      repeat walk_at "w"
      refine sub_obj g4 (by lia) (four_at _ h1) (by lia) ?_
      repeat walk_at "w"
      refine sub_obj (g.at_ h1) (by lia) (q4_at _ h3) (by lia) ?_
      repeat walk_at "w"
      rw [show (X one thing : Int) - (much : Int) = ((X one thing - much : Nat) : Int) by lia]
      repeat walk_at "w"
      refine sub_obj g4 (by lia) (four_at _ h1) (by lia) ?_
      repeat walk_at "w"
      refine set_obj (g.at_ h1) (by lia) (by rw [q4_len]; lia) (by lia) ?_
      rw [q4_set _ h3]
      have gS := g.set h1 thing (X one thing - much)
      have gS4 : upd H' (st.nx + one) (.list (q4 (upf (X one) thing (X one thing - much)))) (st.nx + 4) = some (.list (objs4 st.nx)) := (upd_ne _ _ (by lia)).trans g4
      have gS0 : ∀ k, k < st.nx → upd H' (st.nx + one) (.list (q4 (upf (X one) thing (X one thing - much)))) k = st.heap k := fun k hk => (upd_ne _ _ (by lia)).trans (g0 k hk)
      have hsum := fun t ht => (sum4_mv (X := X) h1 h5 hne (Nat.le_of_lt_succ h4) t (thing := thing)).trans (hA t ht)
      generalize up2 X one thing (X one thing - much) = Y at gS hsum
      generalize upd H' (st.nx + one) (.list (q4 (upf (X one) thing (X one thing - much)))) = H2 at gS gS4 gS0
      repeat walk_at "w"
      refine x_SetItem ?_
      repeat walk_at "w"
      refine sub_obj gS4 (by lia) (four_at _ h5) (by lia) ?_
      repeat walk_at "w"
      refine sub_obj (gS.at_ h5) (by lia) (q4_at _ h3) (by lia) ?_
      repeat walk_at "w"
      rw [show (Y two thing : Int) + (much : Int) = ((Y two thing + much : Nat) : Int) by lia]
      repeat walk_at "w"
      refine sub_obj gS4 (by lia) (four_at _ h5) (by lia) ?_
      repeat walk_at "w"
      refine set_obj (gS.at_ h5) (by lia) (by rw [q4_len]; lia) (by lia) ?_
      rw [q4_set _ h3]
      repeat walk_at "w"
      exact ⟨_, _, _, rfl, by walk_at "lk", gS.set h5 thing (Y two thing + much), (upd_ne _ _ (by lia)).trans gS4, fun k hk => (upd_ne _ _ (by lia)).trans (gS0 k hk), hsum⟩
    · rintro st' ⟨vars', H', X, rfl, v1, g, g4, g0, hA⟩
      refine x_nil ?_
      refine thn_next ?_
      refine x_seq ?_
      refine x_Return ?_
      refine j_freeze4 ?_
      walk_at "w"
      refine ⟨_, st.nx, X, rfl, g4, g, by lia, fun H2 k2 => ?_⟩
      refine thn_ret ?_
      exact h _ _ _ _ (fun k hk => (k2 k hk (by lia)).trans (g0 k hk)) hA
theorem bel_q4 (n : Nat) (f : Nat → Nat) : bel n (.lst (q4 f)) := by rw [q4_map]; exact bel_nats n [f 0, f 1, f 2, f 3]
theorem bel_sh (n : Nat) (X : Nat → Nat → Nat) : bel n (shV X) := by
  rw [bel]
  exact (bels_iff _ _).mpr fun v hv => by
    simp only [List.mem_cons, List.not_mem_nil, or_false] at hv
    rcases hv with rfl | rfl | rfl | rfl <;> exact bel_q4 _ _
theorem c_dealt (H : HB C) (hd : C.d ≤ 790) (hu : C.u ≤ 2990) {A : Nat → Nat} {S : Nat → Nat → Nat} (hA : ∀ t, t < 4 → S 0 t + S 1 t + S 2 t + S 3 t = A t) {ms : List Int} (hms : ms.length ≤ 1000) {Q : V → St → Prop}
    (h : ∀ X, (∀ t, t < 4 → X 0 t + X 1 t + X 2 t + X 3 t = A t) → Q (shV X) st) : JV C VR [shV S, .lst (ms.map .int)] (fun ws => call (.ref 815) ws) st Q :=
  jv_hh fun hh => by
    refine jv_trunc (JC.jv ?_)
    refine code_fn0 (vars := [("shares", shV S), ("moves", .lst (ms.map .int))]) (f_dealt H) (by lia) (show parOk fd_dealt.scope ["shares", "moves"] = true by decide +kernel) (fun env Z R ρ s ws hs hw => ?_) ?_
    · obtain ⟨x, y, rfl, r1, r2⟩ := inv2 hw
      exact ⟨_, BindsTo.of_eq rfl, .cons r1 (.cons r2 .nil)⟩
    exact b_dealt H (by lia) hA hms rfl fun vars H' nx X hk hX => ⟨rfl, bel_sh _ _, st.heap, fun m ao e => ⟨by rw [e]; rfl, (hk m (hh m (by rw [e]; rfl))).trans e, .inl e⟩, h X hX⟩
end
-- SLx

set_option maxRecDepth 100000
set_option maxHeartbeats 1000000
/-! law 04: what lies there while all eat -/
open PySem PySem.W PyProof.Rows

inductive LxAt (H : Nat → Option AO) (n : Nat) (l : List Nat) : Prop
  | mk (wc buf : Str) (left : Option (List Nat)) (hw : WcOk wc) (A : LexAt H n (n + 2) wc buf left) (hx : Lexes (l.map nm) left)
theorem LxAt.of {H H' : Nat → Option AO} {n : Nat} {l : List Nat} (h : LxAt H n l) (h1 : H' n = H n) (h2 : H' (n + 2) = H (n + 2)) : LxAt H' n l :=
  let ⟨wc, buf, left, hw, A, hx⟩ := h; ⟨wc, buf, left, hw, A.of h1 h2, hx⟩
section
variable {C : Fx} {st : St}
theorem ev_gtN {o : Expr} {apos pos : Pos} {n t : Nat} {l : List Nat} {Q : V → St → Prop} (H : HB C) (hd : C.d ≤ 500) (A : LxAt st.heap n (t :: l))
    (ho : J C VR (eval o) st fun ov st₁ => ov = .inst 732 n ∧ st₁ = st)
    (h : ∀ H', LxAt H' n l → (∀ k, k ≠ n → k ≠ n + 2 → H' k = st.heap k) → Q (.str (nm t)) ⟨st.vars, H', st.nx⟩)
    (hbase : ∀ env, attributeBase o "get_token" env (eval o env) = eval o env := by intro _; rfl) (hline : (apos.endLine == pos.line) = true := by rfl) :
    J C VR (eval (.Call (.Attribute o "get_token" apos) [] [] pos)) st Q :=
  let ⟨wc, buf, left, hw, A, hx⟩ := A
  ev_gt H hd hw A hx ho (fun H' left' A' hx' hk => h H' ⟨wc, buf, left', hw, A', hx'⟩ hk) hbase hline
theorem eqv_str4 (a b : Str) : PyData.eqv (.str a) (.str b) = (a == b) := by
  first | rfl | simp [PyData.eqv]
theorem nm_eqv {i j : Nat} (hi : i < 4) (hj : j < 4) : PyData.eqv (toD (.str (nm i))) (toD (.str (nm j))) = decide (i = j) := by
  show PyData.eqv (.str _) (.str _) = _
  rw [eqv_str4]
  exact (by decide +kernel : ∀ i j : Fin 4, (nm i.1 == nm j.1) = decide (i.1 = j.1)) ⟨i, hi⟩ ⟨j, hj⟩
theorem m_indexNm {t : Nat} (ht : t < 4) (hu : C.u ≤ 5000) {Q : V → St → Prop} (h : Q (nV t) st) : JV C VR [.lst (names4.map .str), .str (nm t)] (fun ws => call (.builtin "list.index") ws) st Q := by
  have e : names4.map V.str = (List.range 4).map fun i => .str (nm i) := rfl
  rw [e]
  refine m_index (j := t) (xs := (List.range 4).map fun i => .str (nm i)) rfl (by simpa using ht) (by simp) ?_ ?_ ?_ ?_ (fun m hm hlt => ?_) h
  · decide +kernel
  · show PyData.strOk _ = true
    exact nm_ok ht
  · refine Nat.lt_of_le_of_lt (show _ ≤ 5000 + 1 + 1 from ?_) (by decide)
    have h1 : PyData.depthAll (toDs ((List.range 4).map fun i => V.str (nm i))) ≤ 1 := by decide +kernel
    have := Nat.min_le_left (PyData.depthAll (toDs ((List.range 4).map fun i => V.str (nm i)))) (toD (.str (nm t))).depth
    lia
  · rw [List.getElem_map, List.getElem_range, nm_eqv ht ht]
    exact decide_eq_true rfl
  · rw [List.getElem_map, List.getElem_range, nm_eqv (by lia) ht]
    exact decide_eq_false (by lia)
end
noncomputable def rmS (rm : Nat → List Nat) (i : Nat) (l : List Nat) : Nat → List Nat := fun j => if j = i then l else rm j
structure EaH (n : Nat) (H1 : Nat → Option AO) (rm : Nat → List Nat) (L Th M E Si : Nat → Nat) (S : Nat → Nat → Nat) (gone : List Nat) (xs : List (Nat × Nat)) (H : Nat → Option AO) : Prop where
  lx : ∀ i, i < 4 → LxAt H (n + 3 * i) (rm i)
  le : H (n + 12) = some (.list (q4 L))
  th : H (n + 13) = some (.list (q4 Th))
  mo : H (n + 14) = some (.list (q4 M))
  ea : H (n + 15) = some (.list (q4 E))
  si : H (n + 16) = some (.list (q4 Si))
  sh : Own4 H (n + 17) S
  ou : H (n + 21) = some (.list (objs4 (n + 17)))
  hp : H (n + 22) = some (.list (xs.map eN))
  go : H (n + 23) = some (.list (gone.map nV))
  old : ∀ j, j < n → H j = H1 j
section
variable {n : Nat} {H1 : Nat → Option AO} {rm : Nat → List Nat} {L Th M E Si : Nat → Nat} {S : Nat → Nat → Nat} {gone : List Nat} {xs : List (Nat × Nat)} {H H' : Nat → Option AO}
theorem EaH.turn (h : EaH n H1 rm L Th M E Si S gone xs H) {p : Nat} (h12 : 12 ≤ p) (k : ∀ j, j ≠ n + p → H' j = H j) {L' Th' M' E' Si' : Nat → Nat} {S' : Nat → Nat → Nat} {gone' : List Nat} {xs' : List (Nat × Nat)}
    (le : p = 12 ∨ L' = L) (th : p = 13 ∨ Th' = Th) (mo : p = 14 ∨ M' = M) (ea : p = 15 ∨ E' = E) (si : p = 16 ∨ Si' = Si) (sh : p < 17 ∧ S' = S ∨ 20 < p ∧ S' = S) (ou : p ≠ 21) (hp : p = 22 ∨ xs' = xs) (go : p = 23 ∨ gone' = gone)
    (w : H' (n + p) = some (.list (if p = 12 then q4 L' else if p = 13 then q4 Th' else if p = 14 then q4 M' else if p = 15 then q4 E' else if p = 16 then q4 Si' else if p = 22 then xs'.map eN else gone'.map nV))) (hp' : p ≤ 23) : EaH n H1 rm L' Th' M' E' Si' S' gone' xs' H' where
  lx := fun i hi => (h.lx i hi).of (k _ (by lia)) (k _ (by lia))
  le := by
    by_cases q : p = 12
    · subst q; exact w
    · rw [le.resolve_left q]; exact (k _ (by lia)).trans h.le
  th := by
    by_cases q : p = 13
    · subst q; exact w
    · rw [th.resolve_left q]; exact (k _ (by lia)).trans h.th
  mo := by
    by_cases q : p = 14
    · subst q; exact w
    · rw [mo.resolve_left q]; exact (k _ (by lia)).trans h.mo
  ea := by
    by_cases q : p = 15
    · subst q; exact w
    · rw [ea.resolve_left q]; exact (k _ (by lia)).trans h.ea
  si := by
    by_cases q : p = 16
    · subst q; exact w
    · rw [si.resolve_left q]; exact (k _ (by lia)).trans h.si
  sh := by
    rcases sh with ⟨q, rfl⟩ | ⟨q, rfl⟩ <;> exact h.sh.keep fun i hi => k _ (by lia)
  ou := (k _ (by lia)).trans h.ou
  hp := by
    by_cases q : p = 22
    · subst q; exact w
    · rw [hp.resolve_left q]; exact (k _ (by lia)).trans h.hp
  go := by
    by_cases q : p = 23
    · subst q; exact w
    · rw [go.resolve_left q]; exact (k _ (by lia)).trans h.go
  old := fun j hj => (k _ (by lia)).trans (h.old j hj)
theorem EaH.le' (h : EaH n H1 rm L Th M E Si S gone xs H) (L' : Nat → Nat) : EaH n H1 rm L' Th M E Si S gone xs (upd H (n + 12) (.list (q4 L'))) :=
  h.turn (p := 12) (by decide) (fun j hj => upd_ne _ _ hj) (.inl rfl) (.inr rfl) (.inr rfl) (.inr rfl) (.inr rfl) (.inl ⟨by decide, rfl⟩) (by decide) (.inr rfl) (.inr rfl) (upd_self ..) (by decide)
theorem EaH.th' (h : EaH n H1 rm L Th M E Si S gone xs H) (L' : Nat → Nat) : EaH n H1 rm L L' M E Si S gone xs (upd H (n + 13) (.list (q4 L'))) :=
  h.turn (p := 13) (by decide) (fun j hj => upd_ne _ _ hj) (.inr rfl) (.inl rfl) (.inr rfl) (.inr rfl) (.inr rfl) (.inl ⟨by decide, rfl⟩) (by decide) (.inr rfl) (.inr rfl) (upd_self ..) (by decide)
theorem EaH.mo' (h : EaH n H1 rm L Th M E Si S gone xs H) (L' : Nat → Nat) : EaH n H1 rm L Th L' E Si S gone xs (upd H (n + 14) (.list (q4 L'))) :=
  h.turn (p := 14) (by decide) (fun j hj => upd_ne _ _ hj) (.inr rfl) (.inr rfl) (.inl rfl) (.inr rfl) (.inr rfl) (.inl ⟨by decide, rfl⟩) (by decide) (.inr rfl) (.inr rfl) (upd_self ..) (by decide)
theorem EaH.ea' (h : EaH n H1 rm L Th M E Si S gone xs H) (L' : Nat → Nat) : EaH n H1 rm L Th M L' Si S gone xs (upd H (n + 15) (.list (q4 L'))) :=
  h.turn (p := 15) (by decide) (fun j hj => upd_ne _ _ hj) (.inr rfl) (.inr rfl) (.inr rfl) (.inl rfl) (.inr rfl) (.inl ⟨by decide, rfl⟩) (by decide) (.inr rfl) (.inr rfl) (upd_self ..) (by decide)
theorem EaH.si' (h : EaH n H1 rm L Th M E Si S gone xs H) (L' : Nat → Nat) : EaH n H1 rm L Th M E L' S gone xs (upd H (n + 16) (.list (q4 L'))) :=
  h.turn (p := 16) (by decide) (fun j hj => upd_ne _ _ hj) (.inr rfl) (.inr rfl) (.inr rfl) (.inr rfl) (.inl rfl) (.inl ⟨by decide, rfl⟩) (by decide) (.inr rfl) (.inr rfl) (upd_self ..) (by decide)
theorem EaH.hp' (h : EaH n H1 rm L Th M E Si S gone xs H) (xs' : List (Nat × Nat)) : EaH n H1 rm L Th M E Si S gone xs' (upd H (n + 22) (.list (xs'.map eN))) :=
  h.turn (p := 22) (by decide) (fun j hj => upd_ne _ _ hj) (.inr rfl) (.inr rfl) (.inr rfl) (.inr rfl) (.inr rfl) (.inr ⟨by decide, rfl⟩) (by decide) (.inl rfl) (.inr rfl) (upd_self ..) (by decide)
theorem EaH.go' (h : EaH n H1 rm L Th M E Si S gone xs H) (g : List Nat) : EaH n H1 rm L Th M E Si S g xs (upd H (n + 23) (.list (g.map nV))) :=
  h.turn (p := 23) (by decide) (fun j hj => upd_ne _ _ hj) (.inr rfl) (.inr rfl) (.inr rfl) (.inr rfl) (.inr rfl) (.inr ⟨by decide, rfl⟩) (by decide) (.inr rfl) (.inl rfl) (upd_self ..) (by decide)
theorem EaH.sh' (h : EaH n H1 rm L Th M E Si S gone xs H) {i : Nat} (hi : i < 4) (t v : Nat) : EaH n H1 rm L Th M E Si (up2 S i t v) gone xs (upd H (n + 17 + i) (.list (q4 (upf (S i) t v)))) where
  lx := fun j hj => (h.lx j hj).of (upd_ne _ _ (by lia)) (upd_ne _ _ (by lia))
  le := (upd_ne _ _ (by lia)).trans h.le
  th := (upd_ne _ _ (by lia)).trans h.th
  mo := (upd_ne _ _ (by lia)).trans h.mo
  ea := (upd_ne _ _ (by lia)).trans h.ea
  si := (upd_ne _ _ (by lia)).trans h.si
  sh := h.sh.set hi t v
  ou := (upd_ne _ _ (by lia)).trans h.ou
  hp := (upd_ne _ _ (by lia)).trans h.hp
  go := (upd_ne _ _ (by lia)).trans h.go
  old := fun j hj => (upd_ne _ _ (by lia)).trans (h.old j hj)
theorem EaH.lx' (h : EaH n H1 rm L Th M E Si S gone xs H) {i : Nat} (hi : i < 4) {l : List Nat} (A : LxAt H' (n + 3 * i) l) (k : ∀ j, j ≠ n + 3 * i → j ≠ n + 3 * i + 2 → H' j = H j) : EaH n H1 (rmS rm i l) L Th M E Si S gone xs H' where
  lx := fun j hj => by
    by_cases e : j = i
    · subst e; rw [show rmS rm j l j = l from if_pos rfl]; exact A
    · rw [show rmS rm i l j = rm j from if_neg e]
      exact (h.lx j hj).of (k _ (by lia) (by lia)) (k _ (by lia) (by lia))
  le := (k _ (by lia) (by lia)).trans h.le
  th := (k _ (by lia) (by lia)).trans h.th
  mo := (k _ (by lia) (by lia)).trans h.mo
  ea := (k _ (by lia) (by lia)).trans h.ea
  si := (k _ (by lia) (by lia)).trans h.si
  sh := h.sh.keep fun j hj => k _ (by lia) (by lia)
  ou := (k _ (by lia) (by lia)).trans h.ou
  hp := (k _ (by lia) (by lia)).trans h.hp
  go := (k _ (by lia) (by lia)).trans h.go
  old := fun j hj => (k _ (by lia) (by lia)).trans (h.old j hj)
end
inductive EaV (n : Nat) (vars : List (Str × V)) : Prop
  | mk (v1 : gv vars "lexers" = some (.lst (four fun i => .inst 732 (n + 3 * i)))) (v2 : gv vars "left" = some (.obj (n + 12))) (v3 : gv vars "then" = some (.obj (n + 13))) (v4 : gv vars "mouths" = some (.obj (n + 14)))
    (v5 : gv vars "eats" = some (.obj (n + 15))) (v6 : gv vars "since" = some (.obj (n + 16))) (v7 : gv vars "shares" = some (.obj (n + 21))) (v8 : gv vars "heap" = some (.obj (n + 22))) (v9 : gv vars "gone" = some (.obj (n + 23))) (v0 : gv vars "names" = some (.lst (names4.map .str)))
theorem EaV.set {n : Nat} {vars : List (Str × V)} (h : EaV n vars) (x : Str) (v : V) (hx : (["lexers", "left", "then", "mouths", "eats", "since", "shares", "heap", "gone", "names"] : List Str).all (fun y => !(y == x)) = true) : EaV n (setv x v vars) := by
  have k : ∀ y ∈ (["lexers", "left", "then", "mouths", "eats", "since", "shares", "heap", "gone", "names"] : List Str), (y == x) = false := fun y hy => by
    have := List.all_eq_true.mp hx y hy
    cases q : y == x with
    | false => rfl
    | true => rw [q] at this; cases this
  cases h with | mk v1 v2 v3 v4 v5 v6 v7 v8 v9 v0
  exact ⟨lk_hop (k _ (by simp)) v1, lk_hop (k _ (by simp)) v2, lk_hop (k _ (by simp)) v3, lk_hop (k _ (by simp)) v4, lk_hop (k _ (by simp)) v5, lk_hop (k _ (by simp)) v6, lk_hop (k _ (by simp)) v7, lk_hop (k _ (by simp)) v8, lk_hop (k _ (by simp)) v9, lk_hop (k _ (by simp)) v0⟩
theorem small_log {m : Nat} (h : m ≤ 5) : ((m : Int)).natAbs.log2 < 9000 := by
  exact (by decide : ∀ m : Fin 6, ((m.1 : Nat) : Int).natAbs.log2 < 9000) ⟨m, by lia⟩
theorem small_bits {m : Nat} (h : m ≤ 5) : Builtin.Int.intBits (m : Int) ≤ 64 := by
  exact (by decide : ∀ m : Fin 6, Builtin.Int.intBits ((m.1 : Nat) : Int) ≤ 64) ⟨m, by lia⟩
section
variable {rw : Nat → List Nat} {A : Nat → Nat} {gone free : List Nat} {G : Nat → Nat} {T : Nat} {L Th M E Si : Nat → Nat} {S : Nat → Nat → Nat} {pp : Nat → List Nat} {xs : List (Nat × Nat)}
theorem Eat.m4 (h : Eat rw A gone free G T L Th M E Si S pp xs) {t : Nat} (ht : t < 4) (hn : t ∉ gone) : M t ≤ 4 := by
  rw [h.mo t ht hn]; exact b4_le
theorem Eat.lt (h : Eat rw A gone free G T L Th M E Si S pp xs) {i t : Nat} (hi : i < 4) (ht : t ∈ rw i) : t < 4 := by
  have := (h.row i hi).subset ht
  simp only [List.mem_cons, List.not_mem_nil, or_false] at this
  lia
end
noncomputable def Rem (rw pp : Nat → List Nat) (E : Nat → Nat) (free : List Nat) (rm : Nat → List Nat) : Prop := ∀ i, i < 4 → (i ∈ free → rw i = pp i ++ rm i) ∧ (i ∉ free → rw i = pp i ++ E i :: rm i)
theorem Rem.join {rw pp rm : Nat → List Nat} {E : Nat → Nat} {i t : Nat} {fr sk q : List Nat} (h : Rem rw pp E (i :: fr) rm) (nd : (i :: fr).Nodup) (hq : rw i = (pp i ++ sk) ++ t :: q) :
    Rem rw (fun j => if j = i then pp i ++ sk else pp j) (upf E i t) fr (rmS rm i q) := fun j hj => by
  rw [List.nodup_cons] at nd
  dsimp only
  by_cases e : j = i
  · subst e
    rw [if_pos rfl, upf_self, show rmS rm j q j = q from if_pos rfl]
    exact ⟨fun k => absurd k nd.1, fun _ => hq⟩
  · rw [if_neg e, upf_ne _ _ e, show rmS rm i q j = rm j from if_neg e]
    obtain ⟨h1, h2⟩ := h j hj
    exact ⟨fun k => h1 (.tail _ k), fun k => h2 fun q => (List.mem_cons.mp q).elim e k⟩
theorem Rem.stale {rw pp rm : Nat → List Nat} {E : Nat → Nat} (h : Rem rw pp E [] rm) {t : Nat} {fr : List Nat} (hf : ∀ i, i ∈ fr ↔ i < 4 ∧ E i = t) : Rem rw (fun i => if E i = t then pp i ++ [t] else pp i) E fr rm := fun j hj => by
  have h2 := (h j hj).2 List.not_mem_nil
  dsimp only
  by_cases e : E j = t
  · rw [if_pos e]
    refine ⟨fun _ => ?_, fun k => absurd ((hf j).mpr ⟨hj, e⟩) k⟩
    rw [List.append_assoc, ← e]
    exact h2
  · rw [if_neg e]
    exact ⟨fun k => absurd ((hf j).mp k).2 e, fun _ => h2⟩
-- SEat

set_option maxRecDepth 100000
set_option maxHeartbeats 4000000
open PySem PySem.W PyProof.Rows


noncomputable abbrev octA (mu : Nat → Nat) (j : Nat) : List Int := (List.range' j (4 - j)).flatMap fun t => octs (mu t)
theorem octA_succ (mu : Nat → Nat) {j : Nat} (h : j < 4) : octA mu j = octs (mu j) ++ octA mu (j + 1) := by
  obtain ⟨m, hm⟩ : ∃ m, 4 - j = m + 1 := ⟨4 - j - 1, by lia⟩
  have : 4 - (j + 1) = m := by lia
  unfold octA
  rw [hm, this, List.range'_succ]; rfl
inductive EaL (rw : Nat → List Nat) (n : Nat) (H0 : Nat → Option AO) (i : Nat) (ys : List V) (st' : St) : Prop
  | mk (vs : List (Str × V)) (H' : Nat → Option AO) (e : st' = ⟨vs, H', n + 3 * i⟩) (ey : ys = (List.range i).map fun j => .inst 732 (n + 3 * j)) (g : ∀ j, j < i → LxAt H' (n + 3 * j) (rw j)) (g0 : ∀ k, k < n → H' k = H0 k) (hi : i ≤ 4)
inductive EaC (mu : Nat → Nat) (k n : Nat) (H0 : Nat → Option AO) (j : Nat) (ys : List V) (st' : St) : Prop
  | mk (vs : List (Str × V)) (H' : Nat → Option AO) (i : Nat) (e : st' = ⟨vs, H', n⟩) (ey : ys = (List.range j).map fun t => nV (12 ^ 4 * mu t)) (v : gv vs "octets" = some (.obj k)) (g1 : H' k = some (.iter ((octA mu 0).map .int) i)) (hd : (octA mu 0).drop i = octA mu j) (g2 : ∀ q, q ≠ k → H' q = H0 q) (hj : j ≤ 4)
inductive EaS (n : Nat) (H0 : Nat → Option AO) (i : Nat) (ys : List V) (st' : St) : Prop
  | mk (vs : List (Str × V)) (H' : Nat → Option AO) (e : st' = ⟨vs, H', n + i⟩) (ey : ys = (List.range i).map fun j => .obj (n + j)) (g : ∀ j, j < i → H' (n + j) = some (.list (q4 fun _ => 0))) (g0 : ∀ k, k < n → H' k = H0 k) (hi : i ≤ 4)
inductive EaW (rw : Nat → List Nat) (A : Nat → Nat) (n : Nat) (H1 : Nat → Option AO) (m : Nat) (st' : St) : Prop
  | mk (vars' : List (Str × V)) (H' : Nat → Option AO) (T : Nat) (gone free : List Nat) (G L Th M E Si : Nat → Nat) (S : Nat → Nat → Nat) (pp rm : Nat → List Nat) (xs : List (Nat × Nat)) (e : st' = ⟨vars', H', n + 24⟩) (em : m = (4 - gone.length) * 21 + (xs.length + free.length))
    (hv : EaV n vars') (w1 : free ≠ [] → gv vars' "hour" = some (nV T)) (w2 : gv vars' "free" = some (.lst (free.map nV))) (hE : Eat rw A gone free G T L Th M E Si S pp xs) (hH : EaH n H1 rm L Th M E Si S gone xs H') (ho : HO ltV (xs.map eN)) (hR : Rem rw pp E free rm)
inductive EaF (rw : Nat → List Nat) (A : Nat → Nat) (n : Nat) (H1 : Nat → Option AO) (T : Nat) (gone free : List Nat) (G : Nat → Nat) (S : Nat → Nat → Nat) (c j : Nat) (st' : St) : Prop
  | mk (vars' : List (Str × V)) (H' : Nat → Option AO) (fr : List Nat) (L Th M E Si : Nat → Nat) (pp rm : Nat → List Nat) (xs : List (Nat × Nat)) (e : st' = ⟨vars', H', n + 24⟩) (ef : free.drop j = fr) (ec : xs.length + fr.length = c)
    (hv : EaV n vars') (w1 : fr ≠ [] → gv vars' "hour" = some (nV T)) (hE : Eat rw A gone fr G T L Th M E Si S pp xs) (hH : EaH n H1 rm L Th M E Si S gone xs H') (ho : HO ltV (xs.map eN)) (hR : Rem rw pp E fr rm)
inductive EaI (rw pp : Nat → List Nat) (n : Nat) (H1 : Nat → Option AO) (T i : Nat) (gone : List Nat) (L Th M E Si : Nat → Nat) (S : Nat → Nat → Nat) (rm : Nat → List Nat) (xs : List (Nat × Nat)) (m : Nat) (st' : St) : Prop
  | mk (vars' : List (Str × V)) (H' : Nat → Option AO) (sk r : List Nat) (t : Nat) (e : st' = ⟨vars', H', n + 24⟩) (em : m = r.length) (hv : EaV n vars') (w1 : gv vars' "hour" = some (nV T)) (w3 : gv vars' "one" = some (nV i)) (w4 : gv vars' "thing" = some (nV t))
    (hq : rw i = (pp i ++ sk) ++ t :: r) (hs : ∀ u, u ∈ sk → u ∈ gone) (hH : EaH n H1 (rmS rm i r) L Th M E Si S gone xs H')
inductive EaD (n : Nat) (H1 : Nat → Option AO) (T t : Nat) (fr : List Nat) (gone : List Nat) (L Th M E Si : Nat → Nat) (S : Nat → Nat → Nat) (rm : Nat → List Nat) (xs : List (Nat × Nat)) (j : Nat) (st' : St) : Prop
  | mk (vars' : List (Str × V)) (H' : Nat → Option AO) (e : st' = ⟨vars', H', n + 24⟩) (hv : EaV n vars') (w1 : gv vars' "hour" = some (nV T)) (w2 : gv vars' "free" = some (.lst (fr.map nV))) (w4 : gv vars' "thing" = some (nV t))
    (hH : EaH n H1 rm L Th M E Si (fun i u => if u = t ∧ i ∈ fr.take j then T - Si i else S i u) gone xs H')
theorem EaH.congS {n : Nat} {H1 : Nat → Option AO} {rm : Nat → List Nat} {L Th M E Si : Nat → Nat} {S S' : Nat → Nat → Nat} {gone : List Nat} {xs : List (Nat × Nat)} {H : Nat → Option AO} (h : EaH n H1 rm L Th M E Si S gone xs H) (e : ∀ i t, i < 4 → t < 4 → S i t = S' i t) : EaH n H1 rm L Th M E Si S' gone xs H :=
  { h with sh := h.sh.congr e }
theorem free_one {l : List (Str × NameKind)} {x : Str} (c : Str) (h : l.lookup x = some .free) (k : ∀ p ∈ l, p.2 = .free → p.1 = c) : x = c := k _ (PySem.mem_of_lookup h) rfl
theorem drop_at {α : Type} {l : List α} {j : Nat} {x : α} (h : l[j]? = some x) : l.drop j = x :: l.drop (j + 1) := by
  obtain ⟨h1, h2⟩ := List.getElem?_eq_some_iff.mp h
  rw [List.drop_eq_getElem_cons h1, h2]
theorem map_at {α β : Type} {l : List α} {f : α → β} {j : Nat} {y : β} (h : (l.map f)[j]? = some y) : ∃ x, l[j]? = some x ∧ y = f x := by
  rw [List.getElem?_map] at h
  obtain ⟨x, h1, h2⟩ := Option.map_eq_some_iff.mp h
  exact ⟨x, h1, h2.symm⟩
section
variable {C : Fx} {st : St}
theorem b_eaten1 (H : HB C) (hd : C.d ≤ 390) (hu : C.u ≤ 1900) {rw : Nat → List Nat} (hr : ∀ i, i < 4 → (rw i).Perm [0, 1, 2, 3]) {mu : Nat → Nat} (hmu : ∀ t, (mu t).log2 ≤ 1000) {k : Nat} (hkn : k < st.nx) (hk : st.heap k = some (.iter ((octA mu 0).map .int) 0))
    {vars : List (Str × V)} (hv : vars = [(("lines" : Str), .lst (four fun i => .str (lineN (rw i)))), (("octets" : Str), .obj k), (("names" : Str), .lst (names4.map .str))]) {Q : FlowA → St → Prop}
    (h : ∀ H1 st' i, EaW rw (fun t => 12 ^ 4 * mu t) st.nx H1 (4 * 21 + 4) st' → (∀ j, j < st.nx → j ≠ k → H1 j = st.heap j) → H1 k = some (.iter ((octA mu 0).map .int) i) → (octA mu 0).drop i = [] → JX (C.into fd_eaten.scope) ((bodyAt pb 37).drop 11) st' Q) :
    JX (C.into fd_eaten.scope) (bodyAt pb 37) { st with vars := vars } Q := by
  have HBc : HB (C.into fd_eaten.scope) := H
  have hr4 : ∀ i, i < 4 → (rw i).length = 4 := fun i hi => (hr i hi).length_eq
  have hrlt : ∀ i, i < 4 → ∀ t ∈ rw i, t < 4 := fun i hi t ht => by
    have := (hr i hi).subset ht
    simp only [List.mem_cons, List.not_mem_nil, or_false] at this
    lia
  subst hv
  refine x_seq ?_
  refine x_AssignComp (by kernel_rfl) (by rfl) (by exact ⟨rfl, rfl, rfl⟩) ?_
  repeat walk_at "w"
  refine comp_1 (four fun i => .str (lineN (rw i))) (EaL rw st.nx st.heap) rfl ⟨_, _, rfl, rfl, nofun, fun _ _ => rfl, by decide⟩ (fun _ _ _ _ => rfl) ?_ ?_
  · rintro i ys x st' hx ⟨vs, H', rfl, rfl, g, g0, hi⟩
    have hi4 : i < 4 := (List.getElem?_eq_some_iff.mp hx).1
    have e := four_at (fun i => V.str (lineN (rw i))) hi4
    rw [Int.toNat_natCast, hx] at e
    cases e
    refine a_Name ?_ (by rfl) (by first | exact .inl rfl | exact .inr rfl)
    refine ts_nil ⟨fun _ => e_emit ?_, fun e => by cases e⟩
    refine ev_Shl (by exact HBc) (by rfl) ?_
    repeat walk_at "w"
    refine c_shl (C := Fx.comp (C.into fd_eaten.scope) _) H (show C.d + 1 ≤ 500 from dk hd (by decide)) (lineN_len (rw i) (Nat.le_of_eq (hr4 i hi4))) fun wc H2 hwc A2 hk2 => ?_
    dsimp only at hk2 A2
    refine ⟨by rw [List.length_map, List.length_range]; exact Nat.le_trans hi (by decide), _, _, rfl, by rw [List.range_succ, List.map_append]; rfl, fun j hj => ?_, fun k hk => (hk2 _ (by lia)).trans (g0 k hk), hi4⟩
    by_cases e : j = i
    · subst e; exact ⟨wc, _, _, hwc, A2, lineN_lex (hrlt j hi4) (fun e => by have := hr4 j hi4; rw [e] at this; cases this)⟩
    · exact (g j (by lia)).of (hk2 _ (by lia)) (hk2 _ (by lia))
  · intro ys st' hI
    replace hI : EaL rw st.nx st.heap 4 ys st' := hI
    obtain ⟨vs, H', rfl, rfl, g, g0, hi⟩ := hI
    refine ⟨fun x v hx e => ?_, ?_⟩
    · exact free_no hx (by decide)
    refine thn_next ?_
    dsimp only
    show JX _ _ ⟨setv "lexers" (.lst (four fun i => .inst 732 (st.nx + 3 * i))) _, H', st.nx + 12⟩ _
    clear vs
    refine x_seq ?_
    refine x_AssignCompO (by kernel_rfl) (by rfl) (by exact ⟨rfl, rfl, rfl⟩) ?_
    refine ev_CallT (t_range (by exact HBc)) (by rfl) ?_
    repeat walk_at "w"
    refine b_range1 ?_
    refine comp_1 ((List.range 4).map nV) (EaC mu k (st.nx + 12) H') (itb_rngN _ 4 (by decide)) ⟨_, _, 0, rfl, rfl, by walk_at "lk", (g0 k hkn).trans hk, rfl, fun _ _ => rfl, by decide⟩ (fun _ _ st' _ => itb_rngN st' 4 (by decide)) ?_ ?_
    · rintro j ys x st' hx ⟨vs, H2, i2, rfl, rfl, v, q1, q2, q3, hj⟩
      obtain ⟨rfl, hj4⟩ := range_at hx
      rw [octA_succ mu hj4] at q2
      obtain ⟨b₀, r₀, e₀, p0, p1, pr⟩ := octs_rd (mu j) (octA mu (j + 1))
      refine a_Name ?_ (by rfl) (by first | exact .inl rfl | exact .inr rfl)
      refine ts_nil ⟨fun _ => e_emit ?_, fun e => by cases e⟩
      repeat walk_at "w"
      refine op_pow (by decide) (by decide) ?_
      refine ev_CallC (by exact HBc) (g_var (by exact HBc)) var_keep (by rfl) ?_
      repeat walk_at "w"
      refine JC.jv (c_var (C := Fx.comp (C.into fd_eaten.scope) _) H (show C.d + 1 ≤ 900 from dk hd (by decide)) (xs := octA mu 0) (i := i2) (n := (mu j : Int)) (by exact q1) (q2.trans e₀) p0 p1 pr (by rw [Int.natAbs_natCast]; exact hmu j) fun i' hi' => ?_)
      refine op_mul ?_ (IntMulOk.of_left (by decide))
      refine ⟨by rw [List.length_map, List.length_range]; exact Nat.le_trans hj (by decide), _, _, i', rfl, ?_, by walk_at "lk", upd_self _ _ _, hi', fun q hq => (upd_ne _ _ hq).trans (q3 q hq), hj4⟩
      rw [List.range_succ, List.map_append]; rfl
    · intro ys st' hI
      replace hI : EaC mu k (st.nx + 12) H' 4 ys st' := hI
      obtain ⟨vs, H2, i2, rfl, rfl, v, q1, q2, q3, hj⟩ := hI
      refine ⟨fun x w hx e => ?_, ?_⟩
      · obtain rfl := free_one "octets" hx (by decide)
        exact v.trans ((show _ = some (V.obj k) by walk_at "lk").symm.trans e)
      refine thn_next ?_
      dsimp only
      clear v vs
      have q1' : H2 k = some (.iter ((octA mu 0).map .int) i2) := q1
      have qe : (octA mu 0).drop i2 = [] := q2
      have gL : ∀ i, i < 4 → LxAt H2 (st.nx + 3 * i) (rw i) := fun i hi => (g i hi).of (q3 _ (by lia)) (q3 _ (by lia))
      have gO : ∀ j, j < st.nx → j ≠ k → H2 j = st.heap j := fun j hj hjk => (q3 _ hjk).trans (g0 j hj)
      clear q1 q2 q3 g g0 hi hj hk H'
      refine x_seq ?_
      refine x_Assign ?_ (by rfl)
      refine ev_ListO ?_
      repeat walk_at "w"
      refine ⟨Nat.le_of_ble_eq_true rfl, ?_⟩
      refine thn_next ?_
      dsimp only
      refine x_seq ?_
      refine x_Assign ?_ (by rfl)
      refine ev_ListO ?_
      repeat walk_at "w"
      refine ⟨Nat.le_of_ble_eq_true rfl, ?_⟩
      refine thn_next ?_
      dsimp only
      refine x_seq ?_
      refine x_Assign ?_ (by rfl)
      refine ev_ListO ?_
      repeat walk_at "w"
      refine ⟨Nat.le_of_ble_eq_true rfl, ?_⟩
      refine thn_next ?_
      dsimp only
      refine x_seq ?_
      refine x_Assign ?_ (by rfl)
      refine ev_ListO ?_
      repeat walk_at "w"
      refine ⟨Nat.le_of_ble_eq_true rfl, ?_⟩
      refine thn_next ?_
      dsimp only
      refine x_seq ?_
      refine x_AssignCompO (by kernel_rfl) (by rfl) (by exact ⟨rfl, rfl, rfl⟩) ?_
      repeat walk_at "w"
      refine comp_1 (four fun i => .str (lineN (rw i))) (EaS (st.nx + 17) _) rfl ⟨_, _, rfl, rfl, nofun, fun _ _ => rfl, by decide⟩ (fun _ _ _ _ => rfl) ?_ ?_
      · rintro i ys x st' hx ⟨vs, H', rfl, rfl, g, g0, hi⟩
        have hi4 : i < 4 := (List.getElem?_eq_some_iff.mp hx).1
        have e := four_at (fun i => V.str (lineN (rw i))) hi4
        rw [Int.toNat_natCast, hx] at e
        cases e
        refine a_Name ?_ (by rfl) (by first | exact .inl rfl | exact .inr rfl)
        refine ts_nil ⟨fun _ => e_emit ?_, fun e => by cases e⟩
        refine ev_ListO ?_
        repeat walk_at "w"
        refine ⟨Nat.le_of_ble_eq_true rfl, ?_⟩
        refine ⟨by rw [List.length_map, List.length_range]; exact Nat.le_trans hi (by decide), _, _, rfl, by rw [List.range_succ, List.map_append]; rfl, fun j hj => ?_, fun k hk => (upd_ne _ _ (by lia)).trans (g0 k hk), hi4⟩
        by_cases e : j = i
        · subst e; exact upd_self _ _ _
        · exact (upd_ne _ _ (by lia)).trans (g j (by lia))
      · intro ys st' hI
        replace hI : EaS (st.nx + 17) _ 4 ys st' := hI
        obtain ⟨vs, H3, rfl, rfl, g, g0, hi⟩ := hI
        refine ⟨fun x v hx e => ?_, ?_⟩
        · exact free_no hx (by decide)
        refine thn_next ?_
        dsimp only
        clear vs
        refine x_seq ?_
        refine x_Assign ?_ (by rfl)
        walk_at "w"
        refine thn_next ?_
        dsimp only
        refine x_seq ?_
        refine x_Assign ?_ (by rfl)
        refine ev_ListO ?_
        repeat walk_at "w"
        refine ⟨Nat.le_of_ble_eq_true rfl, ?_⟩
        refine thn_next ?_
        dsimp only
        refine x_seq ?_
        refine x_Assign ?_ (by rfl)
        refine ev_ListO ?_
        repeat walk_at "w"
        refine ⟨Nat.le_of_ble_eq_true rfl, ?_⟩
        refine thn_next ?_
        dsimp only
        refine x_seq ?_
        refine x_Assign ?_ (by rfl)
        refine ev_List ?_
        repeat walk_at "w"
        refine ⟨Nat.le_of_ble_eq_true rfl, ?_⟩
        refine thn_next ?_
        dsimp only
        refine h H2 _ i2 ⟨_, _, 0, [], [0, 1, 2, 3], _, _, _, _, _, _, _, _, rw, _, rfl, rfl, ?_, fun _ => by walk_at "lk", by walk_at "lk", Eat.start hr fun t _ => Nat.dvd_mul_right _ _, ?_, ?_, fun i hi => ⟨fun _ => rfl, fun hn => absurd (show i ∈ [0, 1, 2, 3] by simp only [List.mem_cons, List.not_mem_nil, or_false]; lia) hn⟩⟩ gO q1' qe
        · exact ⟨by walk_at "lk", by walk_at "lk", by walk_at "lk", by walk_at "lk", by walk_at "lk", by walk_at "lk", by walk_at "lk", by walk_at "lk", by walk_at "lk", by walk_at "lk"⟩
        · have old : ∀ j, j < st.nx + 17 → H3 j = _ := g0
          refine ⟨fun i hi => (gL i hi).of ?_ ?_, ?_, ?_, ?_, ?_, ?_, .of fun i hi => ?_, ?_, ?_, ?_, fun j hj => ?_⟩
          · exact (upd_ne _ _ (by lia)).trans ((upd_ne _ _ (by lia)).trans ((upd_ne _ _ (by lia)).trans ((old _ (by lia)).trans (((upd_ne _ _ (by lia)).trans ((upd_ne _ _ (by lia)).trans ((upd_ne _ _ (by lia)).trans ((upd_ne _ _ (by lia)).trans (upd_ne _ _ (by lia))))))))))
          · exact (upd_ne _ _ (by lia)).trans ((upd_ne _ _ (by lia)).trans ((upd_ne _ _ (by lia)).trans ((old _ (by lia)).trans (((upd_ne _ _ (by lia)).trans ((upd_ne _ _ (by lia)).trans ((upd_ne _ _ (by lia)).trans ((upd_ne _ _ (by lia)).trans (upd_ne _ _ (by lia))))))))))
          · exact (upd_ne _ _ (by lia)).trans ((upd_ne _ _ (by lia)).trans ((upd_ne _ _ (by lia)).trans ((old _ (by lia)).trans ((upd_ne _ _ (by lia)).trans ((upd_ne _ _ (by lia)).trans ((upd_ne _ _ (by lia)).trans ((upd_ne _ _ (by lia)).trans (upd_self _ _ _))))))))
          · exact (upd_ne _ _ (by lia)).trans ((upd_ne _ _ (by lia)).trans ((upd_ne _ _ (by lia)).trans ((old _ (by lia)).trans ((upd_ne _ _ (by lia)).trans ((upd_ne _ _ (by lia)).trans ((upd_ne _ _ (by lia)).trans (upd_self _ _ _)))))))
          · exact (upd_ne _ _ (by lia)).trans ((upd_ne _ _ (by lia)).trans ((upd_ne _ _ (by lia)).trans ((old _ (by lia)).trans ((upd_ne _ _ (by lia)).trans ((upd_ne _ _ (by lia)).trans (upd_self _ _ _))))))
          · exact (upd_ne _ _ (by lia)).trans ((upd_ne _ _ (by lia)).trans ((upd_ne _ _ (by lia)).trans ((old _ (by lia)).trans ((upd_ne _ _ (by lia)).trans (upd_self _ _ _)))))
          · exact (upd_ne _ _ (by lia)).trans ((upd_ne _ _ (by lia)).trans ((upd_ne _ _ (by lia)).trans ((old _ (by lia)).trans (upd_self _ _ _))))
          · exact (upd_ne _ _ (by lia)).trans ((upd_ne _ _ (by lia)).trans ((upd_ne _ _ (by lia)).trans (g i hi)))
          · exact (upd_ne _ _ (by lia)).trans ((upd_ne _ _ (by lia)).trans (upd_self _ _ _))
          · exact (upd_ne _ _ (by lia)).trans (upd_self _ _ _)
          · exact upd_self _ _ _
          · exact (upd_ne _ _ (by lia)).trans ((upd_ne _ _ (by lia)).trans ((upd_ne _ _ (by lia)).trans ((old _ (by lia)).trans (((upd_ne _ _ (by lia)).trans ((upd_ne _ _ (by lia)).trans ((upd_ne _ _ (by lia)).trans ((upd_ne _ _ (by lia)).trans (upd_ne _ _ (by lia))))))))))
        · exact fun i hi => by simp at hi
end
-- SEat2

set_option maxRecDepth 100000
set_option maxHeartbeats 4000000
open PySem PySem.W PyProof.Rows


theorem rmS_rmS (rm : Nat → List Nat) (i : Nat) (l l' : List Nat) : rmS (rmS rm i l) i l' = rmS rm i l' := by
  funext j; unfold rmS; split <;> rfl
section
variable {C : Fx} {st : St}
theorem op_notInN {v : V} {l : List Nat} {x : Nat} {Q : V → St → Prop} (hv : Lis st v (l.map nV)) (hu : C.u ≤ 5000) (h : Q (.bool (decide (x ∉ l))) st) : JV C VR [nV x, v] (two (compareOp .NotIn)) st Q :=
  op_notInI (l := l.map fun n : Nat => (n : Int)) (by rw [← map_nV]; exact hv) hu (by rw [decide_eq_decide.mpr mem_cast, ← decide_not]; exact h)
theorem b_eaten2 (H : HB C) (hd : C.d ≤ 390) (hu : C.u ≤ 1900) {rw : Nat → List Nat} {A : Nat → Nat} {n : Nat} {H1 : Nat → Option AO} {m : Nat} {st' : St} (hI : EaW rw A n H1 m st') {Q : FlowA → St → Prop}
    (h : ∀ vars H' nx G S, (∀ j, j < n → H' j = H1 j) → Serial rw A G S → Q (.ret (shV S)) ⟨vars, H', nx⟩) : JX (C.into fd_eaten.scope) ((bodyAt pb 37).drop 11) st' Q := by
  have HBc : HB (C.into fd_eaten.scope) := H
  refine x_seq ?_
  refine x_While (EaW rw A n H1) m hI ?_
  clear hI m st'
  rintro m st' ⟨vars', H', T, gone, free, G, L, Th, M, E, Si, S, pp, rm, xs, rfl, rfl, hv, w1, w2, hE, hH, ho, hR⟩
  have hgl := sub_len4 hE.gnd hE.glt
  have hsz := hE.sz
  refine tt_Compare ?_
  refine ev_CallB (t_len (by exact HBc)) (by rfl) ?_
  obtain ⟨v1, v2, v3, v4, v5, v6, v7, v8, v9, v0⟩ := id hv
  repeat walk_at "w"
  refine b_len (xs := gone.map nV) hH.go (by rw [List.length_map]; lia) ?_
  repeat walk_at "w"
  refine ⟨fun hc => ?_, fun hc => ?_⟩
  · have hg : gone.length < 4 := by
      have := of_decide_eq_true hc
      rw [List.length_map] at this
      lia
    clear hc
    refine x_seq ?_
    refine x_For ?_
    walk_at "w"
    clear v1 v2 v3 v4 v5 v6 v7 v8 v9 v0
    refine ⟨free.map nV, EaF rw A n H1 T gone free G S (xs.length + free.length), ⟨_, _, free, L, Th, M, E, Si, pp, rm, xs, rfl, rfl, rfl, hv, w1, hE, hH, ho, hR⟩, fun _ _ _ => rfl, ?_, ?_⟩
    · rintro j x st' hx ⟨vars', H', fr, L, Th, M, E, Si, pp, rm, xs', rfl, ef, ec, hv, w1, hE, hH, ho, hR⟩
      obtain ⟨i, hi, rfl⟩ := map_at hx
      obtain rfl := ef.symm.trans (drop_at hi)
      generalize hfr : free.drop (j + 1) = fr at *
      have nd := hE.fnd
      have w1 := w1 (by simp)
      have hi4 := hE.flt i (.head _)
      have hsz := hE.sz
      have hq0 := (hR i hi4).1 (.head _)
      obtain ⟨t, r, er, ht⟩ := hE.more hg hi4 hq0 (fun t ht => hE.pg i hi4 t ht)
      have A1 := hH.lx i hi4
      rw [er] at A1 hq0
      clear ef hi hx
      obtain ⟨v1, v2, v3, v4, v5, v6, v7, v8, v9, v0⟩ := id hv
      refine a_Name ?_ (by rfl) (by first | exact .inl rfl | exact .inr rfl)
      refine x_seq ?_
      refine x_Assign ?_ (by rfl)
      refine ev_MethL PySem.F.slot_list_index PySem.F.type_list_index ?_
      walk_at "w"
      refine ⟨⟨_, rfl⟩, ?_⟩
      refine l_cons ?_
      refine ev_gtN (n := n + 3 * i) (C := C.into fd_eaten.scope) HBc (show C.d + 1 ≤ 500 from dk hd (by decide)) A1 (by (repeat walk_at "w"); refine sub_lst (by lia) (four_at _ hi4) (by lia) ?_; exact ⟨rfl, rfl⟩) fun H2 A2 hk2 => ?_
      refine l_nil ?_
      refine m_indexNm ht (show C.u + 3 ≤ 5000 from dk hu (by decide)) ?_
      refine thn_next ?_
      dsimp only
      refine x_seq ?_
      refine x_While (EaI rw pp n H1 T i gone L Th M E Si S rm xs') r.length ⟨_, _, [], r, t, rfl, rfl, (hv.set _ _ (by decide +kernel)).set _ _ (by decide +kernel), by walk_at "lk", by walk_at "lk", by walk_at "lk", by rw [List.append_nil]; exact hq0, nofun, hH.lx' hi4 A2 hk2⟩ ?_
      clear v1 v2 v3 v4 v5 v6 v7 v8 v9 v0 hv A1 A2 hk2 H2 hq0 er hH w1 H' ht t
      rintro m st' ⟨vars', H', sk, r, t, rfl, rfl, hv, w1, w3, w4, hq, hs, hH⟩
      obtain ⟨v1, v2, v3, v4, v5, v6, v7, v8, v9, v0⟩ := id hv
      repeat walk_at "w"
      refine op_inN hH.go (show C.u + 3 ≤ 5000 from dk hu (by decide)) ?_
      walk_at "w"
      refine ⟨fun hc => ?_, fun hc => ?_⟩
      · have hin : t ∈ gone := of_decide_eq_true hc
        obtain ⟨t', r', rfl, ht'⟩ := hE.more hg hi4 (p := pp i ++ sk ++ [t]) (q := r) (by rw [hq]; simp) (fun u hu => by
          rcases List.mem_append.mp hu with hu | hu
          · rcases List.mem_append.mp hu with hu | hu
            · exact hE.pg i hi4 u hu
            · exact hs u hu
          · rw [List.mem_singleton.mp hu]; exact hin)
        have A1 := hH.lx i hi4
        rw [show rmS rm i (t' :: r') i = t' :: r' from if_pos rfl] at A1
        refine x_seq ?_
        refine x_Assign ?_ (by rfl)
        refine ev_MethL PySem.F.slot_list_index PySem.F.type_list_index ?_
        walk_at "w"
        refine ⟨⟨_, rfl⟩, ?_⟩
        refine l_cons ?_
        refine ev_gtN (n := n + 3 * i) (C := C.into fd_eaten.scope) HBc (show C.d + 1 ≤ 500 from dk hd (by decide)) A1 (by (repeat walk_at "w"); refine sub_lst (by lia) (four_at _ hi4) (by lia) ?_; exact ⟨rfl, rfl⟩) fun H2 A2 hk2 => ?_
        refine l_nil ?_
        refine m_indexNm ht' (show C.u + 3 ≤ 5000 from dk hu (by decide)) ?_
        refine thn_next ?_
        refine x_nil ?_
        refine ⟨r'.length, Nat.lt_succ_self _, _, _, sk ++ [t], r', t', rfl, rfl, hv.set _ _ (by decide +kernel), by walk_at "lk", by walk_at "lk", by walk_at "lk", by rw [hq]; simp, fun u hu => ?_, ?_⟩
        · rcases List.mem_append.mp hu with hu | hu
          · exact hs u hu
          · rw [List.mem_singleton.mp hu]; exact hin
        · have := hH.lx' hi4 A2 hk2
          rw [rmS_rmS] at this
          exact this
      · have hn : t ∉ gone := of_decide_eq_false hc
        have ht : t < 4 := hE.lt hi4 (by rw [hq]; simp)
        have hm4 := hE.m4 ht hn
        have hroom := hE.room ht hn
        have hThT := hE.tT t ht hn
        have eL : (L t : Int) - ((T : Int) - (Th t : Int)) * (M t : Int) = ((L t - (T - Th t) * M t : Nat) : Int) := by
          rw [Int.ofNat_sub hroom, Int.natCast_mul, Int.ofNat_sub hThT]
        refine x_nil ?_
        refine thn_next ?_
        clear hc
        refine x_seq ?_
        refine x_SetItem ?_
        repeat walk_at "w"
        refine set_obj hH.ea (by lia) (by rw [q4_len]; lia) (by lia) ?_
        rw [q4_set _ hi4]
        replace hH := hH.ea' (upf E i t)
        refine thn_next ?_
        dsimp only
        generalize upd H' (n + 15) _ = H2 at hH ⊢
        clear H'
        refine x_seq ?_
        refine x_SetItem ?_
        repeat walk_at "w"
        refine set_obj hH.si (by lia) (by rw [q4_len]; lia) (by lia) ?_
        rw [q4_set _ hi4]
        replace hH := hH.si' (upf Si i T)
        refine thn_next ?_
        dsimp only
        generalize upd H2 (n + 16) _ = H3 at hH ⊢
        clear H2
        refine x_seq ?_
        refine x_SetItem ?_
        repeat walk_at "w"
        refine sub_obj hH.le (by lia) (q4_at _ ht) (by lia) ?_
        repeat walk_at "w"
        refine sub_obj hH.th (by lia) (q4_at _ ht) (by lia) ?_
        repeat walk_at "w"
        refine sub_obj hH.mo (by lia) (q4_at _ ht) (by lia) ?_
        refine op_mul ?_ (IntMulOk.of_right (small_bits (by lia)))
        repeat walk_at "w"
        rw [eL]
        generalize eLv : L t - (T - Th t) * M t = Lv at *
        refine set_obj hH.le (by lia) (by rw [q4_len]; lia) (by lia) ?_
        rw [q4_set _ ht]
        replace hH := hH.le' (upf L t Lv)
        refine thn_next ?_
        dsimp only
        generalize upd H3 (n + 12) _ = H2 at hH ⊢
        clear H3
        refine x_seq ?_
        refine x_SetItem ?_
        repeat walk_at "w"
        refine set_obj hH.th (by lia) (by rw [q4_len]; lia) (by lia) ?_
        rw [q4_set _ ht]
        replace hH := hH.th' (upf Th t T)
        refine thn_next ?_
        dsimp only
        generalize upd H2 (n + 13) _ = H3 at hH ⊢
        clear H2
        refine x_seq ?_
        refine x_SetItem ?_
        repeat walk_at "w"
        refine sub_obj hH.mo (by lia) (q4_at _ ht) (by lia) ?_
        repeat walk_at "w"
        rw [show (M t : Int) + 1 = ((M t + 1 : Nat) : Int) from rfl]
        refine set_obj hH.mo (by lia) (by rw [q4_len]; lia) (by lia) ?_
        rw [q4_set _ ht]
        replace hH := hH.mo' (upf M t (M t + 1))
        refine thn_next ?_
        dsimp only
        generalize upd H3 (n + 14) _ = H2 at hH ⊢
        clear H3
        refine x_seq ?_
        refine x_Expr ?_
        refine ev_CallC (by exact HBc) (g_hpush (by exact HBc)) hpush_keep (by rfl) ?_
        repeat walk_at "w"
        refine sub_obj (x := nV Lv) hH.le (by lia) (by rw [q4_at _ ht, upf_self]) (by lia) ?_
        repeat walk_at "w"
        refine sub_obj (x := nV (M t + 1)) hH.mo (by lia) (by rw [q4_at _ ht, upf_self]) (by lia) ?_
        refine op_fdiv (by lia) (small_log (by lia)) ?_
        repeat walk_at "w"
        rw [show (T : Int) + (Lv : Int) / ((M t + 1 : Nat) : Int) = ((T + Lv / (M t + 1) : Nat) : Int) from rfl]
        refine ⟨Nat.le_of_ble_eq_true rfl, ?_⟩
        repeat walk_at "w"
        refine JC.jv (c_hpush (C := C.into fd_eaten.scope) (p := (((T + Lv / (M t + 1) : Nat) : Int), (t : Int))) H (show C.d + 1 ≤ 600 from dk hd (by decide)) (show C.u + 3 ≤ 3000 from dk hu (by decide)) hH.hp (eN_pair _) ho (by rw [List.length_map]; lia) fun ys hp' ho' => ?_)
        obtain ⟨h', hp2, rfl⟩ := eN_push (x := (T + Lv / (M t + 1), t)) hp'
        refine ⟨rfl, ?_⟩
        refine thn_next ?_
        refine x_nil ?_
        have hE2 := hE.join rfl hq hs hn (xs' := h') (by rw [eLv]; exact hp2)
        rw [eLv] at hE2
        have hlen := hp2.length_eq
        rw [List.length_cons] at hlen ec
        exact ⟨_, _, fr, _, _, _, _, _, _, _, h', rfl, hfr, by lia, hv, fun _ => w1, hE2, hH.hp' h', ho', hR.join nd hq⟩
    · intro st' hF
      have hF2 : EaF rw A n H1 T gone free G S (xs.length + free.length) free.length st' := by rw [List.length_map] at hF; exact hF
      clear hF hv w1 w2 hE hH ho hR
      obtain ⟨vars', H', fr, L, Th, M, E, Si, pp, rm, xs', rfl, ef, ec, hv, w1, hE, hH, ho, hR⟩ := hF2
      rw [List.drop_length] at ef
      subst ef
      have hne := hE.tick
      have hsz := hE.sz
      obtain ⟨v1, v2, v3, v4, v5, v6, v7, v8, v9, v0⟩ := id hv
      refine x_nil ?_
      refine thn_next ?_
      refine x_seq ?_
      refine x_AssignT ?_
      refine ev_CallC (by exact HBc) (g_hpop (by exact HBc)) hpop_keep (by rfl) ?_
      repeat walk_at "w"
      refine JC.jv (c_hpop (C := C.into fd_eaten.scope) H (show C.d + 1 ≤ 500 from dk hd (by decide)) (show C.u + 3 ≤ 2500 from dk hu (by decide)) (xs := xs'.map eN) hH.hp (eN_pair _) ho (by rw [List.length_map]; lia) (fun e => hne (List.map_eq_nil_iff.mp e)) fun v ys hp' ho' hle => ?_)
      obtain ⟨x, h', rfl, rfl, hp2, hl2⟩ := eN_pop hp' hle
      have hlen := hp2.length_eq
      rw [List.length_cons] at hlen
      replace hH := hH.hp' h'
      refine a_Tup2 ?_ (by rfl) (by rfl) (by first | exact .inl rfl | exact .inr rfl) (by first | exact .inl rfl | exact .inr rfl)
      refine thn_next ?_
      dsimp only
      generalize upd H' (n + 22) _ = H2 at hH ⊢
      clear H'
      refine x_seq ?_
      refine x_AssignComp (by kernel_rfl) (by rfl) (by exact ⟨rfl, rfl, rfl⟩) ?_
      refine ev_CallT (t_range (by exact HBc)) (by rfl) ?_
      repeat walk_at "w"
      refine b_range1 ?_
      refine comp_filtN (List.range 4) (fun i => decide (E i = x.2) && decide (x.2 ∉ gone)) (itb_rngN _ 4 (by decide)) (by decide) (by rfl) (by first | exact .inl rfl | exact .inr rfl) (fun i hi => ?_) ?_
      · have hi4 := List.mem_range.mp hi
        refine ts_one ?_
        repeat walk_at "w"
        refine sub_obj hH.ea (by lia) (q4_at _ hi4) (by lia) ?_
        repeat walk_at "w"
        refine op_eqI (show C.u + 3 ≤ 9000 from dk hu (by decide)) ?_
        walk_at "w"
        have ee : decide ((E i : Int) = (x.2 : Int)) = decide (E i = x.2) := decide_eq_decide.mpr (by lia)
        rw [ee]
        refine ⟨fun hc => ?_, fun hc => ?_⟩
        · rw [hc]
          repeat walk_at "w"
          refine op_notInN hH.go (show C.u + 3 ≤ 5000 from dk hu (by decide)) ?_
          walk_at "w"
          refine ⟨fun hc2 => ?_, fun hc2 => ?_⟩
          · rw [hc2]
            repeat walk_at "w"
            exact ⟨rfl, rfl⟩
          · rw [hc2]
            exact ⟨rfl, rfl⟩
        · rw [hc]
          exact ⟨rfl, rfl⟩
      have hm : ∀ i, (i ∈ (List.range 4).filter fun i => decide (E i = x.2) && decide (x.2 ∉ gone)) ↔ (i < 4 ∧ E i = x.2) ∧ x.2 ∉ gone := fun i => by
        rw [List.mem_filter, List.mem_range, Bool.and_eq_true, decide_eq_true_iff, decide_eq_true_iff, and_assoc]
      have hnd : ((List.range 4).filter fun i => decide (E i = x.2) && decide (x.2 ∉ gone)).Nodup := List.nodup_range.filter _
      generalize (List.range 4).filter (fun i => decide (E i = x.2) && decide (x.2 ∉ gone)) = fr at hm hnd
      replace hv : EaV n (setv "thing" (nV x.2) (setv "hour" (nV x.1) vars')) := (hv.set _ _ (by decide +kernel)).set _ _ (by decide +kernel)
      have w4 : gv (setv "thing" (nV x.2) (setv "hour" (nV x.1) vars')) "thing" = some (nV x.2) := by walk_at "lk"
      have w5 : gv (setv "thing" (nV x.2) (setv "hour" (nV x.1) vars')) "hour" = some (nV x.1) := by walk_at "lk"
      refine thn_next ?_
      dsimp only
      clear v1 v2 v3 v4 v5 v6 v7 v8 v9 v0
      generalize setv "thing" (nV x.2) (setv "hour" (nV x.1) vars') = vars'' at hv w4 w5 ⊢
      by_cases hg2 : x.2 ∈ gone
      · obtain rfl : fr = [] := List.eq_nil_iff_forall_not_mem.mpr fun i hi => ((hm i).mp hi).2 hg2
        refine x_seq ?_
        refine x_For ?_
        walk_at "w"
        refine ⟨[], fun _ st' => st' = ⟨setv "free" (.lst []) vars'', H2, n + 24⟩, rfl, fun _ _ _ => rfl, fun i x st' hx => by simp at hx, ?_⟩
        rintro st' rfl
        replace hv := hv.set "free" (.lst []) (by decide +kernel)
        obtain ⟨v1, v2, v3, v4, v5, v6, v7, v8, v9, v0⟩ := id hv
        refine x_nil ?_
        refine thn_next ?_
        refine x_seq ?_
        refine x_If ?_
        repeat walk_at "w"
        refine op_notInN hH.go (show C.u + 3 ≤ 5000 from dk hu (by decide)) ?_
        walk_at "w"
        refine ⟨fun hc => absurd hg2 (of_decide_eq_true hc), fun _ => ?_⟩
        refine x_nil ?_
        refine thn_next ?_
        refine x_nil ?_
        refine ⟨(4 - gone.length) * 21 + (h'.length + 0), ?_, _, _, T, gone, [], G, L, Th, M, E, Si, S, pp, rm, h', rfl, rfl, hv, fun e => absurd rfl e, by walk_at "lk", hE.stale hp2 hg2, hH, ho', hR⟩
        have : ([] : List Nat).length = 0 := rfl
        lia
      · have hf : ∀ i, i ∈ fr ↔ i < 4 ∧ E i = x.2 := fun i => (hm i).trans ⟨fun k => k.1, fun k => ⟨k, hg2⟩⟩
        obtain ⟨hx4, _, _, hTx⟩ := hE.hour hp2 hg2 hl2
        have hE2 := hE.pop hp2 hg2 hl2 hnd hf
        have hsi : ∀ i, i < 4 → Si i ≤ x.1 := fun i hi => by
          have k1 := hE.le i hi List.not_mem_nil
          have k2 := hE.bu i hi List.not_mem_nil
          have k3 := hE.tT (E i) (hE.lt hi (by obtain ⟨_, _, r, e⟩ := k2; rw [e]; simp)) k2.1
          lia
        refine x_seq ?_
        refine x_For ?_
        walk_at "w"
        refine ⟨fr.map nV, EaD n H1 x.1 x.2 fr gone L Th M E Si S rm h', ⟨_, _, rfl, hv.set _ _ (by decide +kernel), by walk_at "lk", by walk_at "lk", by walk_at "lk", hH.congS fun i t _ _ => by rw [List.take_zero, if_neg fun k => List.not_mem_nil k.2]⟩, fun _ _ _ => rfl, ?_, ?_⟩
        · rintro j y st' hy ⟨vars3, H3, rfl, hv, w5, w2, w4, hH⟩
          obtain ⟨i, hi, rfl⟩ := map_at hy
          have hif := List.mem_of_getElem? hi
          obtain ⟨hi4, hEi⟩ := (hf i).mp hif
          obtain ⟨v1, v2, v3, v4, v5, v6, v7, v8, v9, v0⟩ := id hv
          refine a_Name ?_ (by rfl) (by first | exact .inl rfl | exact .inr rfl)
          refine x_seq ?_
          refine x_SetItem ?_
          repeat walk_at "w"
          refine sub_obj hH.si (by lia) (q4_at _ hi4) (by lia) ?_
          repeat walk_at "w"
          rw [show (x.1 : Int) - (Si i : Int) = ((x.1 - Si i : Nat) : Int) from (Int.ofNat_sub (hsi i hi4)).symm]
          refine sub_obj hH.ou (by lia) (four_at _ hi4) (by lia) ?_
          repeat walk_at "w"
          refine set_obj (hH.sh.at_ hi4) (by lia) (by rw [q4_len]; lia) (by lia) ?_
          rw [q4_set _ hx4]
          refine thn_next ?_
          refine x_nil ?_
          refine ⟨_, _, rfl, hv.set _ _ (by decide +kernel), by walk_at "lk", by walk_at "lk", by walk_at "lk", (hH.sh' hi4 x.2 (x.1 - Si i)).congS fun k t hk ht => ?_⟩
          have et : fr.take (j + 1) = fr.take j ++ [i] := by rw [List.take_add_one, hi]; rfl
          rw [et]
          unfold up2
          by_cases e : k = i
          · subst e
            rw [if_pos rfl]
            by_cases q : t = x.2
            · subst q
              rw [upf_self, if_pos ⟨rfl, by simp⟩]
            · rw [upf_ne _ _ q, if_neg fun z => q z.1]
              exact if_neg fun z => q z.1
          · rw [if_neg e]
            simp only [List.mem_append, List.mem_singleton, e, or_false]
        · intro st' hD
          have hD2 : EaD n H1 x.1 x.2 fr gone L Th M E Si S rm h' fr.length st' := by rw [List.length_map] at hD; exact hD
          clear hD hv w5 w4 hH
          obtain ⟨vars3, H3, rfl, hv, w5, w2, w4, hH⟩ := hD2
          rw [List.take_length] at hH
          have hsz2 := hE2.sz
          obtain ⟨v1, v2, v3, v4, v5, v6, v7, v8, v9, v0⟩ := id hv
          refine x_nil ?_
          refine thn_next ?_
          refine x_seq ?_
          refine x_If ?_
          repeat walk_at "w"
          refine op_notInN hH.go (show C.u + 3 ≤ 5000 from dk hu (by decide)) ?_
          walk_at "w"
          refine ⟨fun _ => ?_, fun hc => absurd hg2 (fun k => absurd (decide_eq_true k) (by simpa using hc))⟩
          refine x_seq ?_
          refine x_Expr ?_
          refine ev_MethO PySem.F.slot_list_append PySem.F.type_list_append ?_
          repeat walk_at "w"
          refine ⟨⟨_, _, rfl, hH.go⟩, ?_⟩
          repeat walk_at "w"
          refine m_append hH.go (by rw [List.length_map]; exact Nat.le_trans hgl (by decide)) ?_
          refine ⟨rfl, ?_⟩
          refine thn_next ?_
          refine x_nil ?_
          refine thn_next ?_
          refine x_nil ?_
          have hH2 := hH.go' (gone ++ [x.2])
          rw [List.map_append] at hH2
          refine ⟨(4 - (gone ++ [x.2]).length) * 21 + (h'.length + fr.length), ?_, _, _, x.1, gone ++ [x.2], fr, _, L, Th, M, E, Si, _, _, rm, h', rfl, rfl, hv, fun _ => w5, w2, hE2, hH2, ho', hR.stale hf⟩
          have e1 : (gone ++ [x.2]).length = gone.length + 1 := by rw [List.length_append]; rfl
          rw [e1] at hsz2 ⊢
          lia
  · have hg : 4 ≤ gone.length := by
      have := of_decide_eq_false hc
      rw [List.length_map] at this
      lia
    refine x_nil ?_
    refine thn_next ?_
    refine x_seq ?_
    refine x_Return ?_
    refine j_freeze4 ?_
    walk_at "w"
    refine ⟨_, n + 17, S, rfl, hH.ou, hH.sh, by lia, fun H2 k2 => ?_⟩
    refine thn_ret ?_
    exact h _ _ _ _ _ (fun j hj => (k2 j (by lia) (by lia)).trans (hH.old j hj)) (hE.end_ hg)
end
-- SSum

set_option maxRecDepth 100000
set_option maxHeartbeats 4000000
open PySem PySem.W PyProof.Rows


theorem itb_15 (st : St) : Itb st (.rng 1 5) ([1, 2, 3, 4].map V.int) := ⟨rfl, by decide, by decide, by decide, by decide⟩
theorem in15 {j : Int} (h : j ∈ ([1, 2, 3, 4] : List Int)) : ∃ k : Nat, j = (k : Int) ∧ 1 ≤ k ∧ k ≤ 4 := by
  simp only [List.mem_cons, List.not_mem_nil, or_false] at h
  rcases h with rfl | rfl | rfl | rfl
  · exact ⟨1, rfl, by decide, by decide⟩
  · exact ⟨2, rfl, by decide, by decide⟩
  · exact ⟨3, rfl, by decide, by decide⟩
  · exact ⟨4, rfl, by decide, by decide⟩
theorem in4 {j : Int} (h : j ∈ idxs 4) : ∃ k : Nat, j = (k : Int) ∧ k < 4 := by
  have := mem_idxs.mp h
  exact ⟨j.toNat, by lia, by lia⟩
noncomputable def Rows (rw : Nat → List Nat) : Prop := ∀ i, i < 4 → (rw i).Perm [0, 1, 2, 3]
theorem Rows.lt {rw : Nat → List Nat} (h : Rows rw) {i t : Nat} (hi : i < 4) (ht : t ∈ rw i) : t < 4 := by
  have := (h i hi).subset ht
  simp only [List.mem_cons, List.not_mem_nil, or_false] at this
  lia
theorem Rows.len {rw : Nat → List Nat} (h : Rows rw) {i : Nat} (hi : i < 4) : (rw i).length = 4 := (h i hi).length_eq
section
variable {C : Fx} {st : St}
noncomputable abbrev sixteen (rw : Nat → List Nat) (S : Nat → Nat → Nat) : List Int := places.map fun p => (had rw S p : Int)
theorem sixteen_V (rw : Nat → List Nat) (S : Nat → Nat → Nat) : ((idxs 4).flatMap fun i => ((([1, 2, 3, 4] : List Int).filter fun _ => true).map fun k => V.int (had rw S (i.toNat, k.toNat)))) = (sixteen rw S).map .int := rfl
theorem b_sums (H : HB C) (hu : C.u ≤ 3000) {rw : Nat → List Nat} (hr : Rows rw) (S : Nat → Nat → Nat) {vars : List (Str × V)} (hv : vars = [(("wishes" : Str), wiV rw), (("shares" : Str), shV S)]) {Q : FlowA → St → Prop}
    (h : ∀ vars (l : List Int), l.Perm (sixteen rw S) → l.Pairwise (· ≤ ·) → Q (.ret (tV l)) { st with vars := vars }) : JX (C.into fd_sums.scope) (bodyAt pb 38) { st with vars := vars } Q := by
  have HBc : HB (C.into fd_sums.scope) := H
  subst hv
  refine x_seq ?_
  refine x_AssignComp (by kernel_rfl) (by rfl) (by exact ⟨rfl, rfl, rfl⟩) ?_
  (refine ev_CallT (t_range (by assumption)) (by rfl) ?_; (repeat walk_at "w"); (refine b_range1 ?_))
  refine comp_pairs (idxs 4) [1, 2, 3, 4] (fun _ _ => true) (fun i k => .int (had rw S (i.toNat, k.toNat))) (itb_rng _ (by decide) (by decide)) (by rw [idxs_len]; decide) (by decide) (by rfl) (by first | exact .inl rfl | exact .inr rfl) (by rfl) (by first | exact .inl rfl | exact .inr rfl) (by decide) ?_ ?_ ?_ ?_
  · intro i mi vs hf hx
    refine ev_CallT (t_range (by exact HBc)) (by rfl) ?_
    repeat walk_at "w"
    refine b_range2 ?_
    exact ⟨rfl, fun vs' => itb_15 _⟩
  · intro i mi j mj vs hf hx hy
    exact ts_nil ⟨rfl, rfl⟩
  · intro i mi j mj _ vs hf hx hy
    obtain ⟨i, rfl, hi⟩ := in4 mi
    obtain ⟨k, rfl, hk1, hk2⟩ := in15 mj
    have hw := (hf "wishes" (by rfl)).trans (show _ = some (wiV rw) by walk_at "lk")
    have hs := (hf "shares" (by rfl)).trans (show _ = some (shV S) by walk_at "lk")
    refine ev_CallB (t_sum (by exact HBc)) (by rfl) ?_
    refine l_cons ?_
    refine ev_ListComp (by kernel_rfl) ?_
    refine ev_SliceG ?_
    repeat walk_at "w"
    refine sub_lst (by lia) (four_at _ hi) (by lia) ?_
    refine p_none ?_
    refine p_some ?_
    repeat walk_at "w"
    refine ⟨_, rfl, (rw i).map nV, rfl, by rw [List.length_map, hr.len hi]; decide, ?_⟩
    rw [sl_upto, ← List.map_take]
    refine comp_map ((rw i).take k) nV (fun t => nV (S i t)) rfl (by rw [List.length_take, hr.len hi]; exact Nat.le_trans (Nat.min_le_right _ _) (by decide)) (by rfl) (by first | exact .inl rfl | exact .inr rfl) (fun t ht => ?_) ?_
    · have ht4 := hr.lt hi (List.mem_of_mem_take ht)
      repeat walk_at "w"
      refine sub_lst (by lia) (four_at _ hi) (by lia) ?_
      repeat walk_at "w"
      refine sub_lst (by lia) (q4_at _ ht4) (by lia) ?_
      exact ⟨rfl, rfl⟩
    repeat walk_at "w"
    refine b_sumN (l := ((rw i).take k).map (S i)) (by show Lis _ (.lst _) _; rw [List.map_map]; rfl) ?_
    exact ⟨rfl, rfl⟩
  rw [sixteen_V]
  refine thn_next ?_
  dsimp only
  refine x_seq ?_
  refine x_Return ?_
  refine ev_CallT (t_tuple (by exact HBc)) (by rfl) ?_
  refine l_cons ?_
  refine ev_CallB (t_sorted (by exact HBc)) (by rfl) ?_
  repeat walk_at "w"
  refine b_sorted (ns := sixteen rw S) rfl (by rw [List.length_map]; decide) fun l hp hs => ?_
  repeat walk_at "w"
  refine b_tupleL rfl (by rw [List.length_map, hp.length_eq, List.length_map]; decide) ?_
  refine thn_ret ?_
  exact h _ l hp hs
theorem c_sums (H : HB C) (hd : C.d ≤ 790) (hu : C.u ≤ 2990) {rw : Nat → List Nat} (hr : Rows rw) (S : Nat → Nat → Nat) {Q : V → St → Prop} (h : ∀ l : List Int, l.Perm (sixteen rw S) → l.Pairwise (· ≤ ·) → Q (tV l) st) : JV C VR [wiV rw, shV S] (fun ws => call (.ref 810) ws) st Q := by
  refine JC.jv ?_
  refine code_fn0 (vars := [("wishes", wiV rw), ("shares", shV S)]) (f_sums H) (by lia) (show parOk fd_sums.scope ["wishes", "shares"] = true by decide +kernel) (fun env Z R ρ s ws hs hw => ?_) ?_
  · obtain ⟨x, y, rfl, r1, r2⟩ := inv2 hw
    exact ⟨_, BindsTo.of_eq rfl, .cons r1 (.cons r2 .nil)⟩
  exact b_sums H (by lia) hr S rfl fun vars l hp hs => h l hp hs

inductive EvO (rw : Nat → List Nat) (S : Nat → Nat → Nat) (st : St) (i : Nat) (st' : St) : Prop
  | mk (vars' : List (Str × V)) (e : st' = { st with vars := vars' }) (v1 : gv vars' "wishes" = some (wiV rw)) (v2 : gv vars' "shares" = some (shV S))
inductive EvK (rw : Nat → List Nat) (S : Nat → Nat → Nat) (st : St) (one : Nat) (i : Nat) (st' : St) : Prop
  | mk (vars' : List (Str × V)) (e : st' = { st with vars := vars' }) (v1 : gv vars' "wishes" = some (wiV rw)) (v2 : gv vars' "shares" = some (shV S)) (v3 : gv vars' "one" = some (nV one))
theorem in0123 {j : Nat} (h : j ∈ [0, 1, 2, 3]) : j < 4 := by
  simp only [List.mem_cons, List.not_mem_nil, or_false] at h; lia
theorem k4_at {i : Nat} {x : V} (h : ([1, 2, 3, 4].map V.int)[i]? = some x) : ∃ k : Nat, x = nV k ∧ 1 ≤ k ∧ k ≤ 4 := by
  obtain ⟨j, hj, rfl⟩ := List.mem_map.mp (List.mem_of_getElem? h)
  obtain ⟨k, rfl, h1, h2⟩ := in15 hj
  exact ⟨k, rfl, h1, h2⟩
theorem b_envied (H : HB C) (hu : C.u ≤ 3000) {rw : Nat → List Nat} {A G : Nat → Nat} {S : Nat → Nat → Nat} (hS : Serial rw A G S) {vars : List (Str × V)} (hv : vars = [(("wishes" : Str), wiV rw), (("shares" : Str), shV S)]) {Q : FlowA → St → Prop}
    (h : ∀ vars, Q (.ret (.bool false)) { st with vars := vars }) : JX (C.into fd_envied.scope) (bodyAt pb 40) { st with vars := vars } Q := by
  have HBc : HB (C.into fd_envied.scope) := H
  have hr : Rows rw := hS.row
  subst hv
  refine x_seq ?_
  refine x_For ?_
  (refine ev_CallT (t_range (by assumption)) (by rfl) ?_; (repeat walk_at "w"); (refine b_range1 ?_))
  refine ⟨(List.range 4).map nV, EvO rw S st, ⟨_, rfl, by walk_at "lk", by walk_at "lk"⟩, fun _ st' _ => itb_rngN st' 4 (by decide), ?_, ?_⟩
  · rintro i x st' hx ⟨vars', rfl, v1, v2⟩
    obtain ⟨rfl, hi⟩ := range_at hx
    refine a_Name ?_ (by rfl) (by first | exact .inl rfl | exact .inr rfl)
    refine x_seq ?_
    refine x_For ?_
    refine ev_CallT (t_range (by exact HBc)) (by rfl) ?_
    repeat walk_at "w"
    refine b_range2 ?_
    refine ⟨[1, 2, 3, 4].map V.int, EvK rw S st i, ⟨_, rfl, by walk_at "lk", by walk_at "lk", by walk_at "lk"⟩, fun _ st' _ => itb_15 st', ?_, ?_⟩
    · rintro j x st' hx2 ⟨vars'', rfl, w1, w2, w3⟩
      obtain ⟨k, rfl, hk1, hk2⟩ := k4_at hx2
      refine a_Name ?_ (by rfl) (by first | exact .inl rfl | exact .inr rfl)
      refine x_seq ?_
      refine x_AssignComp (by kernel_rfl) (by rfl) (by exact ⟨rfl, rfl, rfl⟩) ?_
      repeat walk_at "w"
      refine comp_map [0, 1, 2, 3] (fun r => .lst (q4 (S r))) (fun r => nV (had rw (fun _ => S r) (i, k))) rfl (by decide) (by rfl) (by first | exact .inl rfl | exact .inr rfl) (fun r hr4 => ?_) ?_
      · refine ev_CallB (t_sum (by exact HBc)) (by rfl) ?_
        refine l_cons ?_
        refine ev_ListComp (by kernel_rfl) ?_
        refine ev_SliceG ?_
        repeat walk_at "w"
        refine sub_lst (by lia) (four_at _ hi) (by lia) ?_
        refine p_none ?_
        refine p_some ?_
        repeat walk_at "w"
        refine ⟨_, rfl, (rw i).map nV, rfl, by rw [List.length_map, hr.len hi]; decide, ?_⟩
        rw [sl_upto, ← List.map_take]
        refine comp_map ((rw i).take k) nV (fun t => nV (S r t)) rfl (by rw [List.length_take, hr.len hi]; exact Nat.le_trans (Nat.min_le_right _ _) (by decide)) (by rfl) (by first | exact .inl rfl | exact .inr rfl) (fun t ht => ?_) ?_
        · have ht4 := hr.lt hi (List.mem_of_mem_take ht)
          repeat walk_at "w"
          refine sub_lst (by lia) (q4_at _ ht4) (by lia) ?_
          exact ⟨rfl, rfl⟩
        repeat walk_at "w"
        refine b_sumN (l := ((rw i).take k).map (S r)) (by show Lis _ (.lst _) _; rw [List.map_map]; rfl) ?_
        exact ⟨rfl, rfl⟩
      refine thn_next ?_
      dsimp only
      refine x_seq ?_
      refine x_If ?_
      refine tt_Compare ?_
      refine ev_CallB (t_max (by exact HBc)) (by rfl) ?_
      repeat walk_at "w"
      refine b_maxL (ns := [0, 1, 2, 3].map fun r => (had rw (fun _ => S r) (i, k) : Int)) (by show Lis _ (.lst _) _; rw [List.map_map]; rfl) (by rw [List.length_map]; decide) fun m hm hmax => ?_
      repeat walk_at "w"
      refine sub_lst (x := nV (had rw (fun _ => S i) (i, k))) (by lia) (by exact four_at (fun r => nV (had rw (fun _ => S r) (i, k))) hi) (by lia) ?_
      refine op_gt ?_
      refine tr_bool ?_
      have hle : m ≤ (had rw (fun _ => S i) (i, k) : Int) := by
        obtain ⟨r, hr4, rfl⟩ := List.mem_map.mp hm
        have := hS.envy hi (in0123 hr4) (List.take_append_drop k (rw i)).symm
        show ((sm (S r) ((rw i).take k) : Nat) : Int) ≤ ((sm (S i) ((rw i).take k) : Nat) : Int)
        lia
      refine ⟨fun e => ?_, fun _ => ?_⟩
      · have := of_decide_eq_true e
        lia
      · repeat walk_at "w"
        exact ⟨_, rfl, by walk_at "lk", by walk_at "lk", by walk_at "lk"⟩
    · rintro st' ⟨vars'', rfl, w1, w2, w3⟩
      repeat walk_at "w"
      exact ⟨_, rfl, w1, w2⟩
  · rintro st' ⟨vars', rfl, v1, v2⟩
    repeat walk_at "w"
    exact h _
theorem c_envied (H : HB C) (hd : C.d ≤ 790) (hu : C.u ≤ 2990) {rw : Nat → List Nat} {A G : Nat → Nat} {S : Nat → Nat → Nat} (hS : Serial rw A G S) {Q : V → St → Prop} (h : Q (.bool false) st) : JV C VR [wiV rw, shV S] (fun ws => call (.ref 820) ws) st Q := by
  refine JC.jv ?_
  refine code_fn0 (vars := [("wishes", wiV rw), ("shares", shV S)]) (f_envied H) (by lia) (show parOk fd_envied.scope ["wishes", "shares"] = true by decide +kernel) (fun env Z R ρ s ws hs hw => ?_) ?_
  · obtain ⟨x, y, rfl, r1, r2⟩ := inv2 hw
    exact ⟨_, BindsTo.of_eq rfl, .cons r1 (.cons r2 .nil)⟩
  exact b_envied H (by lia) hS rfl fun vars => h
end
-- SRul

set_option maxRecDepth 100000
set_option maxHeartbeats 1000000
/-! law 04: rules for its last lines -/
open PySem PySem.W PyProof.Rows

theorem toDs_int (l : List Int) : toDs (l.map .int) = l.map PyData.int := by
  rw [toDs_map, List.map_map]; rfl
theorem eqv_tV (l m : List Int) : PyData.eqv (toD (tV l)) (toD (tV m)) = decide (l = m) := by
  show PyData.eqv (.tuple (toDs (l.map .int))) (.tuple (toDs (m.map .int))) = _
  rw [toDs_int, toDs_int, PyData.eqv, ked_eqvAll]
theorem eqv_bool (a b : Bool) : PyData.eqv (toD (.bool a)) (toD (.bool b)) = (a == b) := by
  first | rfl | simp [toD, PyData.eqv]
noncomputable def r4 (f : Nat → Nat) : List Int := [(f 0 : Int), (f 1 : Int), (f 2 : Int), (f 3 : Int)]
theorem toD_q4 (f : Nat → Nat) : toD (.lst (q4 f)) = .list ((r4 f).map PyData.int) := by
  show PyData.list (toDs ((r4 f).map .int)) = _
  rw [toDs_int]
theorem eqv_q4 (f g : Nat → Nat) : PyData.eqv (toD (.lst (q4 f))) (toD (.lst (q4 g))) = decide (r4 f = r4 g) := by
  rw [toD_q4, toD_q4, PyData.eqv, ked_eqvAll]
theorem r4_eq {f g : Nat → Nat} (h : r4 f = r4 g) : ∀ t, t < 4 → f t = g t := by
  unfold r4 at h
  injection h with h0 h
  injection h with h1 h
  injection h with h2 h
  injection h with h3 h
  intro t ht
  match t, ht with
  | 0, _ => lia
  | 1, _ => lia
  | 2, _ => lia
  | 3, _ => lia
theorem eqv_sh {X S : Nat → Nat → Nat} (h : PyData.eqv (toD (shV X)) (toD (shV S)) = true) : ∀ i t, i < 4 → t < 4 → X i t = S i t := by
  have e : ∀ Y : Nat → Nat → Nat, toD (shV Y) = .list [toD (.lst (q4 (Y 0))), toD (.lst (q4 (Y 1))), toD (.lst (q4 (Y 2))), toD (.lst (q4 (Y 3)))] := fun Y => rfl
  rw [e, e, PyData.eqv, PyData.eqvAll, PyData.eqvAll, PyData.eqvAll, PyData.eqvAll, PyData.eqvAll, eqv_q4, eqv_q4, eqv_q4, eqv_q4] at h
  simp only [Bool.and_eq_true, decide_eq_true_eq, and_true] at h
  intro i t hi
  match i, hi with
  | 0, _ => exact r4_eq h.1 t
  | 1, _ => exact r4_eq h.2.1 t
  | 2, _ => exact r4_eq h.2.2.1 t
  | 3, _ => exact r4_eq h.2.2.2 t
theorem shV_congr {X S : Nat → Nat → Nat} (h : ∀ i t, i < 4 → t < 4 → X i t = S i t) : shV X = shV S := by
  have : ∀ i, i < 4 → V.lst (q4 (X i)) = V.lst (q4 (S i)) := fun i hi => by rw [q4_congr fun t ht => h i t hi ht]
  show V.lst [V.lst (q4 (X 0)), V.lst (q4 (X 1)), V.lst (q4 (X 2)), V.lst (q4 (X 3))] = V.lst [V.lst (q4 (S 0)), V.lst (q4 (S 1)), V.lst (q4 (S 2)), V.lst (q4 (S 3))]
  rw [this 0 (by decide), this 1 (by decide), this 2 (by decide), this 3 (by decide)]
theorem ok_q4 (f : Nat → Nat) : okD (.lst (q4 f)) = true := by
  show okDs ((r4 f).map .int) = true
  exact okDs_int _
theorem ok_sh (X : Nat → Nat → Nat) : okD (shV X) = true := by
  show okDs (four fun i => .lst (q4 (X i))) = true
  simp only [okDs, ok_q4, Bool.and_self]
theorem ok_tV (l : List Int) : okD (tV l) = true := by
  show okDs (l.map .int) = true
  exact okDs_int _
theorem dep_q4 (f : Nat → Nat) : (toD (.lst (q4 f))).depth ≤ 2 := by
  show (toD (.lst ((r4 f).map .int))).depth ≤ 2
  have := depth_int (r4 f)
  rw [toD, PyData.depth]
  lia
theorem dep_bool (b : Bool) : (toD (.bool b)).depth ≤ 1 := by
  simp [toD, PyData.depth]
theorem dep_tV (l : List Int) : (toD (tV l)).depth ≤ 2 := by
  show (toD (.tup (l.map .int))).depth ≤ 2
  have := depth_int l
  rw [toD, PyData.depth]
  lia
theorem dep_sh (X : Nat → Nat → Nat) : (toD (shV X)).depth ≤ 10 := by
  have h0 := dep_q4 (X 0)
  have h1 := dep_q4 (X 1)
  have h2 := dep_q4 (X 2)
  have h3 := dep_q4 (X 3)
  have e : toD (shV X) = .list [toD (.lst (q4 (X 0))), toD (.lst (q4 (X 1))), toD (.lst (q4 (X 2))), toD (.lst (q4 (X 3)))] := rfl
  rw [e]
  generalize toD (.lst (q4 (X 0))) = a at h0 ⊢
  generalize toD (.lst (q4 (X 1))) = b at h1 ⊢
  generalize toD (.lst (q4 (X 2))) = c at h2 ⊢
  generalize toD (.lst (q4 (X 3))) = d at h3 ⊢
  simp [PyData.depth, PyData.depthAll]
  lia
theorem sorted_eq : ∀ {l m : List Int}, l.Pairwise (· ≤ ·) → m.Pairwise (· ≤ ·) → l.Perm m → l = m
  | [], m, _, _, h => (List.nil_perm.mp h).symm
  | a :: l, [], _, _, h => absurd h.length_eq (by simp)
  | a :: l, b :: m, hl, hm, h => by
    have h1 := List.pairwise_cons.mp hl
    have h2 := List.pairwise_cons.mp hm
    have e : a = b := by
      have m1 := h.subset (List.mem_cons_self : a ∈ a :: l)
      have m2 := h.symm.subset (List.mem_cons_self : b ∈ b :: m)
      rcases List.mem_cons.mp m1 with e | m1
      · exact e
      · rcases List.mem_cons.mp m2 with e | m2
        · exact e.symm
        · have := h1.1 b m2
          have := h2.1 a m1
          lia
    subst e
    rw [sorted_eq h1.2 h2.2 (List.Perm.cons_inv h)]
theorem flat_len {α β : Type} (B : Nat) (f : α → List β) : ∀ l : List α, (∀ a ∈ l, (f a).length ≤ B) → (l.flatMap f).length ≤ l.length * B
  | [], _ => Nat.zero_le _
  | a :: l, h => by
    have h1 := h a (.head _)
    have h2 := flat_len B f l fun b hb => h b (.tail _ hb)
    rw [List.flatMap_cons, List.length_append, List.length_cons, Nat.succ_mul]; lia
theorem lexLe_refl : ∀ l : List Int, lexLe l l = true
  | [] => rfl
  | a :: l => by
    unfold lexLe
    rw [if_pos rfl]; exact lexLe_refl l
theorem lexLe_of : ∀ {l m : List Int}, lexLess l m → lexLe l m = true
  | a :: l, b :: m, h => by
    unfold lexLe
    rcases h with h | ⟨e, h⟩
    · rw [if_neg (by lia)]; exact decide_eq_true h
    · rw [if_pos e]; exact lexLe_of h
section
variable {C : Fx} {st : St}
theorem ev_And2 {x y : Expr} {pos : Pos} {Q : V → St → Prop} (h : J C VR (eval x) st fun v st₁ => JV C rBool [v] (one truthy) st₁ fun b st₂ => (b = true → J C VR (eval y) st₂ Q) ∧ (b = false → Q v st₂)) : J C VR (eval (.BoolOp .And [x, y] pos)) st Q :=
  fun env Z R ρ s hs => by
    rw [arm_eval_BoolOp]
    show wpAny _ _ (boolOp pos .And [eval x env, eval y env]) _ _ _
    unfold boolOp
    refine wpAny_bind (wp_use (h env Z R ρ s hs) fun w s₁ v st₁ Z₁ ρ₁ hz hr rv hs₁ h₁ => ?_)
    refine wpAny_bind (wpAny_standAt (wpAny_bind (wpAny_holding (wp_use (h₁ env Z₁ R ρ₁ s₁ [w] hs₁ (.cons rv .nil)) fun t s₂ b st₂ Z₂ ρ₂ hz2 hr2 rb hs₂ h₂ => ?_))))
    cases show t = b from rb
    cases t with
    | false => exact wpAny_pure ⟨v, st₂, Z₂, ρ₂, hz.trans hz2, hr.trans hr2, rv.mono hz2 hr2, hs₂, h₂.2 rfl⟩
    | true =>
      show wpAny _ _ (boolOp pos .And [eval y env]) _ _ _
      unfold boolOp
      exact wp_up (hz.trans hz2) (hr.trans hr2) (h₂.1 rfl env Z₂ R ρ₂ s₂ hs₂)
theorem comp_flat1 {α : Type} {scope : Scope} {elt iter iter' : Expr} {x z : Str} {px pz pos : Pos} {v : V} {k k'' : NameKind} {Qi : List V → St → Prop} (l : List α) (e : α → V) (f : α → List V) (hv : Itb st v (l.map e)) (hsz : (l.flatMap f).length ≤ 100000)
    (hk : scope.names.lookup x = some k) (hkk : k = .local ∨ k = .cell) (hk'' : scope.names.lookup z = some k'') (hkk'' : k'' = .local ∨ k'' = .cell)
    (it2 : ∀ a ∈ l, ∀ vs, Fr scope st vs → vs.lookup x = some (e a) → J (C.comp scope) VR (eval iter') ⟨vs, st.heap, st.nx⟩ fun u st' => u = .lst (f a) ∧ st' = ⟨vs, st.heap, st.nx⟩)
    (turn : ∀ a ∈ l, ∀ b ∈ f a, ∀ vs, vs.lookup z = some b → J (C.comp scope) VR (eval elt) ⟨vs, st.heap, st.nx⟩ fun u st' => u = b ∧ st' = ⟨vs, st.heap, st.nx⟩)
    (fin : Qi (l.flatMap f) st)
    (hs : ∀ env x, foldedSetIterable iter' env x = pure x := by intro _ _; rfl) (hzx : z ≠ x := by decide) : CompIn C scope elt [⟨.Name x px, iter, [], 0⟩, ⟨.Name z pz, iter', [], 0⟩] pos st v Qi := by
  refine comp_core2 l e f (fun _ b o => some b = o) (fun a vs => vs.lookup x = some (e a)) hv (Nat.le_trans hsz (by decide)) hk'' hkk'' (fun a vs b h => ?_)
    (fun a ha vs h => a_Name (.mk _ ⟨h.setv hk hkk _, ?_⟩) (comp_lk hk hkk) hkk) (fun a ha vs h hB => J.mono (it2 a ha vs h hB) fun u st' q => ⟨q.2, fun vs' => by rw [q.1]; rfl⟩)
    (fun a ha b hb vs _ _ hz => ts_nil ⟨fun _ => J.mono (turn a ha b hb vs hz) fun u st' q => ⟨q.2, congrArg some q.1.symm⟩, nofun⟩) (fun ys h => ?_) hs
  · rw [setv_lookup, if_neg (Ne.symm hzx)]; exact h
  · rw [setv_lookup, if_pos rfl]
  · have e : (fun a => (f a).filterMap some) = f := funext fun a => List.filterMap_some
    have := h.fm (h := fun _ b => some b)
    rw [this, show (fun a => (f a).filterMap fun b => some b) = f from e]; exact fin
end
-- SLaw

set_option maxRecDepth 100000
set_option maxHeartbeats 4000000
open PySem PySem.W PyProof.Rows


noncomputable def tail6 : List Int := [9623, 14421, 24017, 4822, 48032, 241]
noncomputable def nums6 (few : List Int) : List Int := few ++ tail6.drop few.length
noncomputable def mark (x : Int) : Int := if x % 2 = 1 then x / 2 % 4 else x / 2 % 10 ^ 30
theorem mark_ok (x : Int) : 0 ≤ mark x ∧ mark x ≤ 10 ^ 30 := by
  unfold mark
  split
  · exact ⟨by lia, by have : x / 2 % 4 ≤ 4 := by lia
                      exact Int.le_trans this (by decide)⟩
  · exact ⟨Int.emod_nonneg _ (by decide), Int.le_of_lt (Int.emod_lt_of_pos _ (by decide))⟩
noncomputable def muOf (n : Int) : Nat := (mark (n / 24)).toNat
theorem muOf_int (n : Int) : (muOf n : Int) = mark (n / 24) := Int.toNat_of_nonneg (mark_ok _).1
theorem muOf_log (n : Int) : (muOf n).log2 ≤ 99 := by
  have h := mark_ok (n / 24)
  have h2 : muOf n < 2 ^ 100 := by
    have : muOf n ≤ 10 ^ 30 := by
      unfold muOf
      have : ((mark (n / 24)).toNat : Int) ≤ ((10 ^ 30 : Nat) : Int) := by
        rw [Int.toNat_of_nonneg h.1]; exact h.2
      exact Int.ofNat_le.mp this
    exact Nat.lt_of_le_of_lt this (by decide)
  rcases Nat.eq_zero_or_pos (muOf n) with e | e
  · rw [e]; decide
  · exact Nat.le_of_lt_succ ((Nat.log2_lt (by lia)).mpr h2)
section
variable {C : Fx} {st : St}
theorem c_eaten (H : HB C) (hd : C.d ≤ 380) (hu : C.u ≤ 1890) {rw : Nat → List Nat} (hr : ∀ i, i < 4 → (rw i).Perm [0, 1, 2, 3]) {mu : Nat → Nat} (hmu : ∀ t, (mu t).log2 ≤ 1000) {k : Nat} (hk : st.heap k = some (.iter ((octA mu 0).map .int) 0)) {Q : V → St → Prop}
    (h : ∀ i G S, (octA mu 0).drop i = [] → Serial rw (fun t => 12 ^ 4 * mu t) G S → Q (shV S) { st with heap := upd st.heap k (.iter ((octA mu 0).map .int) i) }) :
    JV C VR [.lst (four fun i => .str (lineN (rw i))), .obj k, .lst (names4.map .str)] (fun ws => call (.ref 805) ws) st Q :=
  jv_hh fun hh => by
    have hkn : k < st.nx := hh k (by rw [hk]; rfl)
    refine jv_trunc (JC.jv ?_)
    refine code_fn0 (vars := [("lines", .lst (four fun i => .str (lineN (rw i)))), ("octets", .obj k), ("names", .lst (names4.map .str))]) (f_eaten H) (by lia) (show parOk fd_eaten.scope ["lines", "octets", "names"] = true by decide +kernel) (fun env Z R ρ s ws hs hw => ?_) ?_
    · obtain ⟨x, y, z, rfl, r1, r2, r3⟩ := inv3 hw
      exact ⟨_, BindsTo.of_eq rfl, .cons r1 (.cons r2 (.cons r3 .nil))⟩
    refine b_eaten1 H (by lia) (by lia) hr hmu hkn hk rfl fun H1 st' i hI g1 g2 g3 => ?_
    refine b_eaten2 H (by lia) (by lia) hI fun vars H' nx G S h4 hS => ⟨rfl, bel_sh _ _, upd st.heap k (.iter ((octA mu 0).map .int) i), fun m ao e => ?_, h i G S g3 hS⟩
    by_cases q : m = k
    · subst q
      rw [upd_self] at e; cases e
      refine ⟨by rw [hk]; rfl, (h4 m hkn).trans g2, .inr ?_⟩
      rw [belO]
      exact bels_map _ V.int (fun b => by simp [bel]) _
    · rw [upd_ne _ _ q] at e
      have hm : m < st.nx := hh m (by rw [e]; rfl)
      exact ⟨by rw [e]; rfl, ((h4 m hm).trans (g1 m hm q)).trans e, .inl e⟩
theorem b_law (H : HB C) (hd : C.d ≤ 301) (hu : C.u ≤ 1000) (hgp : C.gp = fun g _ => AllBare g) (hpin : C.pin = some 738) (hh : ∀ n, (st.heap n).isSome → n < st.nx) (h0 : st.heap 0 = some .codes)
    (ns : List Int) {vars : List (Str × V)} (hv : vars = [(("script" : Str), .lst (ns.map .int))]) (hl : ns.length ≤ 100) {Q : FlowA → St → Prop} (h : ∀ st', st'.heap 0 = some .codes → Q (.ret (.bool true)) st') : JX (C.into fd_law.scope) (bodyAt pb 41) { st with vars := vars } Q := by
  have HBc : HB (C.into fd_law.scope) := H
  have hnx0 : 0 < st.nx := hh 0 (by rw [h0]; rfl)
  subst hv
  refine x_seq ?_
  refine x_Assign ?_ (by rfl)
  refine ev_Slice ?_
  repeat walk_at "w"
  refine p_none ?_
  refine p_some ?_
  repeat walk_at "w"
  refine ⟨_, rfl, _, rfl, by rw [List.length_map]; exact Nat.le_trans hl (by decide), ?_⟩
  rw [show (some 10 : Option Int) = some ((10 : Nat) : Int) from rfl, sl_upto, ← List.map_take]
  generalize hfew : ns.take 10 = few
  have hf7 : few.length ≤ 10 := by rw [← hfew, List.length_take]; lia
  refine thn_next ?_
  dsimp only
  refine x_seq ?_
  refine x_Assign ?_ (by rfl)
  refine ev_BinOp ?_
  repeat walk_at "w"
  refine ev_SliceG ?_
  repeat walk_at "w"
  refine ⟨Nat.le_of_ble_eq_true rfl, ?_⟩
  refine p_some ?_
  refine ev_CallB (t_len (by exact HBc)) (by rfl) ?_
  repeat walk_at "w"
  refine b_len (xs := few.map .int) rfl (by rw [List.length_map]; lia) ?_
  repeat walk_at "w"
  refine ⟨_, rfl, ?_⟩
  refine p_none ?_
  refine ⟨_, rfl, by show 6 ≤ sizeLine; decide, ?_⟩
  rw [List.length_map, sl_from]
  refine op_cat (xs := few.map .int) (ys := (tail6.drop few.length).map .int) rfl (by rw [List.map_drop]; rfl) ?_ ?_
  · have : (100 : Nat) ≤ sizeLine := by decide
    have e : tail6.length = 6 := rfl
    rw [List.length_map, List.length_map, List.length_drop]; lia
  rw [← List.map_append]
  have hn6 : 4 ≤ (nums6 few).length ∧ (nums6 few).length ≤ 10 := by
    unfold nums6
    have e : tail6.length = 6 := rfl
    rw [List.length_append, List.length_drop]; lia
  refine thn_next ?_
  show JX _ _ ⟨setv "numbers" (.lst ((nums6 few).map .int)) _, _, _⟩ _
  generalize nums6 few = ms at hn6
  clear hfew
  dsimp only
  refine x_seq ?_
  refine x_Assign ?_ (by rfl)
  refine ev_List ?_
  repeat walk_at "w"
  refine ⟨Nat.le_of_ble_eq_true rfl, ?_⟩
  refine thn_next ?_
  dsimp only
  obtain ⟨n0, n1, n2, n3, rest, rfl⟩ : ∃ n0 n1 n2 n3 rest, ms = n0 :: n1 :: n2 :: n3 :: rest := by
    rcases ms with _ | ⟨n0, _ | ⟨n1, _ | ⟨n2, _ | ⟨n3, rest⟩⟩⟩⟩
    · exact absurd hn6.1 (show ¬ 4 ≤ 0 by decide)
    · exact absurd hn6.1 (show ¬ 4 ≤ 1 by decide)
    · exact absurd hn6.1 (show ¬ 4 ≤ 2 by decide)
    · exact absurd hn6.1 (show ¬ 4 ≤ 3 by decide)
    · exact ⟨_, _, _, _, _, rfl⟩
  refine x_seq ?_
  refine x_AssignComp (by kernel_rfl) (by rfl) (by exact ⟨rfl, rfl, rfl⟩) ?_
  refine ev_SliceG ?_
  repeat walk_at "w"
  refine p_none ?_
  refine p_some ?_
  repeat walk_at "w"
  refine ⟨_, rfl, _, rfl, by rw [List.length_map]; exact Nat.le_trans hn6.2 (by decide), ?_⟩
  rw [show (some 4 : Option Int) = some ((4 : Nat) : Int) from rfl, sl_upto, ← List.map_take]
  refine comp_map [n0, n1, n2, n3] .int (fun n => .lst ((rowW n).map nV)) rfl (by show 4 ≤ 100000; decide) (by rfl) (by first | exact .inl rfl | exact .inr rfl) (fun n hn => ?_) ?_
  · refine ev_CallC (by exact HBc) (g_wish (by exact HBc)) wish_keep (by rfl) ?_
    repeat walk_at "w"
    refine c_wish (C := Fx.comp (C.into fd_law.scope) _) H (show C.d + 1 ≤ 900 from dk hd (by decide)) (show C.u + 3 ≤ 4000 from dk hu (by decide)) n ?_
    exact ⟨rfl, rfl⟩
  refine thn_next ?_
  show JX _ _ ⟨setv "wishes" (wiV fun i => rowW ([n0, n1, n2, n3].getD i 0)) _, _, _⟩ _
  generalize erw : (fun i => rowW ([n0, n1, n2, n3].getD i 0)) = rw
  have hrw : ∀ i, i < 4 → (rw i).Perm [0, 1, 2, 3] := fun i _ => by subst erw; exact rowW_perm _
  dsimp only
  refine x_seq ?_
  refine x_AssignComp (by kernel_rfl) (by rfl) (by exact ⟨rfl, rfl, rfl⟩) ?_
  refine ev_SliceG ?_
  repeat walk_at "w"
  refine p_none ?_
  refine p_some ?_
  repeat walk_at "w"
  refine ⟨_, rfl, _, rfl, by rw [List.length_map]; exact Nat.le_trans hn6.2 (by decide), ?_⟩
  rw [show (some 4 : Option Int) = some ((4 : Nat) : Int) from rfl, sl_upto, ← List.map_take]
  refine comp_map [n0, n1, n2, n3] .int (fun n => .int (n / 24)) rfl (by show 4 ≤ 100000; decide) (by rfl) (by first | exact .inl rfl | exact .inr rfl) (fun n hn => ?_) ?_
  · repeat walk_at "w"
    exact ⟨rfl, rfl⟩
  refine thn_next ?_
  dsimp only
  refine x_seq ?_
  refine x_AssignComp (by kernel_rfl) (by rfl) (by exact ⟨rfl, rfl, rfl⟩) ?_
  repeat walk_at "w"
  refine comp_map [n0, n1, n2, n3] (fun n => .int (n / 24)) (fun n => .int (mark (n / 24))) rfl (by show 4 ≤ 100000; decide) (by rfl) (by first | exact .inl rfl | exact .inr rfl) (fun x hx => ?_) ?_
  · generalize x / 24 = x
    repeat walk_at "w"
    refine op_eqI (show C.u + 3 ≤ 9000 from dk hu (by decide)) ?_
    repeat walk_at "w"
    refine ⟨fun hc => ?_, fun hc => ?_⟩
    · have hc := of_decide_eq_true hc
      repeat walk_at "w"
      exact ⟨by unfold mark; rw [if_pos hc], rfl⟩
    · have hc := of_decide_eq_false hc
      repeat walk_at "w"
      refine op_pow (by decide) (by decide) ?_
      rw [show ((10 : Int) ^ (30 : Int).toNat) = 10 ^ 30 from rfl]
      refine op_mod (by decide) ?_
      exact ⟨by unfold mark; rw [if_neg hc], rfl⟩
  have emu : ([n0, n1, n2, n3].map fun n => V.int (mark (n / 24))) = q4 fun i => muOf ([n0, n1, n2, n3].getD i 0) := by
    show [V.int (mark (n0 / 24)), .int (mark (n1 / 24)), .int (mark (n2 / 24)), .int (mark (n3 / 24))] = [nV (muOf n0), nV (muOf n1), nV (muOf n2), nV (muOf n3)]
    rw [← muOf_int, ← muOf_int, ← muOf_int, ← muOf_int]
  rw [emu]
  refine thn_next ?_
  show JX _ _ ⟨setv "much" (.lst (q4 fun i => muOf ([n0, n1, n2, n3].getD i 0))) _, _, _⟩ _
  generalize emu : (fun i => muOf ([n0, n1, n2, n3].getD i 0)) = mu
  have hmu : ∀ i, (mu i).log2 ≤ 99 := fun i => by subst emu; exact muOf_log _
  clear emu erw
  dsimp only
  refine x_seq ?_
  refine x_Assign ?_ (by rfl)
  refine ev_CallB (t_iter (by exact HBc)) (by rfl) ?_
  refine l_cons ?_
  refine ev_ListComp (by kernel_rfl) ?_
  repeat walk_at "w"
  have eoct : ([0, 1, 2, 3].flatMap fun i => (octs (mu i)).map V.int) = (octA mu 0).map .int := by
    rw [List.map_flatMap]; rfl
  have hlenO : (octA mu 0).length ≤ 400 := flat_len 100 (fun i => octs (mu i)) [0, 1, 2, 3] fun i _ => by
    have h1 := hmu i
    have h2 := octs_len (mu i)
    lia
  refine comp_flat1 [0, 1, 2, 3] (fun i => nV (mu i)) (fun i => (octs (mu i)).map .int) rfl ?_ (by rfl) (by first | exact .inl rfl | exact .inr rfl) (by rfl) (by first | exact .inl rfl | exact .inr rfl) (fun i hi vs hF hx => ?_) (fun i hi b hb vs hx => ?_) ?_
  · rw [eoct, List.length_map]
    exact Nat.le_trans hlenO (by decide)
  · have hx' : gv vs "number" = some (nV (mu i)) := hx
    refine ev_CallC (by exact HBc) (g_oct (by exact HBc)) oct_keep (by rfl) ?_
    repeat walk_at "w"
    refine JC.jv (c_oct (by exact HBc) (show C.d + 1 ≤ 900 from dk hd (by decide)) (mu i) (Nat.le_trans (hmu i) (by decide)) ?_)
    exact ⟨rfl, rfl⟩
  · have hx' : gv vs "octet" = some b := hx
    repeat walk_at "w"
    exact ⟨rfl, rfl⟩
  rw [eoct]
  refine l_nil ?_
  refine b_iter ?_
  refine thn_next ?_
  dsimp only
  refine x_seq ?_
  refine x_Assign ?_ (by rfl)
  refine ev_CallC (by exact HBc) (g_eaten (by exact HBc)) eaten_keep (by rfl) ?_
  refine l_cons ?_
  refine ev_ListComp (by kernel_rfl) ?_
  repeat walk_at "w"
  refine comp_map [0, 1, 2, 3] (fun i => .lst ((rw i).map nV)) (fun i => .str (lineN (rw i))) rfl (by decide) (by rfl) (by first | exact .inl rfl | exact .inr rfl) (fun i hi => ?_) ?_
  · have hi4 := in0123 hi
    have hlt : ∀ t ∈ rw i, t < 4 := fun t ht => Rows.lt hrw hi4 ht
    have hlen : (rw i).length = 4 := Rows.len hrw hi4
    refine ev_CallC (by exact HBc) (g_joins (by exact HBc)) joins_keep (by rfl) ?_
    refine l_cons ?_
    refine ev_ListComp (by kernel_rfl) ?_
    walk_at "w"
    refine comp_map (rw i) nV (fun t => .str (nm t)) rfl (by rw [hlen]; decide) (by rfl) (by first | exact .inl rfl | exact .inr rfl) (fun t ht => ?_) ?_
    · have ht4 := hlt t ht
      repeat walk_at "w"
      refine sub_lst (x := .str (nm t)) (by lia) ?_ (by lia) ?_
      · rw [Int.toNat_natCast]
        obtain rfl | rfl | rfl | rfl : t = 0 ∨ t = 1 ∨ t = 2 ∨ t = 3 := by lia
        · rfl
        · rfl
        · rfl
        · rfl
      exact ⟨rfl, rfl⟩
    rw [show ((rw i).map fun t => V.str (nm t)) = ((rw i).map nm).map .str from (List.map_map ..).symm]
    refine l_nil ?_
    refine JC.jv (c_join (by exact HBc) (show C.d + 1 ≤ 700 from dk hd (by decide)) (by exact hgp) (by exact hpin) ((upd_ne _ _ (by lia)).trans h0) (qts_nm hlt) (lineN_ok _ (Nat.le_of_eq hlen)) (by rw [List.length_map, hlen]; decide) ?_)
    exact ⟨rfl, rfl⟩
  repeat walk_at "w"
  refine c_eaten (C := C.into fd_law.scope) H (show C.d + 1 ≤ 380 from dk hd (by decide)) (show C.u + 3 ≤ 1890 from dk hu (by decide)) hrw (fun t => Nat.le_trans (hmu t) (by decide)) (by exact upd_self _ _ _) fun i2 G S hdr hS => ?_
  rw [upd_upd]
  refine thn_next ?_
  dsimp only
  have hH0 : upd st.heap st.nx (AO.iter ((octA mu 0).map V.int) i2) 0 = some .codes := (upd_ne _ _ (by lia)).trans h0
  have hHk : upd st.heap st.nx (AO.iter ((octA mu 0).map V.int) i2) st.nx = some (.iter ((octA mu 0).map .int) i2) := upd_self _ _ _
  generalize upd st.heap st.nx (AO.iter ((octA mu 0).map V.int) i2) = H2 at hH0 hHk ⊢
  refine x_seq ?_
  refine x_If ?_
  refine tt_Compare ?_
  refine ev_ListComp (by kernel_rfl) ?_
  refine ev_CallT (t_range (by exact HBc)) (by rfl) ?_
  repeat walk_at "w"
  refine b_range1 ?_
  refine comp_map (List.range 4) nV (fun t => nV (12 ^ 4 * mu t)) (itb_rngN _ 4 (by decide)) (by decide) (by rfl) (by first | exact .inl rfl | exact .inr rfl) (fun t ht => ?_) ?_
  · have ht4 := List.mem_range.mp ht
    refine ev_CallB (t_sum (by exact HBc)) (by rfl) ?_
    refine l_cons ?_
    refine ev_ListComp (by kernel_rfl) ?_
    walk_at "w"
    refine comp_map [0, 1, 2, 3] (fun r => .lst (q4 (S r))) (fun r => nV (S r t)) rfl (by decide) (by rfl) (by first | exact .inl rfl | exact .inr rfl) (fun r hr => ?_) ?_
    · repeat walk_at "w"
      refine sub_lst (by lia) (q4_at _ ht4) (by lia) ?_
      exact ⟨rfl, rfl⟩
    repeat walk_at "w"
    refine b_sumN (l := [S 0 t, S 1 t, S 2 t, S 3 t]) (by rfl) ?_
    have := hS.all t ht4
    have e : [S 0 t, S 1 t, S 2 t, S 3 t].sum = 12 ^ 4 * mu t := by
      rw [← this]
      simp only [List.sum_cons, List.sum_nil]
      lia
    rw [e]
    exact ⟨rfl, rfl⟩
  refine ev_ListComp (by kernel_rfl) ?_
  repeat walk_at "w"
  refine comp_map [0, 1, 2, 3] (fun t => nV (mu t)) (fun t => nV (12 ^ 4 * mu t)) rfl (by decide) (by rfl) (by first | exact .inl rfl | exact .inr rfl) (fun t ht => ?_) ?_
  · repeat walk_at "w"
    refine op_pow (by decide) (by decide) ?_
    repeat walk_at "w"
    refine op_mul ?_ (IntMulOk.of_left (by decide))
    exact ⟨rfl, rfl⟩
  refine op_neR (by rfl) (by exact ok_q4 fun t => 12 ^ 4 * mu t) (Nat.lt_of_le_of_lt (Nat.add_le_add_left (dep_q4 fun t => 12 ^ 4 * mu t) _) (show C.u + 3 + 2 < 9900 by lia)) ?_
  repeat walk_at "w"
  refine ev_CallT (t_list (by exact HBc)) (by rfl) ?_
  repeat walk_at "w"
  refine b_listI (by exact hHk) (by rw [List.length_map]; exact Nat.le_trans hlenO (by decide)) ?_
  repeat walk_at "w"
  refine ⟨Nat.le_of_ble_eq_true rfl, ?_⟩
  rw [← List.map_drop, hdr]
  refine op_neR rfl rfl (show C.u + 3 + _ < 9900 by show C.u + 3 + 1 < 9900; lia) ?_
  repeat walk_at "w"
  refine tt_value ?_
  refine ev_CallC (by exact HBc) (g_envied (by exact HBc)) envied_keep (by rfl) ?_
  repeat walk_at "w"
  refine c_envied (C := C.into fd_law.scope) H (show C.d + 1 ≤ 790 from dk hd (by decide)) (show C.u + 3 ≤ 2990 from dk hu (by decide)) hS ?_
  repeat walk_at "w"
  refine ev_CallC (by exact HBc) (g_dealt (by exact HBc)) dealt_keep (by rfl) ?_
  repeat walk_at "w"
  refine ev_SliceG ?_
  repeat walk_at "w"
  refine p_some ?_
  repeat walk_at "w"
  refine ⟨_, rfl, ?_⟩
  refine p_none ?_
  refine ⟨_, rfl, by rw [List.length_map]; exact Nat.le_trans hn6.2 (by decide), ?_⟩
  rw [show (some 4 : Option Int) = some ((4 : Nat) : Int) from rfl, sl_from, ← List.map_drop]
  repeat walk_at "w"
  refine c_dealt (C := C.into fd_law.scope) H (show C.d + 1 ≤ 790 from dk hd (by decide)) (show C.u + 3 ≤ 2990 from dk hu (by decide)) (A := fun t => 12 ^ 4 * mu t) hS.all (ms := (n0 :: n1 :: n2 :: n3 :: rest).drop 4) (by rw [List.length_drop]; exact Nat.le_trans (Nat.sub_le _ _) (Nat.le_trans hn6.2 (by decide))) fun X hX => ?_
  refine thn_next ?_
  dsimp only
  refine x_seq ?_
  refine x_Assign ?_ (by rfl)
  refine ev_CallC (by exact HBc) (g_sums (by exact HBc)) sums_keep (by rfl) ?_
  repeat walk_at "w"
  refine c_sums (C := C.into fd_law.scope) H (show C.d + 1 ≤ 790 from dk hd (by decide)) (show C.u + 3 ≤ 2990 from dk hu (by decide)) hrw S fun m hm hms => ?_
  refine thn_next ?_
  dsimp only
  refine x_seq ?_
  refine x_Assign ?_ (by rfl)
  refine ev_CallC (by exact HBc) (g_sums (by exact HBc)) sums_keep (by rfl) ?_
  repeat walk_at "w"
  refine c_sums (C := C.into fd_law.scope) H (show C.d + 1 ≤ 790 from dk hd (by decide)) (show C.u + 3 ≤ 2990 from dk hu (by decide)) hrw X fun l hl hls => ?_
  refine thn_next ?_
  dsimp only
  have hlen : l.length = m.length := by rw [hl.length_eq, hm.length_eq, List.length_map, List.length_map]
  have key : lexLe l m = true ∧ decide (l = m) = PyData.eqv (toD (shV X)) (toD (shV S)) := by
    rcases hS.lex hX hls hms hl hm with e | e
    · have ex : shV X = shV S := shV_congr (hS.same e)
      have el : l = m := sorted_eq hls hms (hl.trans ((List.Perm.of_eq (List.map_congr_left fun p hp => by rw [e p hp])).trans hm.symm))
      rw [el, ex, SeqAt.eqv_refl _ (canLay_toD (ok_sh S))]
      exact ⟨lexLe_refl m, decide_eq_true rfl⟩
    · refine ⟨lexLe_of e, ?_⟩
      have ne := lexLess_irr e
      rw [decide_eq_false ne]
      symm
      refine Bool.eq_false_iff.mpr fun q => ne ?_
      have ex := eqv_sh q
      exact sorted_eq hls hms (hl.trans ((List.Perm.of_eq (List.map_congr_left fun p hp => by rw [had_congr hS ex p hp])).trans hm.symm))
  refine x_seq ?_
  refine x_Return ?_
  refine ev_And2 ?_
  repeat walk_at "w"
  refine op_leN hlen (Nat.lt_of_le_of_lt (show C.u + 3 ≤ 2000 by lia) (by decide)) ?_
  rw [key.1]
  repeat walk_at "w"
  refine op_eqD (ok_tV l) (ok_tV m) (Nat.lt_of_le_of_lt (Nat.add_le_add_left (Nat.le_trans (Nat.min_le_left _ _) (dep_tV l)) _) (show C.u + 3 + 2 < 9900 by lia)) ?_
  rw [eqv_tV, key.2]
  repeat walk_at "w"
  refine op_eqD (ok_sh X) (ok_sh S) (Nat.lt_of_le_of_lt (Nat.add_le_add_left (Nat.le_trans (Nat.min_le_left _ _) (dep_sh X)) _) (show C.u + 3 + 10 < 9900 by lia)) ?_
  repeat walk_at "w"
  refine op_eqD rfl rfl (Nat.lt_of_le_of_lt (Nat.add_le_add_left (Nat.le_trans (Nat.min_le_left _ _) (dep_bool _)) _) (show C.u + 3 + 1 < 9900 by lia)) ?_
  rw [eqv_bool, beq_self_eq_true]
  repeat walk_at "w"
  exact h _ ((del_ne _ (by lia)).trans hH0)
end
end Mine
end
section -- SEnd
set_option maxRecDepth 100000
set_option maxHeartbeats 400000
open PySem PySem.W PyProof.Rows Mine
namespace Mine
theorem hwit : rr.toRowW.promised := by w_witness2
noncomputable def baseOf (h : Heap) : PH := fun b => if b = 738 then none else h.get? b
theorem baseOf_ne {h : Heap} {b : Addr} {o : Obj} (hb : b ≠ 738) (e : h.get? b = some o) : baseOf h b = some o := (if_neg hb).trans e
theorem baseOf_in {h : Heap} {b : Addr} {o : Obj} (e : baseOf h b = some o) : h.get? b = some o ∧ b ≠ 738 := by
  unfold baseOf at e
  split at e
  · cases e
  · exact ⟨e, by assumption⟩
theorem look_app {A : List (Addr × Obj)} {B : List (Addr × Obj)} {a : Addr} {o : Obj} (h : A.lookup a = some o) : (A ++ B).lookup a = some o := by
  rw [List.lookup_append, h]; rfl
theorem baseK (w : World) {h : Heap} {mg mb : Str → Option Value} (Y : InK Kx w h) (g : h.Ns mainGlobals mg) (b : h.Ns builtinsNs mb) (hb : ∀ x : Str, x ≠ "__name__" → mb x = bootBuiltins x) (nl : h.NoLimit) : BaseK (K w.params) (baseOf h) where
  k := fun a o e => baseOf_ne (fun q => by subst q; exact absurd (e.symm.trans (show (K w.params).lookup 738 = none from by kernel_rfl)) nofun) (Y a o (look_app e))
  nl := fun h' k => let ⟨mc, n1, n2⟩ := nl; ⟨mc, n1.at' fun o e => k _ _ (baseOf_ne (by decide) e), n2⟩
  g := fun h' k => ⟨mg, g.at' fun o e => k _ _ (baseOf_ne (by decide) e)⟩
  b := fun h' k => ⟨mb, b.at' fun o e => k _ _ (baseOf_ne (by decide) e), hb⟩
theorem ints_vrs {Z : PH} {ρ : List Addr} {vs : List Value} {ns : List Int} (h : IntsAre vs ns) : VRs Z ρ (ns.map .int) vs := by
  induction h with
  | nil => exact .nil
  | cons n t _ ih => exact .cons (.int n t) ih
theorem call : WalkO q loose (XL q []) (InK Kx) rr.toRowW theLaw kwd0 fun f vs => PySem.call f vs := by
  w_on
  intro w s₀ s₁ mg mb G Y fa o pm cd doc dV kV ho hd hcd hD hmg hg args vals as hpre hlay hrd hwl hlo
  refine Ground.open G ?_
  intro T B D TE TW
  wrow_args hpre hlay hrd hwl hlo
  rename_i ns hs0 hlay0 hL1 hr1 hl2 x4 x3 la x1 x0 hL ra w1 r0 hI hr2 hc1 hc2
  have HB0 := baseK w Y T.g T.b T.builtins T.nolimit
  have e825 : fa = 825 := by
    obtain ⟨mg', g1, g2⟩ := (HB0.glo (by kernel_rfl) : Glo (baseOf s₁.heap) "law" (.ref 825)) s₁.heap fun a o e => (baseOf_in e).1
    rw [g1.eq_nsMap, ← T.g.eq_nsMap] at g2
    have : some (Value.ref fa) = some (.ref 825) := hmg.symm.trans g2
    exact Value.ref.inj (Option.some.inj this)
  subst e825
  have hla : s₁.heap.get? la = some { cls := .type "list", data := .seq x1.toArray } := by
    cases w1 with
    | list e _ =>
      obtain ⟨o', q1, _, n, q2⟩ := hL
      rw [e] at q1; cases q1
      cases q2
      exact e
  have h738 : s₁.heap.get? 738 = some ⟨.none, none, .fields #[], #[]⟩ := Y 738 _ (by kernel_rfl)
  have hne : la ≠ 738 := fun e => by rw [e, h738] at hla; cases hla
  let C : Fx := { prog := rr.prog, w := w, os := s₁.os, base := baseOf s₁.heap, d := 301, u := 4, sc := fd_law.scope, gp := fun g _ => AllBare g, pin := some 738, tk := 0 }
  have HBC : HB C := HB0
  refine wpAny_weaker (A := C.A) rfl (show callerA.depth ≤ 301 by decide) rfl rfl (show callerA.units ≤ 4 by decide) ?_
  refine wpAny_call (codeAny_mono (call_raw (C := C) (Z := C.base) (vars := [("script", .lst (ns.map .int))]) (Q := fun v st' => v = .bool true ∧ st'.heap 0 = some .codes) (f_law HBC) (show 301 < 1000 by decide) (show parOk fd_law.scope ["script"] = true by decide +kernel) (PH.le.refl _) (fun b o e => (baseOf_in e).1) (fun p e => ?_) rfl (Nat.zero_le _) ?_ (BindsTo.of_eq rfl) (.cons (.lst (baseOf_ne hne hla) (ints_vrs hI)) .nil) ?_) fun r s' hr => ?_)
  · cases e
    exact ⟨show (if (738 : Addr) = 738 then none else s₁.heap.get? 738) = none from if_pos rfl, _, h738, .codes rfl trivial⟩
  · show AllBare s₁.gens
    rw [hg]; exact AllBare.empty
  · refine b_law (C := C) (st := ⟨[], pinned (some 738), 1⟩) HBC (Nat.le_refl 301) (show 4 ≤ 1000 by decide) rfl rfl (fun n hn => ?_) rfl ns rfl (by omega) fun st' h => ⟨rfl, h⟩
    have hn' : (if n = 0 then (some 738 : Option Addr).map fun _ => AO.codes else none).isSome := hn
    by_cases e : n = 0
    · subst e; exact Nat.zero_lt_one
    · rw [if_neg e] at hn'; cases hn'
  · obtain ⟨v, wv, st', Z', ρ', rfl, hz', hr', rv, kk, e1, e2, e3, rfl, e5⟩ := hr
    cases rv
    obtain ⟨oP, hP, hC⟩ := e3 738 rfl _ e5
    have k742 : s₁.heap.get? 742 = some _ := Y 742 _ rfl
    refine ⟨.inl ⟨_, .bool true, [], rfl, fun _ => rfl, .bool true, by wrow_post, fun h => ⟨.nil, fun _ ha => nomatch ha⟩⟩, ⟨fun b o e => ?_, fun b o e => ?_⟩, e1, e2⟩
    · by_cases q : b = 738
      · subst q
        rw [h738] at e; cases e
        cases hC with
        | codes hd ht => exact .inr (.inl ⟨⟨742, _, _, k742, rfl, rfl, rfl⟩, rfl, #[], _, rfl, by rw [hP, hd, Array.empty_append]⟩)
      · exact .inl (kk b o (fun z => q (by cases z; rfl)) e)
    · by_cases q : b = 738
      · subst q; exact ⟨_, hP⟩
      · exact ⟨_, kk b o (fun z => q (by cases z; rfl)) e⟩
end Mine
theorem PySem.Challenge.cw_oy0341_04_holds : PySem.Challenge.rw_oy0341_04.Holds := by
  exact holds_law Mine.wellSaid fun said => Mine.head1 Mine.hwit said Mine.call
end
