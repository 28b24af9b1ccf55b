import PyProof.Rows.All
import Wide.All
import OpenK.AllK
import Wide.FinOn
import Lean
import PySem.Challenge.RW_oy0371_01
set_option Elab.async false
set_option maxRecDepth 100000
set_option maxHeartbeats 0
set_option linter.unusedVariables false
set_option compiler.extract_closed false

section -- HeadA
open PySem PySem.W PyProof.Rows
namespace Mine
open PySem PySem.W

noncomputable def runT (stp : SharedT → Thread → Option (SharedT × Thread)) (n₀ : Nat) (ann : Option Value) : Nat → SharedT → Thread → Option SharedT
  | 0, _, _ => none
  | n + 1, s, t => match through t with
    | true => some s
    | false => match stepOk n₀ ann t with
      | false => none
      | true => match stp s t with
        | some (s', t') => runT stp n₀ ann n s' t'
        | none => none

theorem runT_of {tb : String → Option Builtin} {p : Program} {w : World} {n₀ : Nat} {ann : Option Value} : ∀ {n : Nat} {s s' : SharedT} {t : Thread},
    runT (stepT (denote tb) p w) n₀ ann n s t = some s' → topRun tb p w n₀ ann n s.abs t = some s'.abs
  | 0, _, _, _, h => by cases h
  | n + 1, s, s', t, h => by
    unfold runT at h
    unfold topRun
    cases he : through t with
    | true => rw [he] at h; cases h; rfl
    | false =>
      rw [he] at h
      cases hk : stepOk n₀ ann t with
      | false => rw [hk] at h; cases h
      | true =>
        rw [hk] at h
        cases hs : stepT (denote tb) p w s t with
        | none => rw [hs] at h; cases h
        | some r => obtain ⟨s₂, t₂⟩ := r; rw [hs] at h; dsimp only; rw [stepT_spec hs]; exact runT_of h

noncomputable def buildT : List Obj → Nat → BT → Option BT
  | [], _, t => some t
  | o :: r, n, t => match ((t.ins n o).get n).isSome with
    | true => buildT r (n + 1) (t.ins n o)
    | false => none

theorem buildT_of {life : Life} : ∀ {l : List Obj} {n : Nat} {t t' : BT}, buildT l n t = some t' → absHeap t' (n + l.length) life = ⟨(absHeap t n life).objs ++ l.toArray, life⟩
  | [], n, t, t', h => by
    unfold buildT at h
    cases h
    show absHeap t n life = ⟨(absHeap t n life).objs ++ #[], life⟩
    rw [Array.append_empty]
    rfl
  | o :: r, n, t, t', h => by
    unfold buildT at h
    cases hg : ((t.ins n o).get n).isSome with
    | false => rw [hg] at h; cases h
    | true =>
      rw [hg] at h
      have e := buildT_of (life := life) h
      rw [absHeap_ins hg] at e
      rw [show n + (o :: r).length = n + 1 + r.length by simp only [List.length_cons]; omega, e]
      unfold absHeap
      show (⟨_, life⟩ : Heap) = ⟨_, life⟩
      congr 1
      apply Array.ext'
      simp [Heap.push]

noncomputable def annOf (s : Shared) : Option Value := s.heap.nsMap mainGlobals "__annotations__"
noncomputable def G0 (w : World) (N : Nat) : Option SharedT :=
  ((importEnds treeTable (opening PySem.Challenge.pw_oy0371_01) w N (start (opening PySem.Challenge.pw_oy0371_01)).1 (start (opening PySem.Challenge.pw_oy0371_01)).2).bind (fenceModules? PySem.Challenge.pw_oy0371_01)).bind fun s₀ =>
    match s₀.heap.isNs mainGlobals && s₀.gens.size == 0 with
    | false => none
    | true => match buildT s₀.heap.objs.toList 0 .nil with
      | none => none
      | some t => (runT (stepT (denote treeTable) PySem.Challenge.pw_oy0371_01 w) s₀.heap.objs.size (s₀.heap.nsMap mainGlobals "__annotations__") N ⟨t, s₀.heap.objs.size, s₀.heap.life, s₀.gens, s₀.drawn, s₀.toks, s₀.os⟩ (topStub PySem.Challenge.pw_oy0371_01)).bind fun s₁ =>
        match staticsOk (importedModules PySem.Challenge.pw_oy0371_01.main.body) s₀.heap s₁.abs.heap && namesBound PySem.Challenge.pw_oy0371_01 s₁.abs.heap && gensDone s₁.abs && laidKept s₀.heap s₁.abs.heap with
        | true => some s₁
        | false => none

noncomputable def gT (s : SharedT) (a : Nat) : Option Obj := match Nat.blt a s.n with
  | true => (match s.tree.get a with
    | some o => alive o
    | none => alive default)
  | false => none
theorem gT_eq (s : SharedT) (a : Nat) : s.abs.heap.get? a = gT s a := by
  obtain ⟨T, n, life, gens, drawn, toks, os⟩ := s
  show (absHeap T n life).get? a = _
  unfold gT
  dsimp only
  cases hb : Nat.blt a n with
  | false => exact abs_get_none fun h => by rw [Nat.blt_eq.mpr h] at hb; cases hb
  | true =>
    have hl : a < n := Nat.blt_eq.mp hb
    cases hg : T.get a with
    | some o => exact abs_get hl hg
    | none =>
      unfold Heap.get?
      rw [absHeap_at, if_pos hl, hg]
      rfl

theorem G0_spec {w : World} {N : Nat} {s : SharedT} (h : G0 w N = some s) : openEnds treeTable PySem.Challenge.pw_oy0371_01 w N = some s.abs := by
  unfold G0 at h
  obtain ⟨s₀, h1, h2⟩ := Option.bind_eq_some_iff.mp h
  unfold openEnds fencedOpening
  rw [h1]
  show topFrom treeTable PySem.Challenge.pw_oy0371_01 w N s₀ = some s.abs
  unfold topFrom
  cases hg : (s₀.heap.isNs mainGlobals && s₀.gens.size == 0) with
  | false => rw [hg] at h2; cases h2
  | true =>
    rw [hg] at h2
    dsimp only at h2 ⊢
    cases hb : buildT s₀.heap.objs.toList 0 .nil with
    | none => rw [hb] at h2; cases h2
    | some t =>
      rw [hb] at h2
      dsimp only at h2
      obtain ⟨s₁, h3, h4⟩ := Option.bind_eq_some_iff.mp h2
      have e := runT_of h3
      have ea : (SharedT.abs ⟨t, s₀.heap.objs.size, s₀.heap.life, s₀.gens, s₀.drawn, s₀.toks, s₀.os⟩) = s₀ := by
        obtain ⟨⟨objs, life⟩, gens, drawn, toks, os⟩ := s₀
        have := buildT_of (life := life) hb
        show (⟨absHeap t objs.size life, gens, drawn, toks, os⟩ : Shared) = _
        have e0 : absHeap BT.nil 0 life = ⟨#[], life⟩ := rfl
        rw [e0] at this
        have e1 : objs.toList.length = objs.size := by simp
        rw [e1, Nat.zero_add] at this
        rw [this]
        simp
      rw [ea] at e
      rw [e]
      cases hs : (staticsOk (importedModules PySem.Challenge.pw_oy0371_01.main.body) s₀.heap s₁.abs.heap && namesBound PySem.Challenge.pw_oy0371_01 s₁.abs.heap && gensDone s₁.abs && laidKept s₀.heap s₁.abs.heap) with
      | false => rw [hs] at h4; cases h4
      | true =>
        rw [hs] at h4
        cases h4
        show (match (staticsOk (importedModules PySem.Challenge.pw_oy0371_01.main.body) s₀.heap s.abs.heap && namesBound PySem.Challenge.pw_oy0371_01 s.abs.heap && gensDone s.abs && laidKept s₀.heap s.abs.heap) with | true => some s.abs | false => none) = _
        rw [hs]

theorem left_of {q : Program} {loose : List Str} {Xt : Shared → Bool} {α : Type} {Yf : Shared → α} {Yt : SharedT → α} {Ya : World → α} {N : Nat} (e : ∀ s : SharedT, Yf s.abs = Yt s)
    (h : ∀ w, (G0 w N).map (fun s => (openSeen q loose (importedModules PySem.Challenge.pw_oy0371_01.main.body) Xt true s.abs, Yt s)) = some (openGood q loose, Ya w)) : LeftO PySem.Challenge.pw_oy0371_01 q loose Xt Yf Ya N true := by
  intro w
  obtain ⟨s, h1, h2⟩ := Option.map_eq_some_iff.mp (h w)
  rw [G0_spec h1]
  have e1 := e s
  have e2 := Prod.mk.inj h2
  show (some s.abs).map _ = _
  exact congrArg some (Prod.ext e2.1 (e1.trans e2.2))
end Mine
end

section -- HeadK
open PySem PySem.W PyProof.Rows
namespace Mine
noncomputable def nth : List Stmt → Nat → Stmt
  | [], _ => .Pass default
  | s :: _, 0 => s
  | _ :: r, n + 1 => nth r n
noncomputable def cb : Stmt → List Stmt
  | .ClassDef _ _ _ b _ _ _ _ _ _ _ => b
  | _ => []
noncomputable def fa : Stmt → Arguments
  | .FunctionDef _ a _ _ _ _ _ _ _ _ => a
  | _ => ⟨[], [], none, [], [], none, []⟩
noncomputable def fb : Stmt → List Stmt
  | .FunctionDef _ _ b _ _ _ _ _ _ _ => b
  | _ => []
noncomputable def fsc : Stmt → Scope
  | .FunctionDef _ _ _ _ _ _ s _ _ _ => s
  | _ => default
noncomputable def mb : List Stmt := PySem.Challenge.pw_oy0371_01.main.body
noncomputable def o2 (P : Params) : Obj := ⟨.none, none, (.dict ([⟨(PyData.keyHash P (Str.ofString "\x69mport.loaded._sre")), (.str (Str.ofString "\x69mport.loaded._sre") (nat_lit 183)), (.bool true)⟩, ⟨(PyData.keyHash P (Str.ofString "class._frozen_importlib.BuiltinImporter")), (.str (Str.ofString "class._frozen_importlib.BuiltinImporter") (nat_lit 185)), (.ref (nat_lit 14))⟩, ⟨(PyData.keyHash P (Str.ofString "watched.\x69mport")), (.str (Str.ofString "watched.\x69mport") (nat_lit 206)), (.ref (nat_lit 18))⟩, ⟨(PyData.keyHash P (Str.ofString "class._frozen_importlib.ModuleSpec")), (.str (Str.ofString "class._frozen_importlib.ModuleSpec") (nat_lit 216)), (.ref (nat_lit 22))⟩, ⟨(PyData.keyHash P (Str.ofString "sys.modules.booked-epoch")), (.str (Str.ofString "sys.modules.booked-epoch") (nat_lit 245)), (.int (Int.ofNat (nat_lit 4)) (nat_lit 0))⟩, ⟨(PyData.keyHash P (Str.ofString "\x69mport.later-laid._sre")), (.str (Str.ofString "\x69mport.later-laid._sre") (nat_lit 270)), (.bool true)⟩, ⟨(PyData.keyHash P (Str.ofString "watched.library")), (.str (Str.ofString "watched.library") (nat_lit 272)), (.ref (nat_lit 27))⟩, ⟨(PyData.keyHash P (Str.ofString "watched.library-objects")), (.str (Str.ofString "watched.library-objects") (nat_lit 0)), (.str (Str.ofString "\x0c\x1e") (nat_lit 0))⟩, ⟨(PyData.keyHash P (Str.ofString "watched.library-deep._sre")), (.str (Str.ofString "watched.library-deep._sre") (nat_lit 273)), (.str (Str.ofString "\x04\x00\x00\x0b\x04\x00\x00\x0b\x04\x00\x00\x03\x04\x00\x00\x0b\x08\x04dict\x02") (nat_lit 0))⟩, ⟨(PyData.keyHash P (Str.ofString "\x69mport.loaded._collections")), (.str (Str.ofString "\x69mport.loaded._collections") (nat_lit 280)), (.bool true)⟩, ⟨(PyData.keyHash P (Str.ofString "sys.modules.landed._collections")), (.str (Str.ofString "sys.modules.landed._collections") (nat_lit 294)), (.bool true)⟩, ⟨(PyData.keyHash P (Str.ofString "\x69mport.later-laid._collections")), (.str (Str.ofString "\x69mport.later-laid._collections") (nat_lit 309)), (.bool true)⟩, ⟨(PyData.keyHash P (Str.ofString "watched.library-deep._collections")), (.str (Str.ofString "watched.library-deep._collections") (nat_lit 311)), (.str (Str.ofString "\x04\x00\x00\x1d\x04\x00\x00\x1d\x04\x00\x00\x03\x04\x00\x00\x1d\x08\x04dict\x02") (nat_lit 0))⟩, ⟨(PyData.keyHash P (Str.ofString "type.__subclasses__.OSError.0")), (.str (Str.ofString "type.__subclasses__.OSError.0") (nat_lit 452)), (.int (Int.ofNat (nat_lit 103)) (nat_lit 0))⟩, ⟨(PyData.keyHash P (Str.ofString "type.__subclasses__.OSError.n")), (.str (Str.ofString "type.__subclasses__.OSError.n") (nat_lit 453)), (.int (Int.ofNat (nat_lit 1)) (nat_lit 0))⟩]).toArray (nat_lit 15)), ([]).toArray⟩
noncomputable def o3 (P : Params) : Obj := ⟨(.type "dict"), none, (.dict ([⟨(PyData.keyHash P (Str.ofString "__name__")), (.str (Str.ofString "__name__") (nat_lit 165)), (.str (Str.ofString "law_oy0371_01") (nat_lit 1389))⟩, ⟨(PyData.keyHash P (Str.ofString "__doc__")), (.str (Str.ofString "__doc__") (nat_lit 166)), .none⟩, ⟨(PyData.keyHash P (Str.ofString "__package__")), (.str (Str.ofString "__package__") (nat_lit 167)), .none⟩, ⟨(PyData.keyHash P (Str.ofString "__loader__")), (.str (Str.ofString "__loader__") (nat_lit 168)), (.builtin "__main__.__loader__#opaque")⟩, ⟨(PyData.keyHash P (Str.ofString "__spec__")), (.str (Str.ofString "__spec__") (nat_lit 169)), .none⟩, ⟨(PyData.keyHash P (Str.ofString "__annotations__")), (.str (Str.ofString "__annotations__") (nat_lit 170)), (.ref (nat_lit 6))⟩, ⟨(PyData.keyHash P (Str.ofString "__builtins__")), (.str (Str.ofString "__builtins__") (nat_lit 171)), (.ref (nat_lit 4))⟩, ⟨(PyData.keyHash P (Str.ofString "__file__")), (.str (Str.ofString "__file__") (nat_lit 173)), (.str (Str.ofString "/claim/cut.py") (nat_lit 172))⟩, ⟨(PyData.keyHash P (Str.ofString "__cached__")), (.str (Str.ofString "__cached__") (nat_lit 174)), .none⟩, ⟨(PyData.keyHash P (Str.ofString "_sre")), (.str (Str.ofString "_sre") (nat_lit 275)), (.ref (nat_lit 12))⟩, ⟨(PyData.keyHash P (Str.ofString "deque")), (.str (Str.ofString "deque") (nat_lit 317)), (.type "collections.deque")⟩, ⟨(PyData.keyHash P (Str.ofString "_wall")), (.str (Str.ofString "_wall") (nat_lit 330)), (.ref (nat_lit 44))⟩, ⟨(PyData.keyHash P (Str.ofString "_buffer")), (.str (Str.ofString "_buffer") (nat_lit 340)), (.ref (nat_lit 51))⟩, ⟨(PyData.keyHash P (Str.ofString "_truth")), (.str (Str.ofString "_truth") (nat_lit 348)), (.ref (nat_lit 58))⟩, ⟨(PyData.keyHash P (Str.ofString "_B64")), (.str (Str.ofString "_B64") (nat_lit 350)), (.bytes #[65, 66, 67, 68, 69, 70, 71, 72, 73, 74, 75, 76, 77, 78, 79, 80, 81, 82, 83, 84, 85, 86, 87, 88, 89, 90, 97, 98, 99, 100, 101, 102, 103, 104, 105, 106, 107, 108, 109, 110, 111, 112, 113, 114, 115, 116, 117, 118, 119, 120, 121, 122, 48, 49, 50, 51, 52, 53, 54, 55, 56, 57, 43, 47] (nat_lit 349))⟩, ⟨(PyData.keyHash P (Str.ofString "b2a_base64")), (.str (Str.ofString "b2a_base64") (nat_lit 364)), (.ref (nat_lit 66))⟩, ⟨(PyData.keyHash P (Str.ofString "b64encode")), (.str (Str.ofString "b64encode") (nat_lit 375)), (.ref (nat_lit 74))⟩, ⟨(PyData.keyHash P (Str.ofString "_twin_re_1")), (.str (Str.ofString "_twin_re_1") (nat_lit 415)), (.ref (nat_lit 79))⟩, ⟨(PyData.keyHash P (Str.ofString "_whence")), (.str (Str.ofString "_whence") (nat_lit 425)), (.ref (nat_lit 86))⟩, ⟨(PyData.keyHash P (Str.ofString "_index")), (.str (Str.ofString "_index") (nat_lit 433)), (.ref (nat_lit 93))⟩, ⟨(PyData.keyHash P (Str.ofString "UnsupportedOperation")), (.str (Str.ofString "UnsupportedOperation") (nat_lit 455)), (.ref (nat_lit 103))⟩, ⟨(PyData.keyHash P (Str.ofString "IOBase")), (.str (Str.ofString "IOBase") (nat_lit 487)), (.ref (nat_lit 123))⟩, ⟨(PyData.keyHash P (Str.ofString "BufferedIOBase")), (.str (Str.ofString "BufferedIOBase") (nat_lit 505)), (.ref (nat_lit 138))⟩, ⟨(PyData.keyHash P (Str.ofString "TextIOBase")), (.str (Str.ofString "TextIOBase") (nat_lit 523)), (.ref (nat_lit 150))⟩, ⟨(PyData.keyHash P (Str.ofString "BytesIO")), (.str (Str.ofString "BytesIO") (nat_lit 785)), (.ref (nat_lit 380))⟩, ⟨(PyData.keyHash P (Str.ofString "StringIO")), (.str (Str.ofString "StringIO") (nat_lit 1072)), (.ref (nat_lit 627))⟩, ⟨(PyData.keyHash P (Str.ofString "_kind")), (.str (Str.ofString "_kind") (nat_lit 1083)), (.ref (nat_lit 636))⟩, ⟨(PyData.keyHash P (Str.ofString "_fspath")), (.str (Str.ofString "_fspath") (nat_lit 1092)), (.ref (nat_lit 643))⟩, ⟨(PyData.keyHash P (Str.ofString "_check_arg_types")), (.str (Str.ofString "_check_arg_types") (nat_lit 1102)), (.ref (nat_lit 650))⟩, ⟨(PyData.keyHash P (Str.ofString "isabs")), (.str (Str.ofString "isabs") (nat_lit 1109)), (.ref (nat_lit 657))⟩, ⟨(PyData.keyHash P (Str.ofString "join")), (.str (Str.ofString "join") (nat_lit 1120)), (.ref (nat_lit 809))⟩, ⟨(PyData.keyHash P (Str.ofString "join_path")), (.str (Str.ofString "join_path") (nat_lit 1121)), (.ref (nat_lit 664))⟩, ⟨(PyData.keyHash P (Str.ofString "_c_path")), (.str (Str.ofString "_c_path") (nat_lit 1134)), (.ref (nat_lit 671))⟩, ⟨(PyData.keyHash P (Str.ofString "_splitroot")), (.str (Str.ofString "_splitroot") (nat_lit 1143)), (.ref (nat_lit 678))⟩, ⟨(PyData.keyHash P (Str.ofString "dirname")), (.str (Str.ofString "dirname") (nat_lit 1153)), (.ref (nat_lit 685))⟩, ⟨(PyData.keyHash P (Str.ofString "_normpath")), (.str (Str.ofString "_normpath") (nat_lit 1168)), (.ref (nat_lit 692))⟩, ⟨(PyData.keyHash P (Str.ofString "normpath")), (.str (Str.ofString "normpath") (nat_lit 1176)), (.ref (nat_lit 699))⟩, ⟨(PyData.keyHash P (Str.ofString "shlex")), (.str (Str.ofString "shlex") (nat_lit 1317)), (.ref (nat_lit 790))⟩, ⟨(PyData.keyHash P (Str.ofString "split")), (.str (Str.ofString "split") (nat_lit 1327)), (.ref (nat_lit 802))⟩, ⟨(PyData.keyHash P (Str.ofString "join_shlex")), (.str (Str.ofString "join_shlex") (nat_lit 1335)), (.ref (nat_lit 809))⟩, ⟨(PyData.keyHash P (Str.ofString "_find_unsafe")), (.str (Str.ofString "_find_unsafe") (nat_lit 1337)), (.ref (nat_lit 810))⟩, ⟨(PyData.keyHash P (Str.ofString "quote")), (.str (Str.ofString "quote") (nat_lit 1344)), (.ref (nat_lit 817))⟩, ⟨(PyData.keyHash P (Str.ofString "sep")), (.str (Str.ofString "sep") (nat_lit 1346)), (.str (Str.ofString "/") (nat_lit 1345))⟩, ⟨(PyData.keyHash P (Str.ofString "_Ignore")), (.str (Str.ofString "_Ignore") (nat_lit 1388)), (.ref (nat_lit 840))⟩, ⟨(PyData.keyHash P (Str.ofString "_law_blocks")), (.str (Str.ofString "_law_blocks") (nat_lit 1396)), (.ref (nat_lit 849))⟩, ⟨(PyData.keyHash P (Str.ofString "_law_signs")), (.str (Str.ofString "_law_signs") (nat_lit 1405)), (.ref (nat_lit 856))⟩, ⟨(PyData.keyHash P (Str.ofString "_law_own")), (.str (Str.ofString "_law_own") (nat_lit 1411)), (.ref (nat_lit 861))⟩, ⟨(PyData.keyHash P (Str.ofString "_law_told")), (.str (Str.ofString "_law_told") (nat_lit 1417)), (.ref (nat_lit 866))⟩, ⟨(PyData.keyHash P (Str.ofString "law")), (.str (Str.ofString "law") (nat_lit 1423)), (.ref (nat_lit 871))⟩]).toArray (nat_lit 49)), ([]).toArray⟩
noncomputable def o50 (P : Params) : Obj := ⟨(.type "code"), none, (.fields ([(.str (Str.ofString "_buffer") (nat_lit 333)), (.str (Str.ofString "_buffer") (nat_lit 334)), (.str (Str.ofString "/claim/cut.py") (nat_lit 335)), (.int (Int.ofNat (nat_lit 7)) (nat_lit 0)), (.int (Int.ofNat (nat_lit 1)) (nat_lit 0)), (.int (Int.ofNat (nat_lit 0)) (nat_lit 0)), (.int (Int.ofNat (nat_lit 0)) (nat_lit 0)), (.int (Int.ofNat (nat_lit 3)) (nat_lit 0)), (.ref (nat_lit 45)), (.bool true), (.int (Int.ofNat (nat_lit 318)) (nat_lit 0)), (.ref (nat_lit 46)), .none, (.ref (nat_lit 47)), (.ref (nat_lit 48)), (.ref (nat_lit 49)), (.int (Int.ofNat (nat_lit 338)) (nat_lit 0)), (.int (Int.ofNat (nat_lit 7)) (nat_lit 0)), (.str (Str.ofString "/claim/cut.py") (nat_lit 339))]).toArray), ([]).toArray⟩
noncomputable def o51 (P : Params) : Obj := ⟨(.type "function"), none, (.func { name := (Str.ofString "_buffer"), qualname := (Str.ofString "_buffer"), params := fa (nth mb 4), body := .stmts (fb (nth mb 4)), scope := fsc (nth mb 4), globals := (nat_lit 3), closure := [], defaults := .none, kwdefaults := .none, doc := .none, pyModule := (.str (Str.ofString "binascii") (nat_lit 331)), annotations := none, code := (.ref (nat_lit 50)), closureTuple := .none, builtins := (nat_lit 0) }), ([]).toArray⟩
noncomputable def o57 (P : Params) : Obj := ⟨(.type "code"), none, (.fields ([(.str (Str.ofString "_truth") (nat_lit 341)), (.str (Str.ofString "_truth") (nat_lit 342)), (.str (Str.ofString "/claim/cut.py") (nat_lit 343)), (.int (Int.ofNat (nat_lit 14)) (nat_lit 0)), (.int (Int.ofNat (nat_lit 1)) (nat_lit 0)), (.int (Int.ofNat (nat_lit 0)) (nat_lit 0)), (.int (Int.ofNat (nat_lit 0)) (nat_lit 0)), (.int (Int.ofNat (nat_lit 3)) (nat_lit 0)), (.ref (nat_lit 52)), (.bool true), (.int (Int.ofNat (nat_lit 318)) (nat_lit 0)), (.ref (nat_lit 53)), .none, (.ref (nat_lit 54)), (.ref (nat_lit 55)), (.ref (nat_lit 56)), (.int (Int.ofNat (nat_lit 346)) (nat_lit 0)), (.int (Int.ofNat (nat_lit 14)) (nat_lit 0)), (.str (Str.ofString "/claim/cut.py") (nat_lit 347))]).toArray), ([]).toArray⟩
noncomputable def o58 (P : Params) : Obj := ⟨(.type "function"), none, (.func { name := (Str.ofString "_truth"), qualname := (Str.ofString "_truth"), params := fa (nth mb 5), body := .stmts (fb (nth mb 5)), scope := fsc (nth mb 5), globals := (nat_lit 3), closure := [], defaults := .none, kwdefaults := .none, doc := .none, pyModule := (.str (Str.ofString "binascii") (nat_lit 331)), annotations := none, code := (.ref (nat_lit 57)), closureTuple := .none, builtins := (nat_lit 0) }), ([]).toArray⟩
noncomputable def o59 (P : Params) : Obj := ⟨(.type "dict"), none, (.dict ([⟨(PyData.keyHash P (Str.ofString "newline")), (.str (Str.ofString "newline") (nat_lit 351)), (.bool true)⟩]).toArray (nat_lit 1)), ([]).toArray⟩
noncomputable def o65 (P : Params) : Obj := ⟨(.type "code"), none, (.fields ([(.str (Str.ofString "b2a_base64") (nat_lit 352)), (.str (Str.ofString "b2a_base64") (nat_lit 353)), (.str (Str.ofString "/claim/cut.py") (nat_lit 354)), (.int (Int.ofNat (nat_lit 20)) (nat_lit 0)), (.int (Int.ofNat (nat_lit 1)) (nat_lit 0)), (.int (Int.ofNat (nat_lit 1)) (nat_lit 0)), (.int (Int.ofNat (nat_lit 1)) (nat_lit 0)), (.int (Int.ofNat (nat_lit 3)) (nat_lit 0)), (.ref (nat_lit 60)), (.bool true), (.int (Int.ofNat (nat_lit 318)) (nat_lit 0)), (.ref (nat_lit 61)), .none, (.ref (nat_lit 62)), (.ref (nat_lit 63)), (.ref (nat_lit 64)), (.int (Int.ofNat (nat_lit 362)) (nat_lit 0)), (.int (Int.ofNat (nat_lit 20)) (nat_lit 0)), (.str (Str.ofString "/claim/cut.py") (nat_lit 363))]).toArray), ([]).toArray⟩
noncomputable def o66 (P : Params) : Obj := ⟨(.type "function"), none, (.func { name := (Str.ofString "b2a_base64"), qualname := (Str.ofString "b2a_base64"), params := fa (nth mb 7), body := .stmts (fb (nth mb 7)), scope := fsc (nth mb 7), globals := (nat_lit 3), closure := [], defaults := .none, kwdefaults := (.ref (nat_lit 59)), doc := .none, pyModule := (.str (Str.ofString "binascii") (nat_lit 331)), annotations := none, code := (.ref (nat_lit 65)), closureTuple := .none, builtins := (nat_lit 0) }), ([]).toArray⟩
noncomputable def o67 (P : Params) : Obj := ⟨(.type "tuple"), none, (.seq ([.none]).toArray (nat_lit 0)), ([]).toArray⟩
noncomputable def o73 (P : Params) : Obj := ⟨(.type "code"), none, (.fields ([(.str (Str.ofString "b64encode") (nat_lit 367)), (.str (Str.ofString "b64encode") (nat_lit 368)), (.str (Str.ofString "/claim/cut.py") (nat_lit 369)), (.int (Int.ofNat (nat_lit 43)) (nat_lit 0)), (.int (Int.ofNat (nat_lit 2)) (nat_lit 0)), (.int (Int.ofNat (nat_lit 0)) (nat_lit 0)), (.int (Int.ofNat (nat_lit 0)) (nat_lit 0)), (.int (Int.ofNat (nat_lit 3)) (nat_lit 0)), (.ref (nat_lit 68)), (.bool true), (.int (Int.ofNat (nat_lit 318)) (nat_lit 0)), (.ref (nat_lit 69)), .none, (.ref (nat_lit 70)), (.ref (nat_lit 71)), (.ref (nat_lit 72)), (.int (Int.ofNat (nat_lit 373)) (nat_lit 0)), (.int (Int.ofNat (nat_lit 43)) (nat_lit 0)), (.str (Str.ofString "/claim/cut.py") (nat_lit 374))]).toArray), ([]).toArray⟩
noncomputable def o74 (P : Params) : Obj := ⟨(.type "function"), none, (.func { name := (Str.ofString "b64encode"), qualname := (Str.ofString "b64encode"), params := fa (nth mb 9), body := .stmts (fb (nth mb 9)), scope := fsc (nth mb 9), globals := (nat_lit 3), closure := [], defaults := (.ref (nat_lit 67)), kwdefaults := .none, doc := .none, pyModule := (.str (Str.ofString "cpy313.base64") (nat_lit 365)), annotations := none, code := (.ref (nat_lit 73)), closureTuple := .none, builtins := (nat_lit 0) }), ([]).toArray⟩
noncomputable def o78 (P : Params) : Obj := ⟨(.type "tuple"), none, (.seq ([(.int (Int.ofNat (nat_lit 14)) (nat_lit 0)), (.int (Int.ofNat (nat_lit 17)) (nat_lit 0)), (.int (Int.ofNat (nat_lit 4)) (nat_lit 0)), (.int (Int.ofNat (nat_lit 1)) (nat_lit 0)), (.int (Int.ofNat (nat_lit 1)) (nat_lit 0)), (.int (Int.ofNat (nat_lit 21)) (nat_lit 0)), (.int (Int.ofNat (nat_lit 9)) (nat_lit 0)), (.int (Int.ofNat (nat_lit 0)) (nat_lit 0)), (.int (Int.ofNat (nat_lit 604043296)) (nat_lit 0)), (.int (Int.ofNat (nat_lit 1)) (nat_lit 0)), (.int (Int.ofNat (nat_lit 0)) (nat_lit 0)), (.int (Int.ofNat (nat_lit 0)) (nat_lit 0)), (.int (Int.ofNat (nat_lit 0)) (nat_lit 0)), (.int (Int.ofNat (nat_lit 0)) (nat_lit 0)), (.int (Int.ofNat (nat_lit 0)) (nat_lit 0)), (.int (Int.ofNat (nat_lit 8)) (nat_lit 0)), (.int (Int.ofNat (nat_lit 4)) (nat_lit 0)), (.int (Int.ofNat (nat_lit 0)) (nat_lit 0)), (.int (Int.ofNat (nat_lit 13)) (nat_lit 0)), (.int (Int.ofNat (nat_lit 14)) (nat_lit 0)), (.int (Int.ofNat (nat_lit 21)) (nat_lit 0)), (.int (Int.ofNat (nat_lit 9)) (nat_lit 0)), (.int (Int.ofNat (nat_lit 0)) (nat_lit 0)), (.int (Int.ofNat (nat_lit 604043296)) (nat_lit 0)), (.int (Int.ofNat (nat_lit 1)) (nat_lit 0)), (.int (Int.ofNat (nat_lit 0)) (nat_lit 0)), (.int (Int.ofNat (nat_lit 0)) (nat_lit 0)), (.int (Int.ofNat (nat_lit 0)) (nat_lit 0)), (.int (Int.ofNat (nat_lit 0)) (nat_lit 0)), (.int (Int.ofNat (nat_lit 0)) (nat_lit 0)), (.int (Int.ofNat (nat_lit 8)) (nat_lit 0)), (.int (Int.ofNat (nat_lit 4)) (nat_lit 0)), (.int (Int.ofNat (nat_lit 0)) (nat_lit 0)), (.int (Int.ofNat (nat_lit 1)) (nat_lit 0))]).toArray (nat_lit 0)), ([]).toArray⟩
noncomputable def o79 (P : Params) : Obj := ⟨(.type "re.Pattern"), none, (.fields ([(.str (Str.ofString "[^\\w@%+=:,./-]") (nat_lit 377)), (.int (Int.ofNat (nat_lit 256)) (nat_lit 414)), (.int (Int.ofNat (nat_lit 0)) (nat_lit 0)), .none, .none, (.ref (nat_lit 78)), (.int (Int.ofNat (nat_lit 0)) (nat_lit 0))]).toArray), ([]).toArray⟩
noncomputable def o92 (P : Params) : Obj := ⟨(.type "code"), none, (.fields ([(.str (Str.ofString "_index") (nat_lit 426)), (.str (Str.ofString "_index") (nat_lit 427)), (.str (Str.ofString "/claim/cut.py") (nat_lit 428)), (.int (Int.ofNat (nat_lit 56)) (nat_lit 0)), (.int (Int.ofNat (nat_lit 2)) (nat_lit 0)), (.int (Int.ofNat (nat_lit 0)) (nat_lit 0)), (.int (Int.ofNat (nat_lit 0)) (nat_lit 0)), (.int (Int.ofNat (nat_lit 3)) (nat_lit 0)), (.ref (nat_lit 87)), (.bool true), (.int (Int.ofNat (nat_lit 318)) (nat_lit 0)), (.ref (nat_lit 88)), .none, (.ref (nat_lit 89)), (.ref (nat_lit 90)), (.ref (nat_lit 91)), (.int (Int.ofNat (nat_lit 431)) (nat_lit 0)), (.int (Int.ofNat (nat_lit 56)) (nat_lit 0)), (.str (Str.ofString "/claim/cut.py") (nat_lit 432))]).toArray), ([]).toArray⟩
noncomputable def o93 (P : Params) : Obj := ⟨(.type "function"), none, (.func { name := (Str.ofString "_index"), qualname := (Str.ofString "_index"), params := fa (nth mb 13), body := .stmts (fb (nth mb 13)), scope := fsc (nth mb 13), globals := (nat_lit 3), closure := [], defaults := .none, kwdefaults := .none, doc := .none, pyModule := (.str (Str.ofString "io") (nat_lit 416)), annotations := none, code := (.ref (nat_lit 92)), closureTuple := .none, builtins := (nat_lit 0) }), ([]).toArray⟩
noncomputable def o119 (P : Params) : Obj := ⟨(.type "code"), none, (.fields ([(.str (Str.ofString "__new__") (nat_lit 470)), (.str (Str.ofString "IOBase.__new__") (nat_lit 471)), (.str (Str.ofString "/claim/cut.py") (nat_lit 472)), (.int (Int.ofNat (nat_lit 68)) (nat_lit 0)), (.int (Int.ofNat (nat_lit 1)) (nat_lit 0)), (.int (Int.ofNat (nat_lit 1)) (nat_lit 0)), (.int (Int.ofNat (nat_lit 0)) (nat_lit 0)), (.int (Int.ofNat (nat_lit 15)) (nat_lit 0)), (.ref (nat_lit 114)), (.bool true), (.int (Int.ofNat (nat_lit 318)) (nat_lit 0)), (.ref (nat_lit 115)), .none, (.ref (nat_lit 116)), (.ref (nat_lit 117)), (.ref (nat_lit 118)), (.int (Int.ofNat (nat_lit 476)) (nat_lit 0)), (.int (Int.ofNat (nat_lit 68)) (nat_lit 0)), (.str (Str.ofString "/claim/cut.py") (nat_lit 477))]).toArray), ([]).toArray⟩
noncomputable def o120 (P : Params) : Obj := ⟨(.type "function"), none, (.func { name := (Str.ofString "__new__"), qualname := (Str.ofString "IOBase.__new__"), params := fa (nth (cb (nth mb 15)) 1), body := .stmts (fb (nth (cb (nth mb 15)) 1)), scope := fsc (nth (cb (nth mb 15)) 1), globals := (nat_lit 3), closure := [], defaults := .none, kwdefaults := .none, doc := .none, pyModule := (.str (Str.ofString "io") (nat_lit 416)), annotations := none, code := (.ref (nat_lit 119)), closureTuple := .none, builtins := (nat_lit 0) }), ([]).toArray⟩
noncomputable def o121 (P : Params) : Obj := ⟨(.type "tuple"), none, (.seq ([]).toArray (nat_lit 0)), ([]).toArray⟩
noncomputable def o122 (P : Params) : Obj := ⟨(.type "dict"), none, (.dict ([⟨(PyData.keyHash P (Str.ofString "__module__")), (.str (Str.ofString "__module__") (nat_lit 463)), (.str (Str.ofString "io") (nat_lit 468))⟩, ⟨(PyData.keyHash P (Str.ofString "__firstlineno__")), (.str (Str.ofString "__firstlineno__") (nat_lit 467)), (.int (Int.ofNat (nat_lit 65)) (nat_lit 466))⟩, ⟨(PyData.keyHash P (Str.ofString "__new__")), (.str (Str.ofString "__new__") (nat_lit 478)), (.ref (nat_lit 124))⟩, ⟨(PyData.keyHash P (Str.ofString "__static_attributes__")), (.str (Str.ofString "__static_attributes__") (nat_lit 479)), (.ref (nat_lit 121))⟩, ⟨(PyData.keyHash P (Str.ofString "__dict__")), (.str (Str.ofString "__dict__") (nat_lit 482)), (.ref (nat_lit 125))⟩, ⟨(PyData.keyHash P (Str.ofString "__weakref__")), (.str (Str.ofString "__weakref__") (nat_lit 484)), (.ref (nat_lit 126))⟩, ⟨(PyData.keyHash P (Str.ofString "__doc__")), (.str (Str.ofString "__doc__") (nat_lit 485)), .none⟩]).toArray (nat_lit 4)), ([]).toArray⟩
noncomputable def o123 (P : Params) : Obj := ⟨(.type "type"), none, (.cls { name := (Str.ofString "IOBase"), bases := [(.type "object")], mro := [(.ref (nat_lit 123)), (.type "object")], ns := (nat_lit 122), qualname := (Str.ofString "IOBase"), hasDict := true, slotNames := [], subclasses := [(.ref (nat_lit 138)), (.ref (nat_lit 150))], abstract := false, collection := none, hasDel := false }), ([none, none, (some (.str (Str.ofString "IOBase") (nat_lit 456))), (some (.str (Str.ofString "IOBase") (nat_lit 464))), (some .none), (some (.bool true))]).toArray⟩
noncomputable def o124 (P : Params) : Obj := ⟨(.type "staticmethod"), none, (.fields ([(.ref (nat_lit 120))]).toArray), ([]).toArray⟩
noncomputable def o125 (P : Params) : Obj := ⟨(.type "getset_descriptor"), none, (.fields ([(.str (Str.ofString "__dict__") (nat_lit 481)), (.ref (nat_lit 123)), (.builtin "function.__dict__"), (.builtin "function.__dict__#set")]).toArray), ([]).toArray⟩
noncomputable def o126 (P : Params) : Obj := ⟨(.type "getset_descriptor"), none, (.fields ([(.str (Str.ofString "__weakref__") (nat_lit 483)), (.ref (nat_lit 123)), (.builtin "ExceptionGroup.__weakref__"), .none]).toArray), ([]).toArray⟩
noncomputable def o148 (P : Params) : Obj := ⟨(.type "tuple"), none, (.seq ([]).toArray (nat_lit 0)), ([]).toArray⟩
noncomputable def o149 (P : Params) : Obj := ⟨(.type "dict"), none, (.dict ([⟨(PyData.keyHash P (Str.ofString "__module__")), (.str (Str.ofString "__module__") (nat_lit 513)), (.str (Str.ofString "io") (nat_lit 518))⟩, ⟨(PyData.keyHash P (Str.ofString "__firstlineno__")), (.str (Str.ofString "__firstlineno__") (nat_lit 517)), (.int (Int.ofNat (nat_lit 74)) (nat_lit 516))⟩, ⟨(PyData.keyHash P (Str.ofString "__static_attributes__")), (.str (Str.ofString "__static_attributes__") (nat_lit 520)), (.ref (nat_lit 148))⟩, ⟨(PyData.keyHash P (Str.ofString "__doc__")), (.str (Str.ofString "__doc__") (nat_lit 521)), .none⟩]).toArray (nat_lit 2)), ([]).toArray⟩
noncomputable def o150 (P : Params) : Obj := ⟨(.type "type"), none, (.cls { name := (Str.ofString "TextIOBase"), bases := [(.ref (nat_lit 123))], mro := [(.ref (nat_lit 150)), (.ref (nat_lit 123)), (.type "object")], ns := (nat_lit 149), qualname := (Str.ofString "TextIOBase"), hasDict := true, slotNames := [], subclasses := [(.ref (nat_lit 627))], abstract := false, collection := none, hasDel := false }), ([(some (.ref (nat_lit 141))), none, (some (.str (Str.ofString "TextIOBase") (nat_lit 506))), (some (.str (Str.ofString "TextIOBase") (nat_lit 514))), (some .none), (some (.bool true))]).toArray⟩
noncomputable def o380 (P : Params) : Obj := ⟨(.type "type"), none, (.cls { name := (Str.ofString "BytesIO"), bases := [(.ref (nat_lit 138))], mro := [(.ref (nat_lit 380)), (.ref (nat_lit 138)), (.ref (nat_lit 123)), (.type "object")], ns := (nat_lit 379), qualname := (Str.ofString "BytesIO"), hasDict := true, slotNames := [], subclasses := [], abstract := false, collection := none, hasDel := false }), ([(some (.ref (nat_lit 153))), none, (some (.str (Str.ofString "BytesIO") (nat_lit 524))), (some (.str (Str.ofString "BytesIO") (nat_lit 532))), (some .none), (some (.bool true))]).toArray⟩
noncomputable def o390 (P : Params) : Obj := ⟨(.type "tuple"), none, (.seq ([(.str (Str.ofString "") (nat_lit 800)), (.str (Str.ofString "\n") (nat_lit 801))]).toArray (nat_lit 0)), ([]).toArray⟩
noncomputable def o396 (P : Params) : Obj := ⟨(.type "code"), none, (.fields ([(.str (Str.ofString "__init__") (nat_lit 802)), (.str (Str.ofString "StringIO.__init__") (nat_lit 803)), (.str (Str.ofString "/claim/cut.py") (nat_lit 804)), (.int (Int.ofNat (nat_lit 249)) (nat_lit 0)), (.int (Int.ofNat (nat_lit 3)) (nat_lit 0)), (.int (Int.ofNat (nat_lit 0)) (nat_lit 0)), (.int (Int.ofNat (nat_lit 0)) (nat_lit 0)), (.int (Int.ofNat (nat_lit 3)) (nat_lit 0)), (.ref (nat_lit 391)), (.bool true), (.int (Int.ofNat (nat_lit 318)) (nat_lit 0)), (.ref (nat_lit 392)), .none, (.ref (nat_lit 393)), (.ref (nat_lit 394)), (.ref (nat_lit 395)), (.int (Int.ofNat (nat_lit 808)) (nat_lit 0)), (.int (Int.ofNat (nat_lit 249)) (nat_lit 0)), (.str (Str.ofString "/claim/cut.py") (nat_lit 809))]).toArray), ([]).toArray⟩
noncomputable def o397 (P : Params) : Obj := ⟨(.type "function"), none, (.func { name := (Str.ofString "__init__"), qualname := (Str.ofString "StringIO.__init__"), params := fa (nth (cb (nth mb 19)) 1), body := .stmts (fb (nth (cb (nth mb 19)) 1)), scope := fsc (nth (cb (nth mb 19)) 1), globals := (nat_lit 3), closure := [], defaults := (.ref (nat_lit 390)), kwdefaults := .none, doc := .none, pyModule := (.str (Str.ofString "io") (nat_lit 416)), annotations := none, code := (.ref (nat_lit 396)), closureTuple := .none, builtins := (nat_lit 0) }), ([]).toArray⟩
noncomputable def o403 (P : Params) : Obj := ⟨(.type "code"), none, (.fields ([(.str (Str.ofString "__translated") (nat_lit 811)), (.str (Str.ofString "StringIO.__translated") (nat_lit 812)), (.str (Str.ofString "/claim/cut.py") (nat_lit 813)), (.int (Int.ofNat (nat_lit 262)) (nat_lit 0)), (.int (Int.ofNat (nat_lit 2)) (nat_lit 0)), (.int (Int.ofNat (nat_lit 0)) (nat_lit 0)), (.int (Int.ofNat (nat_lit 0)) (nat_lit 0)), (.int (Int.ofNat (nat_lit 3)) (nat_lit 0)), (.ref (nat_lit 398)), (.bool true), (.int (Int.ofNat (nat_lit 318)) (nat_lit 0)), (.ref (nat_lit 399)), .none, (.ref (nat_lit 400)), (.ref (nat_lit 401)), (.ref (nat_lit 402)), (.int (Int.ofNat (nat_lit 817)) (nat_lit 0)), (.int (Int.ofNat (nat_lit 262)) (nat_lit 0)), (.str (Str.ofString "/claim/cut.py") (nat_lit 818))]).toArray), ([]).toArray⟩
noncomputable def o404 (P : Params) : Obj := ⟨(.type "function"), none, (.func { name := (Str.ofString "__translated"), qualname := (Str.ofString "StringIO.__translated"), params := fa (nth (cb (nth mb 19)) 2), body := .stmts (fb (nth (cb (nth mb 19)) 2)), scope := fsc (nth (cb (nth mb 19)) 2), globals := (nat_lit 3), closure := [], defaults := .none, kwdefaults := .none, doc := .none, pyModule := (.str (Str.ofString "io") (nat_lit 416)), annotations := none, code := (.ref (nat_lit 403)), closureTuple := .none, builtins := (nat_lit 0) }), ([]).toArray⟩
noncomputable def o410 (P : Params) : Obj := ⟨(.type "code"), none, (.fields ([(.str (Str.ofString "__check") (nat_lit 820)), (.str (Str.ofString "StringIO.__check") (nat_lit 821)), (.str (Str.ofString "/claim/cut.py") (nat_lit 822)), (.int (Int.ofNat (nat_lit 270)) (nat_lit 0)), (.int (Int.ofNat (nat_lit 1)) (nat_lit 0)), (.int (Int.ofNat (nat_lit 0)) (nat_lit 0)), (.int (Int.ofNat (nat_lit 0)) (nat_lit 0)), (.int (Int.ofNat (nat_lit 3)) (nat_lit 0)), (.ref (nat_lit 405)), (.bool true), (.int (Int.ofNat (nat_lit 318)) (nat_lit 0)), (.ref (nat_lit 406)), .none, (.ref (nat_lit 407)), (.ref (nat_lit 408)), (.ref (nat_lit 409)), (.int (Int.ofNat (nat_lit 824)) (nat_lit 0)), (.int (Int.ofNat (nat_lit 270)) (nat_lit 0)), (.str (Str.ofString "/claim/cut.py") (nat_lit 825))]).toArray), ([]).toArray⟩
noncomputable def o411 (P : Params) : Obj := ⟨(.type "function"), none, (.func { name := (Str.ofString "__check"), qualname := (Str.ofString "StringIO.__check"), params := fa (nth (cb (nth mb 19)) 3), body := .stmts (fb (nth (cb (nth mb 19)) 3)), scope := fsc (nth (cb (nth mb 19)) 3), globals := (nat_lit 3), closure := [], defaults := .none, kwdefaults := .none, doc := .none, pyModule := (.str (Str.ofString "io") (nat_lit 416)), annotations := none, code := (.ref (nat_lit 410)), closureTuple := .none, builtins := (nat_lit 0) }), ([]).toArray⟩
noncomputable def o417 (P : Params) : Obj := ⟨(.type "code"), none, (.fields ([(.str (Str.ofString "__check_dot") (nat_lit 827)), (.str (Str.ofString "StringIO.__check_dot") (nat_lit 828)), (.str (Str.ofString "/claim/cut.py") (nat_lit 829)), (.int (Int.ofNat (nat_lit 274)) (nat_lit 0)), (.int (Int.ofNat (nat_lit 1)) (nat_lit 0)), (.int (Int.ofNat (nat_lit 0)) (nat_lit 0)), (.int (Int.ofNat (nat_lit 0)) (nat_lit 0)), (.int (Int.ofNat (nat_lit 3)) (nat_lit 0)), (.ref (nat_lit 412)), (.bool true), (.int (Int.ofNat (nat_lit 318)) (nat_lit 0)), (.ref (nat_lit 413)), .none, (.ref (nat_lit 414)), (.ref (nat_lit 415)), (.ref (nat_lit 416)), (.int (Int.ofNat (nat_lit 831)) (nat_lit 0)), (.int (Int.ofNat (nat_lit 274)) (nat_lit 0)), (.str (Str.ofString "/claim/cut.py") (nat_lit 832))]).toArray), ([]).toArray⟩
noncomputable def o418 (P : Params) : Obj := ⟨(.type "function"), none, (.func { name := (Str.ofString "__check_dot"), qualname := (Str.ofString "StringIO.__check_dot"), params := fa (nth (cb (nth mb 19)) 4), body := .stmts (fb (nth (cb (nth mb 19)) 4)), scope := fsc (nth (cb (nth mb 19)) 4), globals := (nat_lit 3), closure := [], defaults := .none, kwdefaults := .none, doc := .none, pyModule := (.str (Str.ofString "io") (nat_lit 416)), annotations := none, code := (.ref (nat_lit 417)), closureTuple := .none, builtins := (nat_lit 0) }), ([]).toArray⟩
noncomputable def o424 (P : Params) : Obj := ⟨(.type "code"), none, (.fields ([(.str (Str.ofString "__line") (nat_lit 834)), (.str (Str.ofString "StringIO.__line") (nat_lit 835)), (.str (Str.ofString "/claim/cut.py") (nat_lit 836)), (.int (Int.ofNat (nat_lit 278)) (nat_lit 0)), (.int (Int.ofNat (nat_lit 2)) (nat_lit 0)), (.int (Int.ofNat (nat_lit 0)) (nat_lit 0)), (.int (Int.ofNat (nat_lit 0)) (nat_lit 0)), (.int (Int.ofNat (nat_lit 3)) (nat_lit 0)), (.ref (nat_lit 419)), (.bool true), (.int (Int.ofNat (nat_lit 318)) (nat_lit 0)), (.ref (nat_lit 420)), .none, (.ref (nat_lit 421)), (.ref (nat_lit 422)), (.ref (nat_lit 423)), (.int (Int.ofNat (nat_lit 846)) (nat_lit 0)), (.int (Int.ofNat (nat_lit 278)) (nat_lit 0)), (.str (Str.ofString "/claim/cut.py") (nat_lit 847))]).toArray), ([]).toArray⟩
noncomputable def o425 (P : Params) : Obj := ⟨(.type "function"), none, (.func { name := (Str.ofString "__line"), qualname := (Str.ofString "StringIO.__line"), params := fa (nth (cb (nth mb 19)) 5), body := .stmts (fb (nth (cb (nth mb 19)) 5)), scope := fsc (nth (cb (nth mb 19)) 5), globals := (nat_lit 3), closure := [], defaults := .none, kwdefaults := .none, doc := .none, pyModule := (.str (Str.ofString "io") (nat_lit 416)), annotations := none, code := (.ref (nat_lit 424)), closureTuple := .none, builtins := (nat_lit 0) }), ([]).toArray⟩
noncomputable def o431 (P : Params) : Obj := ⟨(.type "code"), none, (.fields ([(.str (Str.ofString "closed") (nat_lit 849)), (.str (Str.ofString "StringIO.closed") (nat_lit 850)), (.str (Str.ofString "/claim/cut.py") (nat_lit 851)), (.int (Int.ofNat (nat_lit 310)) (nat_lit 0)), (.int (Int.ofNat (nat_lit 1)) (nat_lit 0)), (.int (Int.ofNat (nat_lit 0)) (nat_lit 0)), (.int (Int.ofNat (nat_lit 0)) (nat_lit 0)), (.int (Int.ofNat (nat_lit 3)) (nat_lit 0)), (.ref (nat_lit 426)), (.bool true), (.int (Int.ofNat (nat_lit 318)) (nat_lit 0)), (.ref (nat_lit 427)), .none, (.ref (nat_lit 428)), (.ref (nat_lit 429)), (.ref (nat_lit 430)), (.int (Int.ofNat (nat_lit 853)) (nat_lit 0)), (.int (Int.ofNat (nat_lit 310)) (nat_lit 0)), (.str (Str.ofString "/claim/cut.py") (nat_lit 854))]).toArray), ([]).toArray⟩
noncomputable def o432 (P : Params) : Obj := ⟨(.type "function"), none, (.func { name := (Str.ofString "closed"), qualname := (Str.ofString "StringIO.closed"), params := fa (nth (cb (nth mb 19)) 6), body := .stmts (fb (nth (cb (nth mb 19)) 6)), scope := fsc (nth (cb (nth mb 19)) 6), globals := (nat_lit 3), closure := [], defaults := .none, kwdefaults := .none, doc := .none, pyModule := (.str (Str.ofString "io") (nat_lit 416)), annotations := none, code := (.ref (nat_lit 431)), closureTuple := .none, builtins := (nat_lit 0) }), ([]).toArray⟩
noncomputable def o433 (P : Params) : Obj := ⟨(.type "property"), none, (.fields ([(.ref (nat_lit 432)), .none, .none, .none, (.str (Str.ofString "closed") (nat_lit 856)), (.bool false)]).toArray), ([]).toArray⟩
noncomputable def o439 (P : Params) : Obj := ⟨(.type "code"), none, (.fields ([(.str (Str.ofString "line_buffering") (nat_lit 857)), (.str (Str.ofString "StringIO.line_buffering") (nat_lit 858)), (.str (Str.ofString "/claim/cut.py") (nat_lit 859)), (.int (Int.ofNat (nat_lit 314)) (nat_lit 0)), (.int (Int.ofNat (nat_lit 1)) (nat_lit 0)), (.int (Int.ofNat (nat_lit 0)) (nat_lit 0)), (.int (Int.ofNat (nat_lit 0)) (nat_lit 0)), (.int (Int.ofNat (nat_lit 3)) (nat_lit 0)), (.ref (nat_lit 434)), (.bool true), (.int (Int.ofNat (nat_lit 318)) (nat_lit 0)), (.ref (nat_lit 435)), .none, (.ref (nat_lit 436)), (.ref (nat_lit 437)), (.ref (nat_lit 438)), (.int (Int.ofNat (nat_lit 861)) (nat_lit 0)), (.int (Int.ofNat (nat_lit 314)) (nat_lit 0)), (.str (Str.ofString "/claim/cut.py") (nat_lit 862))]).toArray), ([]).toArray⟩
noncomputable def o440 (P : Params) : Obj := ⟨(.type "function"), none, (.func { name := (Str.ofString "line_buffering"), qualname := (Str.ofString "StringIO.line_buffering"), params := fa (nth (cb (nth mb 19)) 7), body := .stmts (fb (nth (cb (nth mb 19)) 7)), scope := fsc (nth (cb (nth mb 19)) 7), globals := (nat_lit 3), closure := [], defaults := .none, kwdefaults := .none, doc := .none, pyModule := (.str (Str.ofString "io") (nat_lit 416)), annotations := none, code := (.ref (nat_lit 439)), closureTuple := .none, builtins := (nat_lit 0) }), ([]).toArray⟩
noncomputable def o441 (P : Params) : Obj := ⟨(.type "property"), none, (.fields ([(.ref (nat_lit 440)), .none, .none, .none, (.str (Str.ofString "line_buffering") (nat_lit 864)), (.bool false)]).toArray), ([]).toArray⟩
noncomputable def o447 (P : Params) : Obj := ⟨(.type "code"), none, (.fields ([(.str (Str.ofString "newlines") (nat_lit 865)), (.str (Str.ofString "StringIO.newlines") (nat_lit 866)), (.str (Str.ofString "/claim/cut.py") (nat_lit 867)), (.int (Int.ofNat (nat_lit 318)) (nat_lit 0)), (.int (Int.ofNat (nat_lit 1)) (nat_lit 0)), (.int (Int.ofNat (nat_lit 0)) (nat_lit 0)), (.int (Int.ofNat (nat_lit 0)) (nat_lit 0)), (.int (Int.ofNat (nat_lit 3)) (nat_lit 0)), (.ref (nat_lit 442)), (.bool true), (.int (Int.ofNat (nat_lit 318)) (nat_lit 0)), (.ref (nat_lit 443)), .none, (.ref (nat_lit 444)), (.ref (nat_lit 445)), (.ref (nat_lit 446)), (.int (Int.ofNat (nat_lit 869)) (nat_lit 0)), (.int (Int.ofNat (nat_lit 318)) (nat_lit 0)), (.str (Str.ofString "/claim/cut.py") (nat_lit 870))]).toArray), ([]).toArray⟩
noncomputable def o448 (P : Params) : Obj := ⟨(.type "function"), none, (.func { name := (Str.ofString "newlines"), qualname := (Str.ofString "StringIO.newlines"), params := fa (nth (cb (nth mb 19)) 8), body := .stmts (fb (nth (cb (nth mb 19)) 8)), scope := fsc (nth (cb (nth mb 19)) 8), globals := (nat_lit 3), closure := [], defaults := .none, kwdefaults := .none, doc := .none, pyModule := (.str (Str.ofString "io") (nat_lit 416)), annotations := none, code := (.ref (nat_lit 447)), closureTuple := .none, builtins := (nat_lit 0) }), ([]).toArray⟩
noncomputable def o449 (P : Params) : Obj := ⟨(.type "property"), none, (.fields ([(.ref (nat_lit 448)), .none, .none, .none, (.str (Str.ofString "newlines") (nat_lit 872)), (.bool false)]).toArray), ([]).toArray⟩
noncomputable def o455 (P : Params) : Obj := ⟨(.type "code"), none, (.fields ([(.str (Str.ofString "encoding") (nat_lit 873)), (.str (Str.ofString "StringIO.encoding") (nat_lit 874)), (.str (Str.ofString "/claim/cut.py") (nat_lit 875)), (.int (Int.ofNat (nat_lit 322)) (nat_lit 0)), (.int (Int.ofNat (nat_lit 1)) (nat_lit 0)), (.int (Int.ofNat (nat_lit 0)) (nat_lit 0)), (.int (Int.ofNat (nat_lit 0)) (nat_lit 0)), (.int (Int.ofNat (nat_lit 3)) (nat_lit 0)), (.ref (nat_lit 450)), (.bool true), (.int (Int.ofNat (nat_lit 318)) (nat_lit 0)), (.ref (nat_lit 451)), .none, (.ref (nat_lit 452)), (.ref (nat_lit 453)), (.ref (nat_lit 454)), (.int (Int.ofNat (nat_lit 877)) (nat_lit 0)), (.int (Int.ofNat (nat_lit 322)) (nat_lit 0)), (.str (Str.ofString "/claim/cut.py") (nat_lit 878))]).toArray), ([]).toArray⟩
noncomputable def o456 (P : Params) : Obj := ⟨(.type "function"), none, (.func { name := (Str.ofString "encoding"), qualname := (Str.ofString "StringIO.encoding"), params := fa (nth (cb (nth mb 19)) 9), body := .stmts (fb (nth (cb (nth mb 19)) 9)), scope := fsc (nth (cb (nth mb 19)) 9), globals := (nat_lit 3), closure := [], defaults := .none, kwdefaults := .none, doc := .none, pyModule := (.str (Str.ofString "io") (nat_lit 416)), annotations := none, code := (.ref (nat_lit 455)), closureTuple := .none, builtins := (nat_lit 0) }), ([]).toArray⟩
noncomputable def o457 (P : Params) : Obj := ⟨(.type "property"), none, (.fields ([(.ref (nat_lit 456)), .none, .none, .none, (.str (Str.ofString "encoding") (nat_lit 880)), (.bool false)]).toArray), ([]).toArray⟩
noncomputable def o463 (P : Params) : Obj := ⟨(.type "code"), none, (.fields ([(.str (Str.ofString "errors") (nat_lit 881)), (.str (Str.ofString "StringIO.errors") (nat_lit 882)), (.str (Str.ofString "/claim/cut.py") (nat_lit 883)), (.int (Int.ofNat (nat_lit 326)) (nat_lit 0)), (.int (Int.ofNat (nat_lit 1)) (nat_lit 0)), (.int (Int.ofNat (nat_lit 0)) (nat_lit 0)), (.int (Int.ofNat (nat_lit 0)) (nat_lit 0)), (.int (Int.ofNat (nat_lit 3)) (nat_lit 0)), (.ref (nat_lit 458)), (.bool true), (.int (Int.ofNat (nat_lit 318)) (nat_lit 0)), (.ref (nat_lit 459)), .none, (.ref (nat_lit 460)), (.ref (nat_lit 461)), (.ref (nat_lit 462)), (.int (Int.ofNat (nat_lit 885)) (nat_lit 0)), (.int (Int.ofNat (nat_lit 326)) (nat_lit 0)), (.str (Str.ofString "/claim/cut.py") (nat_lit 886))]).toArray), ([]).toArray⟩
noncomputable def o464 (P : Params) : Obj := ⟨(.type "function"), none, (.func { name := (Str.ofString "errors"), qualname := (Str.ofString "StringIO.errors"), params := fa (nth (cb (nth mb 19)) 10), body := .stmts (fb (nth (cb (nth mb 19)) 10)), scope := fsc (nth (cb (nth mb 19)) 10), globals := (nat_lit 3), closure := [], defaults := .none, kwdefaults := .none, doc := .none, pyModule := (.str (Str.ofString "io") (nat_lit 416)), annotations := none, code := (.ref (nat_lit 463)), closureTuple := .none, builtins := (nat_lit 0) }), ([]).toArray⟩
noncomputable def o465 (P : Params) : Obj := ⟨(.type "property"), none, (.fields ([(.ref (nat_lit 464)), .none, .none, .none, (.str (Str.ofString "errors") (nat_lit 888)), (.bool false)]).toArray), ([]).toArray⟩
noncomputable def o471 (P : Params) : Obj := ⟨(.type "code"), none, (.fields ([(.str (Str.ofString "close") (nat_lit 889)), (.str (Str.ofString "StringIO.close") (nat_lit 890)), (.str (Str.ofString "/claim/cut.py") (nat_lit 891)), (.int (Int.ofNat (nat_lit 330)) (nat_lit 0)), (.int (Int.ofNat (nat_lit 1)) (nat_lit 0)), (.int (Int.ofNat (nat_lit 0)) (nat_lit 0)), (.int (Int.ofNat (nat_lit 0)) (nat_lit 0)), (.int (Int.ofNat (nat_lit 3)) (nat_lit 0)), (.ref (nat_lit 466)), (.bool true), (.int (Int.ofNat (nat_lit 318)) (nat_lit 0)), (.ref (nat_lit 467)), .none, (.ref (nat_lit 468)), (.ref (nat_lit 469)), (.ref (nat_lit 470)), (.int (Int.ofNat (nat_lit 893)) (nat_lit 0)), (.int (Int.ofNat (nat_lit 330)) (nat_lit 0)), (.str (Str.ofString "/claim/cut.py") (nat_lit 894))]).toArray), ([]).toArray⟩
noncomputable def o472 (P : Params) : Obj := ⟨(.type "function"), none, (.func { name := (Str.ofString "close"), qualname := (Str.ofString "StringIO.close"), params := fa (nth (cb (nth mb 19)) 11), body := .stmts (fb (nth (cb (nth mb 19)) 11)), scope := fsc (nth (cb (nth mb 19)) 11), globals := (nat_lit 3), closure := [], defaults := .none, kwdefaults := .none, doc := .none, pyModule := (.str (Str.ofString "io") (nat_lit 416)), annotations := none, code := (.ref (nat_lit 471)), closureTuple := .none, builtins := (nat_lit 0) }), ([]).toArray⟩
noncomputable def o478 (P : Params) : Obj := ⟨(.type "code"), none, (.fields ([(.str (Str.ofString "__enter__") (nat_lit 896)), (.str (Str.ofString "StringIO.__enter__") (nat_lit 897)), (.str (Str.ofString "/claim/cut.py") (nat_lit 898)), (.int (Int.ofNat (nat_lit 333)) (nat_lit 0)), (.int (Int.ofNat (nat_lit 1)) (nat_lit 0)), (.int (Int.ofNat (nat_lit 0)) (nat_lit 0)), (.int (Int.ofNat (nat_lit 0)) (nat_lit 0)), (.int (Int.ofNat (nat_lit 3)) (nat_lit 0)), (.ref (nat_lit 473)), (.bool true), (.int (Int.ofNat (nat_lit 318)) (nat_lit 0)), (.ref (nat_lit 474)), .none, (.ref (nat_lit 475)), (.ref (nat_lit 476)), (.ref (nat_lit 477)), (.int (Int.ofNat (nat_lit 900)) (nat_lit 0)), (.int (Int.ofNat (nat_lit 333)) (nat_lit 0)), (.str (Str.ofString "/claim/cut.py") (nat_lit 901))]).toArray), ([]).toArray⟩
noncomputable def o479 (P : Params) : Obj := ⟨(.type "function"), none, (.func { name := (Str.ofString "__enter__"), qualname := (Str.ofString "StringIO.__enter__"), params := fa (nth (cb (nth mb 19)) 12), body := .stmts (fb (nth (cb (nth mb 19)) 12)), scope := fsc (nth (cb (nth mb 19)) 12), globals := (nat_lit 3), closure := [], defaults := .none, kwdefaults := .none, doc := .none, pyModule := (.str (Str.ofString "io") (nat_lit 416)), annotations := none, code := (.ref (nat_lit 478)), closureTuple := .none, builtins := (nat_lit 0) }), ([]).toArray⟩
noncomputable def o485 (P : Params) : Obj := ⟨(.type "code"), none, (.fields ([(.str (Str.ofString "__exit__") (nat_lit 903)), (.str (Str.ofString "StringIO.__exit__") (nat_lit 904)), (.str (Str.ofString "/claim/cut.py") (nat_lit 905)), (.int (Int.ofNat (nat_lit 337)) (nat_lit 0)), (.int (Int.ofNat (nat_lit 1)) (nat_lit 0)), (.int (Int.ofNat (nat_lit 0)) (nat_lit 0)), (.int (Int.ofNat (nat_lit 0)) (nat_lit 0)), (.int (Int.ofNat (nat_lit 7)) (nat_lit 0)), (.ref (nat_lit 480)), (.bool true), (.int (Int.ofNat (nat_lit 318)) (nat_lit 0)), (.ref (nat_lit 481)), .none, (.ref (nat_lit 482)), (.ref (nat_lit 483)), (.ref (nat_lit 484)), (.int (Int.ofNat (nat_lit 908)) (nat_lit 0)), (.int (Int.ofNat (nat_lit 337)) (nat_lit 0)), (.str (Str.ofString "/claim/cut.py") (nat_lit 909))]).toArray), ([]).toArray⟩
noncomputable def o486 (P : Params) : Obj := ⟨(.type "function"), none, (.func { name := (Str.ofString "__exit__"), qualname := (Str.ofString "StringIO.__exit__"), params := fa (nth (cb (nth mb 19)) 13), body := .stmts (fb (nth (cb (nth mb 19)) 13)), scope := fsc (nth (cb (nth mb 19)) 13), globals := (nat_lit 3), closure := [], defaults := .none, kwdefaults := .none, doc := .none, pyModule := (.str (Str.ofString "io") (nat_lit 416)), annotations := none, code := (.ref (nat_lit 485)), closureTuple := .none, builtins := (nat_lit 0) }), ([]).toArray⟩
noncomputable def o492 (P : Params) : Obj := ⟨(.type "code"), none, (.fields ([(.str (Str.ofString "readable") (nat_lit 911)), (.str (Str.ofString "StringIO.readable") (nat_lit 912)), (.str (Str.ofString "/claim/cut.py") (nat_lit 913)), (.int (Int.ofNat (nat_lit 340)) (nat_lit 0)), (.int (Int.ofNat (nat_lit 1)) (nat_lit 0)), (.int (Int.ofNat (nat_lit 0)) (nat_lit 0)), (.int (Int.ofNat (nat_lit 0)) (nat_lit 0)), (.int (Int.ofNat (nat_lit 3)) (nat_lit 0)), (.ref (nat_lit 487)), (.bool true), (.int (Int.ofNat (nat_lit 318)) (nat_lit 0)), (.ref (nat_lit 488)), .none, (.ref (nat_lit 489)), (.ref (nat_lit 490)), (.ref (nat_lit 491)), (.int (Int.ofNat (nat_lit 915)) (nat_lit 0)), (.int (Int.ofNat (nat_lit 340)) (nat_lit 0)), (.str (Str.ofString "/claim/cut.py") (nat_lit 916))]).toArray), ([]).toArray⟩
noncomputable def o493 (P : Params) : Obj := ⟨(.type "function"), none, (.func { name := (Str.ofString "readable"), qualname := (Str.ofString "StringIO.readable"), params := fa (nth (cb (nth mb 19)) 14), body := .stmts (fb (nth (cb (nth mb 19)) 14)), scope := fsc (nth (cb (nth mb 19)) 14), globals := (nat_lit 3), closure := [], defaults := .none, kwdefaults := .none, doc := .none, pyModule := (.str (Str.ofString "io") (nat_lit 416)), annotations := none, code := (.ref (nat_lit 492)), closureTuple := .none, builtins := (nat_lit 0) }), ([]).toArray⟩
noncomputable def o499 (P : Params) : Obj := ⟨(.type "code"), none, (.fields ([(.str (Str.ofString "writable") (nat_lit 918)), (.str (Str.ofString "StringIO.writable") (nat_lit 919)), (.str (Str.ofString "/claim/cut.py") (nat_lit 920)), (.int (Int.ofNat (nat_lit 344)) (nat_lit 0)), (.int (Int.ofNat (nat_lit 1)) (nat_lit 0)), (.int (Int.ofNat (nat_lit 0)) (nat_lit 0)), (.int (Int.ofNat (nat_lit 0)) (nat_lit 0)), (.int (Int.ofNat (nat_lit 3)) (nat_lit 0)), (.ref (nat_lit 494)), (.bool true), (.int (Int.ofNat (nat_lit 318)) (nat_lit 0)), (.ref (nat_lit 495)), .none, (.ref (nat_lit 496)), (.ref (nat_lit 497)), (.ref (nat_lit 498)), (.int (Int.ofNat (nat_lit 922)) (nat_lit 0)), (.int (Int.ofNat (nat_lit 344)) (nat_lit 0)), (.str (Str.ofString "/claim/cut.py") (nat_lit 923))]).toArray), ([]).toArray⟩
noncomputable def o500 (P : Params) : Obj := ⟨(.type "function"), none, (.func { name := (Str.ofString "writable"), qualname := (Str.ofString "StringIO.writable"), params := fa (nth (cb (nth mb 19)) 15), body := .stmts (fb (nth (cb (nth mb 19)) 15)), scope := fsc (nth (cb (nth mb 19)) 15), globals := (nat_lit 3), closure := [], defaults := .none, kwdefaults := .none, doc := .none, pyModule := (.str (Str.ofString "io") (nat_lit 416)), annotations := none, code := (.ref (nat_lit 499)), closureTuple := .none, builtins := (nat_lit 0) }), ([]).toArray⟩
noncomputable def o506 (P : Params) : Obj := ⟨(.type "code"), none, (.fields ([(.str (Str.ofString "seekable") (nat_lit 925)), (.str (Str.ofString "StringIO.seekable") (nat_lit 926)), (.str (Str.ofString "/claim/cut.py") (nat_lit 927)), (.int (Int.ofNat (nat_lit 348)) (nat_lit 0)), (.int (Int.ofNat (nat_lit 1)) (nat_lit 0)), (.int (Int.ofNat (nat_lit 0)) (nat_lit 0)), (.int (Int.ofNat (nat_lit 0)) (nat_lit 0)), (.int (Int.ofNat (nat_lit 3)) (nat_lit 0)), (.ref (nat_lit 501)), (.bool true), (.int (Int.ofNat (nat_lit 318)) (nat_lit 0)), (.ref (nat_lit 502)), .none, (.ref (nat_lit 503)), (.ref (nat_lit 504)), (.ref (nat_lit 505)), (.int (Int.ofNat (nat_lit 929)) (nat_lit 0)), (.int (Int.ofNat (nat_lit 348)) (nat_lit 0)), (.str (Str.ofString "/claim/cut.py") (nat_lit 930))]).toArray), ([]).toArray⟩
noncomputable def o507 (P : Params) : Obj := ⟨(.type "function"), none, (.func { name := (Str.ofString "seekable"), qualname := (Str.ofString "StringIO.seekable"), params := fa (nth (cb (nth mb 19)) 16), body := .stmts (fb (nth (cb (nth mb 19)) 16)), scope := fsc (nth (cb (nth mb 19)) 16), globals := (nat_lit 3), closure := [], defaults := .none, kwdefaults := .none, doc := .none, pyModule := (.str (Str.ofString "io") (nat_lit 416)), annotations := none, code := (.ref (nat_lit 506)), closureTuple := .none, builtins := (nat_lit 0) }), ([]).toArray⟩
noncomputable def o513 (P : Params) : Obj := ⟨(.type "code"), none, (.fields ([(.str (Str.ofString "isatty") (nat_lit 932)), (.str (Str.ofString "StringIO.isatty") (nat_lit 933)), (.str (Str.ofString "/claim/cut.py") (nat_lit 934)), (.int (Int.ofNat (nat_lit 352)) (nat_lit 0)), (.int (Int.ofNat (nat_lit 1)) (nat_lit 0)), (.int (Int.ofNat (nat_lit 0)) (nat_lit 0)), (.int (Int.ofNat (nat_lit 0)) (nat_lit 0)), (.int (Int.ofNat (nat_lit 3)) (nat_lit 0)), (.ref (nat_lit 508)), (.bool true), (.int (Int.ofNat (nat_lit 318)) (nat_lit 0)), (.ref (nat_lit 509)), .none, (.ref (nat_lit 510)), (.ref (nat_lit 511)), (.ref (nat_lit 512)), (.int (Int.ofNat (nat_lit 936)) (nat_lit 0)), (.int (Int.ofNat (nat_lit 352)) (nat_lit 0)), (.str (Str.ofString "/claim/cut.py") (nat_lit 937))]).toArray), ([]).toArray⟩
noncomputable def o514 (P : Params) : Obj := ⟨(.type "function"), none, (.func { name := (Str.ofString "isatty"), qualname := (Str.ofString "StringIO.isatty"), params := fa (nth (cb (nth mb 19)) 17), body := .stmts (fb (nth (cb (nth mb 19)) 17)), scope := fsc (nth (cb (nth mb 19)) 17), globals := (nat_lit 3), closure := [], defaults := .none, kwdefaults := .none, doc := .none, pyModule := (.str (Str.ofString "io") (nat_lit 416)), annotations := none, code := (.ref (nat_lit 513)), closureTuple := .none, builtins := (nat_lit 0) }), ([]).toArray⟩
noncomputable def o520 (P : Params) : Obj := ⟨(.type "code"), none, (.fields ([(.str (Str.ofString "flush") (nat_lit 939)), (.str (Str.ofString "StringIO.flush") (nat_lit 940)), (.str (Str.ofString "/claim/cut.py") (nat_lit 941)), (.int (Int.ofNat (nat_lit 356)) (nat_lit 0)), (.int (Int.ofNat (nat_lit 1)) (nat_lit 0)), (.int (Int.ofNat (nat_lit 0)) (nat_lit 0)), (.int (Int.ofNat (nat_lit 0)) (nat_lit 0)), (.int (Int.ofNat (nat_lit 3)) (nat_lit 0)), (.ref (nat_lit 515)), (.bool true), (.int (Int.ofNat (nat_lit 318)) (nat_lit 0)), (.ref (nat_lit 516)), .none, (.ref (nat_lit 517)), (.ref (nat_lit 518)), (.ref (nat_lit 519)), (.int (Int.ofNat (nat_lit 943)) (nat_lit 0)), (.int (Int.ofNat (nat_lit 356)) (nat_lit 0)), (.str (Str.ofString "/claim/cut.py") (nat_lit 944))]).toArray), ([]).toArray⟩
noncomputable def o521 (P : Params) : Obj := ⟨(.type "function"), none, (.func { name := (Str.ofString "flush"), qualname := (Str.ofString "StringIO.flush"), params := fa (nth (cb (nth mb 19)) 18), body := .stmts (fb (nth (cb (nth mb 19)) 18)), scope := fsc (nth (cb (nth mb 19)) 18), globals := (nat_lit 3), closure := [], defaults := .none, kwdefaults := .none, doc := .none, pyModule := (.str (Str.ofString "io") (nat_lit 416)), annotations := none, code := (.ref (nat_lit 520)), closureTuple := .none, builtins := (nat_lit 0) }), ([]).toArray⟩
noncomputable def o527 (P : Params) : Obj := ⟨(.type "code"), none, (.fields ([(.str (Str.ofString "fileno") (nat_lit 946)), (.str (Str.ofString "StringIO.fileno") (nat_lit 947)), (.str (Str.ofString "/claim/cut.py") (nat_lit 948)), (.int (Int.ofNat (nat_lit 359)) (nat_lit 0)), (.int (Int.ofNat (nat_lit 1)) (nat_lit 0)), (.int (Int.ofNat (nat_lit 0)) (nat_lit 0)), (.int (Int.ofNat (nat_lit 0)) (nat_lit 0)), (.int (Int.ofNat (nat_lit 3)) (nat_lit 0)), (.ref (nat_lit 522)), (.bool true), (.int (Int.ofNat (nat_lit 318)) (nat_lit 0)), (.ref (nat_lit 523)), .none, (.ref (nat_lit 524)), (.ref (nat_lit 525)), (.ref (nat_lit 526)), (.int (Int.ofNat (nat_lit 950)) (nat_lit 0)), (.int (Int.ofNat (nat_lit 359)) (nat_lit 0)), (.str (Str.ofString "/claim/cut.py") (nat_lit 951))]).toArray), ([]).toArray⟩
noncomputable def o528 (P : Params) : Obj := ⟨(.type "function"), none, (.func { name := (Str.ofString "fileno"), qualname := (Str.ofString "StringIO.fileno"), params := fa (nth (cb (nth mb 19)) 19), body := .stmts (fb (nth (cb (nth mb 19)) 19)), scope := fsc (nth (cb (nth mb 19)) 19), globals := (nat_lit 3), closure := [], defaults := .none, kwdefaults := .none, doc := .none, pyModule := (.str (Str.ofString "io") (nat_lit 416)), annotations := none, code := (.ref (nat_lit 527)), closureTuple := .none, builtins := (nat_lit 0) }), ([]).toArray⟩
noncomputable def o534 (P : Params) : Obj := ⟨(.type "code"), none, (.fields ([(.str (Str.ofString "detach") (nat_lit 953)), (.str (Str.ofString "StringIO.detach") (nat_lit 954)), (.str (Str.ofString "/claim/cut.py") (nat_lit 955)), (.int (Int.ofNat (nat_lit 362)) (nat_lit 0)), (.int (Int.ofNat (nat_lit 1)) (nat_lit 0)), (.int (Int.ofNat (nat_lit 0)) (nat_lit 0)), (.int (Int.ofNat (nat_lit 0)) (nat_lit 0)), (.int (Int.ofNat (nat_lit 3)) (nat_lit 0)), (.ref (nat_lit 529)), (.bool true), (.int (Int.ofNat (nat_lit 318)) (nat_lit 0)), (.ref (nat_lit 530)), .none, (.ref (nat_lit 531)), (.ref (nat_lit 532)), (.ref (nat_lit 533)), (.int (Int.ofNat (nat_lit 957)) (nat_lit 0)), (.int (Int.ofNat (nat_lit 362)) (nat_lit 0)), (.str (Str.ofString "/claim/cut.py") (nat_lit 958))]).toArray), ([]).toArray⟩
noncomputable def o535 (P : Params) : Obj := ⟨(.type "function"), none, (.func { name := (Str.ofString "detach"), qualname := (Str.ofString "StringIO.detach"), params := fa (nth (cb (nth mb 19)) 20), body := .stmts (fb (nth (cb (nth mb 19)) 20)), scope := fsc (nth (cb (nth mb 19)) 20), globals := (nat_lit 3), closure := [], defaults := .none, kwdefaults := .none, doc := .none, pyModule := (.str (Str.ofString "io") (nat_lit 416)), annotations := none, code := (.ref (nat_lit 534)), closureTuple := .none, builtins := (nat_lit 0) }), ([]).toArray⟩
noncomputable def o541 (P : Params) : Obj := ⟨(.type "code"), none, (.fields ([(.str (Str.ofString "getvalue") (nat_lit 960)), (.str (Str.ofString "StringIO.getvalue") (nat_lit 961)), (.str (Str.ofString "/claim/cut.py") (nat_lit 962)), (.int (Int.ofNat (nat_lit 365)) (nat_lit 0)), (.int (Int.ofNat (nat_lit 1)) (nat_lit 0)), (.int (Int.ofNat (nat_lit 0)) (nat_lit 0)), (.int (Int.ofNat (nat_lit 0)) (nat_lit 0)), (.int (Int.ofNat (nat_lit 3)) (nat_lit 0)), (.ref (nat_lit 536)), (.bool true), (.int (Int.ofNat (nat_lit 318)) (nat_lit 0)), (.ref (nat_lit 537)), .none, (.ref (nat_lit 538)), (.ref (nat_lit 539)), (.ref (nat_lit 540)), (.int (Int.ofNat (nat_lit 964)) (nat_lit 0)), (.int (Int.ofNat (nat_lit 365)) (nat_lit 0)), (.str (Str.ofString "/claim/cut.py") (nat_lit 965))]).toArray), ([]).toArray⟩
noncomputable def o542 (P : Params) : Obj := ⟨(.type "function"), none, (.func { name := (Str.ofString "getvalue"), qualname := (Str.ofString "StringIO.getvalue"), params := fa (nth (cb (nth mb 19)) 21), body := .stmts (fb (nth (cb (nth mb 19)) 21)), scope := fsc (nth (cb (nth mb 19)) 21), globals := (nat_lit 3), closure := [], defaults := .none, kwdefaults := .none, doc := .none, pyModule := (.str (Str.ofString "io") (nat_lit 416)), annotations := none, code := (.ref (nat_lit 541)), closureTuple := .none, builtins := (nat_lit 0) }), ([]).toArray⟩
noncomputable def o548 (P : Params) : Obj := ⟨(.type "code"), none, (.fields ([(.str (Str.ofString "tell") (nat_lit 967)), (.str (Str.ofString "StringIO.tell") (nat_lit 968)), (.str (Str.ofString "/claim/cut.py") (nat_lit 969)), (.int (Int.ofNat (nat_lit 368)) (nat_lit 0)), (.int (Int.ofNat (nat_lit 1)) (nat_lit 0)), (.int (Int.ofNat (nat_lit 0)) (nat_lit 0)), (.int (Int.ofNat (nat_lit 0)) (nat_lit 0)), (.int (Int.ofNat (nat_lit 3)) (nat_lit 0)), (.ref (nat_lit 543)), (.bool true), (.int (Int.ofNat (nat_lit 318)) (nat_lit 0)), (.ref (nat_lit 544)), .none, (.ref (nat_lit 545)), (.ref (nat_lit 546)), (.ref (nat_lit 547)), (.int (Int.ofNat (nat_lit 971)) (nat_lit 0)), (.int (Int.ofNat (nat_lit 368)) (nat_lit 0)), (.str (Str.ofString "/claim/cut.py") (nat_lit 972))]).toArray), ([]).toArray⟩
noncomputable def o549 (P : Params) : Obj := ⟨(.type "function"), none, (.func { name := (Str.ofString "tell"), qualname := (Str.ofString "StringIO.tell"), params := fa (nth (cb (nth mb 19)) 22), body := .stmts (fb (nth (cb (nth mb 19)) 22)), scope := fsc (nth (cb (nth mb 19)) 22), globals := (nat_lit 3), closure := [], defaults := .none, kwdefaults := .none, doc := .none, pyModule := (.str (Str.ofString "io") (nat_lit 416)), annotations := none, code := (.ref (nat_lit 548)), closureTuple := .none, builtins := (nat_lit 0) }), ([]).toArray⟩
noncomputable def o550 (P : Params) : Obj := ⟨(.type "tuple"), none, (.seq ([(.int (Int.ofNat (nat_lit 0)) (nat_lit 974))]).toArray (nat_lit 0)), ([]).toArray⟩
noncomputable def o556 (P : Params) : Obj := ⟨(.type "code"), none, (.fields ([(.str (Str.ofString "seek") (nat_lit 975)), (.str (Str.ofString "StringIO.seek") (nat_lit 976)), (.str (Str.ofString "/claim/cut.py") (nat_lit 977)), (.int (Int.ofNat (nat_lit 372)) (nat_lit 0)), (.int (Int.ofNat (nat_lit 3)) (nat_lit 0)), (.int (Int.ofNat (nat_lit 3)) (nat_lit 0)), (.int (Int.ofNat (nat_lit 0)) (nat_lit 0)), (.int (Int.ofNat (nat_lit 3)) (nat_lit 0)), (.ref (nat_lit 551)), (.bool true), (.int (Int.ofNat (nat_lit 318)) (nat_lit 0)), (.ref (nat_lit 552)), .none, (.ref (nat_lit 553)), (.ref (nat_lit 554)), (.ref (nat_lit 555)), (.int (Int.ofNat (nat_lit 981)) (nat_lit 0)), (.int (Int.ofNat (nat_lit 372)) (nat_lit 0)), (.str (Str.ofString "/claim/cut.py") (nat_lit 982))]).toArray), ([]).toArray⟩
noncomputable def o557 (P : Params) : Obj := ⟨(.type "function"), none, (.func { name := (Str.ofString "seek"), qualname := (Str.ofString "StringIO.seek"), params := fa (nth (cb (nth mb 19)) 23), body := .stmts (fb (nth (cb (nth mb 19)) 23)), scope := fsc (nth (cb (nth mb 19)) 23), globals := (nat_lit 3), closure := [], defaults := (.ref (nat_lit 550)), kwdefaults := .none, doc := .none, pyModule := (.str (Str.ofString "io") (nat_lit 416)), annotations := none, code := (.ref (nat_lit 556)), closureTuple := .none, builtins := (nat_lit 0) }), ([]).toArray⟩
noncomputable def o558 (P : Params) : Obj := ⟨(.type "tuple"), none, (.seq ([.none]).toArray (nat_lit 0)), ([]).toArray⟩
noncomputable def o564 (P : Params) : Obj := ⟨(.type "code"), none, (.fields ([(.str (Str.ofString "truncate") (nat_lit 984)), (.str (Str.ofString "StringIO.truncate") (nat_lit 985)), (.str (Str.ofString "/claim/cut.py") (nat_lit 986)), (.int (Int.ofNat (nat_lit 389)) (nat_lit 0)), (.int (Int.ofNat (nat_lit 2)) (nat_lit 0)), (.int (Int.ofNat (nat_lit 2)) (nat_lit 0)), (.int (Int.ofNat (nat_lit 0)) (nat_lit 0)), (.int (Int.ofNat (nat_lit 3)) (nat_lit 0)), (.ref (nat_lit 559)), (.bool true), (.int (Int.ofNat (nat_lit 318)) (nat_lit 0)), (.ref (nat_lit 560)), .none, (.ref (nat_lit 561)), (.ref (nat_lit 562)), (.ref (nat_lit 563)), (.int (Int.ofNat (nat_lit 989)) (nat_lit 0)), (.int (Int.ofNat (nat_lit 389)) (nat_lit 0)), (.str (Str.ofString "/claim/cut.py") (nat_lit 990))]).toArray), ([]).toArray⟩
noncomputable def o565 (P : Params) : Obj := ⟨(.type "function"), none, (.func { name := (Str.ofString "truncate"), qualname := (Str.ofString "StringIO.truncate"), params := fa (nth (cb (nth mb 19)) 24), body := .stmts (fb (nth (cb (nth mb 19)) 24)), scope := fsc (nth (cb (nth mb 19)) 24), globals := (nat_lit 3), closure := [], defaults := (.ref (nat_lit 558)), kwdefaults := .none, doc := .none, pyModule := (.str (Str.ofString "io") (nat_lit 416)), annotations := none, code := (.ref (nat_lit 564)), closureTuple := .none, builtins := (nat_lit 0) }), ([]).toArray⟩
noncomputable def o566 (P : Params) : Obj := ⟨(.type "tuple"), none, (.seq ([(.int (Int.negSucc (nat_lit 0)) (nat_lit 993))]).toArray (nat_lit 0)), ([]).toArray⟩
noncomputable def o572 (P : Params) : Obj := ⟨(.type "code"), none, (.fields ([(.str (Str.ofString "read") (nat_lit 994)), (.str (Str.ofString "StringIO.read") (nat_lit 995)), (.str (Str.ofString "/claim/cut.py") (nat_lit 996)), (.int (Int.ofNat (nat_lit 392)) (nat_lit 0)), (.int (Int.ofNat (nat_lit 2)) (nat_lit 0)), (.int (Int.ofNat (nat_lit 2)) (nat_lit 0)), (.int (Int.ofNat (nat_lit 0)) (nat_lit 0)), (.int (Int.ofNat (nat_lit 3)) (nat_lit 0)), (.ref (nat_lit 567)), (.bool true), (.int (Int.ofNat (nat_lit 318)) (nat_lit 0)), (.ref (nat_lit 568)), .none, (.ref (nat_lit 569)), (.ref (nat_lit 570)), (.ref (nat_lit 571)), (.int (Int.ofNat (nat_lit 1001)) (nat_lit 0)), (.int (Int.ofNat (nat_lit 392)) (nat_lit 0)), (.str (Str.ofString "/claim/cut.py") (nat_lit 1002))]).toArray), ([]).toArray⟩
noncomputable def o573 (P : Params) : Obj := ⟨(.type "function"), none, (.func { name := (Str.ofString "read"), qualname := (Str.ofString "StringIO.read"), params := fa (nth (cb (nth mb 19)) 25), body := .stmts (fb (nth (cb (nth mb 19)) 25)), scope := fsc (nth (cb (nth mb 19)) 25), globals := (nat_lit 3), closure := [], defaults := (.ref (nat_lit 566)), kwdefaults := .none, doc := .none, pyModule := (.str (Str.ofString "io") (nat_lit 416)), annotations := none, code := (.ref (nat_lit 572)), closureTuple := .none, builtins := (nat_lit 0) }), ([]).toArray⟩
noncomputable def o574 (P : Params) : Obj := ⟨(.type "tuple"), none, (.seq ([(.int (Int.negSucc (nat_lit 0)) (nat_lit 1005))]).toArray (nat_lit 0)), ([]).toArray⟩
noncomputable def o580 (P : Params) : Obj := ⟨(.type "code"), none, (.fields ([(.str (Str.ofString "readline") (nat_lit 1006)), (.str (Str.ofString "StringIO.readline") (nat_lit 1007)), (.str (Str.ofString "/claim/cut.py") (nat_lit 1008)), (.int (Int.ofNat (nat_lit 406)) (nat_lit 0)), (.int (Int.ofNat (nat_lit 2)) (nat_lit 0)), (.int (Int.ofNat (nat_lit 2)) (nat_lit 0)), (.int (Int.ofNat (nat_lit 0)) (nat_lit 0)), (.int (Int.ofNat (nat_lit 3)) (nat_lit 0)), (.ref (nat_lit 575)), (.bool true), (.int (Int.ofNat (nat_lit 318)) (nat_lit 0)), (.ref (nat_lit 576)), .none, (.ref (nat_lit 577)), (.ref (nat_lit 578)), (.ref (nat_lit 579)), (.int (Int.ofNat (nat_lit 1011)) (nat_lit 0)), (.int (Int.ofNat (nat_lit 406)) (nat_lit 0)), (.str (Str.ofString "/claim/cut.py") (nat_lit 1012))]).toArray), ([]).toArray⟩
noncomputable def o581 (P : Params) : Obj := ⟨(.type "function"), none, (.func { name := (Str.ofString "readline"), qualname := (Str.ofString "StringIO.readline"), params := fa (nth (cb (nth mb 19)) 26), body := .stmts (fb (nth (cb (nth mb 19)) 26)), scope := fsc (nth (cb (nth mb 19)) 26), globals := (nat_lit 3), closure := [], defaults := (.ref (nat_lit 574)), kwdefaults := .none, doc := .none, pyModule := (.str (Str.ofString "io") (nat_lit 416)), annotations := none, code := (.ref (nat_lit 580)), closureTuple := .none, builtins := (nat_lit 0) }), ([]).toArray⟩
noncomputable def o582 (P : Params) : Obj := ⟨(.type "tuple"), none, (.seq ([(.int (Int.negSucc (nat_lit 0)) (nat_lit 1015))]).toArray (nat_lit 0)), ([]).toArray⟩
noncomputable def o588 (P : Params) : Obj := ⟨(.type "code"), none, (.fields ([(.str (Str.ofString "readlines") (nat_lit 1016)), (.str (Str.ofString "StringIO.readlines") (nat_lit 1017)), (.str (Str.ofString "/claim/cut.py") (nat_lit 1018)), (.int (Int.ofNat (nat_lit 413)) (nat_lit 0)), (.int (Int.ofNat (nat_lit 2)) (nat_lit 0)), (.int (Int.ofNat (nat_lit 2)) (nat_lit 0)), (.int (Int.ofNat (nat_lit 0)) (nat_lit 0)), (.int (Int.ofNat (nat_lit 3)) (nat_lit 0)), (.ref (nat_lit 583)), (.bool true), (.int (Int.ofNat (nat_lit 318)) (nat_lit 0)), (.ref (nat_lit 584)), .none, (.ref (nat_lit 585)), (.ref (nat_lit 586)), (.ref (nat_lit 587)), (.int (Int.ofNat (nat_lit 1021)) (nat_lit 0)), (.int (Int.ofNat (nat_lit 413)) (nat_lit 0)), (.str (Str.ofString "/claim/cut.py") (nat_lit 1022))]).toArray), ([]).toArray⟩
noncomputable def o589 (P : Params) : Obj := ⟨(.type "function"), none, (.func { name := (Str.ofString "readlines"), qualname := (Str.ofString "StringIO.readlines"), params := fa (nth (cb (nth mb 19)) 27), body := .stmts (fb (nth (cb (nth mb 19)) 27)), scope := fsc (nth (cb (nth mb 19)) 27), globals := (nat_lit 3), closure := [], defaults := (.ref (nat_lit 582)), kwdefaults := .none, doc := .none, pyModule := (.str (Str.ofString "io") (nat_lit 416)), annotations := none, code := (.ref (nat_lit 588)), closureTuple := .none, builtins := (nat_lit 0) }), ([]).toArray⟩
noncomputable def o595 (P : Params) : Obj := ⟨(.type "code"), none, (.fields ([(.str (Str.ofString "__iter__") (nat_lit 1024)), (.str (Str.ofString "StringIO.__iter__") (nat_lit 1025)), (.str (Str.ofString "/claim/cut.py") (nat_lit 1026)), (.int (Int.ofNat (nat_lit 416)) (nat_lit 0)), (.int (Int.ofNat (nat_lit 1)) (nat_lit 0)), (.int (Int.ofNat (nat_lit 0)) (nat_lit 0)), (.int (Int.ofNat (nat_lit 0)) (nat_lit 0)), (.int (Int.ofNat (nat_lit 3)) (nat_lit 0)), (.ref (nat_lit 590)), (.bool true), (.int (Int.ofNat (nat_lit 318)) (nat_lit 0)), (.ref (nat_lit 591)), .none, (.ref (nat_lit 592)), (.ref (nat_lit 593)), (.ref (nat_lit 594)), (.int (Int.ofNat (nat_lit 1028)) (nat_lit 0)), (.int (Int.ofNat (nat_lit 416)) (nat_lit 0)), (.str (Str.ofString "/claim/cut.py") (nat_lit 1029))]).toArray), ([]).toArray⟩
noncomputable def o596 (P : Params) : Obj := ⟨(.type "function"), none, (.func { name := (Str.ofString "__iter__"), qualname := (Str.ofString "StringIO.__iter__"), params := fa (nth (cb (nth mb 19)) 28), body := .stmts (fb (nth (cb (nth mb 19)) 28)), scope := fsc (nth (cb (nth mb 19)) 28), globals := (nat_lit 3), closure := [], defaults := .none, kwdefaults := .none, doc := .none, pyModule := (.str (Str.ofString "io") (nat_lit 416)), annotations := none, code := (.ref (nat_lit 595)), closureTuple := .none, builtins := (nat_lit 0) }), ([]).toArray⟩
noncomputable def o602 (P : Params) : Obj := ⟨(.type "code"), none, (.fields ([(.str (Str.ofString "__next__") (nat_lit 1031)), (.str (Str.ofString "StringIO.__next__") (nat_lit 1032)), (.str (Str.ofString "/claim/cut.py") (nat_lit 1033)), (.int (Int.ofNat (nat_lit 420)) (nat_lit 0)), (.int (Int.ofNat (nat_lit 1)) (nat_lit 0)), (.int (Int.ofNat (nat_lit 0)) (nat_lit 0)), (.int (Int.ofNat (nat_lit 0)) (nat_lit 0)), (.int (Int.ofNat (nat_lit 3)) (nat_lit 0)), (.ref (nat_lit 597)), (.bool true), (.int (Int.ofNat (nat_lit 318)) (nat_lit 0)), (.ref (nat_lit 598)), .none, (.ref (nat_lit 599)), (.ref (nat_lit 600)), (.ref (nat_lit 601)), (.int (Int.ofNat (nat_lit 1036)) (nat_lit 0)), (.int (Int.ofNat (nat_lit 420)) (nat_lit 0)), (.str (Str.ofString "/claim/cut.py") (nat_lit 1037))]).toArray), ([]).toArray⟩
noncomputable def o603 (P : Params) : Obj := ⟨(.type "function"), none, (.func { name := (Str.ofString "__next__"), qualname := (Str.ofString "StringIO.__next__"), params := fa (nth (cb (nth mb 19)) 29), body := .stmts (fb (nth (cb (nth mb 19)) 29)), scope := fsc (nth (cb (nth mb 19)) 29), globals := (nat_lit 3), closure := [], defaults := .none, kwdefaults := .none, doc := .none, pyModule := (.str (Str.ofString "io") (nat_lit 416)), annotations := none, code := (.ref (nat_lit 602)), closureTuple := .none, builtins := (nat_lit 0) }), ([]).toArray⟩
noncomputable def o609 (P : Params) : Obj := ⟨(.type "code"), none, (.fields ([(.str (Str.ofString "write") (nat_lit 1039)), (.str (Str.ofString "StringIO.write") (nat_lit 1040)), (.str (Str.ofString "/claim/cut.py") (nat_lit 1041)), (.int (Int.ofNat (nat_lit 427)) (nat_lit 0)), (.int (Int.ofNat (nat_lit 2)) (nat_lit 0)), (.int (Int.ofNat (nat_lit 2)) (nat_lit 0)), (.int (Int.ofNat (nat_lit 0)) (nat_lit 0)), (.int (Int.ofNat (nat_lit 3)) (nat_lit 0)), (.ref (nat_lit 604)), (.bool true), (.int (Int.ofNat (nat_lit 318)) (nat_lit 0)), (.ref (nat_lit 605)), .none, (.ref (nat_lit 606)), (.ref (nat_lit 607)), (.ref (nat_lit 608)), (.int (Int.ofNat (nat_lit 1048)) (nat_lit 0)), (.int (Int.ofNat (nat_lit 427)) (nat_lit 0)), (.str (Str.ofString "/claim/cut.py") (nat_lit 1049))]).toArray), ([]).toArray⟩
noncomputable def o610 (P : Params) : Obj := ⟨(.type "function"), none, (.func { name := (Str.ofString "write"), qualname := (Str.ofString "StringIO.write"), params := fa (nth (cb (nth mb 19)) 30), body := .stmts (fb (nth (cb (nth mb 19)) 30)), scope := fsc (nth (cb (nth mb 19)) 30), globals := (nat_lit 3), closure := [], defaults := .none, kwdefaults := .none, doc := .none, pyModule := (.str (Str.ofString "io") (nat_lit 416)), annotations := none, code := (.ref (nat_lit 609)), closureTuple := .none, builtins := (nat_lit 0) }), ([]).toArray⟩
noncomputable def o616 (P : Params) : Obj := ⟨(.type "code"), none, (.fields ([(.str (Str.ofString "writelines") (nat_lit 1051)), (.str (Str.ofString "StringIO.writelines") (nat_lit 1052)), (.str (Str.ofString "/claim/cut.py") (nat_lit 1053)), (.int (Int.ofNat (nat_lit 446)) (nat_lit 0)), (.int (Int.ofNat (nat_lit 2)) (nat_lit 0)), (.int (Int.ofNat (nat_lit 2)) (nat_lit 0)), (.int (Int.ofNat (nat_lit 0)) (nat_lit 0)), (.int (Int.ofNat (nat_lit 3)) (nat_lit 0)), (.ref (nat_lit 611)), (.bool true), (.int (Int.ofNat (nat_lit 318)) (nat_lit 0)), (.ref (nat_lit 612)), .none, (.ref (nat_lit 613)), (.ref (nat_lit 614)), (.ref (nat_lit 615)), (.int (Int.ofNat (nat_lit 1056)) (nat_lit 0)), (.int (Int.ofNat (nat_lit 446)) (nat_lit 0)), (.str (Str.ofString "/claim/cut.py") (nat_lit 1057))]).toArray), ([]).toArray⟩
noncomputable def o617 (P : Params) : Obj := ⟨(.type "function"), none, (.func { name := (Str.ofString "writelines"), qualname := (Str.ofString "StringIO.writelines"), params := fa (nth (cb (nth mb 19)) 31), body := .stmts (fb (nth (cb (nth mb 19)) 31)), scope := fsc (nth (cb (nth mb 19)) 31), globals := (nat_lit 3), closure := [], defaults := .none, kwdefaults := .none, doc := .none, pyModule := (.str (Str.ofString "io") (nat_lit 416)), annotations := none, code := (.ref (nat_lit 616)), closureTuple := .none, builtins := (nat_lit 0) }), ([]).toArray⟩
noncomputable def o623 (P : Params) : Obj := ⟨(.type "code"), none, (.fields ([(.str (Str.ofString "__repr__") (nat_lit 1059)), (.str (Str.ofString "StringIO.__repr__") (nat_lit 1060)), (.str (Str.ofString "/claim/cut.py") (nat_lit 1061)), (.int (Int.ofNat (nat_lit 449)) (nat_lit 0)), (.int (Int.ofNat (nat_lit 1)) (nat_lit 0)), (.int (Int.ofNat (nat_lit 0)) (nat_lit 0)), (.int (Int.ofNat (nat_lit 0)) (nat_lit 0)), (.int (Int.ofNat (nat_lit 3)) (nat_lit 0)), (.ref (nat_lit 618)), (.bool true), (.int (Int.ofNat (nat_lit 318)) (nat_lit 0)), (.ref (nat_lit 619)), .none, (.ref (nat_lit 620)), (.ref (nat_lit 621)), (.ref (nat_lit 622)), (.int (Int.ofNat (nat_lit 1063)) (nat_lit 0)), (.int (Int.ofNat (nat_lit 449)) (nat_lit 0)), (.str (Str.ofString "/claim/cut.py") (nat_lit 1064))]).toArray), ([]).toArray⟩
noncomputable def o624 (P : Params) : Obj := ⟨(.type "function"), none, (.func { name := (Str.ofString "__repr__"), qualname := (Str.ofString "StringIO.__repr__"), params := fa (nth (cb (nth mb 19)) 32), body := .stmts (fb (nth (cb (nth mb 19)) 32)), scope := fsc (nth (cb (nth mb 19)) 32), globals := (nat_lit 3), closure := [], defaults := .none, kwdefaults := .none, doc := .none, pyModule := (.str (Str.ofString "io") (nat_lit 416)), annotations := none, code := (.ref (nat_lit 623)), closureTuple := .none, builtins := (nat_lit 0) }), ([]).toArray⟩
noncomputable def o625 (P : Params) : Obj := ⟨(.type "tuple"), none, (.seq ([(.str (Str.ofString "__buf") (nat_lit 1066)), (.str (Str.ofString "__newline") (nat_lit 1067)), (.str (Str.ofString "__pos") (nat_lit 1068))]).toArray (nat_lit 0)), ([]).toArray⟩
noncomputable def o626 (P : Params) : Obj := ⟨(.type "dict"), none, (.dict ([⟨(PyData.keyHash P (Str.ofString "__module__")), (.str (Str.ofString "__module__") (nat_lit 793)), (.str (Str.ofString "_io") (nat_lit 798))⟩, ⟨(PyData.keyHash P (Str.ofString "__firstlineno__")), (.str (Str.ofString "__firstlineno__") (nat_lit 797)), (.int (Int.ofNat (nat_lit 246)) (nat_lit 796))⟩, ⟨(PyData.keyHash P (Str.ofString "__init__")), (.str (Str.ofString "__init__") (nat_lit 810)), (.ref (nat_lit 397))⟩, ⟨(PyData.keyHash P (Str.ofString "_StringIO__translated")), (.str (Str.ofString "_StringIO__translated") (nat_lit 819)), (.ref (nat_lit 404))⟩, ⟨(PyData.keyHash P (Str.ofString "_StringIO__check")), (.str (Str.ofString "_StringIO__check") (nat_lit 826)), (.ref (nat_lit 411))⟩, ⟨(PyData.keyHash P (Str.ofString "_StringIO__check_dot")), (.str (Str.ofString "_StringIO__check_dot") (nat_lit 833)), (.ref (nat_lit 418))⟩, ⟨(PyData.keyHash P (Str.ofString "_StringIO__line")), (.str (Str.ofString "_StringIO__line") (nat_lit 848)), (.ref (nat_lit 425))⟩, ⟨(PyData.keyHash P (Str.ofString "closed")), (.str (Str.ofString "closed") (nat_lit 856)), (.ref (nat_lit 433))⟩, ⟨(PyData.keyHash P (Str.ofString "line_buffering")), (.str (Str.ofString "line_buffering") (nat_lit 864)), (.ref (nat_lit 441))⟩, ⟨(PyData.keyHash P (Str.ofString "newlines")), (.str (Str.ofString "newlines") (nat_lit 872)), (.ref (nat_lit 449))⟩, ⟨(PyData.keyHash P (Str.ofString "encoding")), (.str (Str.ofString "encoding") (nat_lit 880)), (.ref (nat_lit 457))⟩, ⟨(PyData.keyHash P (Str.ofString "errors")), (.str (Str.ofString "errors") (nat_lit 888)), (.ref (nat_lit 465))⟩, ⟨(PyData.keyHash P (Str.ofString "close")), (.str (Str.ofString "close") (nat_lit 895)), (.ref (nat_lit 472))⟩, ⟨(PyData.keyHash P (Str.ofString "__enter__")), (.str (Str.ofString "__enter__") (nat_lit 902)), (.ref (nat_lit 479))⟩, ⟨(PyData.keyHash P (Str.ofString "__exit__")), (.str (Str.ofString "__exit__") (nat_lit 910)), (.ref (nat_lit 486))⟩, ⟨(PyData.keyHash P (Str.ofString "readable")), (.str (Str.ofString "readable") (nat_lit 917)), (.ref (nat_lit 493))⟩, ⟨(PyData.keyHash P (Str.ofString "writable")), (.str (Str.ofString "writable") (nat_lit 924)), (.ref (nat_lit 500))⟩, ⟨(PyData.keyHash P (Str.ofString "seekable")), (.str (Str.ofString "seekable") (nat_lit 931)), (.ref (nat_lit 507))⟩, ⟨(PyData.keyHash P (Str.ofString "isatty")), (.str (Str.ofString "isatty") (nat_lit 938)), (.ref (nat_lit 514))⟩, ⟨(PyData.keyHash P (Str.ofString "flush")), (.str (Str.ofString "flush") (nat_lit 945)), (.ref (nat_lit 521))⟩, ⟨(PyData.keyHash P (Str.ofString "fileno")), (.str (Str.ofString "fileno") (nat_lit 952)), (.ref (nat_lit 528))⟩, ⟨(PyData.keyHash P (Str.ofString "detach")), (.str (Str.ofString "detach") (nat_lit 959)), (.ref (nat_lit 535))⟩, ⟨(PyData.keyHash P (Str.ofString "getvalue")), (.str (Str.ofString "getvalue") (nat_lit 966)), (.ref (nat_lit 542))⟩, ⟨(PyData.keyHash P (Str.ofString "tell")), (.str (Str.ofString "tell") (nat_lit 973)), (.ref (nat_lit 549))⟩, ⟨(PyData.keyHash P (Str.ofString "seek")), (.str (Str.ofString "seek") (nat_lit 983)), (.ref (nat_lit 557))⟩, ⟨(PyData.keyHash P (Str.ofString "truncate")), (.str (Str.ofString "truncate") (nat_lit 991)), (.ref (nat_lit 565))⟩, ⟨(PyData.keyHash P (Str.ofString "read")), (.str (Str.ofString "read") (nat_lit 1003)), (.ref (nat_lit 573))⟩, ⟨(PyData.keyHash P (Str.ofString "readline")), (.str (Str.ofString "readline") (nat_lit 1013)), (.ref (nat_lit 581))⟩, ⟨(PyData.keyHash P (Str.ofString "readlines")), (.str (Str.ofString "readlines") (nat_lit 1023)), (.ref (nat_lit 589))⟩, ⟨(PyData.keyHash P (Str.ofString "__iter__")), (.str (Str.ofString "__iter__") (nat_lit 1030)), (.ref (nat_lit 596))⟩, ⟨(PyData.keyHash P (Str.ofString "__next__")), (.str (Str.ofString "__next__") (nat_lit 1038)), (.ref (nat_lit 603))⟩, ⟨(PyData.keyHash P (Str.ofString "write")), (.str (Str.ofString "write") (nat_lit 1050)), (.ref (nat_lit 610))⟩, ⟨(PyData.keyHash P (Str.ofString "writelines")), (.str (Str.ofString "writelines") (nat_lit 1058)), (.ref (nat_lit 617))⟩, ⟨(PyData.keyHash P (Str.ofString "__repr__")), (.str (Str.ofString "__repr__") (nat_lit 1065)), (.ref (nat_lit 624))⟩, ⟨(PyData.keyHash P (Str.ofString "__static_attributes__")), (.str (Str.ofString "__static_attributes__") (nat_lit 1069)), (.ref (nat_lit 625))⟩, ⟨(PyData.keyHash P (Str.ofString "__doc__")), (.str (Str.ofString "__doc__") (nat_lit 1070)), .none⟩]).toArray (nat_lit 2)), ([]).toArray⟩
noncomputable def o627 (P : Params) : Obj := ⟨(.type "type"), none, (.cls { name := (Str.ofString "StringIO"), bases := [(.ref (nat_lit 150))], mro := [(.ref (nat_lit 627)), (.ref (nat_lit 150)), (.ref (nat_lit 123)), (.type "object")], ns := (nat_lit 626), qualname := (Str.ofString "StringIO"), hasDict := true, slotNames := [], subclasses := [], abstract := false, collection := none, hasDel := false }), ([(some (.ref (nat_lit 383))), none, (some (.str (Str.ofString "StringIO") (nat_lit 786))), (some (.str (Str.ofString "StringIO") (nat_lit 794))), (some .none), (some (.bool true))]).toArray⟩
noncomputable def o635 (P : Params) : Obj := ⟨(.type "code"), none, (.fields ([(.str (Str.ofString "_kind") (nat_lit 1075)), (.str (Str.ofString "_kind") (nat_lit 1076)), (.str (Str.ofString "/claim/cut.py") (nat_lit 1077)), (.int (Int.ofNat (nat_lit 452)) (nat_lit 0)), (.int (Int.ofNat (nat_lit 2)) (nat_lit 0)), (.int (Int.ofNat (nat_lit 0)) (nat_lit 0)), (.int (Int.ofNat (nat_lit 0)) (nat_lit 0)), (.int (Int.ofNat (nat_lit 3)) (nat_lit 0)), (.ref (nat_lit 630)), (.bool true), (.int (Int.ofNat (nat_lit 318)) (nat_lit 0)), (.ref (nat_lit 631)), .none, (.ref (nat_lit 632)), (.ref (nat_lit 633)), (.ref (nat_lit 634)), (.int (Int.ofNat (nat_lit 1081)) (nat_lit 0)), (.int (Int.ofNat (nat_lit 452)) (nat_lit 0)), (.str (Str.ofString "/claim/cut.py") (nat_lit 1082))]).toArray), ([]).toArray⟩
noncomputable def o636 (P : Params) : Obj := ⟨(.type "function"), none, (.func { name := (Str.ofString "_kind"), qualname := (Str.ofString "_kind"), params := fa (nth mb 21), body := .stmts (fb (nth mb 21)), scope := fsc (nth mb 21), globals := (nat_lit 3), closure := [], defaults := .none, kwdefaults := .none, doc := .none, pyModule := (.str (Str.ofString "os.path") (nat_lit 1073)), annotations := none, code := (.ref (nat_lit 635)), closureTuple := .none, builtins := (nat_lit 0) }), ([]).toArray⟩
noncomputable def o670 (P : Params) : Obj := ⟨(.type "code"), none, (.fields ([(.str (Str.ofString "_c_path") (nat_lit 1122)), (.str (Str.ofString "_c_path") (nat_lit 1123)), (.str (Str.ofString "/claim/cut.py") (nat_lit 1124)), (.int (Int.ofNat (nat_lit 507)) (nat_lit 0)), (.int (Int.ofNat (nat_lit 5)) (nat_lit 0)), (.int (Int.ofNat (nat_lit 0)) (nat_lit 0)), (.int (Int.ofNat (nat_lit 0)) (nat_lit 0)), (.int (Int.ofNat (nat_lit 3)) (nat_lit 0)), (.ref (nat_lit 665)), (.bool true), (.int (Int.ofNat (nat_lit 318)) (nat_lit 0)), (.ref (nat_lit 666)), .none, (.ref (nat_lit 667)), (.ref (nat_lit 668)), (.ref (nat_lit 669)), (.int (Int.ofNat (nat_lit 1132)) (nat_lit 0)), (.int (Int.ofNat (nat_lit 507)) (nat_lit 0)), (.str (Str.ofString "/claim/cut.py") (nat_lit 1133))]).toArray), ([]).toArray⟩
noncomputable def o671 (P : Params) : Obj := ⟨(.type "function"), none, (.func { name := (Str.ofString "_c_path"), qualname := (Str.ofString "_c_path"), params := fa (nth mb 27), body := .stmts (fb (nth mb 27)), scope := fsc (nth mb 27), globals := (nat_lit 3), closure := [], defaults := .none, kwdefaults := .none, doc := .none, pyModule := (.str (Str.ofString "os.path") (nat_lit 1073)), annotations := none, code := (.ref (nat_lit 670)), closureTuple := .none, builtins := (nat_lit 0) }), ([]).toArray⟩
noncomputable def o677 (P : Params) : Obj := ⟨(.type "code"), none, (.fields ([(.str (Str.ofString "_splitroot") (nat_lit 1135)), (.str (Str.ofString "_splitroot") (nat_lit 1136)), (.str (Str.ofString "/claim/cut.py") (nat_lit 1137)), (.int (Int.ofNat (nat_lit 518)) (nat_lit 0)), (.int (Int.ofNat (nat_lit 1)) (nat_lit 0)), (.int (Int.ofNat (nat_lit 0)) (nat_lit 0)), (.int (Int.ofNat (nat_lit 0)) (nat_lit 0)), (.int (Int.ofNat (nat_lit 3)) (nat_lit 0)), (.ref (nat_lit 672)), (.bool true), (.int (Int.ofNat (nat_lit 318)) (nat_lit 0)), (.ref (nat_lit 673)), .none, (.ref (nat_lit 674)), (.ref (nat_lit 675)), (.ref (nat_lit 676)), (.int (Int.ofNat (nat_lit 1141)) (nat_lit 0)), (.int (Int.ofNat (nat_lit 518)) (nat_lit 0)), (.str (Str.ofString "/claim/cut.py") (nat_lit 1142))]).toArray), ([]).toArray⟩
noncomputable def o678 (P : Params) : Obj := ⟨(.type "function"), none, (.func { name := (Str.ofString "_splitroot"), qualname := (Str.ofString "_splitroot"), params := fa (nth mb 28), body := .stmts (fb (nth mb 28)), scope := fsc (nth mb 28), globals := (nat_lit 3), closure := [], defaults := .none, kwdefaults := .none, doc := .none, pyModule := (.str (Str.ofString "os.path") (nat_lit 1073)), annotations := none, code := (.ref (nat_lit 677)), closureTuple := .none, builtins := (nat_lit 0) }), ([]).toArray⟩
noncomputable def o691 (P : Params) : Obj := ⟨(.type "code"), none, (.fields ([(.str (Str.ofString "_normpath") (nat_lit 1154)), (.str (Str.ofString "_normpath") (nat_lit 1155)), (.str (Str.ofString "/claim/cut.py") (nat_lit 1156)), (.int (Int.ofNat (nat_lit 535)) (nat_lit 0)), (.int (Int.ofNat (nat_lit 1)) (nat_lit 0)), (.int (Int.ofNat (nat_lit 0)) (nat_lit 0)), (.int (Int.ofNat (nat_lit 0)) (nat_lit 0)), (.int (Int.ofNat (nat_lit 3)) (nat_lit 0)), (.ref (nat_lit 686)), (.bool true), (.int (Int.ofNat (nat_lit 318)) (nat_lit 0)), (.ref (nat_lit 687)), .none, (.ref (nat_lit 688)), (.ref (nat_lit 689)), (.ref (nat_lit 690)), (.int (Int.ofNat (nat_lit 1166)) (nat_lit 0)), (.int (Int.ofNat (nat_lit 535)) (nat_lit 0)), (.str (Str.ofString "/claim/cut.py") (nat_lit 1167))]).toArray), ([]).toArray⟩
noncomputable def o692 (P : Params) : Obj := ⟨(.type "function"), none, (.func { name := (Str.ofString "_normpath"), qualname := (Str.ofString "_normpath"), params := fa (nth mb 30), body := .stmts (fb (nth mb 30)), scope := fsc (nth mb 30), globals := (nat_lit 3), closure := [], defaults := .none, kwdefaults := .none, doc := .none, pyModule := (.str (Str.ofString "os.path") (nat_lit 1073)), annotations := none, code := (.ref (nat_lit 691)), closureTuple := .none, builtins := (nat_lit 0) }), ([]).toArray⟩
noncomputable def o698 (P : Params) : Obj := ⟨(.type "code"), none, (.fields ([(.str (Str.ofString "normpath") (nat_lit 1169)), (.str (Str.ofString "normpath") (nat_lit 1170)), (.str (Str.ofString "/claim/cut.py") (nat_lit 1171)), (.int (Int.ofNat (nat_lit 554)) (nat_lit 0)), (.int (Int.ofNat (nat_lit 0)) (nat_lit 0)), (.int (Int.ofNat (nat_lit 0)) (nat_lit 0)), (.int (Int.ofNat (nat_lit 0)) (nat_lit 0)), (.int (Int.ofNat (nat_lit 15)) (nat_lit 0)), (.ref (nat_lit 693)), (.bool true), (.int (Int.ofNat (nat_lit 318)) (nat_lit 0)), (.ref (nat_lit 694)), .none, (.ref (nat_lit 695)), (.ref (nat_lit 696)), (.ref (nat_lit 697)), (.int (Int.ofNat (nat_lit 1174)) (nat_lit 0)), (.int (Int.ofNat (nat_lit 554)) (nat_lit 0)), (.str (Str.ofString "/claim/cut.py") (nat_lit 1175))]).toArray), ([]).toArray⟩
noncomputable def o699 (P : Params) : Obj := ⟨(.type "function"), none, (.func { name := (Str.ofString "normpath"), qualname := (Str.ofString "normpath"), params := fa (nth mb 31), body := .stmts (fb (nth mb 31)), scope := fsc (nth mb 31), globals := (nat_lit 3), closure := [], defaults := .none, kwdefaults := .none, doc := .none, pyModule := (.str (Str.ofString "os.path") (nat_lit 1073)), annotations := none, code := (.ref (nat_lit 698)), closureTuple := .none, builtins := (nat_lit 0) }), ([]).toArray⟩
noncomputable def o707 (P : Params) : Obj := ⟨(.type "tuple"), none, (.seq ([.none, .none, (.bool false), (.bool false)]).toArray (nat_lit 0)), ([]).toArray⟩
noncomputable def o713 (P : Params) : Obj := ⟨(.type "code"), none, (.fields ([(.str (Str.ofString "__init__") (nat_lit 1191)), (.str (Str.ofString "shlex.__init__") (nat_lit 1192)), (.str (Str.ofString "/claim/cut.py") (nat_lit 1193)), (.int (Int.ofNat (nat_lit 559)) (nat_lit 0)), (.int (Int.ofNat (nat_lit 5)) (nat_lit 0)), (.int (Int.ofNat (nat_lit 0)) (nat_lit 0)), (.int (Int.ofNat (nat_lit 0)) (nat_lit 0)), (.int (Int.ofNat (nat_lit 3)) (nat_lit 0)), (.ref (nat_lit 708)), (.bool true), (.int (Int.ofNat (nat_lit 318)) (nat_lit 0)), (.ref (nat_lit 709)), .none, (.ref (nat_lit 710)), (.ref (nat_lit 711)), (.ref (nat_lit 712)), (.int (Int.ofNat (nat_lit 1200)) (nat_lit 0)), (.int (Int.ofNat (nat_lit 559)) (nat_lit 0)), (.str (Str.ofString "/claim/cut.py") (nat_lit 1201))]).toArray), ([]).toArray⟩
noncomputable def o714 (P : Params) : Obj := ⟨(.type "function"), none, (.func { name := (Str.ofString "__init__"), qualname := (Str.ofString "shlex.__init__"), params := fa (nth (cb (nth mb 33)) 0), body := .stmts (fb (nth (cb (nth mb 33)) 0)), scope := fsc (nth (cb (nth mb 33)) 0), globals := (nat_lit 3), closure := [], defaults := (.ref (nat_lit 707)), kwdefaults := .none, doc := .none, pyModule := (.str (Str.ofString "cpy313.shlex") (nat_lit 1177)), annotations := none, code := (.ref (nat_lit 713)), closureTuple := .none, builtins := (nat_lit 0) }), ([]).toArray⟩
noncomputable def o720 (P : Params) : Obj := ⟨(.type "code"), none, (.fields ([(.str (Str.ofString "punctuation_chars") (nat_lit 1203)), (.str (Str.ofString "shlex.punctuation_chars") (nat_lit 1204)), (.str (Str.ofString "/claim/cut.py") (nat_lit 1205)), (.int (Int.ofNat (nat_lit 600)) (nat_lit 0)), (.int (Int.ofNat (nat_lit 1)) (nat_lit 0)), (.int (Int.ofNat (nat_lit 0)) (nat_lit 0)), (.int (Int.ofNat (nat_lit 0)) (nat_lit 0)), (.int (Int.ofNat (nat_lit 3)) (nat_lit 0)), (.ref (nat_lit 715)), (.bool true), (.int (Int.ofNat (nat_lit 318)) (nat_lit 0)), (.ref (nat_lit 716)), .none, (.ref (nat_lit 717)), (.ref (nat_lit 718)), (.ref (nat_lit 719)), (.int (Int.ofNat (nat_lit 1207)) (nat_lit 0)), (.int (Int.ofNat (nat_lit 600)) (nat_lit 0)), (.str (Str.ofString "/claim/cut.py") (nat_lit 1208))]).toArray), ([]).toArray⟩
noncomputable def o721 (P : Params) : Obj := ⟨(.type "function"), none, (.func { name := (Str.ofString "punctuation_chars"), qualname := (Str.ofString "shlex.punctuation_chars"), params := fa (nth (cb (nth mb 33)) 1), body := .stmts (fb (nth (cb (nth mb 33)) 1)), scope := fsc (nth (cb (nth mb 33)) 1), globals := (nat_lit 3), closure := [], defaults := .none, kwdefaults := .none, doc := .none, pyModule := (.str (Str.ofString "cpy313.shlex") (nat_lit 1177)), annotations := none, code := (.ref (nat_lit 720)), closureTuple := .none, builtins := (nat_lit 0) }), ([]).toArray⟩
noncomputable def o722 (P : Params) : Obj := ⟨(.type "property"), none, (.fields ([(.ref (nat_lit 721)), .none, .none, .none, (.str (Str.ofString "punctuation_chars") (nat_lit 1210)), (.bool false)]).toArray), ([]).toArray⟩
noncomputable def o728 (P : Params) : Obj := ⟨(.type "code"), none, (.fields ([(.str (Str.ofString "push_token") (nat_lit 1211)), (.str (Str.ofString "shlex.push_token") (nat_lit 1212)), (.str (Str.ofString "/claim/cut.py") (nat_lit 1213)), (.int (Int.ofNat (nat_lit 604)) (nat_lit 0)), (.int (Int.ofNat (nat_lit 2)) (nat_lit 0)), (.int (Int.ofNat (nat_lit 0)) (nat_lit 0)), (.int (Int.ofNat (nat_lit 0)) (nat_lit 0)), (.int (Int.ofNat (nat_lit 3)) (nat_lit 0)), (.ref (nat_lit 723)), (.bool true), (.int (Int.ofNat (nat_lit 318)) (nat_lit 0)), (.ref (nat_lit 724)), .none, (.ref (nat_lit 725)), (.ref (nat_lit 726)), (.ref (nat_lit 727)), (.int (Int.ofNat (nat_lit 1216)) (nat_lit 0)), (.int (Int.ofNat (nat_lit 604)) (nat_lit 0)), (.str (Str.ofString "/claim/cut.py") (nat_lit 1217))]).toArray), ([]).toArray⟩
noncomputable def o729 (P : Params) : Obj := ⟨(.type "function"), none, (.func { name := (Str.ofString "push_token"), qualname := (Str.ofString "shlex.push_token"), params := fa (nth (cb (nth mb 33)) 2), body := .stmts (fb (nth (cb (nth mb 33)) 2)), scope := fsc (nth (cb (nth mb 33)) 2), globals := (nat_lit 3), closure := [], defaults := .none, kwdefaults := .none, doc := .none, pyModule := (.str (Str.ofString "cpy313.shlex") (nat_lit 1177)), annotations := none, code := (.ref (nat_lit 728)), closureTuple := .none, builtins := (nat_lit 0) }), ([]).toArray⟩
noncomputable def o730 (P : Params) : Obj := ⟨(.type "tuple"), none, (.seq ([.none]).toArray (nat_lit 0)), ([]).toArray⟩
noncomputable def o736 (P : Params) : Obj := ⟨(.type "code"), none, (.fields ([(.str (Str.ofString "push_source") (nat_lit 1219)), (.str (Str.ofString "shlex.push_source") (nat_lit 1220)), (.str (Str.ofString "/claim/cut.py") (nat_lit 1221)), (.int (Int.ofNat (nat_lit 607)) (nat_lit 0)), (.int (Int.ofNat (nat_lit 3)) (nat_lit 0)), (.int (Int.ofNat (nat_lit 0)) (nat_lit 0)), (.int (Int.ofNat (nat_lit 0)) (nat_lit 0)), (.int (Int.ofNat (nat_lit 3)) (nat_lit 0)), (.ref (nat_lit 731)), (.bool true), (.int (Int.ofNat (nat_lit 318)) (nat_lit 0)), (.ref (nat_lit 732)), .none, (.ref (nat_lit 733)), (.ref (nat_lit 734)), (.ref (nat_lit 735)), (.int (Int.ofNat (nat_lit 1225)) (nat_lit 0)), (.int (Int.ofNat (nat_lit 607)) (nat_lit 0)), (.str (Str.ofString "/claim/cut.py") (nat_lit 1226))]).toArray), ([]).toArray⟩
noncomputable def o737 (P : Params) : Obj := ⟨(.type "function"), none, (.func { name := (Str.ofString "push_source"), qualname := (Str.ofString "shlex.push_source"), params := fa (nth (cb (nth mb 33)) 3), body := .stmts (fb (nth (cb (nth mb 33)) 3)), scope := fsc (nth (cb (nth mb 33)) 3), globals := (nat_lit 3), closure := [], defaults := (.ref (nat_lit 730)), kwdefaults := .none, doc := .none, pyModule := (.str (Str.ofString "cpy313.shlex") (nat_lit 1177)), annotations := none, code := (.ref (nat_lit 736)), closureTuple := .none, builtins := (nat_lit 0) }), ([]).toArray⟩
noncomputable def o743 (P : Params) : Obj := ⟨(.type "code"), none, (.fields ([(.str (Str.ofString "pop_source") (nat_lit 1228)), (.str (Str.ofString "shlex.pop_source") (nat_lit 1229)), (.str (Str.ofString "/claim/cut.py") (nat_lit 1230)), (.int (Int.ofNat (nat_lit 620)) (nat_lit 0)), (.int (Int.ofNat (nat_lit 1)) (nat_lit 0)), (.int (Int.ofNat (nat_lit 0)) (nat_lit 0)), (.int (Int.ofNat (nat_lit 0)) (nat_lit 0)), (.int (Int.ofNat (nat_lit 3)) (nat_lit 0)), (.ref (nat_lit 738)), (.bool true), (.int (Int.ofNat (nat_lit 318)) (nat_lit 0)), (.ref (nat_lit 739)), .none, (.ref (nat_lit 740)), (.ref (nat_lit 741)), (.ref (nat_lit 742)), (.int (Int.ofNat (nat_lit 1232)) (nat_lit 0)), (.int (Int.ofNat (nat_lit 620)) (nat_lit 0)), (.str (Str.ofString "/claim/cut.py") (nat_lit 1233))]).toArray), ([]).toArray⟩
noncomputable def o744 (P : Params) : Obj := ⟨(.type "function"), none, (.func { name := (Str.ofString "pop_source"), qualname := (Str.ofString "shlex.pop_source"), params := fa (nth (cb (nth mb 33)) 4), body := .stmts (fb (nth (cb (nth mb 33)) 4)), scope := fsc (nth (cb (nth mb 33)) 4), globals := (nat_lit 3), closure := [], defaults := .none, kwdefaults := .none, doc := .none, pyModule := (.str (Str.ofString "cpy313.shlex") (nat_lit 1177)), annotations := none, code := (.ref (nat_lit 743)), closureTuple := .none, builtins := (nat_lit 0) }), ([]).toArray⟩
noncomputable def o750 (P : Params) : Obj := ⟨(.type "code"), none, (.fields ([(.str (Str.ofString "get_token") (nat_lit 1235)), (.str (Str.ofString "shlex.get_token") (nat_lit 1236)), (.str (Str.ofString "/claim/cut.py") (nat_lit 1237)), (.int (Int.ofNat (nat_lit 627)) (nat_lit 0)), (.int (Int.ofNat (nat_lit 1)) (nat_lit 0)), (.int (Int.ofNat (nat_lit 0)) (nat_lit 0)), (.int (Int.ofNat (nat_lit 0)) (nat_lit 0)), (.int (Int.ofNat (nat_lit 3)) (nat_lit 0)), (.ref (nat_lit 745)), (.bool true), (.int (Int.ofNat (nat_lit 318)) (nat_lit 0)), (.ref (nat_lit 746)), .none, (.ref (nat_lit 747)), (.ref (nat_lit 748)), (.ref (nat_lit 749)), (.int (Int.ofNat (nat_lit 1244)) (nat_lit 0)), (.int (Int.ofNat (nat_lit 627)) (nat_lit 0)), (.str (Str.ofString "/claim/cut.py") (nat_lit 1245))]).toArray), ([]).toArray⟩
noncomputable def o751 (P : Params) : Obj := ⟨(.type "function"), none, (.func { name := (Str.ofString "get_token"), qualname := (Str.ofString "shlex.get_token"), params := fa (nth (cb (nth mb 33)) 5), body := .stmts (fb (nth (cb (nth mb 33)) 5)), scope := fsc (nth (cb (nth mb 33)) 5), globals := (nat_lit 3), closure := [], defaults := .none, kwdefaults := .none, doc := .none, pyModule := (.str (Str.ofString "cpy313.shlex") (nat_lit 1177)), annotations := none, code := (.ref (nat_lit 750)), closureTuple := .none, builtins := (nat_lit 0) }), ([]).toArray⟩
noncomputable def o757 (P : Params) : Obj := ⟨(.type "code"), none, (.fields ([(.str (Str.ofString "read_token") (nat_lit 1247)), (.str (Str.ofString "shlex.read_token") (nat_lit 1248)), (.str (Str.ofString "/claim/cut.py") (nat_lit 1249)), (.int (Int.ofNat (nat_lit 654)) (nat_lit 0)), (.int (Int.ofNat (nat_lit 1)) (nat_lit 0)), (.int (Int.ofNat (nat_lit 0)) (nat_lit 0)), (.int (Int.ofNat (nat_lit 0)) (nat_lit 0)), (.int (Int.ofNat (nat_lit 3)) (nat_lit 0)), (.ref (nat_lit 752)), (.bool true), (.int (Int.ofNat (nat_lit 318)) (nat_lit 0)), (.ref (nat_lit 753)), .none, (.ref (nat_lit 754)), (.ref (nat_lit 755)), (.ref (nat_lit 756)), (.int (Int.ofNat (nat_lit 1255)) (nat_lit 0)), (.int (Int.ofNat (nat_lit 654)) (nat_lit 0)), (.str (Str.ofString "/claim/cut.py") (nat_lit 1256))]).toArray), ([]).toArray⟩
noncomputable def o758 (P : Params) : Obj := ⟨(.type "function"), none, (.func { name := (Str.ofString "read_token"), qualname := (Str.ofString "shlex.read_token"), params := fa (nth (cb (nth mb 33)) 6), body := .stmts (fb (nth (cb (nth mb 33)) 6)), scope := fsc (nth (cb (nth mb 33)) 6), globals := (nat_lit 3), closure := [], defaults := .none, kwdefaults := .none, doc := .none, pyModule := (.str (Str.ofString "cpy313.shlex") (nat_lit 1177)), annotations := none, code := (.ref (nat_lit 757)), closureTuple := .none, builtins := (nat_lit 0) }), ([]).toArray⟩
noncomputable def o764 (P : Params) : Obj := ⟨(.type "code"), none, (.fields ([(.str (Str.ofString "sourcehook") (nat_lit 1258)), (.str (Str.ofString "shlex.sourcehook") (nat_lit 1259)), (.str (Str.ofString "/claim/cut.py") (nat_lit 1260)), (.int (Int.ofNat (nat_lit 791)) (nat_lit 0)), (.int (Int.ofNat (nat_lit 2)) (nat_lit 0)), (.int (Int.ofNat (nat_lit 0)) (nat_lit 0)), (.int (Int.ofNat (nat_lit 0)) (nat_lit 0)), (.int (Int.ofNat (nat_lit 3)) (nat_lit 0)), (.ref (nat_lit 759)), (.bool true), (.int (Int.ofNat (nat_lit 318)) (nat_lit 0)), (.ref (nat_lit 760)), .none, (.ref (nat_lit 761)), (.ref (nat_lit 762)), (.ref (nat_lit 763)), (.int (Int.ofNat (nat_lit 1263)) (nat_lit 0)), (.int (Int.ofNat (nat_lit 791)) (nat_lit 0)), (.str (Str.ofString "/claim/cut.py") (nat_lit 1264))]).toArray), ([]).toArray⟩
noncomputable def o765 (P : Params) : Obj := ⟨(.type "function"), none, (.func { name := (Str.ofString "sourcehook"), qualname := (Str.ofString "shlex.sourcehook"), params := fa (nth (cb (nth mb 33)) 7), body := .stmts (fb (nth (cb (nth mb 33)) 7)), scope := fsc (nth (cb (nth mb 33)) 7), globals := (nat_lit 3), closure := [], defaults := .none, kwdefaults := .none, doc := .none, pyModule := (.str (Str.ofString "cpy313.shlex") (nat_lit 1177)), annotations := none, code := (.ref (nat_lit 764)), closureTuple := .none, builtins := (nat_lit 0) }), ([]).toArray⟩
noncomputable def o766 (P : Params) : Obj := ⟨(.type "tuple"), none, (.seq ([.none, .none]).toArray (nat_lit 0)), ([]).toArray⟩
noncomputable def o772 (P : Params) : Obj := ⟨(.type "code"), none, (.fields ([(.str (Str.ofString "error_leader") (nat_lit 1266)), (.str (Str.ofString "shlex.error_leader") (nat_lit 1267)), (.str (Str.ofString "/claim/cut.py") (nat_lit 1268)), (.int (Int.ofNat (nat_lit 798)) (nat_lit 0)), (.int (Int.ofNat (nat_lit 3)) (nat_lit 0)), (.int (Int.ofNat (nat_lit 0)) (nat_lit 0)), (.int (Int.ofNat (nat_lit 0)) (nat_lit 0)), (.int (Int.ofNat (nat_lit 3)) (nat_lit 0)), (.ref (nat_lit 767)), (.bool true), (.int (Int.ofNat (nat_lit 318)) (nat_lit 0)), (.ref (nat_lit 768)), .none, (.ref (nat_lit 769)), (.ref (nat_lit 770)), (.ref (nat_lit 771)), (.int (Int.ofNat (nat_lit 1272)) (nat_lit 0)), (.int (Int.ofNat (nat_lit 798)) (nat_lit 0)), (.str (Str.ofString "/claim/cut.py") (nat_lit 1273))]).toArray), ([]).toArray⟩
noncomputable def o773 (P : Params) : Obj := ⟨(.type "function"), none, (.func { name := (Str.ofString "error_leader"), qualname := (Str.ofString "shlex.error_leader"), params := fa (nth (cb (nth mb 33)) 8), body := .stmts (fb (nth (cb (nth mb 33)) 8)), scope := fsc (nth (cb (nth mb 33)) 8), globals := (nat_lit 3), closure := [], defaults := (.ref (nat_lit 766)), kwdefaults := .none, doc := .none, pyModule := (.str (Str.ofString "cpy313.shlex") (nat_lit 1177)), annotations := none, code := (.ref (nat_lit 772)), closureTuple := .none, builtins := (nat_lit 0) }), ([]).toArray⟩
noncomputable def o779 (P : Params) : Obj := ⟨(.type "code"), none, (.fields ([(.str (Str.ofString "__iter__") (nat_lit 1275)), (.str (Str.ofString "shlex.__iter__") (nat_lit 1276)), (.str (Str.ofString "/claim/cut.py") (nat_lit 1277)), (.int (Int.ofNat (nat_lit 801)) (nat_lit 0)), (.int (Int.ofNat (nat_lit 1)) (nat_lit 0)), (.int (Int.ofNat (nat_lit 0)) (nat_lit 0)), (.int (Int.ofNat (nat_lit 0)) (nat_lit 0)), (.int (Int.ofNat (nat_lit 3)) (nat_lit 0)), (.ref (nat_lit 774)), (.bool true), (.int (Int.ofNat (nat_lit 318)) (nat_lit 0)), (.ref (nat_lit 775)), .none, (.ref (nat_lit 776)), (.ref (nat_lit 777)), (.ref (nat_lit 778)), (.int (Int.ofNat (nat_lit 1279)) (nat_lit 0)), (.int (Int.ofNat (nat_lit 801)) (nat_lit 0)), (.str (Str.ofString "/claim/cut.py") (nat_lit 1280))]).toArray), ([]).toArray⟩
noncomputable def o780 (P : Params) : Obj := ⟨(.type "function"), none, (.func { name := (Str.ofString "__iter__"), qualname := (Str.ofString "shlex.__iter__"), params := fa (nth (cb (nth mb 33)) 9), body := .stmts (fb (nth (cb (nth mb 33)) 9)), scope := fsc (nth (cb (nth mb 33)) 9), globals := (nat_lit 3), closure := [], defaults := .none, kwdefaults := .none, doc := .none, pyModule := (.str (Str.ofString "cpy313.shlex") (nat_lit 1177)), annotations := none, code := (.ref (nat_lit 779)), closureTuple := .none, builtins := (nat_lit 0) }), ([]).toArray⟩
noncomputable def o786 (P : Params) : Obj := ⟨(.type "code"), none, (.fields ([(.str (Str.ofString "__next__") (nat_lit 1282)), (.str (Str.ofString "shlex.__next__") (nat_lit 1283)), (.str (Str.ofString "/claim/cut.py") (nat_lit 1284)), (.int (Int.ofNat (nat_lit 804)) (nat_lit 0)), (.int (Int.ofNat (nat_lit 1)) (nat_lit 0)), (.int (Int.ofNat (nat_lit 0)) (nat_lit 0)), (.int (Int.ofNat (nat_lit 0)) (nat_lit 0)), (.int (Int.ofNat (nat_lit 3)) (nat_lit 0)), (.ref (nat_lit 781)), (.bool true), (.int (Int.ofNat (nat_lit 318)) (nat_lit 0)), (.ref (nat_lit 782)), .none, (.ref (nat_lit 783)), (.ref (nat_lit 784)), (.ref (nat_lit 785)), (.int (Int.ofNat (nat_lit 1287)) (nat_lit 0)), (.int (Int.ofNat (nat_lit 804)) (nat_lit 0)), (.str (Str.ofString "/claim/cut.py") (nat_lit 1288))]).toArray), ([]).toArray⟩
noncomputable def o787 (P : Params) : Obj := ⟨(.type "function"), none, (.func { name := (Str.ofString "__next__"), qualname := (Str.ofString "shlex.__next__"), params := fa (nth (cb (nth mb 33)) 10), body := .stmts (fb (nth (cb (nth mb 33)) 10)), scope := fsc (nth (cb (nth mb 33)) 10), globals := (nat_lit 3), closure := [], defaults := .none, kwdefaults := .none, doc := .none, pyModule := (.str (Str.ofString "cpy313.shlex") (nat_lit 1177)), annotations := none, code := (.ref (nat_lit 786)), closureTuple := .none, builtins := (nat_lit 0) }), ([]).toArray⟩
noncomputable def o788 (P : Params) : Obj := ⟨(.type "tuple"), none, (.seq ([(.str (Str.ofString "_punctuation_chars") (nat_lit 1290)), (.str (Str.ofString "_pushback_chars") (nat_lit 1291)), (.str (Str.ofString "commenters") (nat_lit 1292)), (.str (Str.ofString "debug") (nat_lit 1293)), (.str (Str.ofString "eof") (nat_lit 1294)), (.str (Str.ofString "escape") (nat_lit 1295)), (.str (Str.ofString "escapedquotes") (nat_lit 1296)), (.str (Str.ofString "filestack") (nat_lit 1297)), (.str (Str.ofString "infile") (nat_lit 1298)), (.str (Str.ofString "instream") (nat_lit 1299)), (.str (Str.ofString "lineno") (nat_lit 1300)), (.str (Str.ofString "posix") (nat_lit 1301)), (.str (Str.ofString "pushback") (nat_lit 1302)), (.str (Str.ofString "quotes") (nat_lit 1303)), (.str (Str.ofString "source") (nat_lit 1304)), (.str (Str.ofString "state") (nat_lit 1305)), (.str (Str.ofString "token") (nat_lit 1306)), (.str (Str.ofString "whitespace") (nat_lit 1307)), (.str (Str.ofString "whitespace_split") (nat_lit 1308)), (.str (Str.ofString "wordchars") (nat_lit 1309))]).toArray (nat_lit 0)), ([]).toArray⟩
noncomputable def o789 (P : Params) : Obj := ⟨(.type "dict"), none, (.dict ([⟨(PyData.keyHash P (Str.ofString "__module__")), (.str (Str.ofString "__module__") (nat_lit 1186)), (.str (Str.ofString "cpy313.shlex") (nat_lit 1177))⟩, ⟨(PyData.keyHash P (Str.ofString "__firstlineno__")), (.str (Str.ofString "__firstlineno__") (nat_lit 1190)), (.int (Int.ofNat (nat_lit 557)) (nat_lit 1189))⟩, ⟨(PyData.keyHash P (Str.ofString "__init__")), (.str (Str.ofString "__init__") (nat_lit 1202)), (.ref (nat_lit 714))⟩, ⟨(PyData.keyHash P (Str.ofString "punctuation_chars")), (.str (Str.ofString "punctuation_chars") (nat_lit 1210)), (.ref (nat_lit 722))⟩, ⟨(PyData.keyHash P (Str.ofString "push_token")), (.str (Str.ofString "push_token") (nat_lit 1218)), (.ref (nat_lit 729))⟩, ⟨(PyData.keyHash P (Str.ofString "push_source")), (.str (Str.ofString "push_source") (nat_lit 1227)), (.ref (nat_lit 737))⟩, ⟨(PyData.keyHash P (Str.ofString "pop_source")), (.str (Str.ofString "pop_source") (nat_lit 1234)), (.ref (nat_lit 744))⟩, ⟨(PyData.keyHash P (Str.ofString "get_token")), (.str (Str.ofString "get_token") (nat_lit 1246)), (.ref (nat_lit 751))⟩, ⟨(PyData.keyHash P (Str.ofString "read_token")), (.str (Str.ofString "read_token") (nat_lit 1257)), (.ref (nat_lit 758))⟩, ⟨(PyData.keyHash P (Str.ofString "sourcehook")), (.str (Str.ofString "sourcehook") (nat_lit 1265)), (.ref (nat_lit 765))⟩, ⟨(PyData.keyHash P (Str.ofString "error_leader")), (.str (Str.ofString "error_leader") (nat_lit 1274)), (.ref (nat_lit 773))⟩, ⟨(PyData.keyHash P (Str.ofString "__iter__")), (.str (Str.ofString "__iter__") (nat_lit 1281)), (.ref (nat_lit 780))⟩, ⟨(PyData.keyHash P (Str.ofString "__next__")), (.str (Str.ofString "__next__") (nat_lit 1289)), (.ref (nat_lit 787))⟩, ⟨(PyData.keyHash P (Str.ofString "__static_attributes__")), (.str (Str.ofString "__static_attributes__") (nat_lit 1310)), (.ref (nat_lit 788))⟩, ⟨(PyData.keyHash P (Str.ofString "__dict__")), (.str (Str.ofString "__dict__") (nat_lit 1312)), (.ref (nat_lit 791))⟩, ⟨(PyData.keyHash P (Str.ofString "__weakref__")), (.str (Str.ofString "__weakref__") (nat_lit 1314)), (.ref (nat_lit 792))⟩, ⟨(PyData.keyHash P (Str.ofString "__doc__")), (.str (Str.ofString "__doc__") (nat_lit 1315)), .none⟩]).toArray (nat_lit 4)), ([]).toArray⟩
noncomputable def o790 (P : Params) : Obj := ⟨(.type "type"), none, (.cls { name := (Str.ofString "shlex"), bases := [(.type "object")], mro := [(.ref (nat_lit 790)), (.type "object")], ns := (nat_lit 789), qualname := (Str.ofString "shlex"), hasDict := true, slotNames := [], subclasses := [], abstract := false, collection := none, hasDel := false }), ([none, none, (some (.str (Str.ofString "shlex") (nat_lit 1179))), (some (.str (Str.ofString "shlex") (nat_lit 1187))), (some (.builtin "object.__new__")), (some (.bool true))]).toArray⟩
noncomputable def o791 (P : Params) : Obj := ⟨(.type "getset_descriptor"), none, (.fields ([(.str (Str.ofString "__dict__") (nat_lit 1311)), (.ref (nat_lit 790)), (.builtin "function.__dict__"), (.builtin "function.__dict__#set")]).toArray), ([]).toArray⟩
noncomputable def o792 (P : Params) : Obj := ⟨(.type "getset_descriptor"), none, (.fields ([(.str (Str.ofString "__weakref__") (nat_lit 1313)), (.ref (nat_lit 790)), (.builtin "ExceptionGroup.__weakref__"), .none]).toArray), ([]).toArray⟩
noncomputable def o795 (P : Params) : Obj := ⟨(.type "tuple"), none, (.seq ([(.bool false), (.bool true)]).toArray (nat_lit 0)), ([]).toArray⟩
noncomputable def o801 (P : Params) : Obj := ⟨(.type "code"), none, (.fields ([(.str (Str.ofString "split") (nat_lit 1318)), (.str (Str.ofString "split") (nat_lit 1319)), (.str (Str.ofString "/claim/cut.py") (nat_lit 1320)), (.int (Int.ofNat (nat_lit 809)) (nat_lit 0)), (.int (Int.ofNat (nat_lit 3)) (nat_lit 0)), (.int (Int.ofNat (nat_lit 0)) (nat_lit 0)), (.int (Int.ofNat (nat_lit 0)) (nat_lit 0)), (.int (Int.ofNat (nat_lit 3)) (nat_lit 0)), (.ref (nat_lit 796)), (.bool true), (.int (Int.ofNat (nat_lit 318)) (nat_lit 0)), (.ref (nat_lit 797)), .none, (.ref (nat_lit 798)), (.ref (nat_lit 799)), (.ref (nat_lit 800)), (.int (Int.ofNat (nat_lit 1325)) (nat_lit 0)), (.int (Int.ofNat (nat_lit 809)) (nat_lit 0)), (.str (Str.ofString "/claim/cut.py") (nat_lit 1326))]).toArray), ([]).toArray⟩
noncomputable def o802 (P : Params) : Obj := ⟨(.type "function"), none, (.func { name := (Str.ofString "split"), qualname := (Str.ofString "split"), params := fa (nth mb 34), body := .stmts (fb (nth mb 34)), scope := fsc (nth mb 34), globals := (nat_lit 3), closure := [], defaults := (.ref (nat_lit 795)), kwdefaults := .none, doc := .none, pyModule := (.str (Str.ofString "cpy313.shlex") (nat_lit 1177)), annotations := none, code := (.ref (nat_lit 801)), closureTuple := .none, builtins := (nat_lit 0) }), ([]).toArray⟩
noncomputable def o808 (P : Params) : Obj := ⟨(.type "code"), none, (.fields ([(.str (Str.ofString "join") (nat_lit 1328)), (.str (Str.ofString "join") (nat_lit 1329)), (.str (Str.ofString "/claim/cut.py") (nat_lit 1330)), (.int (Int.ofNat (nat_lit 817)) (nat_lit 0)), (.int (Int.ofNat (nat_lit 1)) (nat_lit 0)), (.int (Int.ofNat (nat_lit 0)) (nat_lit 0)), (.int (Int.ofNat (nat_lit 0)) (nat_lit 0)), (.int (Int.ofNat (nat_lit 3)) (nat_lit 0)), (.ref (nat_lit 803)), (.bool true), (.int (Int.ofNat (nat_lit 318)) (nat_lit 0)), (.ref (nat_lit 804)), .none, (.ref (nat_lit 805)), (.ref (nat_lit 806)), (.ref (nat_lit 807)), (.int (Int.ofNat (nat_lit 1332)) (nat_lit 0)), (.int (Int.ofNat (nat_lit 817)) (nat_lit 0)), (.str (Str.ofString "/claim/cut.py") (nat_lit 1333))]).toArray), ([]).toArray⟩
noncomputable def o809 (P : Params) : Obj := ⟨(.type "function"), none, (.func { name := (Str.ofString "join"), qualname := (Str.ofString "join"), params := fa (nth mb 35), body := .stmts (fb (nth mb 35)), scope := fsc (nth mb 35), globals := (nat_lit 3), closure := [], defaults := .none, kwdefaults := .none, doc := .none, pyModule := (.str (Str.ofString "cpy313.shlex") (nat_lit 1177)), annotations := none, code := (.ref (nat_lit 808)), closureTuple := .none, builtins := (nat_lit 0) }), ([]).toArray⟩
noncomputable def o810 (P : Params) : Obj := ⟨(.type "builtin_function_or_method"), none, (.fields ([(.builtin "re.Pattern.search"), (.ref (nat_lit 79))]).toArray), ([]).toArray⟩
noncomputable def o816 (P : Params) : Obj := ⟨(.type "code"), none, (.fields ([(.str (Str.ofString "quote") (nat_lit 1338)), (.str (Str.ofString "quote") (nat_lit 1339)), (.str (Str.ofString "/claim/cut.py") (nat_lit 1340)), (.int (Int.ofNat (nat_lit 821)) (nat_lit 0)), (.int (Int.ofNat (nat_lit 1)) (nat_lit 0)), (.int (Int.ofNat (nat_lit 0)) (nat_lit 0)), (.int (Int.ofNat (nat_lit 0)) (nat_lit 0)), (.int (Int.ofNat (nat_lit 3)) (nat_lit 0)), (.ref (nat_lit 811)), (.bool true), (.int (Int.ofNat (nat_lit 318)) (nat_lit 0)), (.ref (nat_lit 812)), .none, (.ref (nat_lit 813)), (.ref (nat_lit 814)), (.ref (nat_lit 815)), (.int (Int.ofNat (nat_lit 1342)) (nat_lit 0)), (.int (Int.ofNat (nat_lit 821)) (nat_lit 0)), (.str (Str.ofString "/claim/cut.py") (nat_lit 1343))]).toArray), ([]).toArray⟩
noncomputable def o817 (P : Params) : Obj := ⟨(.type "function"), none, (.func { name := (Str.ofString "quote"), qualname := (Str.ofString "quote"), params := fa (nth mb 38), body := .stmts (fb (nth mb 38)), scope := fsc (nth mb 38), globals := (nat_lit 3), closure := [], defaults := .none, kwdefaults := .none, doc := .none, pyModule := (.str (Str.ofString "cpy313.shlex") (nat_lit 1177)), annotations := none, code := (.ref (nat_lit 816)), closureTuple := .none, builtins := (nat_lit 0) }), ([]).toArray⟩
noncomputable def o825 (P : Params) : Obj := ⟨(.type "tuple"), none, (.seq ([.none, .none]).toArray (nat_lit 0)), ([]).toArray⟩
noncomputable def o829 (P : Params) : Obj := ⟨(.type "code"), none, (.fields ([(.str (Str.ofString "__init__") (nat_lit 1361)), (.str (Str.ofString "_Ignore.__init__") (nat_lit 1362)), (.str (Str.ofString "/claim/cut.py") (nat_lit 1363)), (.int (Int.ofNat (nat_lit 831)) (nat_lit 0)), (.int (Int.ofNat (nat_lit 3)) (nat_lit 0)), (.int (Int.ofNat (nat_lit 0)) (nat_lit 0)), (.int (Int.ofNat (nat_lit 0)) (nat_lit 0)), (.int (Int.ofNat (nat_lit 3)) (nat_lit 0)), (.ref (nat_lit 826)), (.bool true), (.int (Int.ofNat (nat_lit 318)) (nat_lit 0)), (.ref (nat_lit 827)), .none, .none, .none, (.ref (nat_lit 828)), (.int (Int.ofNat (nat_lit 1364)) (nat_lit 0)), (.int (Int.ofNat (nat_lit 831)) (nat_lit 0)), (.str (Str.ofString "/claim/cut.py") (nat_lit 1365))]).toArray), ([]).toArray⟩
noncomputable def o830 (P : Params) : Obj := ⟨(.type "function"), none, (.func { name := (Str.ofString "__init__"), qualname := (Str.ofString "_Ignore.__init__"), params := fa (nth (cb (nth mb 41)) 0), body := .stmts (fb (nth (cb (nth mb 41)) 0)), scope := fsc (nth (cb (nth mb 41)) 0), globals := (nat_lit 3), closure := [], defaults := (.ref (nat_lit 825)), kwdefaults := .none, doc := .none, pyModule := (.str (Str.ofString "cpy313.trace") (nat_lit 1347)), annotations := none, code := (.ref (nat_lit 829)), closureTuple := .none, builtins := (nat_lit 0) }), ([]).toArray⟩
noncomputable def o836 (P : Params) : Obj := ⟨(.type "code"), none, (.fields ([(.str (Str.ofString "names") (nat_lit 1367)), (.str (Str.ofString "_Ignore.names") (nat_lit 1368)), (.str (Str.ofString "/claim/cut.py") (nat_lit 1369)), (.int (Int.ofNat (nat_lit 836)) (nat_lit 0)), (.int (Int.ofNat (nat_lit 3)) (nat_lit 0)), (.int (Int.ofNat (nat_lit 0)) (nat_lit 0)), (.int (Int.ofNat (nat_lit 0)) (nat_lit 0)), (.int (Int.ofNat (nat_lit 3)) (nat_lit 0)), (.ref (nat_lit 831)), (.bool true), (.int (Int.ofNat (nat_lit 318)) (nat_lit 0)), (.ref (nat_lit 832)), .none, (.ref (nat_lit 833)), (.ref (nat_lit 834)), (.ref (nat_lit 835)), (.int (Int.ofNat (nat_lit 1375)) (nat_lit 0)), (.int (Int.ofNat (nat_lit 836)) (nat_lit 0)), (.str (Str.ofString "/claim/cut.py") (nat_lit 1376))]).toArray), ([]).toArray⟩
noncomputable def o837 (P : Params) : Obj := ⟨(.type "function"), none, (.func { name := (Str.ofString "names"), qualname := (Str.ofString "_Ignore.names"), params := fa (nth (cb (nth mb 41)) 1), body := .stmts (fb (nth (cb (nth mb 41)) 1)), scope := fsc (nth (cb (nth mb 41)) 1), globals := (nat_lit 3), closure := [], defaults := .none, kwdefaults := .none, doc := .none, pyModule := (.str (Str.ofString "cpy313.trace") (nat_lit 1347)), annotations := none, code := (.ref (nat_lit 836)), closureTuple := .none, builtins := (nat_lit 0) }), ([]).toArray⟩
noncomputable def o838 (P : Params) : Obj := ⟨(.type "tuple"), none, (.seq ([(.str (Str.ofString "_dirs") (nat_lit 1378)), (.str (Str.ofString "_ignore") (nat_lit 1379)), (.str (Str.ofString "_mods") (nat_lit 1380))]).toArray (nat_lit 0)), ([]).toArray⟩
noncomputable def o839 (P : Params) : Obj := ⟨(.type "dict"), none, (.dict ([⟨(PyData.keyHash P (Str.ofString "__module__")), (.str (Str.ofString "__module__") (nat_lit 1356)), (.str (Str.ofString "cpy313.trace") (nat_lit 1347))⟩, ⟨(PyData.keyHash P (Str.ofString "__firstlineno__")), (.str (Str.ofString "__firstlineno__") (nat_lit 1360)), (.int (Int.ofNat (nat_lit 829)) (nat_lit 1359))⟩, ⟨(PyData.keyHash P (Str.ofString "__init__")), (.str (Str.ofString "__init__") (nat_lit 1366)), (.ref (nat_lit 830))⟩, ⟨(PyData.keyHash P (Str.ofString "names")), (.str (Str.ofString "names") (nat_lit 1377)), (.ref (nat_lit 837))⟩, ⟨(PyData.keyHash P (Str.ofString "__static_attributes__")), (.str (Str.ofString "__static_attributes__") (nat_lit 1381)), (.ref (nat_lit 838))⟩, ⟨(PyData.keyHash P (Str.ofString "__dict__")), (.str (Str.ofString "__dict__") (nat_lit 1383)), (.ref (nat_lit 841))⟩, ⟨(PyData.keyHash P (Str.ofString "__weakref__")), (.str (Str.ofString "__weakref__") (nat_lit 1385)), (.ref (nat_lit 842))⟩, ⟨(PyData.keyHash P (Str.ofString "__doc__")), (.str (Str.ofString "__doc__") (nat_lit 1386)), .none⟩]).toArray (nat_lit 4)), ([]).toArray⟩
noncomputable def o840 (P : Params) : Obj := ⟨(.type "type"), none, (.cls { name := (Str.ofString "_Ignore"), bases := [(.type "object")], mro := [(.ref (nat_lit 840)), (.type "object")], ns := (nat_lit 839), qualname := (Str.ofString "_Ignore"), hasDict := true, slotNames := [], subclasses := [], abstract := false, collection := none, hasDel := false }), ([none, none, (some (.str (Str.ofString "_Ignore") (nat_lit 1349))), (some (.str (Str.ofString "_Ignore") (nat_lit 1357))), (some (.builtin "object.__new__")), (some (.bool true))]).toArray⟩
noncomputable def o841 (P : Params) : Obj := ⟨(.type "getset_descriptor"), none, (.fields ([(.str (Str.ofString "__dict__") (nat_lit 1382)), (.ref (nat_lit 840)), (.builtin "function.__dict__"), (.builtin "function.__dict__#set")]).toArray), ([]).toArray⟩
noncomputable def o842 (P : Params) : Obj := ⟨(.type "getset_descriptor"), none, (.fields ([(.str (Str.ofString "__weakref__") (nat_lit 1384)), (.ref (nat_lit 840)), (.builtin "ExceptionGroup.__weakref__"), .none]).toArray), ([]).toArray⟩
noncomputable def o848 (P : Params) : Obj := ⟨(.type "code"), none, (.fields ([(.str (Str.ofString "_law_blocks") (nat_lit 1391)), (.str (Str.ofString "_law_blocks") (nat_lit 1392)), (.str (Str.ofString "/claim/cut.py") (nat_lit 1393)), (.int (Int.ofNat (nat_lit 856)) (nat_lit 0)), (.int (Int.ofNat (nat_lit 2)) (nat_lit 0)), (.int (Int.ofNat (nat_lit 0)) (nat_lit 0)), (.int (Int.ofNat (nat_lit 0)) (nat_lit 0)), (.int (Int.ofNat (nat_lit 3)) (nat_lit 0)), (.ref (nat_lit 845)), (.bool true), (.int (Int.ofNat (nat_lit 318)) (nat_lit 0)), (.ref (nat_lit 846)), .none, .none, .none, (.ref (nat_lit 847)), (.int (Int.ofNat (nat_lit 1394)) (nat_lit 0)), (.int (Int.ofNat (nat_lit 856)) (nat_lit 0)), (.str (Str.ofString "/claim/cut.py") (nat_lit 1395))]).toArray), ([]).toArray⟩
noncomputable def o849 (P : Params) : Obj := ⟨(.type "function"), none, (.func { name := (Str.ofString "_law_blocks"), qualname := (Str.ofString "_law_blocks"), params := fa (nth mb 43), body := .stmts (fb (nth mb 43)), scope := fsc (nth mb 43), globals := (nat_lit 3), closure := [], defaults := .none, kwdefaults := .none, doc := .none, pyModule := (.str (Str.ofString "law_oy0371_01") (nat_lit 1389)), annotations := none, code := (.ref (nat_lit 848)), closureTuple := .none, builtins := (nat_lit 0) }), ([]).toArray⟩
noncomputable def o855 (P : Params) : Obj := ⟨(.type "code"), none, (.fields ([(.str (Str.ofString "_law_signs") (nat_lit 1397)), (.str (Str.ofString "_law_signs") (nat_lit 1398)), (.str (Str.ofString "/claim/cut.py") (nat_lit 1399)), (.int (Int.ofNat (nat_lit 862)) (nat_lit 0)), (.int (Int.ofNat (nat_lit 2)) (nat_lit 0)), (.int (Int.ofNat (nat_lit 0)) (nat_lit 0)), (.int (Int.ofNat (nat_lit 0)) (nat_lit 0)), (.int (Int.ofNat (nat_lit 3)) (nat_lit 0)), (.ref (nat_lit 850)), (.bool true), (.int (Int.ofNat (nat_lit 318)) (nat_lit 0)), (.ref (nat_lit 851)), .none, (.ref (nat_lit 852)), (.ref (nat_lit 853)), (.ref (nat_lit 854)), (.int (Int.ofNat (nat_lit 1403)) (nat_lit 0)), (.int (Int.ofNat (nat_lit 862)) (nat_lit 0)), (.str (Str.ofString "/claim/cut.py") (nat_lit 1404))]).toArray), ([]).toArray⟩
noncomputable def o856 (P : Params) : Obj := ⟨(.type "function"), none, (.func { name := (Str.ofString "_law_signs"), qualname := (Str.ofString "_law_signs"), params := fa (nth mb 44), body := .stmts (fb (nth mb 44)), scope := fsc (nth mb 44), globals := (nat_lit 3), closure := [], defaults := .none, kwdefaults := .none, doc := .none, pyModule := (.str (Str.ofString "law_oy0371_01") (nat_lit 1389)), annotations := none, code := (.ref (nat_lit 855)), closureTuple := .none, builtins := (nat_lit 0) }), ([]).toArray⟩
noncomputable def o860 (P : Params) : Obj := ⟨(.type "code"), none, (.fields ([(.str (Str.ofString "_law_own") (nat_lit 1406)), (.str (Str.ofString "_law_own") (nat_lit 1407)), (.str (Str.ofString "/claim/cut.py") (nat_lit 1408)), (.int (Int.ofNat (nat_lit 865)) (nat_lit 0)), (.int (Int.ofNat (nat_lit 1)) (nat_lit 0)), (.int (Int.ofNat (nat_lit 0)) (nat_lit 0)), (.int (Int.ofNat (nat_lit 0)) (nat_lit 0)), (.int (Int.ofNat (nat_lit 3)) (nat_lit 0)), (.ref (nat_lit 857)), (.bool true), (.int (Int.ofNat (nat_lit 318)) (nat_lit 0)), (.ref (nat_lit 858)), .none, .none, .none, (.ref (nat_lit 859)), (.int (Int.ofNat (nat_lit 1409)) (nat_lit 0)), (.int (Int.ofNat (nat_lit 865)) (nat_lit 0)), (.str (Str.ofString "/claim/cut.py") (nat_lit 1410))]).toArray), ([]).toArray⟩
noncomputable def o861 (P : Params) : Obj := ⟨(.type "function"), none, (.func { name := (Str.ofString "_law_own"), qualname := (Str.ofString "_law_own"), params := fa (nth mb 45), body := .stmts (fb (nth mb 45)), scope := fsc (nth mb 45), globals := (nat_lit 3), closure := [], defaults := .none, kwdefaults := .none, doc := .none, pyModule := (.str (Str.ofString "law_oy0371_01") (nat_lit 1389)), annotations := none, code := (.ref (nat_lit 860)), closureTuple := .none, builtins := (nat_lit 0) }), ([]).toArray⟩
noncomputable def o865 (P : Params) : Obj := ⟨(.type "code"), none, (.fields ([(.str (Str.ofString "_law_told") (nat_lit 1412)), (.str (Str.ofString "_law_told") (nat_lit 1413)), (.str (Str.ofString "/claim/cut.py") (nat_lit 1414)), (.int (Int.ofNat (nat_lit 868)) (nat_lit 0)), (.int (Int.ofNat (nat_lit 3)) (nat_lit 0)), (.int (Int.ofNat (nat_lit 0)) (nat_lit 0)), (.int (Int.ofNat (nat_lit 0)) (nat_lit 0)), (.int (Int.ofNat (nat_lit 3)) (nat_lit 0)), (.ref (nat_lit 862)), (.bool true), (.int (Int.ofNat (nat_lit 318)) (nat_lit 0)), (.ref (nat_lit 863)), .none, .none, .none, (.ref (nat_lit 864)), (.int (Int.ofNat (nat_lit 1415)) (nat_lit 0)), (.int (Int.ofNat (nat_lit 868)) (nat_lit 0)), (.str (Str.ofString "/claim/cut.py") (nat_lit 1416))]).toArray), ([]).toArray⟩
noncomputable def o866 (P : Params) : Obj := ⟨(.type "function"), none, (.func { name := (Str.ofString "_law_told"), qualname := (Str.ofString "_law_told"), params := fa (nth mb 46), body := .stmts (fb (nth mb 46)), scope := fsc (nth mb 46), globals := (nat_lit 3), closure := [], defaults := .none, kwdefaults := .none, doc := .none, pyModule := (.str (Str.ofString "law_oy0371_01") (nat_lit 1389)), annotations := none, code := (.ref (nat_lit 865)), closureTuple := .none, builtins := (nat_lit 0) }), ([]).toArray⟩
noncomputable def o870 (P : Params) : Obj := ⟨(.type "code"), none, (.fields ([(.str (Str.ofString "law") (nat_lit 1418)), (.str (Str.ofString "law") (nat_lit 1419)), (.str (Str.ofString "/claim/cut.py") (nat_lit 1420)), (.int (Int.ofNat (nat_lit 876)) (nat_lit 0)), (.int (Int.ofNat (nat_lit 1)) (nat_lit 0)), (.int (Int.ofNat (nat_lit 0)) (nat_lit 0)), (.int (Int.ofNat (nat_lit 0)) (nat_lit 0)), (.int (Int.ofNat (nat_lit 3)) (nat_lit 0)), (.ref (nat_lit 867)), (.bool true), (.int (Int.ofNat (nat_lit 318)) (nat_lit 0)), (.ref (nat_lit 868)), .none, .none, .none, (.ref (nat_lit 869)), (.int (Int.ofNat (nat_lit 1421)) (nat_lit 0)), (.int (Int.ofNat (nat_lit 876)) (nat_lit 0)), (.str (Str.ofString "/claim/cut.py") (nat_lit 1422))]).toArray), ([]).toArray⟩
noncomputable def o871 (P : Params) : Obj := ⟨(.type "function"), none, (.func { name := (Str.ofString "law"), qualname := (Str.ofString "law"), params := fa (nth mb 47), body := .stmts (fb (nth mb 47)), scope := fsc (nth mb 47), globals := (nat_lit 3), closure := [], defaults := .none, kwdefaults := .none, doc := .none, pyModule := (.str (Str.ofString "law_oy0371_01") (nat_lit 1389)), annotations := none, code := (.ref (nat_lit 870)), closureTuple := .none, builtins := (nat_lit 0) }), ([]).toArray⟩
noncomputable def K0 (P : Params) : Frag := ((nat_lit 2), o2 P) :: ((nat_lit 3), o3 P) :: ((nat_lit 50), o50 P) :: ((nat_lit 51), o51 P) :: ((nat_lit 57), o57 P) :: ((nat_lit 58), o58 P) :: ((nat_lit 59), o59 P) :: ((nat_lit 65), o65 P) :: ((nat_lit 66), o66 P) :: ((nat_lit 67), o67 P) :: ((nat_lit 73), o73 P) :: ((nat_lit 74), o74 P) :: ((nat_lit 78), o78 P) :: ((nat_lit 79), o79 P) :: ((nat_lit 92), o92 P) :: ((nat_lit 93), o93 P) :: ((nat_lit 119), o119 P) :: ((nat_lit 120), o120 P) :: ((nat_lit 121), o121 P) :: ((nat_lit 122), o122 P) :: ((nat_lit 123), o123 P) :: ((nat_lit 124), o124 P) :: ((nat_lit 125), o125 P) :: ((nat_lit 126), o126 P) :: ((nat_lit 148), o148 P) :: ((nat_lit 149), o149 P) :: ((nat_lit 150), o150 P) :: ((nat_lit 380), o380 P) :: ((nat_lit 390), o390 P) :: ((nat_lit 396), o396 P) :: ((nat_lit 397), o397 P) :: ((nat_lit 403), o403 P) :: ((nat_lit 404), o404 P) :: ((nat_lit 410), o410 P) :: ((nat_lit 411), o411 P) :: ((nat_lit 417), o417 P) :: ((nat_lit 418), o418 P) :: ((nat_lit 424), o424 P) :: ((nat_lit 425), o425 P) :: ((nat_lit 431), o431 P) :: ((nat_lit 432), o432 P) :: ((nat_lit 433), o433 P) :: ((nat_lit 439), o439 P) :: ((nat_lit 440), o440 P) :: ((nat_lit 441), o441 P) :: ((nat_lit 447), o447 P) :: ((nat_lit 448), o448 P) :: ((nat_lit 449), o449 P) :: ((nat_lit 455), o455 P) :: ((nat_lit 456), o456 P) :: ((nat_lit 457), o457 P) :: ((nat_lit 463), o463 P) :: ((nat_lit 464), o464 P) :: ((nat_lit 465), o465 P) :: ((nat_lit 471), o471 P) :: ((nat_lit 472), o472 P) :: ((nat_lit 478), o478 P) :: ((nat_lit 479), o479 P) :: ((nat_lit 485), o485 P) :: ((nat_lit 486), o486 P) :: ((nat_lit 492), o492 P) :: ((nat_lit 493), o493 P) :: ((nat_lit 499), o499 P) :: ((nat_lit 500), o500 P) :: ((nat_lit 506), o506 P) :: ((nat_lit 507), o507 P) :: ((nat_lit 513), o513 P) :: ((nat_lit 514), o514 P) :: ((nat_lit 520), o520 P) :: ((nat_lit 521), o521 P) :: ((nat_lit 527), o527 P) :: ((nat_lit 528), o528 P) :: ((nat_lit 534), o534 P) :: ((nat_lit 535), o535 P) :: ((nat_lit 541), o541 P) :: ((nat_lit 542), o542 P) :: ((nat_lit 548), o548 P) :: ((nat_lit 549), o549 P) :: ((nat_lit 550), o550 P) :: ((nat_lit 556), o556 P) :: ((nat_lit 557), o557 P) :: ((nat_lit 558), o558 P) :: ((nat_lit 564), o564 P) :: ((nat_lit 565), o565 P) :: ((nat_lit 566), o566 P) :: ((nat_lit 572), o572 P) :: ((nat_lit 573), o573 P) :: ((nat_lit 574), o574 P) :: ((nat_lit 580), o580 P) :: ((nat_lit 581), o581 P) :: ((nat_lit 582), o582 P) :: ((nat_lit 588), o588 P) :: ((nat_lit 589), o589 P) :: ((nat_lit 595), o595 P) :: ((nat_lit 596), o596 P) :: ((nat_lit 602), o602 P) :: ((nat_lit 603), o603 P) :: ((nat_lit 609), o609 P) :: ((nat_lit 610), o610 P) :: ((nat_lit 616), o616 P) :: ((nat_lit 617), o617 P) :: ((nat_lit 623), o623 P) :: ((nat_lit 624), o624 P) :: ((nat_lit 625), o625 P) :: ((nat_lit 626), o626 P) :: ((nat_lit 627), o627 P) :: ((nat_lit 635), o635 P) :: ((nat_lit 636), o636 P) :: ((nat_lit 670), o670 P) :: ((nat_lit 671), o671 P) :: ((nat_lit 677), o677 P) :: ((nat_lit 678), o678 P) :: ((nat_lit 691), o691 P) :: ((nat_lit 692), o692 P) :: ((nat_lit 698), o698 P) :: ((nat_lit 699), o699 P) :: ((nat_lit 707), o707 P) :: ((nat_lit 713), o713 P) :: ((nat_lit 714), o714 P) :: ((nat_lit 720), o720 P) :: ((nat_lit 721), o721 P) :: ((nat_lit 722), o722 P) :: ((nat_lit 728), o728 P) :: ((nat_lit 729), o729 P) :: ((nat_lit 730), o730 P) :: ((nat_lit 736), o736 P) :: ((nat_lit 737), o737 P) :: ((nat_lit 743), o743 P) :: ((nat_lit 744), o744 P) :: ((nat_lit 750), o750 P) :: ((nat_lit 751), o751 P) :: ((nat_lit 757), o757 P) :: ((nat_lit 758), o758 P) :: ((nat_lit 764), o764 P) :: ((nat_lit 765), o765 P) :: ((nat_lit 766), o766 P) :: ((nat_lit 772), o772 P) :: ((nat_lit 773), o773 P) :: ((nat_lit 779), o779 P) :: ((nat_lit 780), o780 P) :: ((nat_lit 786), o786 P) :: ((nat_lit 787), o787 P) :: ((nat_lit 788), o788 P) :: ((nat_lit 789), o789 P) :: ((nat_lit 790), o790 P) :: ((nat_lit 791), o791 P) :: ((nat_lit 792), o792 P) :: ((nat_lit 795), o795 P) :: ((nat_lit 801), o801 P) :: ((nat_lit 802), o802 P) :: ((nat_lit 808), o808 P) :: ((nat_lit 809), o809 P) :: ((nat_lit 810), o810 P) :: ((nat_lit 816), o816 P) :: ((nat_lit 817), o817 P) :: ((nat_lit 825), o825 P) :: ((nat_lit 829), o829 P) :: ((nat_lit 830), o830 P) :: ((nat_lit 836), o836 P) :: ((nat_lit 837), o837 P) :: ((nat_lit 838), o838 P) :: ((nat_lit 839), o839 P) :: ((nat_lit 840), o840 P) :: ((nat_lit 841), o841 P) :: ((nat_lit 842), o842 P) :: ((nat_lit 848), o848 P) :: ((nat_lit 849), o849 P) :: ((nat_lit 855), o855 P) :: ((nat_lit 856), o856 P) :: ((nat_lit 860), o860 P) :: ((nat_lit 861), o861 P) :: ((nat_lit 865), o865 P) :: ((nat_lit 866), o866 P) :: ((nat_lit 870), o870 P) :: ((nat_lit 871), o871 P) :: []
noncomputable def as0 : List Addr := (nat_lit 2) :: (nat_lit 3) :: (nat_lit 50) :: (nat_lit 51) :: (nat_lit 57) :: (nat_lit 58) :: (nat_lit 59) :: (nat_lit 65) :: (nat_lit 66) :: (nat_lit 67) :: (nat_lit 73) :: (nat_lit 74) :: (nat_lit 78) :: (nat_lit 79) :: (nat_lit 92) :: (nat_lit 93) :: (nat_lit 119) :: (nat_lit 120) :: (nat_lit 121) :: (nat_lit 122) :: (nat_lit 123) :: (nat_lit 124) :: (nat_lit 125) :: (nat_lit 126) :: (nat_lit 148) :: (nat_lit 149) :: (nat_lit 150) :: (nat_lit 380) :: (nat_lit 390) :: (nat_lit 396) :: (nat_lit 397) :: (nat_lit 403) :: (nat_lit 404) :: (nat_lit 410) :: (nat_lit 411) :: (nat_lit 417) :: (nat_lit 418) :: (nat_lit 424) :: (nat_lit 425) :: (nat_lit 431) :: (nat_lit 432) :: (nat_lit 433) :: (nat_lit 439) :: (nat_lit 440) :: (nat_lit 441) :: (nat_lit 447) :: (nat_lit 448) :: (nat_lit 449) :: (nat_lit 455) :: (nat_lit 456) :: (nat_lit 457) :: (nat_lit 463) :: (nat_lit 464) :: (nat_lit 465) :: (nat_lit 471) :: (nat_lit 472) :: (nat_lit 478) :: (nat_lit 479) :: (nat_lit 485) :: (nat_lit 486) :: (nat_lit 492) :: (nat_lit 493) :: (nat_lit 499) :: (nat_lit 500) :: (nat_lit 506) :: (nat_lit 507) :: (nat_lit 513) :: (nat_lit 514) :: (nat_lit 520) :: (nat_lit 521) :: (nat_lit 527) :: (nat_lit 528) :: (nat_lit 534) :: (nat_lit 535) :: (nat_lit 541) :: (nat_lit 542) :: (nat_lit 548) :: (nat_lit 549) :: (nat_lit 550) :: (nat_lit 556) :: (nat_lit 557) :: (nat_lit 558) :: (nat_lit 564) :: (nat_lit 565) :: (nat_lit 566) :: (nat_lit 572) :: (nat_lit 573) :: (nat_lit 574) :: (nat_lit 580) :: (nat_lit 581) :: (nat_lit 582) :: (nat_lit 588) :: (nat_lit 589) :: (nat_lit 595) :: (nat_lit 596) :: (nat_lit 602) :: (nat_lit 603) :: (nat_lit 609) :: (nat_lit 610) :: (nat_lit 616) :: (nat_lit 617) :: (nat_lit 623) :: (nat_lit 624) :: (nat_lit 625) :: (nat_lit 626) :: (nat_lit 627) :: (nat_lit 635) :: (nat_lit 636) :: (nat_lit 670) :: (nat_lit 671) :: (nat_lit 677) :: (nat_lit 678) :: (nat_lit 691) :: (nat_lit 692) :: (nat_lit 698) :: (nat_lit 699) :: (nat_lit 707) :: (nat_lit 713) :: (nat_lit 714) :: (nat_lit 720) :: (nat_lit 721) :: (nat_lit 722) :: (nat_lit 728) :: (nat_lit 729) :: (nat_lit 730) :: (nat_lit 736) :: (nat_lit 737) :: (nat_lit 743) :: (nat_lit 744) :: (nat_lit 750) :: (nat_lit 751) :: (nat_lit 757) :: (nat_lit 758) :: (nat_lit 764) :: (nat_lit 765) :: (nat_lit 766) :: (nat_lit 772) :: (nat_lit 773) :: (nat_lit 779) :: (nat_lit 780) :: (nat_lit 786) :: (nat_lit 787) :: (nat_lit 788) :: (nat_lit 789) :: (nat_lit 790) :: (nat_lit 791) :: (nat_lit 792) :: (nat_lit 795) :: (nat_lit 801) :: (nat_lit 802) :: (nat_lit 808) :: (nat_lit 809) :: (nat_lit 810) :: (nat_lit 816) :: (nat_lit 817) :: (nat_lit 825) :: (nat_lit 829) :: (nat_lit 830) :: (nat_lit 836) :: (nat_lit 837) :: (nat_lit 838) :: (nat_lit 839) :: (nat_lit 840) :: (nat_lit 841) :: (nat_lit 842) :: (nat_lit 848) :: (nat_lit 849) :: (nat_lit 855) :: (nat_lit 856) :: (nat_lit 860) :: (nat_lit 861) :: (nat_lit 865) :: (nat_lit 866) :: (nat_lit 870) :: (nat_lit 871) :: []
end Mine
end

section -- HeadL
open PySem PySem.W PyProof.Rows
namespace Mine
noncomputable def q0 : Program := view PySem.Challenge.pw_oy0371_01 [0, 1, 47]
noncomputable def loose0 : List Str := ["_wall", "_buffer", "_truth", "_B64", "b2a_base64", "b64encode", "_twin_re_1", "_whence", "_index", "UnsupportedOperation", "IOBase", "BufferedIOBase", "TextIOBase", "BytesIO", "StringIO", "_kind", "_fspath", "_check_arg_types", "isabs", "join", "join_path", "_c_path", "_splitroot", "dirname", "_normpath", "normpath", "shlex", "split", "join_shlex", "_find_unsafe", "quote", "sep", "_Ignore", "_law_blocks", "_law_signs", "_law_own", "_law_told"].map Str.ofString
theorem as_eq : ∀ P, as0 = (K0 P).map (·.1) := fun _ => rfl
noncomputable def ts0 : List Addr := [nat_lit 804]
theorem left0 : ∀ w, (G0 w 12000).map (fun s => (openSeen q0 loose0 (importedModules PySem.Challenge.pw_oy0371_01.main.body) (fun s => xlAt q0 [] s && recOk [] s) true s.abs, (as0.map (gT s), ts0.map (gT s)))) = some (openGood q0 loose0, (kmHook K0 as0 as_eq ts0).val w) := by
  intro w
  unfold G0 kmHook
  rw [PySem.W.Fast.te10156331382660048174, PySem.W.Fast.te10274390034422433532, PySem.W.Fast.te14289696077712309145, PySem.W.Fast.te4187177175401517315, PySem.W.Fast.te1435165496053646825, PySem.W.Fast.te11892475500146522536, PySem.W.Fast.te14364793385576792824, PySem.W.Fast.te5923862056798008813]
  kernel_rfl
theorem obs0 (s : SharedT) : (kmHook K0 as0 as_eq ts0).obs s.abs = (as0.map (gT s), ts0.map (gT s)) := by
  show (as0.map s.abs.heap.get?, ts0.map s.abs.heap.get?) = _
  rw [show s.abs.heap.get? = gT s from funext (gT_eq s)]
end Mine
end

section -- HeadC
open PySem PySem.W PyProof.Rows
namespace Mine
theorem saidLooks : looksOpen PySem.Challenge.pw_oy0371_01 = true := by
  unfold looksOpen
  refine look_both (look_both (look_both (look_both (look_both ?_ ?_) ?_) ?_) ?_) ?_ <;> ((try simp only [PySem.W.Fast.te8326940854005059898, PySem.W.Fast.te17119622794617984870, PySem.W.Fast.te5923862056798008813]); decide +kernel)
theorem saidRow : OpenRow.wellSaid PySem.Challenge.rw_oy0371_01.row = true := by
  unfold OpenRow.wellSaid OpenRow.partSaid
  refine look_both (look_both (look_both (look_both (look_both (look_both (look_both (look_both (look_both (look_both (look_both (look_both (look_both (look_both (look_both saidLooks ?_) ?_) ?_) ?_) ?_) ?_) ?_) ?_) ?_) ?_) ?_) ?_) ?_) ?_) ?_ <;> decide +kernel
theorem said : OpenLaw.wellSaid PySem.Challenge.rw_oy0371_01 = true := by
  unfold OpenLaw.wellSaid
  refine look_both (look_both (look_both (look_both (look_both (look_both (look_both (look_both (look_both (look_both (look_both (look_both (look_both (look_both (look_both (look_both (look_both (look_both saidRow ?_) ?_) ?_) ?_) ?_) ?_) ?_) ?_) ?_) ?_) ?_) ?_) ?_) ?_) ?_) ?_) ?_) ?_
  all_goals ((try simp only [PySem.W.Fast.te8326940854005059898, PySem.W.Fast.te17119622794617984870, PySem.W.Fast.named_eq, PySem.W.Fast.te9558739934217749035, PySem.W.Fast.te16286561074155671207, PySem.W.Fast.te10501279942588096481, PySem.W.Fast.te8179353310426384613, PySem.W.Fast.te12879404354523853263, PySem.W.Fast.te482687673346738481, PySem.W.Fast.te10792542408131684335, PySem.W.Fast.te6984425678791042302]); decide +kernel)
end Mine
end

section -- HeadM
open PySem PySem.W PyProof.Rows
namespace Mine
noncomputable def spos : Stmt → Pos
  | .FunctionDef _ _ _ _ _ _ _ _ _ p => p
  | _ => default
noncomputable def dLaw : DefRec := { name := Str.ofString "law", params := fa (nth mb 47), body := fb (nth mb 47), scope := fsc (nth mb 47), pos := spos (nth mb 47) }
theorem left1 : LeftO PySem.Challenge.rw_oy0371_01.row.prog q0 loose0 (fun s => xlAt q0 [] s && recOk [] s) (kmHook K0 as0 as_eq ts0).obs (kmHook K0 as0 as_eq ts0).val 12000 true := left_of obs0 left0
theorem hdef0 : defOf q0 PySem.Challenge.rw_oy0371_01.row.name = some (dLaw, []) := by kernel_rfl
theorem hthe0 : PySem.Challenge.rw_oy0371_01.row.prog.theDef PySem.Challenge.rw_oy0371_01.row.name = some (dLaw.params, dLaw.body, dLaw.scope) := by kernel_rfl
theorem hd (walk : WalkO q0 loose0 (XL q0 []) (kmHook K0 as0 as_eq ts0).says PySem.Challenge.rw_oy0371_01.row.toRowW dLaw [] fun f vs => PySem.call f vs) : PySem.Challenge.rw_oy0371_01.Holds := by
  refine holds_law said fun sd => ?_
  refine holds_open (q := q0) (loose := loose0) (Xt := fun s => xlAt q0 [] s && recOk [] s) (XP := XL q0 []) (Yf := (kmHook K0 as0 as_eq ts0).obs) (Ya := (kmHook K0 as0 as_eq ts0).val) (YP := (kmHook K0 as0 as_eq ts0).says) (d := dLaw) (kwd := []) (N := 12000) left1 (kmHook K0 as0 as_eq ts0).of (kmHook K0 as0 as_eq ts0).keeps (fun s e => xl_of s (Bool.and_eq_true_iff.mp e).1) XL.keeps hdef0 hthe0 (by kernel_rfl) (fun s e => recFacts_of (Bool.and_eq_true_iff.mp e).2) (by first | rfl | decide +kernel) sd (by decide +kernel) ⟨rfl, rfl, rfl, rfl, rfl, by decide +kernel⟩ ?hw walk
  w_witness2
end Mine
end

section -- Pre
open PySem PySem.W PyProof.Rows PySem.Calls
namespace Mine
noncomputable abbrev pg : Program := PySem.Challenge.rw_oy0371_01.row.prog
noncomputable abbrev lo1 : List Str := looseW q0 loose0
noncomputable abbrev lo2 : List Str := lo1 ++ (recsOf q0).map (·.name) ++ (litsOf q0).map (·.1) ++ (clssOf q0 lo1).map (·.name)
end Mine
end

section -- Base
open PySem PySem.W PyProof.Rows PySem.Calls PySem.Spec
namespace Mine
noncomputable abbrev Ext (h h' : Heap) : Prop := ∀ b o, h.get? b = some o → h'.get? b = some o
theorem Ext.rf (h : Heap) : Ext h h := fun _ _ e => e
theorem Ext.tr {h₁ h₂ h₃ : Heap} (x : Ext h₁ h₂) (y : Ext h₂ h₃) : Ext h₁ h₃ := fun b o e => y b o (x b o e)
theorem ext_of_sub {H g h' : Heap} {L' : Addr} {m' : Str → Option Value} (G : GSub H g (([] : List (Addr × Obj)).map (·.1))) (F : Fr g L' h' m') : Ext H h' := fun b o e => F.keep b o (G b o e (fun q => nomatch q))

section
variable {prog : Program} {w : World} {A₀ A : Around} {s : Shared} {base h₀ : Heap} {outer : List Env} {L : Addr} {m : Str → Option Value} {env : Env} {news : List (Addr × Obj)} {K : Frag} {p : Program} {loose : List Str} {mean : ExcName → Option Value} {mg mb : Str → Option Value}
  {R : Result → Shared → Prop} {name qual : Str} {params : Arguments} {body : List Stmt} {scope : Scope} {dV kV doc pm cdv ct oc : Value} {an od : Option Addr} {osl : Array (Option Value)} {f : Addr} {args : Args} {binds : List (Str × Value)}

theorem enterCG (B : Below A₀ base outer h₀) (F : Fr h₀ L s.heap m) (X₀ : K.In h₀) (N : News h₀ L s.heap news) (T : Top p loose mean mg mb h₀) (hA : A.frames = some (env :: outer)) (hf : env.frame = some L) (hke : env.scope.kind = .function)
    (ho : K.lookup f = some ⟨oc, od, .func (fnOf name qual params body scope dV kV doc pm an cdv ct), osl⟩) (hcd : codeIn K cdv qual = true) (hroom : A.depth < recursionLimit)
    (hbind : BindsTo s (fnOf name qual params body scope dV kV doc pm an cdv ct) args binds) (hkind : (binds.all fun y => scope.names.lookup y.1 == some .local || scope.names.lookup y.1 == some .cell) = true)
    (hnd : ((cellsFrom 0 scope.names []).map (·.1)).Nodup)
    (h : ∀ g L' h₁ tk cells, Fr h₀ L g m → Fr g L' h₁ (bindL (envOfC qual scope L' f cdv).kindOf binds fun _ => none) → News g L' h₁ (cells ++ news) →
      CellsAre (bindC (envOfC qual scope L' f cdv).kindOf binds fun _ => none) (cellsFrom (L' + 1) scope.names []) cells → Below A base (env :: outer) g → K.In g → Top p loose mean mg mb g → (∀ p ∈ news, p.1 < L') → GSub s.heap g (news.map (·.1)) →
      wpAny (model prog w) (A.deeper (envOfC qual scope L' f cdv)) (execs body (envOfC qual scope L' f cdv))
        (fun fl s' => LeaveK h₀ L m g R (match fl with | .ret v => v | _ => .none) s')
        (fun e s' => wpAny (model prog w) (A.deeper (envOfC qual scope L' f cdv)) (leaving (envOfC qual scope L' f cdv) e) (fun _ s'' => R (.error e) s'') (fun e' s'' => R (.error e') s'') s')
        { s with heap := h₁, toks := tk })
    (hco : scope.isCoroutine = false) (hgen : scope.isGenerator = false) (hk : scope.kind = .function) : codeAny (model prog w) A (.call (.ref f) args) R s := by
  obtain ⟨FG, BG, st, lv⟩ := groundX (R := R) B F N hA hf hke
  refine codeAny_call_function (fd := fnX name qual params body scope [] dV kV doc pm an cdv ct) hroom ((X₀.keeps F.keep) _ _ ho) rfl hco hgen rfl (codeRec_of (X₀.keeps F.keep) hcd) (hbind _ _ _ _ ?_)
  refine wpAny_newFunctionEnv_cells hk ((kindsX hkind) _) fun env' he s' x => ?_
  subst he
  refine ⟨(T.nolimit.keeps F.keep).keeps x.toInCall.keep, codeAny_func ?_⟩
  obtain ⟨h₁, tk, rfl, _⟩ := x.done
  have hk₁ := x.toInCall.keep
  obtain ⟨cells, NC, Y⟩ := Cl.news (h₀ := s.heap) (Nat.le_refl _) fun n c hm => ⟨x.cell n c (lookup_of_mem_nodup (cellsFrom_names scope.names 0 (s.heap.objs.size + 1) [] [] rfl ▸ hnd) hm), x.above n c hm⟩
  refine wpAny_mono (h _ s.heap.objs.size h₁ tk cells FG ⟨x.toInCall.ns, fun b o e => hk₁ b o (of_hideAll _ e), Nat.le_of_eq (hideAll_size _ _)⟩ (fun p hp => ?_) Y BG (X₀.keeps st) (T.keeps st) (fun p hp => Heap.lt_size (N p hp).1) (fun b o e n => hideAll_get _ e n)) (fun fl s' hl => lv _ _ hl) fun _ _ y => y
  rcases List.mem_append.mp hp with hp | hp
  · refine ⟨(NC p hp).1, (NC p hp).2.1, ?_⟩
    cases q : (hideAll s.heap (news.map (·.1))).get? p.1 with
    | none => rfl
    | some o => have := of_hideAll _ q; rw [(NC p hp).2.2] at this; cases this
  · exact ⟨hk₁ _ _ (N p hp).1, Nat.ne_of_lt (Heap.lt_size (N p hp).1), hideAll_none _ (List.mem_map_of_mem hp)⟩
end
end Mine
end

section -- Num
open PySem PySem.W PyProof.Rows PySem.Calls PySem.Spec
namespace Mine
theorem n_dec {n i : Nat} (h : i < n) : n - (i + 1) < n - i := Nat.sub_lt_sub_left h (Nat.lt_succ_self i)
theorem n_dec1 {n i : Nat} (h : i < n) : n + 1 - (i + 1) < n + 1 - i := n_dec (Nat.lt_succ_of_lt h)
theorem n_two {i : Nat} (h : i < 2) : i = 0 ∨ i = 1 := (by decide : ∀ i : Fin 2, i.val = 0 ∨ i.val = 1) ⟨i, h⟩
theorem n_three {i : Nat} (h : i < 3) : i = 0 ∨ i = 1 ∨ i = 2 := (by decide : ∀ i : Fin 3, i.val = 0 ∨ i.val = 1 ∨ i.val = 2) ⟨i, h⟩
theorem n_four {i : Nat} (h : i < 4) : i = 0 ∨ i = 1 ∨ i = 2 ∨ i = 3 := (by decide : ∀ i : Fin 4, i.val = 0 ∨ i.val = 1 ∨ i.val = 2 ∨ i.val = 3) ⟨i, h⟩
theorem n_eq {i n : Nat} (h : i ≤ n) (h2 : ¬ i < n) : i = n := Nat.le_antisymm h (Nat.le_of_not_lt h2)
theorem n_lt {i n k K : Nat} (h : i < n) (h2 : n ≤ k) (hk : k ≤ K) : i < K := Nat.lt_of_lt_of_le h (Nat.le_trans h2 hk)
theorem n_add {a b A B K : Nat} (h : a ≤ A) (h2 : b ≤ B) (hk : A + B ≤ K) : a + b ≤ K := Nat.le_trans (Nat.add_le_add h h2) hk
theorem n_le {a A K : Nat} (h : a ≤ A) (hk : A ≤ K) : a ≤ K := Nat.le_trans h hk
theorem n_sub4 {k : Nat} (h : k ≤ 3) : 0 < 4 - k := Nat.sub_pos_of_lt (Nat.lt_succ_of_le h)
theorem n_mul {x m i k b : Nat} (h : x = m * i) (hi : i ≤ k) (hk : m * k ≤ b) : x ≤ b := h ▸ Nat.le_trans (Nat.mul_le_mul_left m hi) hk
theorem s_le {a : Nat} (A : Nat) (h : a ≤ A) (hk : A ≤ 16777216) : a ≤ sizeLine := by rw [sizeLine_eq]; exact Nat.le_trans h hk
theorem s_add {a b : Nat} (A B : Nat) (h : a ≤ A) (h2 : b ≤ B) (hk : A + B ≤ 16777216) : a + b ≤ sizeLine := s_le _ (Nat.add_le_add h h2) hk
theorem s_slash {x k : Nat} (h : x ≤ 2 * (4 - k)) : 1 + x ≤ sizeLine := s_add 1 8 (Nat.le_refl _) (Nat.le_trans h (Nat.mul_le_mul_left 2 (Nat.sub_le 4 k))) (by decide)
theorem kv_le {k i n : Nat} (h : k ≤ 1 + 2 * i) (hi : i < n) (hn : n ≤ 1000) : k ≤ 2001 := Nat.le_trans h (Nat.add_le_add_left (Nat.mul_le_mul_left 2 (Nat.le_trans (Nat.le_of_lt hi) hn)) 1)
theorem kv_tb {k k1 k2 i : Nat} (h : k ≤ 1 + 2 * i) (h1 : k1 ≤ k + 1) (h2 : k2 ≤ k1 + 1) : k2 ≤ 1 + 2 * (i + 1) := Nat.le_trans h2 (Nat.le_trans (Nat.add_le_add_right (Nat.le_trans h1 (Nat.add_le_add_right h 1)) 1) (Nat.le_refl _))
theorem kv_sz {k n : Nat} (h : k ≤ 1 + 2 * n) (hn : n ≤ 1000) : k ≤ 2001 := Nat.le_trans h (Nat.add_le_add_left (Nat.mul_le_mul_left 2 hn) 1)
theorem ltNe6 {a b c d e f t : Nat} (h : a < t ∧ b < t ∧ c < t ∧ d < t ∧ e < t ∧ f < t) : @Ne Nat a t ∧ @Ne Nat b t ∧ @Ne Nat c t ∧ @Ne Nat d t ∧ @Ne Nat e t ∧ @Ne Nat f t :=
  ⟨Nat.ne_of_lt h.1, Nat.ne_of_lt h.2.1, Nat.ne_of_lt h.2.2.1, Nat.ne_of_lt h.2.2.2.1, Nat.ne_of_lt h.2.2.2.2.1, Nat.ne_of_lt h.2.2.2.2.2⟩
theorem i_sub {k : Nat} : ((3 : Int) - (k : Int)).toNat = 3 - k := Int.toNat_sub 3 k
theorem i_le {k : Nat} (h : k ≤ 3) : (0 : Int) ≤ 3 - (k : Int) := Int.sub_nonneg_of_le (Int.ofNat_le.mpr h)
theorem i_dec {a b p : Int} {N : Nat} (h : (b - a).toNat ≤ N + 1) (hp : 0 < p) : (b - (a + p)).toNat ≤ N := by
  rw [Int.toNat_le, ← Int.sub_sub]
  exact Int.le_trans (Int.sub_le_sub (Int.toNat_le.mp h) hp) (Int.le_of_eq (show ((N : Int) + 1) - 1 = N from Int.add_sub_cancel _ _))
theorem i_dec2 {a b p : Int} (hl : a < b) (hp : 0 < p) : (b - (a + p)).toNat < (b - a).toNat := by
  have h : 0 < (b - a).toNat := Int.pos_iff_toNat_pos.mp (Int.sub_pos_of_lt hl)
  obtain ⟨k, e⟩ := Nat.exists_eq_succ_of_ne_zero (Nat.ne_of_gt h)
  rw [e]
  exact Nat.lt_succ_of_le (i_dec (Nat.le_of_eq e) hp)
theorem small_n {n : Nat} (h : n ≤ 1000) : Builtin.Range.small 0 (n : Int) 1 = true := small_one (by decide) (by decide) (Int.le_trans (by decide) (Int.natCast_nonneg n)) (Int.lt_of_le_of_lt (Int.ofNat_le.mpr h) (by decide))
theorem size_n (n : Nat) : Builtin.Range.rangeSize 0 (n : Int) 1 = (n : Int) := by rw [rangeSize_nat, Int.sub_zero, Int.toNat_natCast]
theorem n_pred {n i k : Nat} (h : n - i = k + 1) : n - (i + 1) = k := by rw [← Nat.sub_sub, h]; rfl
theorem len_one {α : Type} {c : α} {p : Nat} : [c].length ≤ p + 1 := Nat.succ_le_succ (Nat.zero_le _)
theorem len_snoc {α : Type} {l : List α} {c : α} {p : Nat} (h : l.length ≤ p) : (l ++ [c]).length ≤ p + 1 := by rw [List.length_append]; exact Nat.add_le_add_right h 1
theorem n_two_mul {a r : Nat} (h : a ≤ 2 * r) : 2 + a ≤ 2 * (r + 1) := by rw [Nat.mul_succ, Nat.add_comm 2]; exact Nat.add_le_add_right h 2
theorem num_len {b z : Nat} (h : b ≤ 400) (hz : z ≤ 63) : 6 + b + 2 * z ≤ 532 := n_add (n_add (Nat.le_refl 6) h (by decide : 6 + 400 ≤ 406)) (Nat.mul_le_mul_left 2 hz) (by decide)
theorem i_nat_le {i k : Nat} (h : i < k) (hk : k ≤ 1000000) : (i : Int) ≤ 1000000 := Int.ofNat_le.mpr (Nat.le_trans (Nat.le_of_lt h) hk)
end Mine
end

section -- Comp
open PySem PySem.W PyProof.Rows PySem.Calls PySem.Spec
namespace Mine
section
variable {prog : Program} {w : World} {A : Around} {R : Result → Shared → Prop} {s : Shared}

theorem cg_loop {elt target iter : PySem.Expr} {ifs : List PySem.Expr} {scope : Scope} {pos : Pos} {it acc : Value} {env : Env} (I : Nat → Shared → Prop)
    (turn : ∀ n s, I n s → wpAny (model prog w) A (pyNext it) (fun r s₁ => match r with
      | none => R (.ok .next) s₁
      | some v => wpAny (model prog w) A (letOwnedTupleGo target it v) (fun _ s₀ => wpAny (model prog w) A (assign target env v) (fun _ s₂ =>
          wpAny (model prog w) A (forIn ifs true fun c r => if r = true then do let ok ← isTrue c env (eval c env); pure (ForInStep.yield ok) else pure (ForInStep.yield r)) (fun ok s₃ =>
            if ok = true then wpAny (model prog w) A (eval elt env) (fun x s₄ =>
              wpAny (model prog w) A (call (.builtin "list.append") [acc, x]) (fun _ s₅ => ∃ m, m < n ∧ I m s₅) (notedBy (model prog w) A env fun e s' => R (.error e) s') s₄) (notedBy (model prog w) A env fun e s' => R (.error e) s') s₃
            else ∃ m, m < n ∧ I m s₃) (notedBy (model prog w) A env fun e s' => R (.error e) s') s₂) (notedBy (model prog w) A env fun e s' => R (.error e) s') s₀) (notedBy (model prog w) A env fun e s' => R (.error e) s') s₁) (notedBy (model prog w) A env fun e s' => R (.error e) s') s)
    (n : Nat) (h : I n s) : codeAny (model prog w) A (.compLoop (.ListComp elt [⟨target, iter, ifs, 0⟩] scope pos) 0 it acc env) R s := by
  refine codeAny_loop rfl I (fun n s hI => ?_) n h
  show wpAny _ A ((compTurn (.ListComp elt [⟨target, iter, ifs, 0⟩] scope pos) 0 it acc env).onRaise (fun x => do noteFrame x env; theTreesLotGoes x)) _ _ s
  refine wpAny_noted ?_
  rw [compTurn_list]
  refine wpAny_bind (wpAny_standAt (wpAny_bind (wpAny_mono (turn n s hI) (fun r s₁ h₁ => ?_) fun _ _ h' => h')))
  cases r with
  | none => exact wpAny_pure h₁
  | some v =>
    refine wpAny_bind (wpAny_mono h₁ (fun _ s₀ h₀' => ?_) fun _ _ h' => h')
    refine wpAny_bind (wpAny_mono h₀' (fun _ s₂ h₂ => wpAny_bind (wpAny_mono h₂ (fun ok s₃ h₃ => ?_) fun _ _ h' => h')) fun _ _ h' => h')
    cases ok with
    | false => exact wpAny_pure ⟨rfl, h₃⟩
    | true => exact wpAny_bind (wpAny_bind (wpAny_mono h₃ (fun x s₄ h₄ => wpAny_bind (wpAny_mono h₄ (fun _ s₅ h₅ => wpAny_pure (wpAny_pure ⟨rfl, h₅⟩)) fun _ _ h' => h')) fun _ _ h' => h'))

inductive CEnd (C : Addr) (s₂ : Shared) (P' : List Value → List (Addr × Obj) → Prop) (ys : List Value) (more : List (Addr × Obj)) (r : Option Value) (sc : Shared) : Prop
  | mk (h' : Heap) (tk' : Nat) (m' : Str → Option Value) (nw : List (Addr × Obj)) (e : sc = { s₂ with heap := h', toks := tk' }) (ns : h'.Ns C m') (kp : ∀ b o, b ≠ C → s₂.heap.get? b = some o → h'.get? b = some o)
    (hw : ∀ p ∈ nw, s₂.heap.get? p.1 = none ∧ h'.get? p.1 = some p.2) (hP : P' (ys ++ r.toList) (nw ++ more))
inductive CInv (St : Nat → Heap → Prop) (P : Nat → List Value → List (Addr × Obj) → Prop) (C D : Addr) (wr : List Addr) (n : Nat) (s : Shared) (k : Nat) (s' : Shared) : Prop
  | mk (h' : Heap) (tk : Nat) (m' : Str → Option Value) (ys : List Value) (more : List (Addr × Obj)) (i : Nat) (e : s' = { s with heap := h', toks := tk }) (st : St i h') (pl : h'.PlainList D (List.toArray ys)) (ns : h'.Ns C m') (hP : P i ys more) (le : i ≤ n) (ke : k = n + 1 - i)
    (hm : ∀ p ∈ more, h'.get? p.1 = some p.2 ∧ s.heap.get? p.1 = none) (kp : ∀ b o, b ≠ C → b ∉ wr → b ≠ D → s.heap.get? b = some o → h'.get? b = some o)
inductive CFin (St : Heap → Prop) (P : List Value → List (Addr × Obj) → Prop) (C D : Addr) (wr : List Addr) (s : Shared) (ys : List Value) (more : List (Addr × Obj)) (r : Option Value) (sc : Shared) : Prop
  | mk (h₄ : Heap) (tk₄ : Nat) (m₄ : Str → Option Value) (nw : List (Addr × Obj)) (e : sc = { s with heap := h₄, toks := tk₄ }) (ns : h₄.Ns C m₄) (st : St h₄) (pl : h₄.PlainList D ys.toArray) (hP : P (ys ++ r.toList) (nw ++ more))
    (hm : ∀ p ∈ nw ++ more, h₄.get? p.1 = some p.2 ∧ s.heap.get? p.1 = none) (kp : ∀ b o, b ≠ C → b ∉ wr → b ≠ D → s.heap.get? b = some o → h₄.get? b = some o)

noncomputable abbrev Tests (ifs : List PySem.Expr) (env : Env) : Sem Bool :=
  forIn ifs true fun c r => if r = true then do let ok ← isTrue c env (eval c env); pure (ForInStep.yield ok) else pure (ForInStep.yield r)

theorem compR {elt target iter : PySem.Expr} {ifs : List PySem.Expr} {scope : Scope} {pos : Pos} {I D : Addr} {fp wr : List Addr} {n : Nat} {Pv : Nat → Value → Prop} {St : Nat → Heap → Prop} {cenv : Env} {m : Str → Option Value}
    (W : Walks prog w A I fp wr n Pv St) (P : Nat → List Value → List (Addr × Obj) → Prop)
    (hlet : ∀ i v (s' : Shared) (Q : Unit → Shared → Prop) (E : Value → Shared → Prop), St i s'.heap → Q () s' → wpAny (model prog w) A (letOwnedTupleGo target (.ref I) v) Q E s')
    (hDC : D ≠ cenv.locals) (hDf : D ∉ fp) (hCf : cenv.locals ∉ fp) (hIn : ∀ i h, St i h → ∀ b ∈ wr, ∃ o, h.get? b = some o)
    (hst : St 0 s.heap) (hacc : s.heap.PlainList D #[]) (hn : s.heap.Ns cenv.locals m) (h0 : P 0 [] []) (hlen : ∀ i ys more, P i ys more → ys.length ≤ i)
    (turn : ∀ i v ys more s₂ m₂, i < n → Pv i v → P i ys more → s₂.heap.Ns cenv.locals m₂ → (∀ b o, b ≠ cenv.locals → b ∉ wr → b ≠ D → s.heap.get? b = some o → s₂.heap.get? b = some o) →
      (∀ p ∈ more, s₂.heap.get? p.1 = some p.2 ∧ s.heap.get? p.1 = none) → (∃ h tk, s₂ = { s with heap := h, toks := tk }) →
      wpAny (model prog w) A (assign target cenv v) (fun _ sa => wpAny (model prog w) A (forIn ifs true fun c r => if r = true then do let ok ← isTrue c cenv (eval c cenv); pure (ForInStep.yield ok) else pure (ForInStep.yield r)) (fun ok sb =>
        if ok = true then wpAny (model prog w) A (eval elt cenv) (fun y sc => CEnd cenv.locals s₂ (P (i + 1)) ys more (some y) sc) (notedBy (model prog w) A cenv fun e s' => R (.error e) s') sb
        else CEnd cenv.locals s₂ (P (i + 1)) ys more none sb) (notedBy (model prog w) A cenv fun e s' => R (.error e) s') sa) (notedBy (model prog w) A cenv fun e s' => R (.error e) s') s₂)
    (hR : ∀ h' tk m' ys more, h'.Ns cenv.locals m' → h'.PlainList D ys.toArray → P n ys more → (∀ p ∈ more, h'.get? p.1 = some p.2 ∧ s.heap.get? p.1 = none) →
      (∀ b o, b ≠ cenv.locals → b ∉ wr → b ≠ D → s.heap.get? b = some o → h'.get? b = some o) → R (.ok .next) { s with heap := h', toks := tk })
    (hsz : n ≤ sizeLine := by size_fits) :
    codeAny (model prog w) A (.compLoop (.ListComp elt [⟨target, iter, ifs, 0⟩] scope pos) 0 (.ref I) (.ref D) cenv) R s := by
  have hDs : ∃ o, s.heap.get? D = some o := let ⟨_, e⟩ := hacc; ⟨_, e⟩
  have hCs : ∃ o, s.heap.get? cenv.locals = some o := let ⟨o, _, _, e, _⟩ := hn; ⟨o, e⟩
  refine cg_loop
    (CInv St P cenv.locals D wr n s) ?_ (n + 1)
    ⟨s.heap, s.toks, m, [], [], 0, rfl, hst, hacc, hn, h0, Nat.zero_le _, rfl, (fun p hp => nomatch hp), fun _ _ _ _ _ e => e⟩
  rintro k s' ⟨H, tk, m', ys, more, i, rfl, hst', hacc', hn', hP, hi, rfl, hmore, hk⟩
  have hCw : cenv.locals ∉ wr := fun h => hCf (W.sub _ h)
  have hDw : D ∉ wr := fun h => hDf (W.sub _ h)
  have apart : ∀ p ∈ more, p.1 ∉ wr ∧ p.1 ≠ D ∧ p.1 ≠ cenv.locals := fun p hp => by
    have hnone := (hmore p hp).2
    refine ⟨fun q => ?_, fun q => ?_, fun q => ?_⟩
    · obtain ⟨o, e⟩ := hIn _ _ hst _ q; rw [hnone] at e; cases e
    · obtain ⟨o, e⟩ := hDs; rw [← q, hnone] at e; cases e
    · obtain ⟨o, e⟩ := hCs; rw [← q, hnone] at e; cases e
  by_cases hlt : i < n
  · refine W.item i _ _ _ hlt hst' fun v h₁ tk₁ hPv hst₁ hk₁ => ?_
    refine hlet (i + 1) v _ _ _ hst₁ ?_
    refine wpAny_mono (turn i v ys more { s with heap := h₁, toks := tk₁ } m' hlt hPv hP (hn'.at' fun o e => hk₁ _ o hCw e) (fun b o hbC hbw hbD e => hk₁ b o hbw (hk b o hbC hbw hbD e))
      (fun p hp => ⟨hk₁ _ _ (apart p hp).1 (hmore p hp).1, (hmore p hp).2⟩) ⟨_, _, rfl⟩) (fun _ sa ha => wpAny_mono ha (fun ok sb hb => ?_) fun _ _ e => e) fun _ _ e => e
    have fin : ∀ (r : Option Value) (sc : Shared), CEnd cenv.locals { s with heap := h₁, toks := tk₁ } (P (i + 1)) ys more r sc →
        CFin (St (i + 1)) (P (i + 1)) cenv.locals D wr s ys more r sc := by
      rintro r sc ⟨h₄, tk₄, m₄, nw, rfl, hn₄, hk₄, hnw, hP₄⟩
      have hC1 : ∃ o, h₁.get? cenv.locals = some o := let ⟨o, e⟩ := (show ∃ o, H.get? cenv.locals = some o from let ⟨o, _, _, e, _⟩ := hn'; ⟨o, e⟩); ⟨o, hk₁ _ _ hCw e⟩
      refine ⟨h₄, tk₄, m₄, nw, rfl, hn₄, W.frame _ _ _ hst₁ fun b hb o e => hk₄ b o (fun q => hCf (q ▸ hb)) e, hacc'.at fun o e => hk₄ _ o hDC (hk₁ _ o hDw e), hP₄, fun p hp => ?_, fun b o hbC hbw hbD e => hk₄ b o hbC (hk₁ b o hbw (hk b o hbC hbw hbD e))⟩
      rcases List.mem_append.mp hp with hp | hp
      · refine ⟨(hnw p hp).2, ?_⟩
        cases q : s.heap.get? p.1 with
        | none => rfl
        | some o =>
          exfalso
          have hnone := (hnw p hp).1
          by_cases c1 : p.1 = cenv.locals
          · obtain ⟨o', e'⟩ := hC1; rw [c1] at hnone; rw [hnone] at e'; cases e'
          · by_cases c2 : p.1 = D
            · obtain ⟨nn, e'⟩ := hacc'; rw [c2] at hnone; have := hk₁ _ _ hDw e'; rw [hnone] at this; cases this
            · by_cases c3 : p.1 ∈ wr
              · obtain ⟨o', e'⟩ := hIn _ _ hst₁ p.1 c3; rw [hnone] at e'; cases e'
              · have := hk₁ _ _ c3 (hk _ _ c1 c3 c2 q); rw [hnone] at this; cases this
      · exact ⟨hk₄ _ _ (apart p hp).2.2 (hk₁ _ _ (apart p hp).1 (hmore p hp).1), (hmore p hp).2⟩
    cases ok with
    | false =>
      simp only [Bool.false_eq_true, if_false] at hb ⊢
      obtain ⟨h₄, tk₄, m₄, nw, rfl, hn₄, hst₄, hacc₄, hP₄, hmore₄, hk₄⟩ := fin none sb hb
      exact ⟨n + 1 - (i + 1), n_dec1 hlt, h₄, tk₄, m₄, ys, nw ++ more, i + 1, rfl, hst₄, hacc₄, hn₄, by simpa using hP₄, hlt, rfl, hmore₄, hk₄⟩
    | true =>
      simp only [if_true] at hb ⊢
      refine wpAny_mono hb (fun y sc hc => ?_) fun _ _ e => e
      obtain ⟨h₄, tk₄, m₄, nw, rfl, hn₄, hst₄, hacc₄, hP₄, hmore₄, hk₄⟩ := fin (some y) sc hc
      have hys : ys.toArray.size ≤ sizeLine := by have := hlen _ _ _ hP; simp only [List.size_toArray]; omega
      refine wpAny_list_append_plain (hsz := hys) hacc₄ fun h₅ hl₅ hs₅ => ?_
      refine ⟨n + 1 - (i + 1), n_dec1 hlt, h₅, tk₄, m₄, ys ++ [y], nw ++ more, i + 1, rfl, W.frame _ _ _ hst₄ fun b hb o e => hs₅.extBut b o (fun q => hDf (q ▸ hb)) e, by simpa using hl₅, hn₄.sameBut hs₅ (Ne.symm hDC), by simpa using hP₄, hlt, rfl, fun p hp => ?_, fun b o hbC hbw hbD e => hs₅.extBut b o hbD (hk₄ b o hbC hbw hbD e)⟩
      have hp4 := hmore₄ p hp
      refine ⟨hs₅.extBut _ _ (fun q => ?_) hp4.1, hp4.2⟩
      obtain ⟨o, e⟩ := hDs
      rw [← q, hp4.2] at e; cases e
  · have hin : i = n := n_eq (by assumption) (by assumption)
    subst hin
    refine W.done _ _ _ hst' fun h₁ tk₁ hk₁ => ?_
    exact hR h₁ tk₁ m' ys more (hn'.at' fun o e => hk₁ _ o hCw e) (hacc'.at fun o e => hk₁ _ o hDw e) hP (fun p hp => ⟨hk₁ _ _ (apart p hp).1 (hmore p hp).1, (hmore p hp).2⟩) fun b o hbC hbw hbD e => hk₁ b o hbw (hk b o hbC hbw hbD e)
end
end Mine
end

section -- Comp2
open PySem PySem.W PyProof.Rows PySem.Calls PySem.Spec
namespace Mine
section
variable {prog : Program} {w : World} {A : Around} {E : Value → Shared → Prop} {env : Env}

noncomputable def Turns (prog : Program) (w : World) (A : Around) (env : Env) (scope : Scope) (cl : List (Str × Addr)) (target : PySem.Expr) (ifs : List PySem.Expr) (elt : PySem.Expr) (wr : List Addr) (n : Nat) (Pv : Nat → Value → Prop)
    (P : Nat → List Value → List (Addr × Obj) → Prop) (s₂ : Shared) : Prop :=
  ∀ C i v ys more s₃ m₃ E', s₂.heap.objs.size ≤ C → i < n → Pv i v → P i ys more → s₃.heap.Ns C m₃ → (∀ b o, b ∉ wr → s₂.heap.get? b = some o → s₃.heap.get? b = some o) →
    (∀ p ∈ more, s₃.heap.get? p.1 = some p.2 ∧ s₂.heap.get? p.1 = none) → (∃ h tk, s₃ = { s₂ with heap := h, toks := tk }) →
    wpAny (model prog w) A (assign target (compEnvC scope cl C env) v) (fun _ sa => wpAny (model prog w) A (forIn ifs true fun c r => if r = true then do let ok ← isTrue c (compEnvC scope cl C env) (eval c (compEnvC scope cl C env)); pure (ForInStep.yield ok) else pure (ForInStep.yield r)) (fun ok sb =>
      if ok = true then wpAny (model prog w) A (eval elt (compEnvC scope cl C env)) (fun y sc => CEnd C s₃ (P (i + 1)) ys more (some y) sc) E' sb
      else CEnd C s₃ (P (i + 1)) ys more none sb) E' sa) E' s₃

theorem comp_blockR {elt target iter : PySem.Expr} {ifs : List PySem.Expr} {scope : Scope} {cl : List (Str × Addr)} {pos : Pos} {s₂ : Shared} {I : Addr} {fp wr : List Addr} {n : Nat} {Pv : Nat → Value → Prop}
    {St : Nat → Heap → Prop} (W : Walks prog w A I fp wr n Pv St) (hsz : n ≤ sizeLine) (P : Nat → List Value → List (Addr × Obj) → Prop) {RR : Value → Addr → Result → Shared → Prop}
    (hlet : ∀ i v (s' : Shared) (Q : Unit → Shared → Prop) (E : Value → Shared → Prop), St i s'.heap → Q () s' → wpAny (model prog w) A (letOwnedTupleGo target (.ref I) v) Q E s')
    (hIn : ∀ i h, St i h → ∀ b ∈ wr, ∃ o, h.get? b = some o)
    (hcell : ∀ y ∈ scope.names, y.2 ≠ .cell) (hkind : scope.kind = .function) (hst : St 0 s₂.heap) (hfp : ∀ b ∈ fp, b < s₂.heap.objs.size)
    (h0 : P 0 [] []) (hlen : ∀ i ys more, P i ys more → ys.length ≤ i)
    (turn : Turns prog w A env scope cl target ifs elt wr n Pv P s₂)
    (hRR : ∀ D C h' tk m' ys more, s₂.heap.get? D = none → s₂.heap.get? C = none → D ≠ C → h'.Ns C m' → h'.PlainList D (List.toArray ys) → P n ys more → (∀ p ∈ more, h'.get? p.1 = some p.2 ∧ s₂.heap.get? p.1 = none ∧ p.1 ≠ D ∧ p.1 ≠ C) →
      (∀ b o, b ∉ wr → s₂.heap.get? b = some o → h'.get? b = some o) → RR (.ref D) C (.ok .next) { s₂ with heap := h', toks := tk }) :
    wpAny (model prog w) A (newList []) (fun acc s₃ => wpAny (model prog w) A (newFunctionEnv scope env.globals cl [] env.qual none .none (some env)) (fun cenv s₄ =>
      codeAny (model prog w) A (.compStart (.ListComp elt [⟨target, iter, ifs, 0⟩] scope pos) 0 (.ref I) acc { cenv with scope := relabel scope env }) (RR acc cenv.locals) s₄) E s₃) E s₂ := by
  refine wpAny_newObj_type (wpAny_newFunctionEnv hcell (by intro y hy; simp at hy) (fun h₁ hns₁ hsb₁ => ?_) hkind)
  dsimp only at hns₁ hsb₁ ⊢
  generalize hH2 : s₂.heap.push { cls := .type "list", dict := none, data := .seq ([] : List Value).toArray } = H2 at hns₁ hsb₁ ⊢
  have hC : H2.objs.size = s₂.heap.objs.size + 1 := by rw [← hH2, Heap.size_push]
  have hDC : s₂.heap.objs.size ≠ H2.objs.size := by rw [hC]; exact Nat.ne_of_lt (Nat.lt_succ_self _)
  have hCle : s₂.heap.objs.size ≤ H2.objs.size := by rw [hC]; exact Nat.le_succ _
  have below : ∀ b, b < s₂.heap.objs.size → b ≠ H2.objs.size ∧ b ≠ s₂.heap.objs.size := fun b hb => ⟨by rw [hC]; exact Nat.ne_of_lt (Nat.lt_succ_of_lt hb), Nat.ne_of_lt hb⟩
  have hDf : s₂.heap.objs.size ∉ fp := fun hm => Nat.lt_irrefl _ (hfp _ hm)
  have hCf : H2.objs.size ∉ fp := fun hm => by have := hfp _ hm; rw [hC] at this; exact Nat.lt_irrefl _ (Nat.lt_of_succ_lt this)
  have old : ∀ b o, s₂.heap.get? b = some o → h₁.get? b = some o := fun b o e => hsb₁.extBut b o (below b (Heap.lt_size e)).1 (Heap.get?_push_of_some _ (hH2 ▸ Heap.get?_push_of_some _ e))
  have hacc : h₁.PlainList s₂.heap.objs.size #[] := ⟨_, hsb₁.extBut _ _ hDC (Heap.get?_push_of_some _ (hH2 ▸ Heap.get?_push_size _ rfl))⟩
  have hst₁ : St 0 h₁ := W.frame _ _ _ hst fun b _ o e => old b o e
  have fresh : ∀ a, s₂.heap.objs.size ≤ a → s₂.heap.get? a = none := fun a ha => by
    cases e : s₂.heap.get? a with
    | none => rfl
    | some o' => exact absurd (Heap.lt_size e) (Nat.not_lt.mpr ha)
  have loop : ∀ s₃ : Shared, s₃ = { s₂ with heap := h₁, toks := s₂.toks + ([] : List (Str × Value)).length } →
      codeAny (model prog w) A (.compLoop (.ListComp elt [⟨target, iter, ifs, 0⟩] scope pos) 0 (.ref I) (.ref s₂.heap.objs.size) (compEnvC scope cl H2.objs.size env))
        (RR (.ref s₂.heap.objs.size) H2.objs.size) s₃ := by
    rintro s₃ rfl
    have none_of : ∀ (a : Addr), h₁.get? a = none → s₂.heap.get? a = none := fun a e => by
      cases q : s₂.heap.get? a with
      | none => rfl
      | some o => rw [old a o q] at e; cases e
    refine compR (hsz := hsz) (cenv := compEnvC scope cl H2.objs.size env) W P hlet hDC hDf hCf hIn hst₁ hacc hns₁ h0 hlen ?_ ?_
    · rintro i v ys more s₃ m₃ hi hPv hP hn hk hmore ⟨h, tk, rfl⟩
      exact turn _ i v ys more _ m₃ _ hCle hi hPv hP hn (fun b o hbw e => hk b o (below b (Heap.lt_size e)).1 hbw (below b (Heap.lt_size e)).2 (old b o e)) (fun p hp => ⟨(hmore p hp).1, none_of _ (hmore p hp).2⟩) ⟨h, tk, rfl⟩
    · intro h' tk m' ys more hn hpl hP hmore hk
      refine hRR _ _ h' tk m' ys more (fresh _ (Nat.le_refl _)) (fresh _ hCle) hDC hn hpl hP (fun p hp => ⟨(hmore p hp).1, none_of _ (hmore p hp).2, fun q => ?_, fun q => ?_⟩) fun b o hbw e => hk b o (below b (Heap.lt_size e)).1 hbw (below b (Heap.lt_size e)).2 (old b o e)
      · obtain ⟨nn, e⟩ := hacc
        have := (hmore p hp).2
        dsimp only at this
        rw [q, e] at this; cases this
      · obtain ⟨o, _, _, e, _⟩ := hns₁
        have := (hmore p hp).2
        dsimp only at this
        rw [q, e] at this; cases this
  exact codeAny_compStart_list (loop _ rfl) (W.self 0 _ _ _ hst₁ (loop _ rfl))

theorem list_let {I ax i : Nat} {target : PySem.Expr} {v : Value} {s' : Shared} {Q : Unit → Shared → Prop} {E : Value → Shared → Prop} (h : s'.heap.IsListIter I ax i) (hQ : Q () s') :
    wpAny (model prog w) A (letOwnedTupleGo target (.ref I) v) Q E s' := by
  obtain ⟨o, ho, hc, hd⟩ := h
  have key : ∀ a, wpAny (model prog w) A (do
      let o ← load I
      match o.cls, o.data with
      | .type n, .fields vs =>
        if (["enumerate", "zip", "dict_itemiterator", "dict_reverseitemiterator", "odict_iterator", "itertools.zip_longest", "itertools.pairwise"].contains n && vs[0]? == some (rawInt a)) = true then do
          rule "for.unpacks-the-owned-tuple"
          updateField I 0 .none
        else pure ()
      | _, _ => pure () : Sem Unit) Q E s' := fun a => by
    refine wpAny_bind (wpAny_load ho ?_)
    rw [hc, hd]
    dsimp only
    rw [if_neg (by rw [show (["enumerate", "zip", "dict_itemiterator", "dict_reverseitemiterator", "odict_iterator", "itertools.zip_longest", "itertools.pairwise"].contains "list_iterator") = false from by decide]; exact Bool.false_ne_true)]
    exact wpAny_pure hQ
  unfold letOwnedTupleGo
  cases target <;> first | exact wpAny_pure hQ | (cases v <;> first | exact wpAny_pure hQ | exact key _)
end
end Mine
end

section -- Comp3
open PySem PySem.W PyProof.Rows PySem.Calls PySem.Spec
namespace Mine
section
variable {prog : Program} {w : World} {A : Around} {E : Value → Shared → Prop} {env : Env}

noncomputable def TurnsL (prog : Program) (w : World) (A : Around) (env : Env) (scope : Scope) (cl : List (Str × Addr)) (target : PySem.Expr) (ifs : List PySem.Expr) (elt : PySem.Expr) (vs : List Value)
    (P : Nat → List Value → List (Addr × Obj) → Prop) (s₁ : Shared) : Prop :=
  ∀ C i v ys more h₃ tk₃ m₃ E', s₁.heap.objs.size ≤ C → vs[i]? = some v → P i ys more → h₃.Ns C m₃ → Ext s₁.heap h₃ →
    (∀ p ∈ more, h₃.get? p.1 = some p.2 ∧ s₁.heap.get? p.1 = none) →
    wpAny (model prog w) A (assign target (compEnvC scope cl C env) v) (fun _ sa => wpAny (model prog w) A (forIn ifs true fun c r => if r = true then do let ok ← isTrue c (compEnvC scope cl C env) (eval c (compEnvC scope cl C env)); pure (ForInStep.yield ok) else pure (ForInStep.yield r)) (fun ok sb =>
      if ok = true then wpAny (model prog w) A (eval elt (compEnvC scope cl C env)) (fun y sc => CEnd C { s₁ with heap := h₃, toks := tk₃ } (P (i + 1)) ys more (some y) sc) E' sb
      else CEnd C { s₁ with heap := h₃, toks := tk₃ } (P (i + 1)) ys more none sb) E' sa) E' { s₁ with heap := h₃, toks := tk₃ }

theorem turns_of {scope : Scope} {cl : List (Str × Addr)} {target : PySem.Expr} {ifs : List PySem.Expr} {elt : PySem.Expr} {vs : List Value} {P : Nat → List Value → List (Addr × Obj) → Prop} {s₁ : Shared} {ax : Addr}
    (T : TurnsL prog w A env scope cl target ifs elt vs P s₁) :
    Turns prog w A env scope cl target ifs elt [s₁.heap.objs.size] vs.toArray.size (fun i v => vs.toArray[i]? = some v) P { s₁ with heap := s₁.heap.push { cls := .type "list_iterator", data := .fields #[.ref ax, .int 0 0] } } := by
  rintro C i v ys more s₃ m₃ E' hC hi hv hP hn hk hmore ⟨h, tk, rfl⟩
  have hC' : s₁.heap.objs.size ≤ C := Nat.le_of_succ_le (by simpa [Heap.size_push] using hC)
  refine T C i v ys more h tk m₃ E' hC' (by simpa using hv) hP hn (fun b o e => hk b o (fun q => ?_) (Heap.get?_push_of_some _ e)) fun p hp => ⟨(hmore p hp).1, ?_⟩
  · rw [List.mem_singleton.mp q] at e; exact Nat.lt_irrefl _ (Heap.lt_size e)
  · cases q : s₁.heap.get? p.1 with
    | none => rfl
    | some o => have := (hmore p hp).2; dsimp only at this; rw [Heap.get?_push_of_some _ q] at this; cases this

theorem wpAny_iter_list' {s : Shared} {ax : Addr} {items : Array Value} {Q : Value → Shared → Prop} (hl : s.heap.IsList ax items)
    (h : Q (.ref s.heap.objs.size) { s with heap := s.heap.push { cls := .type "list_iterator", data := .fields #[.ref ax, .int 0 0] } }) : wpAny (model prog w) A (pyIter (.ref ax)) Q E s := wpAny_pyIter_list hl h

inductive SrcL (prog : Program) (w : World) (A : Around) (env : Env) (scope : Scope) (cl : List (Str × Addr)) (target : PySem.Expr) (ifs : List PySem.Expr) (elt : PySem.Expr) (P : Nat → List Value → List (Addr × Obj) → Prop) (Q : Value → Shared → Prop) (xv : Value) (s₁ : Shared) : Prop
  | mk (ax : Addr) (vs : List Value) (hE0 : xv = .ref ax) (hE1 : s₁.heap.IsList ax (List.toArray vs)) (hE2 : vs.length ≤ sizeLine) (hE3 : TurnsL prog w A env scope cl target ifs elt vs P s₁) (hE4 : (∀ D ys more h' tk, Ext s₁.heap h' → s₁.heap.get? D = none → h'.PlainList D (List.toArray ys) → P vs.length ys more → (∀ p ∈ more, h'.get? p.1 = some p.2 ∧ s₁.heap.get? p.1 = none ∧ p.1 ≠ D) → Q (.ref D) { s₁ with heap := h', toks := tk }))
inductive SrcAL (prog : Program) (w : World) (A : Around) (env : Env) (scope : Scope) (cl : List (Str × Addr)) (target : PySem.Expr) (ifs : List PySem.Expr) (elt : PySem.Expr) (y : Str) (py : Pos) (P : Nat → List Value → List (Addr × Obj) → Prop) (E : Value → Shared → Prop) (Q : Flow → Shared → Prop) (xv : Value) (s₁ : Shared) : Prop
  | mk (ax : Addr) (vs : List Value) (hE0 : xv = .ref ax) (hE1 : s₁.heap.IsList ax (List.toArray vs)) (hE2 : vs.length ≤ sizeLine) (hE3 : TurnsL prog w A env scope cl target ifs elt vs P s₁) (hE4 : (∀ D C ys more h' tk, Ext s₁.heap h' → s₁.heap.get? D = none → s₁.heap.get? C = none → h'.PlainList D (List.toArray ys) → P vs.length ys more → (∀ p ∈ more, h'.get? p.1 = some p.2 ∧ s₁.heap.get? p.1 = none ∧ p.1 ≠ D ∧ p.1 ≠ C) → D ≠ C → (∃ m, h'.Ns C m) → wpAny (model prog w) A (assign (.Name y py) env (.ref D)) (fun _ s'' => (∃ m, s''.heap.Ns C m) ∧ ∀ h'', Heap.SameBut C s''.heap h'' → Q .next { s'' with heap := h'' }) E { s₁ with heap := h', toks := tk }))

theorem evalCompL {s : Shared} {elt target iter : PySem.Expr} {ifs : List PySem.Expr} {scope : Scope} {cl : List (Str × Addr)} {pos : Pos} {Q : Value → Shared → Prop} (hh : A.handled = none)
    (hclos : closureFor scope env = pure cl) (hcell : ∀ y ∈ scope.names, y.2 ≠ .cell) (hkind : scope.kind = .function)
    (hnames : ∀ y ∈ scope.names, y.2 = .local → scope.names.lookup y.1 = some .local)
    (P : Nat → List Value → List (Addr × Obj) → Prop) (h0 : P 0 [] []) (hlen : ∀ i ys more, P i ys more → ys.length ≤ i)
    (h : wpAny (model prog w) A (eval iter env) (SrcL prog w A env scope cl target ifs elt P Q) E s)
    (hs : ∀ x, foldedSetIterable iter env x = pure x := by intro _; rfl) :
    wpAny (model prog w) A (eval (.ListComp elt [⟨target, iter, ifs, 0⟩] scope pos) env) Q E s := by
  rw [eval_ListComp]
  refine wpAny_comprehension_free (use := none) rfl hs hclos hkind hnames (wpAny_mono h (fun xv s₁ h₁ => ?_) fun _ _ e => e)
  obtain ⟨ax, vs, rfl, hl, hsz, T, hQ⟩ := h₁
  have hlt : ax < s₁.heap.objs.size := by obtain ⟨_, e, _⟩ := hl; exact Heap.lt_size e
  refine wpAny_iter_list' hl ?_
  refine comp_blockR (RR := fun acc C => compPost (model prog w) A E none Q acc C) (fp := [s₁.heap.objs.size, ax]) (wr := [s₁.heap.objs.size]) (Walks.list hh s₁.heap.objs.size ax (Nat.ne_of_lt hlt) vs.toArray) (by simpa using hsz) P
    (fun i v s' Q E st hq => list_let st.1 hq) (fun i h st b hb => by rw [List.mem_singleton.mp hb]; obtain ⟨⟨o, e, _⟩, _⟩ := st; exact ⟨o, e⟩) hcell hkind ⟨⟨_, Heap.get?_push_size _ rfl, rfl, rfl⟩, hl.push _⟩ ?_ h0 hlen (turns_of T) ?_
  · intro b hb
    show b < (s₁.heap.push _).objs.size
    rw [Heap.size_push]
    rcases List.mem_cons.mp hb with rfl | hb
    · exact Nat.lt_succ_self _
    · rw [List.mem_singleton.mp hb]; exact Nat.lt_succ_of_lt hlt
  · intro D C h' tk m' ys more hD hC hDC hn hpl hP hmore hk
    have old : ∀ b o, s₁.heap.get? b = some o → h'.get? b = some o := fun b o e => hk b o (fun q => by rw [List.mem_singleton.mp q] at e; exact Nat.lt_irrefl _ (Heap.lt_size e)) (Heap.get?_push_of_some _ e)
    have none_of : ∀ (a : Addr), (s₁.heap.push { cls := .type "list_iterator", data := .fields #[.ref ax, .int 0 0] }).get? a = none → s₁.heap.get? a = none := fun a e => by
      cases q : s₁.heap.get? a with
      | none => rfl
      | some o => rw [Heap.get?_push_of_some _ q] at e; cases e
    refine ⟨m', hn, fun h'' hs'' => hQ D ys more h'' tk (fun b o e => hs''.extBut b o (fun q => ?_) (old b o e)) (none_of _ hD) (hpl.extBut hs''.extBut hDC) (by simpa using hP) fun p hp => ⟨hs''.extBut _ _ (hmore p hp).2.2.2 (hmore p hp).1, none_of _ (hmore p hp).2.1, (hmore p hp).2.2.1⟩⟩
    have := none_of _ hC
    rw [q, this] at e; cases e

theorem assignCompL {s : Shared} {elt target iter : PySem.Expr} {ifs : List PySem.Expr} {scope : Scope} {cl : List (Str × Addr)} {pos spos : Pos} {y : Str} {py : Pos} {Q : Flow → Shared → Prop} (hh : A.handled = none)
    (hsw : swapsWith (.ListComp elt [⟨target, iter, ifs, 0⟩] scope pos) (some (.Name y py)) spos.line env = pure true)
    (hclos : closureFor scope env = pure cl) (hcell : ∀ y ∈ scope.names, y.2 ≠ .cell) (hkind : scope.kind = .function)
    (hnames : ∀ y ∈ scope.names, y.2 = .local → scope.names.lookup y.1 = some .local)
    (P : Nat → List Value → List (Addr × Obj) → Prop) (h0 : P 0 [] []) (hlen : ∀ i ys more, P i ys more → ys.length ≤ i)
    (h : wpAny (model prog w) A (eval iter env) (SrcAL prog w A env scope cl target ifs elt y py P E Q) E s)
    (hs : ∀ x, foldedSetIterable iter env x = pure x := by intro _; rfl) :
    wpAny (model prog w) A (exec (.Assign [.Name y py] (.ListComp elt [⟨target, iter, ifs, 0⟩] scope pos) spos) env) Q E s := by
  rw [exec_Assign_Name_used _ _ _ _ hsw]
  refine wpAny_bind (wpAny_standAt (wpAny_bind ?_))
  show wpAny _ A (do let _ ← comprehension (.ListComp elt [⟨target, iter, ifs, 0⟩] scope pos) scope env _ (newList []) false (eval iter env) (some (assign (.Name y py) env))) _ _ s
  refine wpAny_bind (wpAny_mono (wpAny_comprehension_free (use := some (assign (.Name y py) env)) (Q := fun _ s' => Q .next s') rfl hs hclos hkind hnames
    (wpAny_mono h (fun xv s₁ h₁ => ?_) fun _ _ e => e)) (fun _ s' hq => wpAny_pure (wpAny_pure hq)) fun _ _ e => e)
  obtain ⟨ax, vs, rfl, hl, hsz, T, hQ⟩ := h₁
  have hlt : ax < s₁.heap.objs.size := by obtain ⟨_, e, _⟩ := hl; exact Heap.lt_size e
  refine wpAny_iter_list' hl ?_
  refine comp_blockR (RR := fun acc C => compPost (model prog w) A E (some (assign (.Name y py) env)) (fun _ s' => Q .next s') acc C) (fp := [s₁.heap.objs.size, ax]) (wr := [s₁.heap.objs.size]) (Walks.list hh s₁.heap.objs.size ax (Nat.ne_of_lt hlt) vs.toArray) (by simpa using hsz) P
    (fun i v s' Q E st hq => list_let st.1 hq) (fun i h st b hb => by rw [List.mem_singleton.mp hb]; obtain ⟨⟨o, e, _⟩, _⟩ := st; exact ⟨o, e⟩) hcell hkind ⟨⟨_, Heap.get?_push_size _ rfl, rfl, rfl⟩, hl.push _⟩ ?_ h0 hlen (turns_of T) ?_
  · intro b hb
    show b < (s₁.heap.push _).objs.size
    rw [Heap.size_push]
    rcases List.mem_cons.mp hb with rfl | hb
    · exact Nat.lt_succ_self _
    · rw [List.mem_singleton.mp hb]; exact Nat.lt_succ_of_lt hlt
  · intro D C h' tk m' ys more hD hC hDC hn hpl hP hmore hk
    have old : ∀ b o, s₁.heap.get? b = some o → h'.get? b = some o := fun b o e => hk b o (fun q => by rw [List.mem_singleton.mp q] at e; exact Nat.lt_irrefl _ (Heap.lt_size e)) (Heap.get?_push_of_some _ e)
    have none_of : ∀ (a : Addr), (s₁.heap.push { cls := .type "list_iterator", data := .fields #[.ref ax, .int 0 0] }).get? a = none → s₁.heap.get? a = none := fun a e => by
      cases q : s₁.heap.get? a with
      | none => rfl
      | some o => rw [Heap.get?_push_of_some _ q] at e; cases e
    refine wpAny_mono (hQ D C ys more h' tk old (none_of _ hD) (none_of _ hC) hpl (by simpa using hP) (fun p hp => ⟨(hmore p hp).1, none_of _ (hmore p hp).2.1, (hmore p hp).2.2⟩) hDC ⟨m', hn⟩) (fun _ s'' hq => ?_) fun _ _ e => e
    obtain ⟨⟨m'', hm⟩, hq⟩ := hq
    exact ⟨m'', hm, hq⟩
end
end Mine
end

section -- Comp4
open PySem PySem.W PyProof.Rows PySem.Calls PySem.Spec
namespace Mine
section
variable {prog : Program} {w : World} {A : Around} {E : Value → Shared → Prop} {env : Env}

noncomputable def TurnsN (prog : Program) (w : World) (A : Around) (env : Env) (scope : Scope) (cl : List (Str × Addr)) (target : PySem.Expr) (ifs : List PySem.Expr) (elt : PySem.Expr) (n : Nat)
    (P : Nat → List Value → List (Addr × Obj) → Prop) (s₁ : Shared) : Prop :=
  ∀ C (i : Nat) t ys more h₃ tk₃ m₃ E', s₁.heap.objs.size ≤ C → i < n → P i ys more → h₃.Ns C m₃ → Ext s₁.heap h₃ →
    (∀ p ∈ more, h₃.get? p.1 = some p.2 ∧ s₁.heap.get? p.1 = none) →
    wpAny (model prog w) A (assign target (compEnvC scope cl C env) (.int (i : Int) t)) (fun _ sa => wpAny (model prog w) A (forIn ifs true fun c r => if r = true then do let ok ← isTrue c (compEnvC scope cl C env) (eval c (compEnvC scope cl C env)); pure (ForInStep.yield ok) else pure (ForInStep.yield r)) (fun ok sb =>
      if ok = true then wpAny (model prog w) A (eval elt (compEnvC scope cl C env)) (fun y sc => CEnd C { s₁ with heap := h₃, toks := tk₃ } (P (i + 1)) ys more (some y) sc) E' sb
      else CEnd C { s₁ with heap := h₃, toks := tk₃ } (P (i + 1)) ys more none sb) E' sa) E' { s₁ with heap := h₃, toks := tk₃ }

theorem turnsN_of {scope : Scope} {cl : List (Str × Addr)} {target : PySem.Expr} {ifs : List PySem.Expr} {elt : PySem.Expr} {n : Nat} {P : Nat → List Value → List (Addr × Obj) → Prop} {s₁ : Shared} {ob : Obj}
    (T : TurnsN prog w A env scope cl target ifs elt n P s₁) :
    Turns prog w A env scope cl target ifs elt [s₁.heap.objs.size] n (fun i v => ∃ t, v = .int (0 + (i : Int) * 1) t) P { s₁ with heap := s₁.heap.push ob } := by
  rintro C i v ys more s₃ m₃ E' hC hi ⟨t, rfl⟩ hP hn hk hmore ⟨h, tk, rfl⟩
  have hC' : s₁.heap.objs.size ≤ C := Nat.le_of_succ_le (by simpa [Heap.size_push] using hC)
  have e1 : (0 : Int) + (i : Int) * 1 = (i : Int) := by omega
  rw [e1]
  refine T C i t ys more h tk m₃ E' hC' hi hP hn (fun b o e => hk b o (fun q => ?_) (Heap.get?_push_of_some _ e)) fun p hp => ⟨(hmore p hp).1, ?_⟩
  · rw [List.mem_singleton.mp q] at e; exact Nat.lt_irrefl _ (Heap.lt_size e)
  · cases q : s₁.heap.get? p.1 with
    | none => rfl
    | some o => have := (hmore p hp).2; dsimp only at this; rw [Heap.get?_push_of_some _ q] at this; cases this

theorem range_let {I : Nat} {target : PySem.Expr} {v : Value} {a l c : Int} {s' : Shared} {Q : Unit → Shared → Prop} {E : Value → Shared → Prop} (h : IsRangeIter s'.heap I a l c) (hQ : Q () s') :
    wpAny (model prog w) A (letOwnedTupleGo target (.ref I) v) Q E s' := by
  have key : ∀ a, wpAny (model prog w) A (do
      let o ← load I
      match o.cls, o.data with
      | .type n, .fields vs =>
        if (["enumerate", "zip", "dict_itemiterator", "dict_reverseitemiterator", "odict_iterator", "itertools.zip_longest", "itertools.pairwise"].contains n && vs[0]? == some (rawInt a)) = true then do
          rule "for.unpacks-the-owned-tuple"
          updateField I 0 .none
        else pure ()
      | _, _ => pure () : Sem Unit) Q E s' := fun a => by
    refine wpAny_bind (wpAny_load h ?_)
    dsimp only
    rw [if_neg (by rw [show (["enumerate", "zip", "dict_itemiterator", "dict_reverseitemiterator", "odict_iterator", "itertools.zip_longest", "itertools.pairwise"].contains "range_iterator") = false from by decide]; exact Bool.false_ne_true)]
    exact wpAny_pure hQ
  unfold letOwnedTupleGo
  cases target <;> first | exact wpAny_pure hQ | (cases v <;> first | exact wpAny_pure hQ | exact key _)

inductive SrcN (prog : Program) (w : World) (A : Around) (env : Env) (scope : Scope) (cl : List (Str × Addr)) (target : PySem.Expr) (ifs : List PySem.Expr) (elt : PySem.Expr) (n : Nat) (P : Nat → List Value → List (Addr × Obj) → Prop) (Q : Value → Shared → Prop) (xv : Value) (s₁ : Shared) : Prop
  | mk (ax : Addr) (t₁ : Tok) (t₂ : Tok) (t₃ : Tok) (hE0 : xv = .ref ax) (hE1 : IsRange s₁.heap ax 0 (n : Int) 1 t₁ t₂ t₃) (hE2 : TurnsN prog w A env scope cl target ifs elt n P s₁) (hE3 : (∀ D ys more h' tk, Ext s₁.heap h' → s₁.heap.get? D = none → h'.PlainList D (List.toArray ys) → P n ys more → (∀ p ∈ more, h'.get? p.1 = some p.2 ∧ s₁.heap.get? p.1 = none ∧ p.1 ≠ D) → Q (.ref D) { s₁ with heap := h', toks := tk }))

theorem evalCompN {s : Shared} {elt target iter : PySem.Expr} {ifs : List PySem.Expr} {scope : Scope} {cl : List (Str × Addr)} {pos : Pos} {n : Nat} {Q : Value → Shared → Prop} (hh : A.handled = none) (hsz : n ≤ sizeLine) (hsm : Builtin.Range.small 0 (n : Int) 1 = true)
    (hrs : Builtin.Range.rangeSize 0 (n : Int) 1 = (n : Int))
    (hclos : closureFor scope env = pure cl) (hcell : ∀ y ∈ scope.names, y.2 ≠ .cell) (hkind : scope.kind = .function)
    (hnames : ∀ y ∈ scope.names, y.2 = .local → scope.names.lookup y.1 = some .local)
    (P : Nat → List Value → List (Addr × Obj) → Prop) (h0 : P 0 [] []) (hlen : ∀ i ys more, P i ys more → ys.length ≤ i)
    (h : wpAny (model prog w) A (eval iter env) (SrcN prog w A env scope cl target ifs elt n P Q) E s)
    (hs : ∀ x, foldedSetIterable iter env x = pure x := by intro _; rfl) :
    wpAny (model prog w) A (eval (.ListComp elt [⟨target, iter, ifs, 0⟩] scope pos) env) Q E s := by
  rw [eval_ListComp]
  refine wpAny_comprehension_free (use := none) rfl hs hclos hkind hnames (wpAny_mono h (fun xv s₁ h₁ => ?_) fun _ _ e => e)
  obtain ⟨ax, t₁, t₂, t₃, rfl, hr, T, hQ⟩ := h₁
  refine wpAny_pyIter_range hr hsm ?_
  rw [hrs]
  refine comp_blockR (RR := fun acc C => compPost (model prog w) A E none Q acc C) (fp := [s₁.heap.objs.size]) (wr := [s₁.heap.objs.size]) (Walks.range hh s₁.heap.objs.size 0 1 n) hsz P
    (fun i v s' Q E st hq => range_let st hq) (fun i h st b hb => by rw [List.mem_singleton.mp hb]; exact ⟨_, st⟩) hcell hkind ?_ ?_ h0 hlen (turnsN_of T) ?_
  · show IsRangeIter _ _ _ _ _
    simpa using Heap.get?_push_size _ rfl
  · intro b hb
    show b < (s₁.heap.push _).objs.size
    rw [Heap.size_push, List.mem_singleton.mp hb]
    exact Nat.lt_succ_self _
  · intro D C h' tk m' ys more hD hC hDC hn hpl hP hmore hk
    have old : ∀ b o, s₁.heap.get? b = some o → h'.get? b = some o := fun b o e => hk b o (fun q => by rw [List.mem_singleton.mp q] at e; exact Nat.lt_irrefl _ (Heap.lt_size e)) (Heap.get?_push_of_some _ e)
    have none_of : ∀ (a : Addr), (s₁.heap.push { cls := .type "range_iterator", data := .fields #[rawInt 0, rawInt (n : Int), rawInt 1] }).get? a = none → s₁.heap.get? a = none := fun a e => by
      cases q : s₁.heap.get? a with
      | none => rfl
      | some o => rw [Heap.get?_push_of_some _ q] at e; cases e
    refine ⟨m', hn, fun h'' hs'' => hQ D ys more h'' tk (fun b o e => hs''.extBut b o (fun q => ?_) (old b o e)) (none_of _ hD) (hpl.extBut hs''.extBut hDC) (by simpa using hP) fun p hp => ⟨hs''.extBut _ _ (hmore p hp).2.2.2 (hmore p hp).1, none_of _ (hmore p hp).2.1, (hmore p hp).2.2.1⟩⟩
    have := none_of _ hC
    rw [q, this] at e; cases e
end
end Mine
end

section -- Names
open PySem PySem.W PyProof.Rows PySem.Calls PySem.Spec
namespace Mine
section
variable {M : Model} {A : Around} {E : Value → Shared → Prop} {s : Shared} {env : Env} {scope : Scope} {cl : List (Str × Addr)} {C : Addr} {m : Str → Option Value} {x : Str} {pos : Pos} {v : Value} {Q : Value → Shared → Prop} {c : Addr}
theorem nmL (hn : s.heap.Ns C m) (hv : m x = some v) (h : Q v s) (hk : scope.kind = .function) (hx : (compEnvC scope cl C env).kindOf x = some .local) (hd : (x == ("__debug__" : Str)) = false) :
    wpAny M A (eval (.Name x pos) (compEnvC scope cl C env)) Q E s :=
  wpAny_Name (wpAny_loadName_local (env := compEnvC scope cl C env) hk hx hn hv h) hd
theorem nmF (hc : cl.lookup x = some c) (hcell : s.heap.IsCell c (some v)) (h : Q v s) (hk : scope.kind = .function) (hx : (compEnvC scope cl C env).kindOf x = some .free) (hb : (x == ("__debug__" : Str)) = false) (hn : (x == ("__classdict__" : Str)) = false) :
    wpAny M A (eval (.Name x pos) (compEnvC scope cl C env)) Q E s :=
  wpAny_Name (wpAny_loadName_free (env := compEnvC scope cl C env) hk hx hc hcell h hn) hb
theorem nmC (hc : cl.lookup x = some c) (hcell : s.heap.IsCell c (some v)) (h : Q v s) (hk : scope.kind = .function) (hx : (compEnvC scope cl C env).kindOf x = some .cell) (hb : (x == ("__debug__" : Str)) = false) :
    wpAny M A (eval (.Name x pos) (compEnvC scope cl C env)) Q E s :=
  wpAny_Name (wpAny_loadName_cell (env := compEnvC scope cl C env) hk hx hc hcell h) hb
end
theorem isCell_ext {h h' : Heap} {c : Addr} {v : Option Value} (x : h.IsCell c v) (e : Ext h h') : h'.IsCell c v := let ⟨o, ho, hd⟩ := x; ⟨o, e _ _ ho, hd⟩
theorem isCell_of {h₀ h : Heap} {L c : Addr} {o : Obj} {v : Option Value} {news : List (Addr × Obj)} (N : News h₀ L h news) (hm : (c, o) ∈ news) (hd : o.data = .cell v) : h.IsCell c v := ⟨o, (N _ hm).1, hd⟩
theorem isCell_but {h h' : Heap} {c C : Addr} {v : Option Value} (x : h.IsCell c v) (e : ∀ b o, b ≠ C → h.get? b = some o → h'.get? b = some o) (hne : c ≠ C) : h'.IsCell c v := let ⟨o, ho, hd⟩ := x; ⟨o, e _ _ hne ho, hd⟩
end Mine
end

section -- Ints
open PySem PySem.W PyProof.Rows PySem.Calls PySem.Spec
namespace Mine
section
variable {prog : Program} {w : World} {A : Around} {env : Env} {s : Shared} {e l r : PySem.Expr} {a b v : Int} {k : Nat} {pos : Pos}
noncomputable def IVal (prog : Program) (w : World) (A : Around) (env : Env) (s : Shared) (e : PySem.Expr) (v : Int) : Prop :=
  ∀ tk (Q : Value → Shared → Prop) (E : Value → Shared → Prop), (∀ t tk', Q (.int v t) { s with toks := tk' }) → wpAny (model prog w) A (eval e env) Q E { s with toks := tk }
theorem IVal.use {Q E} (h : IVal prog w A env s e v) (hQ : ∀ t tk', Q (.int v t) { s with toks := tk' }) : wpAny (model prog w) A (eval e env) Q E s := h s.toks Q E hQ
theorem IVal.cast (h : IVal prog w A env s e v) (he : v = a) : IVal prog w A env s e a := he ▸ h
theorem IVal.const : IVal prog w A env s (.Constant (.int v) k pos) v := fun tk Q E h => wpAny_Constant_int (h _ _)
theorem IVal.of {x : Str} {t : Tok} (h : ∀ tk (Q : Value → Shared → Prop) (E : Value → Shared → Prop), Q (.int v t) { s with toks := tk } → wpAny (model prog w) A (eval (.Name x pos) env) Q E { s with toks := tk }) : IVal prog w A env s (.Name x pos) v :=
  fun tk Q E hq => h tk Q E (hq _ _)
theorem IVal.add (hl : IVal prog w A env s l a) (hr : IVal prog w A env s r b) : IVal prog w A env s (.BinOp l .Add r pos) (a + b) := fun tk Q E h =>
  wpAny_BinOp (hl tk _ E fun t tk' => hr tk' _ E fun u tk'' => add_int (h _ _))
theorem IVal.sub (hl : IVal prog w A env s l a) (hr : IVal prog w A env s r b) : IVal prog w A env s (.BinOp l .Sub r pos) (a - b) := fun tk Q E h =>
  wpAny_BinOp (hl tk _ E fun t tk' => hr tk' _ E fun u tk'' => sub_int (h _ _))
theorem IVal.mul (hl : IVal prog w A env s l a) (hr : IVal prog w A env s r b) (hm : IntMulOk a b) : IVal prog w A env s (.BinOp l .Mult r pos) (a * b) := fun tk Q E h =>
  wpAny_BinOp (hl tk _ E fun t tk' => hr tk' _ E fun u tk'' => mul_int (h _ _) hm)
theorem IVal.mod (hl : IVal prog w A env s l a) (hr : IVal prog w A env s r b) (hb : b ≠ 0) : IVal prog w A env s (.BinOp l .Mod r pos) (a.fmod b) := fun tk Q E h =>
  wpAny_BinOp (hl tk _ E fun t tk' => hr tk' _ E fun u tk'' => mod_int hb (h _ _))
theorem IVal.div (hl : IVal prog w A env s l a) (hr : IVal prog w A env s r b) (hb : b ≠ 0) (hs : b.natAbs < 1073741824) : IVal prog w A env s (.BinOp l .FloorDiv r pos) (a.fdiv b) := fun tk Q E h =>
  wpAny_BinOp (hl tk _ E fun t tk' => hr tk' _ E fun u tk'' => floordiv_int hb (h _ _) (Or.inl (PyProof.noPylong_small hs)))
theorem IVal.pow (hl : IVal prog w A env s l a) (hr : IVal prog w A env s r b) (hn : 0 ≤ b) (hn2 : b ≤ 1000000) (ha : a.natAbs < 2 ^ 64) : IVal prog w A env s (.BinOp l .Pow r pos) (a ^ b.toNat) := fun tk Q E h =>
  wpAny_BinOp (hl tk _ E fun t tk' => hr tk' _ E fun u tk'' => pow_int_small hn hn2 ha (h _ _))
theorem IntMulOk.small {a b : Int} (h1 : -(2 ^ 64) < b) (h2 : b < 2 ^ 64) : IntMulOk a b := IntMulOk.of_right (intBits_le_64 h1 h2)

section
variable {scope : Scope} {cl : List (Str × Addr)} {C c : Addr} {m : Str → Option Value} {x : Str} {t : Tok} {aenv : Env}
theorem IVal.nmL (hn : s.heap.Ns C m) (hv : m x = some (.int v t)) (hk : scope.kind = .function) (hx : (compEnvC scope cl C aenv).kindOf x = some .local) (hd : (x == ("__debug__" : Str)) = false) :
    IVal prog w A (compEnvC scope cl C aenv) s (.Name x pos) v := fun tk Q E h => Mine.nmL (s := { s with toks := tk }) hn hv (h _ _) hk hx hd
theorem IVal.nmF (hc : cl.lookup x = some c) (hcell : s.heap.IsCell c (some (.int v t))) (hk : scope.kind = .function) (hx : (compEnvC scope cl C aenv).kindOf x = some .free) (hb : (x == ("__debug__" : Str)) = false) (hn : (x == ("__classdict__" : Str)) = false) :
    IVal prog w A (compEnvC scope cl C aenv) s (.Name x pos) v := fun tk Q E h => Mine.nmF (s := { s with toks := tk }) hc hcell (h _ _) hk hx hb hn
theorem IVal.nmC (hc : cl.lookup x = some c) (hcell : s.heap.IsCell c (some (.int v t))) (hk : scope.kind = .function) (hx : (compEnvC scope cl C aenv).kindOf x = some .cell) (hb : (x == ("__debug__" : Str)) = false) :
    IVal prog w A (compEnvC scope cl C aenv) s (.Name x pos) v := fun tk Q E h => Mine.nmC (s := { s with toks := tk }) hc hcell (h _ _) hk hx hb
end
end
theorem fresh_back {H g h : Heap} {L' : Addr} {m' : Str → Option Value} {D : Addr} (G : GSub H g (([] : List (Addr × Obj)).map (·.1))) (F : Fr g L' h m') (e : h.get? D = none) : H.get? D = none := by
  cases hq : H.get? D with
  | none => rfl
  | some o => exact absurd (e.symm.trans (F.keep _ _ (G _ _ hq (fun q => nomatch q)))) (by nofun)
theorem fresh_ext {H h : Heap} {D : Addr} (x : Ext H h) (e : h.get? D = none) : H.get? D = none := by
  cases hq : H.get? D with
  | none => rfl
  | some o => exact absurd (e.symm.trans (x _ _ hq)) (by nofun)
end Mine
end

section -- Enter
open PySem PySem.W PyProof.Rows PySem.Calls PySem.Spec
namespace Mine
section
variable {prog : Program} {w : World} {A₀ A : Around} {s : Shared} {base h₀ : Heap} {outer : List Env} {L : Addr} {m : Str → Option Value} {env : Env} {news : List (Addr × Obj)} {K : Frag} {p : Program} {loose : List Str} {mean : ExcName → Option Value} {mg mb : Str → Option Value}
  {R : Result → Shared → Prop} {name qual : Str} {params : Arguments} {body : List Stmt} {scope : Scope} {dV kV doc pm cdv ct oc : Value} {an od : Option Addr} {osl : Array (Option Value)} {f : Addr} {args : Args}
theorem enterG (binds : List (Str × Value)) (B : Below A₀ base outer h₀) (F : Fr h₀ L s.heap m) (X₀ : K.In h₀) (N : News h₀ L s.heap news) (T : Top p loose mean mg mb h₀) (hA : A.frames = some (env :: outer)) (hf : env.frame = some L) (hke : env.scope.kind = .function)
    (ho : K.lookup f = some ⟨oc, od, .func (fnOf name qual params body scope dV kV doc pm an cdv ct), osl⟩) (hcd : codeIn K cdv qual = true) (hroom : A.depth < recursionLimit)
    (hbind : BindsTo s (fnOf name qual params body scope dV kV doc pm an cdv ct) args binds) (hloc : ∀ y ∈ binds, scope.names.lookup y.1 = some .local)
    (h : ∀ g L' h₁ tk, Fr h₀ L g m → Fr g L' h₁ (fun y => binds.reverse.lookup y) → News g L' h₁ news → Below A base (env :: outer) g → K.In g → Top p loose mean mg mb g → GSub s.heap g (news.map (·.1)) →
      wpAny (model prog w) (A.deeper (envOf qual scope L' f cdv)) (execs body (envOf qual scope L' f cdv))
        (fun fl s' => LeaveK h₀ L m g R (match fl with | .ret v => v | _ => .none) s')
        (fun e s' => wpAny (model prog w) (A.deeper (envOf qual scope L' f cdv)) (leaving (envOf qual scope L' f cdv) e) (fun _ s'' => R (.error e) s'') (fun e' s'' => R (.error e') s'') s')
        { s with heap := h₁, toks := tk })
    (hco : scope.isCoroutine = false) (hgen : scope.isGenerator = false) (hk : scope.kind = .function)
    (hcell : ∀ x ∈ scope.names, x.2 ≠ .cell) : codeAny (model prog w) A (.call (.ref f) args) R s :=
  code_defG B F X₀ N T hA hf hke ho hcd hroom hbind hloc (fun g L' h₁ FG F' N' B' X' T' G' => h g L' h₁ _ FG F' N' B' X' T' G') hco hgen hk hcell
end
end Mine
end

section -- Fold
open PySem PySem.W PyProof.Rows PySem.Calls PySem.Spec
namespace Mine
noncomputable def seqK (M : Model) (A : Around) (rest : List Stmt) (env : Env) (Q : Flow → Shared → Prop) (E : Value → Shared → Prop) (f : Flow) (s : Shared) : Prop := match f with | .next => wpAny M A (execs rest env) Q E s | f => Q f s
noncomputable def ifK (M : Model) (A : Around) (body orelse : List Stmt) (env : Env) (Q : Flow → Shared → Prop) (E : Value → Shared → Prop) (b : Bool) (s : Shared) : Prop := if b then wpAny M A (execs body env) Q E s else wpAny M A (execs orelse env) Q E s
noncomputable def truK (M : Model) (A : Around) (Q : Bool → Shared → Prop) (E : Value → Shared → Prop) (c : Value) (s : Shared) : Prop := wpAny M A (truthy c) Q E s
noncomputable def cmpK (M : Model) (A : Around) (op : CmpOp) (Q : Bool → Shared → Prop) (E : Value → Shared → Prop) (a b : Value) (s : Shared) : Prop := wpAny M A (compareOp op a b) (truK M A Q E) E s
noncomputable def cmqK (M : Model) (A : Around) (op : CmpOp) (r : PySem.Expr) (env : Env) (Q : Bool → Shared → Prop) (E : Value → Shared → Prop) (a : Value) (s : Shared) : Prop := wpAny M A (eval r env) (cmpK M A op Q E a) E s
noncomputable def binK (M : Model) (A : Around) (op : Operator) (Q : Value → Shared → Prop) (E : Value → Shared → Prop) (a b : Value) (s : Shared) : Prop := wpAny M A (binaryOp op a b) Q E s
noncomputable def biqK (M : Model) (A : Around) (op : Operator) (r : PySem.Expr) (env : Env) (Q : Value → Shared → Prop) (E : Value → Shared → Prop) (a : Value) (s : Shared) : Prop := wpAny M A (eval r env) (binK M A op Q E a) E s
section
variable {M : Model} {A : Around} {E : Value → Shared → Prop} {s : Shared} {hp : Heap} {tk : Nat} {env : Env} {Q : Flow → Shared → Prop} {st : Stmt} {rest body orelse : List Stmt} {v : Value} {b : Bool}
theorem seqK_n (h : wpAny M A (execs rest env) Q E s) : seqK M A rest env Q E .next s := h
theorem seqK_r (h : Q (.ret v) s) : seqK M A rest env Q E (.ret v) s := h
theorem seqK_b (h : Q .brk s) : seqK M A rest env Q E .brk s := h
theorem seqK_c (h : Q .cont s) : seqK M A rest env Q E .cont s := h
theorem ifK_t (h : wpAny M A (execs body env) Q E s) : ifK M A body orelse env Q E true s := h
theorem ifK_f (h : wpAny M A (execs orelse env) Q E s) : ifK M A body orelse env Q E false s := h
theorem ifK_o (h : if b then wpAny M A (execs body env) Q E s else wpAny M A (execs orelse env) Q E s) : ifK M A body orelse env Q E b s := h
theorem If_K {test : PySem.Expr} {pos : Pos} (h : wpAny M A (isTrue test env (eval test env)) (ifK M A body orelse env Q E) E s) : wpAny M A (exec (.If test body orelse pos) env) Q E s := wpAny_If h
theorem execs_consQ (h : let Q' := Q; ∀ tk', wpAny M A (exec st env) (seqK M A rest env Q' E) E ⟨hp, s.gens, s.drawn, tk', s.os⟩) :
    wpAny M A (execs (st :: rest) env) Q E ⟨hp, s.gens, s.drawn, tk, s.os⟩ := wpAny_execs_cons (h tk)
theorem execs_consG {g : Array GenState} {d : Drawn} {os : OsState} (h : let Q' := Q; ∀ tk', wpAny M A (exec st env) (seqK M A rest env Q' E) E ⟨hp, g, d, tk', os⟩) :
    wpAny M A (execs (st :: rest) env) Q E ⟨hp, g, d, tk, os⟩ := wpAny_execs_cons (h tk)
theorem execs_nilG {g : Array GenState} {d : Drawn} {os : OsState} (h : ∀ tk', Q .next ⟨hp, g, d, tk', os⟩) : wpAny M A (execs [] env) Q E ⟨hp, g, d, tk, os⟩ := wpAny_execs_nil (h tk)
theorem execs_nilQ (h : ∀ tk', Q .next ⟨hp, s.gens, s.drawn, tk', s.os⟩) : wpAny M A (execs [] env) Q E ⟨hp, s.gens, s.drawn, tk, s.os⟩ := wpAny_execs_nil (h tk)
end
section
variable {M : Model} {A : Around} {E : Value → Shared → Prop} {s : Shared} {env : Env} {a b c : Value}
theorem truK_ {Q : Bool → Shared → Prop} (h : wpAny M A (truthy c) Q E s) : truK M A Q E c s := h
theorem cmpK_ {op : CmpOp} {Q : Bool → Shared → Prop} (h : wpAny M A (compareOp op a b) (truK M A Q E) E s) : cmpK M A op Q E a b s := h
theorem cmqK_ {op : CmpOp} {r : PySem.Expr} {Q : Bool → Shared → Prop} (h : wpAny M A (eval r env) (cmpK M A op Q E a) E s) : cmqK M A op r env Q E a s := h
theorem Cmp_K {op : CmpOp} {l r : PySem.Expr} {pos : Pos} {whole : Sem Value} {Q : Bool → Shared → Prop} (h : wpAny M A (eval l env) (cmqK M A op r env Q E) E s) (hm : behindInMarks op r = false) : wpAny M A (isTrue (.Compare l [op] [r] pos) env whole) Q E s := wpAny_isTrue_Compare1 h hm
theorem binK_ {op : Operator} {Q : Value → Shared → Prop} (h : wpAny M A (binaryOp op a b) Q E s) : binK M A op Q E a b s := h
theorem biqK_ {op : Operator} {r : PySem.Expr} {Q : Value → Shared → Prop} (h : wpAny M A (eval r env) (binK M A op Q E a) E s) : biqK M A op r env Q E a s := h
theorem Bin_K {op : Operator} {l r : PySem.Expr} {pos : Pos} {Q : Value → Shared → Prop} (h : wpAny M A (eval l env) (biqK M A op r env Q E) E s) : wpAny M A (eval (.BinOp l op r pos) env) Q E s := wpAny_BinOp h
end
section
variable {M : Model} {A : Around} {E : Value → Shared → Prop} {h₀ hp : Heap} {g : Array GenState} {d : Drawn} {tk : Nat} {os : OsState} {L a : Addr} {m : Str → Option Value} {cn : Str} {cs : Scope} {ccd : Value} {cl : List (Str × Addr)} {x : Str} {v : Value} {Q : Unit → Shared → Prop} {news : List (Addr × Obj)} {z : Int} {t : Tok}
theorem storeX_LF (F : Fr h₀ L hp m) (N : News h₀ L hp news) (hk : cs.kind = .function) (hx : (envX cn cs L a ccd cl).kindOf x = some .local)
    (h : ∀ h', let m' : Str → Option Value := fun y => if y = x then some v else m y; Fr h₀ L h' m' → News h₀ L h' news → Q () ⟨h', g, d, tk + 1, os⟩) : wpAny M A (storeName (envX cn cs L a ccd cl) x v) Q E ⟨hp, g, d, tk, os⟩ :=
  storeX_L F N h hk hx
theorem storeX_LI (F : Fr h₀ L hp m) (N : News h₀ L hp news) (hk : cs.kind = .function) (hx : (envX cn cs L a ccd cl).kindOf x = some .local)
    (h : ∀ h' t, let m' : Str → Option Value := fun y => if y = x then some (.int z t) else m y; Fr h₀ L h' m' → News h₀ L h' news → Q () ⟨h', g, d, tk + 1, os⟩) : wpAny M A (storeName (envX cn cs L a ccd cl) x (.int z t)) Q E ⟨hp, g, d, tk, os⟩ :=
  storeX_L F N (fun h' => h h' t) hk hx
theorem storeX_LS {y : Str} (F : Fr h₀ L hp m) (N : News h₀ L hp news) (hk : cs.kind = .function) (hx : (envX cn cs L a ccd cl).kindOf x = some .local)
    (h : ∀ h' t, let m' : Str → Option Value := fun z => if z = x then some (.str y t) else m z; Fr h₀ L h' m' → News h₀ L h' news → Q () ⟨h', g, d, tk + 1, os⟩) : wpAny M A (storeName (envX cn cs L a ccd cl) x (.str y t)) Q E ⟨hp, g, d, tk, os⟩ :=
  storeX_L F N (fun h' => h h' t) hk hx
theorem letA {A₀ : Around} {env : Env} {body : List Stmt} {Q : Flow → Shared → Prop} {s : Shared} (h : let M' := M; let V' := env; let A' := A₀.deeper V'; wpAny M' A' (execs body V') Q E s) : wpAny M (A₀.deeper env) (execs body env) Q E s := h
theorem letM {G : Prop} (F : Fr h₀ L hp m) (h : let m' := m; Fr h₀ L hp m' → G) : G := h F
end
section
variable {prog : Program} {w : World} {A : Around} {E : Value → Shared → Prop} {K : Frag} {x C dx L : Addr} {h₀ hp : Heap} {g : Array GenState} {d : Drawn} {tk : Nat} {os : OsState} {m : Str → Option Value} {news : List (Addr × Obj)} {ox : Obj} {es es' : List DictEntry} {n n' : Nat} {name : Str} {v : Value} {Q : Unit → Shared → Prop}
theorem set_dictQ (F : Fr h₀ L hp m) (X₀ : K.In h₀) (N : News h₀ L hp news) (I : InstAt hp x ox C (some (dictOf es n))) (hd : ox.dict = some dx)
    (hs : findIn K (.ref C) "__setattr__" = some (some (.builtin "object.__setattr__"))) (hpl : plainOver K C = true) (ht : takerIn K C name = some none) (hh : hasDictIn K C = true) (hl : (getL name es).isSome = true)
    (e : (putL name (PyData.keyHash w.params name) (.str name (tk + 1)) v es, putN name es n) = (es', n')) (hz : es'.length ≤ 1000)
    (h : let e' := es'; ∃ news', Upd dx (dictOf es n) (dictOf e' n') news news' ∧ ∀ h' tk', Fr h₀ L h' m → News h₀ L h' news' → Q () ⟨h', g, d, tk', os⟩) :
    wpAny (model prog w) A (setAttr (.ref x) name v) Q E ⟨hp, g, d, tk, os⟩ :=
  let ⟨_, U, k⟩ := h
  set_dict (s := ⟨hp, g, d, tk, os⟩) F X₀ N I hd hs hpl ht hh hl e U hz fun h' F' N' => k h' _ F' N'
end
section
variable {prog : Program} {w : World} {A : Around} {E : Value → Shared → Prop} {K : Frag} {x C dx L a : Addr} {h₀ hp : Heap} {g : Array GenState} {d : Drawn} {tk : Nat} {os : OsState} {m : Str → Option Value} {news : List (Addr × Obj)} {es : List DictEntry} {n : Nat} {nm attr : Str} {np pos : Pos} {v : Value} {Q : Value → Shared → Prop} {cn : Str} {cs : Scope} {ccd : Value} {cl : List (Str × Addr)} {sl : Array (Option Value)} {at' : Option Value}
theorem attrX (F : Fr h₀ L hp m) (hvx : m nm = some (.ref x)) (X₀ : K.In h₀) (N : News h₀ L hp news) (h1 : (x, (⟨.ref C, some dx, .plain, sl⟩ : Obj)) ∈ news) (h2 : (dx, dictOf es n) ∈ news) (hg : plainGet K C attr = true) (hh : hasDictIn K C = true)
    (ha : findIn K (.ref C) attr = some at') (hn : noGet K at' = true) (hl : getL attr es = some (some v)) (hv : handedIn v = true) (hk : cs.kind = .function) (hx : (envX cn cs L a ccd cl).kindOf nm = some .local) (hd : (nm == ("__debug__" : Str)) = false)
    (h : Q v ⟨hp, g, d, tk + 1, os⟩) : wpAny (model prog w) A (eval (.Attribute (.Name nm np) attr pos) (envX cn cs L a ccd cl)) Q E ⟨hp, g, d, tk, os⟩ :=
  Attribute_name (nameX_L (s := ⟨hp, g, d, tk, os⟩) F hvx (get_own (s := ⟨hp, g, d, tk, os⟩) F X₀ (InstAt.of_news N h1 h2) hg hh ha hn hl hv h) hk hx hd)
end
theorem letD {h₀ h : Heap} {L dx : Addr} {es : List DictEntry} {n : Nat} {p0 : Addr × Obj} {tl : List (Addr × Obj)} {G : Prop} (N : News h₀ L h (p0 :: (dx, dictOf es n) :: tl)) (k : let e' := es; News h₀ L h (p0 :: (dx, dictOf e' n) :: tl) → G) : G := k N
theorem room0 {d n R : Nat} (h : d + n < R) : d < R := Nat.lt_of_le_of_lt (Nat.le_add_right d n) h
theorem room1 {d a n R : Nat} (h : d + n < R) (hk : a ≤ n) : d + a < R := by omega
theorem roomP {d a b R : Nat} (h : d + (a + b) < R) : d + a + b < R := by rw [Nat.add_assoc]; exact h
theorem units_under_kw (A : Around) (C : Addr) (vals : List Value) (kw : List (Str × Value)) : (A.under (.builtin "type.__call__" ⟨.ref C :: vals, kw⟩)).units = A.units + 1 := rfl
end Mine
end

namespace Mine
open PySem PySem.W PyProof.Rows PySem.Calls PySem.Spec
theorem fillAll : (K0 = K0) ∧ (PySem.Challenge.rw_oy0371_01 = PySem.Challenge.rw_oy0371_01) := by
  k_fill
  exact ⟨rfl, rfl⟩
end Mine
open PySem PySem.W PyProof.Rows PySem.Calls PySem.Spec Mine
local macro_rules | `(tactic| ktr_room) => `(tactic| first | exact room0 (by assumption) | ((repeat refine roomP ?_); exact room1 (by assumption) (by decide)) | ((have hcL9 := cLine_is); (try simp (zetaDelta := true) only [depth_under_make, depth_under_kw, depth_in1, depth_deeper, depth_caller, units_under_kw, units_in1, units_deeper, Around.mark_units, units_caller]); (try dsimp (zetaDelta := true) only [ktrTop]); omega))
local macro_rules | `(tactic| k_room) => `(tactic| ktr_room)
local macro_rules | `(tactic| ktr_units) => `(tactic| ktr_room)
local macro_rules | `(tactic| k_ne) => `(tactic| (refine neN ?_; (try dsimp only); first | (with_reducible assumption) | (refine Ne.symm ?_; with_reducible assumption) | omega))
local macro_rules | `(tactic| walk_at "storeName") => `(tactic| (k_here; k_dflt (first
  | (refine storeX_LI (by k_asm) (by k_asm) (by exact rfl) (by exact rfl) ?_; intro h' t' m' F' N')
  | (refine storeX_LS (by k_asm) (by k_asm) (by exact rfl) (by exact rfl) ?_; intro h' t' m' F' N')
  | (refine storeX_LF (by k_asm) (by k_asm) (by exact rfl) (by exact rfl) ?_; intro h' m' F' N')); (try k_sweep)))
local macro_rules | `(tactic| walk_at "eval Attribute Name") => `(tactic| (k_here; k_dflt (refine attrX (by k_asm) (by exact rfl) (by k_asm) (by k_asm) (by k_mem) (by k_mem) (by k_is) (by k_is) (by k_is) (by k_is) (by k_get) (by k_handed) (by exact rfl) (by exact rfl) (by decide) ?_)))
local macro_rules | `(tactic| walk_at "setAttr ref") => `(tactic| (k_here; k_dflt (refine set_dictQ (by k_asm) (by k_asm) (by k_asm) (by k_inst) (by exact rfl) (by k_is) (by k_is) (by k_is) (by k_is) (by k_get) (by k_put) (by exact Nat.le_of_ble_eq_true rfl) ?_; intro e'; refine ⟨_, by k_upd, ?_⟩; intro h' tk' F' N'; (try k_sweep))))
local macro_rules | `(tactic| walk_at "exec If") => `(tactic| refine If_K ?_)
local macro_rules | `(tactic| walk_at "isTrue Compare") => `(tactic| refine Cmp_K ?_ (by with_unfolding_all rfl))
local macro_rules | `(tactic| walk_at "eval BinOp") => `(tactic| refine Bin_K ?_)
local macro_rules | `(tactic| walk1) => `(tactic| with_reducible first | refine seqK_n ?_ | refine ifK_t ?_ | refine ifK_f ?_ | refine ifK_o ?_ | refine cmqK_ ?_ | refine cmpK_ ?_ | refine truK_ ?_ | refine biqK_ ?_ | refine binK_ ?_ | refine seqK_r ?_ | refine seqK_b ?_ | refine seqK_c ?_)
set_option hygiene false in
local macro_rules | `(tactic| walk_at "execs cons") => `(tactic| (k_here; (first | refine execs_consQ (s := s) ?_ | refine execs_consG ?_); intro Qk' tk'))
set_option hygiene false in
local macro_rules | `(tactic| walk_at "execs nil") => `(tactic| (k_here; (first | refine execs_nilQ (s := s) ?_ | refine execs_nilG ?_); intro tk'))
local macro_rules | `(tactic| walk_at "call type:type") => `(tactic| ((with_reducible show wpAny _ _ (call _ [Value.bytes _ _]) _ _ _); refine call_type_of (Tx := "bytes") rfl (by decide +kernel) ?_))

section -- Set1
open PySem PySem.W PyProof.Rows PySem.Calls PySem.Spec
namespace Mine
noncomputable def strV : Value → Str
  | .str x _ => x
  | _ => ""
theorem isStrOf_strV {k : Str} {v : Value} (h : Value.isStrOf k v = true) : strV v = k := by
  obtain ⟨t, rfl⟩ := Value.isStrOf_shape h
  rfl
theorem orStandIn_led (t : SetTable) (n : Nat) : (t.orStandIn n).led = t.led := by unfold SetTable.orStandIn; split <;> rfl
theorem layNew_led (t : SetTable) (es : Array (Int × Value)) (h : Int) (x : Value) : (layNew t es h x).2.1.led = t.led := by
  unfold layNew
  split
  · rename_i slot wasDummy _
    dsimp only [SetTable.put]
    rw [orStandIn_led]
  · rfl
theorem relayAll_led (t : SetTable) (es : Array (Int × Value)) (wanted : Nat) : (relayAll t es wanted).2.1.led = t.led := by
  unfold relayAll
  split
  · rename_i t' order h
    have : t'.led = t.led := by
      unfold SetTable.relaid SetTable.laid at h
      simp only [Option.bind_eq_bind, Option.bind_eq_some_iff] at h
      obtain ⟨o, _, h⟩ := h
      cases h
      rfl
    dsimp only
    split
    · exact this
    · rfl
  · rfl
theorem relayAll_plain (t : SetTable) (es : Array (Int × Value)) (wanted : Nat) (hp : t.plain = false) : (relayAll t es wanted).2.1.plain = false := by
  unfold relayAll
  split
  · rename_i t' order h
    have : t'.plain = t.plain := by
      unfold SetTable.relaid SetTable.laid at h
      simp only [Option.bind_eq_bind, Option.bind_eq_some_iff] at h
      obtain ⟨o, _, h⟩ := h
      cases h
      rfl
    dsimp only
    split
    · exact this.trans hp
    · rfl
  · rfl

noncomputable def SetObj (prog : Program) (w : World) (o : Obj) (led0 : Bool) (xs : List Str) : Prop :=
  ∃ es ep t, o.ExactSet ∧ o.data = .set es ep t ∧ ElemsOf (strKind prog w) es.toList ∧ t.fits es.size = true ∧ (es.toList.map fun e => strV e.2).Perm xs ∧ xs.Nodup ∧ t.led = led0 ∧ (0 < es.size → t.plain = false)

section
variable {prog : Program} {w : World} {A : Around} {E : Value → Shared → Prop} {s : Shared} {a : Addr} {o : Obj} {led0 : Bool} {xs : List Str}
theorem SetObj.size {es : Array (Int × Value)} (h : (es.toList.map fun e => strV e.2).Perm xs) : es.size = xs.length := by
  have := h.length_eq
  simpa using this
theorem setObj_idx {es : Array (Int × Value)} (hel : ElemsOf (strKind prog w) es.toList) (hp : (es.toList.map fun e => strV e.2).Perm xs) (x : Str) :
    (∃ e ∈ es.toList, Value.isStrOf x e.2 = true) ↔ x ∈ xs := by
  rw [← hp.mem_iff, List.mem_map]
  constructor
  · rintro ⟨e, he, hx⟩
    exact ⟨e, he, isStrOf_strV hx⟩
  · rintro ⟨e, he, rfl⟩
    obtain ⟨⟨k, hk, _⟩, _⟩ := hel e he
    refine ⟨e, he, ?_⟩
    have hk' : Value.isStrOf k e.2 = true := hk
    rw [isStrOf_strV hk']
    exact hk'
theorem setObj_fresh : SetObj prog w { cls := .type "set", dict := none, data := .set #[] 0 (.fresh 0 0 led0) } led0 [] :=
  ⟨#[], 0, _, ⟨rfl, rfl, rfl⟩, rfl, (fun e he => by simp at he), by rfl, List.Perm.nil, List.nodup_nil, rfl, fun h => absurd h (Nat.lt_irrefl _)⟩

theorem byScan_str {x : Str} {t : Tok} {es : Array (Int × Value)} (hb : es.size < scanBound) (hel : ElemsOf (strKind prog w) es.toList) : byScan (.str x t) es = true := byScan_of (x := .str x t) rfl hb hel

theorem store_set {h : Heap} {a : Addr} {o : Obj} {es : Array (Int × Value)} {ep : Nat} {t : SetTable} (ho : h.get? a = some o) (hd : o.data = .set es ep t) (es' : Array (Int × Value)) (t' : SetTable) :
    (h.update a (Obj.putSet es' t')).get? a = some { o with data := .set es' (ep + 1) t' } := by
  have := Heap.get?_update_self (Obj.putSet es' t') ho (by rw [putSet_of es' t' hd]; rfl)
  rw [putSet_of es' t' hd] at this; exact this

theorem setAdd_str {x : Str} {t : Tok} {Q : Bool → Shared → Prop} (ho : s.heap.get? a = some o) (hS : SetObj prog w o led0 xs) (hn : xs.length < 1000)
    (h : ∀ h' o', Heap.SameBut a s.heap h' → h'.get? a = some o' → SetObj prog w o' led0 (if x ∈ xs then xs else xs ++ [x]) → ∀ b, Q b { s with heap := h' }) :
    wpAny (model prog w) A (setAddHashed a (.str x t) (hashStr w x)) Q E s := by
  obtain ⟨es, ep, t0, hex, hd, hel, hf, hp, hnd, hled, hpl⟩ := hS
  have hsz := SetObj.size hp
  have hb : es.size < scanBound := by rw [hsz]; exact Nat.lt_trans hn (by decide)
  have hkey : (strKind prog w).is x (.str x t) = true := by show Value.isStrOf x (.str x t) = true; simp [Value.isStrOf]
  unfold setAddHashed setAddHashedIn
  refine wpAny_holding (wpAny_bind (wpAny_setState_of ho hd hf ?_))
  dsimp only
  rw [byScan_str hb hel]
  simp only [↓reduceIte]
  unfold setAddByScan
  refine wpAny_bind ?_
  refine wpAny_bind (wpAny_rule ?_)
  refine wpAny_bind (wpAny_setScan_of (knd := strKind prog w) hkey ho hd hf hel ?_)
  cases hr : List.findIdx? (fun e => (strKind prog w).is x e.2) es.toList with
  | some j =>
    dsimp only
    obtain ⟨hj, hpj, _⟩ := List.findIdx?_eq_some_iff_getElem.mp hr
    have hin : x ∈ xs := (setObj_idx hel hp x).mp ⟨es.toList[j], List.getElem_mem hj, hpj⟩
    refine wpAny_pure (wpAny_pure ?_)
    have e : s = { s with heap := s.heap } := by cases s; rfl
    rw [e]
    refine h s.heap o (Heap.SameBut.refl a s.heap) ho ?_ _
    rw [if_pos hin]
    exact ⟨es, ep, t0, hex, hd, hel, hf, hp, hnd, hled, hpl⟩
  | none =>
    dsimp only
    have hni : x ∉ xs := fun hin => by
      obtain ⟨e, he, hx⟩ := (setObj_idx hel hp x).mpr hin
      have := List.findIdx?_eq_none_iff.mp hr e he
      rw [show (strKind prog w).is x e.2 = true from hx] at this
      exact Bool.noConfusion this
    rw [if_neg hni] at h
    have hgw : ∀ (b : Bool) {s₁ : Shared} {Q' : Unit → Shared → Prop}, Q' () s₁ → wpAny (model prog w) A (match b with | true => rule "set.scan.the-table-gave-way" | false => pure ()) Q' E s₁ :=
      fun b s₁ Q' hq => by cases b <;> first | exact wpAny_pure hq | exact wpAny_rule hq
    have hperm := layNew_perm t0 es (hashStr w x) (.str x t)
    have hfits := layNew_fits t0 es (hashStr w x) (.str x t)
    have hled1 := layNew_led t0 es (hashStr w x) (.str x t)
    generalize hL : layNew t0 es (hashStr w x) (.str x t) = L at hperm hfits hled1 ⊢
    obtain ⟨es1, t1, wasDummy, gave⟩ := L
    dsimp only at hperm hfits hled1 ⊢
    rw [Array.toList_push] at hperm
    have hel1 : ElemsOf (strKind prog w) es1.toList := (hel.push hkey rfl).perm hperm
    have hp1 : (es1.toList.map fun e => strV e.2).Perm (xs ++ [x]) := by
      have e1 := hperm.map fun e : Int × Value => strV e.2
      rw [List.map_append] at e1
      exact e1.trans (hp.append_right _)
    have hnd1 : (xs ++ [x]).Nodup := by
      rw [List.nodup_append]
      exact ⟨hnd, List.nodup_cons.mpr ⟨List.not_mem_nil, List.nodup_nil⟩, fun u hu v hv e => by rw [List.mem_singleton] at hv; subst hv; exact hni (e ▸ hu)⟩
    have hsz1 := SetObj.size hp1
    have hb1 : es1.size < scanBound := by rw [hsz1, List.length_append]; exact Nat.lt_of_le_of_lt (Nat.succ_le_of_lt hn) (by decide)
    refine wpAny_bind (hgw _ ?_)
    have tail : ∀ t2 : SetTable, t2.fits es1.size = true → t2.led = led0 → t2.plain = false → ∀ {R : Option Bool → Shared → Prop},
        (∀ h' o', Heap.SameBut a s.heap h' → h'.get? a = some o' → SetObj prog w o' led0 (xs ++ [x]) → R (some true) { s with heap := h' }) →
        ∀ {g : Bool → Sem Unit}, (∀ (b : Bool) (s₁ : Shared) (Q' : Unit → Shared → Prop), Q' () s₁ → wpAny (model prog w) A (g b) Q' E s₁) →
        wpAny (model prog w) A (do
          storeSet a es1 t2
          if (!wasDummy && t2.tooFull) = true then do
              g (relayAll t2 es1 (SetTable.grown es1.size)).2.2
              storeSet a (relayAll t2 es1 (SetTable.grown es1.size)).1 (relayAll t2 es1 (SetTable.grown es1.size)).2.1
              pure (some true)
            else pure (some true)) R E s := by
      intro t2 hf2 hl2 hp2 R hR g hg
      refine wpAny_bind (wpAny_storeSet_of ho hd ?_ (fits_of_scanBound hb1))
      have ho1 := store_set ho hd es1 t2
      have hsb1 := Heap.SameBut.update s.heap a (Obj.putSet es1 t2)
      split
      · have hp' := relayAll_perm t2 es1 (SetTable.grown es1.size)
        have hfr := relayAll_fits t2 es1 (SetTable.grown es1.size)
        have hlr := relayAll_led t2 es1 (SetTable.grown es1.size)
        have hpr := relayAll_plain t2 es1 (SetTable.grown es1.size) hp2
        generalize hRl : relayAll t2 es1 (SetTable.grown es1.size) = Rl at hp' hfr hlr hpr ⊢
        obtain ⟨es2, t3, gave2⟩ := Rl
        dsimp only at hp' hfr hlr hpr ⊢
        have hsz2 : es2.size = es1.size := by rw [← Array.length_toList, hp'.length_eq, Array.length_toList]
        refine wpAny_bind (hg _ _ _ ?_)
        refine wpAny_bind (wpAny_storeSet_of ho1 rfl ?_ (fits_of_scanBound (by rw [hsz2]; exact hb1)))
        have ho2 := store_set ho1 rfl es2 t3
        exact wpAny_pure (hR _ _ (hsb1.trans (Heap.SameBut.update _ a _)) ho2 ⟨es2, ep + 1 + 1, t3, hex, rfl, hel1.perm hp', hfr, (hp'.map _).trans hp1, hnd1, hlr.trans hl2, fun _ => hpr⟩)
      · exact wpAny_pure (hR _ _ hsb1 ho1 ⟨es1, ep + 1, t2, hex, rfl, hel1, hf2, hp1, hnd1, hl2, fun _ => hp2⟩)
    split
    · refine wpAny_bind ?_
      rw [hashByValue_scannable 8 (x := .str x t) rfl]
      refine wpAny_pure ?_
      refine tail _ ?_ ?_ ?_ ?_ ?_
      · exact SetTable.fits_plain_off hfits
      · exact hled1.trans hled
      · rfl
      · intro h' o' hsb ho' hS'; dsimp only; exact wpAny_pure (h h' o' hsb ho' hS' _)
      · intro b s₁ Q' hq; cases b <;> first | exact wpAny_pure hq | exact wpAny_rule hq
    · rename_i hpf
      refine wpAny_bind (wpAny_pure ?_)
      simp only [↓reduceIte]
      refine tail _ hfits (hled1.trans hled) (by simpa using hpf) ?_ ?_
      · intro h' o' hsb ho' hS'; dsimp only; exact wpAny_pure (h h' o' hsb ho' hS' _)
      · intro b s₁ Q' hq; cases b <;> first | exact wpAny_pure hq | exact wpAny_rule hq
end
end Mine
end

section -- Enter2
open PySem PySem.W PyProof.Rows PySem.Calls PySem.Spec
namespace Mine
noncomputable abbrev anyTop (dp un : Nat) (fr : Option (List Env)) (gd : Option (List Code)) : Around := { handled := none, depth := dp, frames := fr, guards := gd, units := un }
section
variable {prog : Program} {w : World} {A : Around} {s : Shared} {K : Frag} {p : Program} {loose : List Str} {mean : ExcName → Option Value} {mg mb : Str → Option Value}
  {R : Result → Shared → Prop} {name qual : Str} {params : Arguments} {body : List Stmt} {scope : Scope} {dV kV doc pm cdv ct oc : Value} {an od : Option Addr} {osl : Array (Option Value)} {f : Addr} {args : Args}
theorem enterA (binds : List (Str × Value)) (X : K.In s.heap) (T : Top p loose mean mg mb s.heap)
    (ho : K.lookup f = some ⟨oc, od, .func (fnOf name qual params body scope dV kV doc pm an cdv ct), osl⟩) (hcd : codeIn K cdv qual = true) (hroom : A.depth < recursionLimit)
    (hbind : BindsTo s (fnOf name qual params body scope dV kV doc pm an cdv ct) args binds) (hloc : ∀ y ∈ binds, scope.names.lookup y.1 = some .local)
    (h : ∀ L' h₁ tk, Fr s.heap L' h₁ (fun y => binds.reverse.lookup y) → L' = s.heap.objs.size →
      wpAny (model prog w) (A.deeper (envOf qual scope L' f cdv)) (execs body (envOf qual scope L' f cdv))
        (fun fl s' => R (.ok (.ret (match fl with | .ret v => v | _ => .none))) s')
        (fun e s' => wpAny (model prog w) (A.deeper (envOf qual scope L' f cdv)) (leaving (envOf qual scope L' f cdv) e) (fun _ s'' => R (.error e) s'') (fun e' s'' => R (.error e') s'') s')
        { s with heap := h₁, toks := tk })
    (hco : scope.isCoroutine = false) (hgen : scope.isGenerator = false) (hk : scope.kind = .function)
    (hcell : ∀ x ∈ scope.names, x.2 ≠ .cell) : codeAny (model prog w) A (.call (.ref f) args) R s :=
  codeAny_call_def (fd := fnX name qual params body scope [] dV kV doc pm an cdv ct) (body := body) (binds := binds) hroom (X _ _ ho) rfl T.nolimit (codeRec_of X hcd) rfl hbind hcell hloc
    (fun h₁ hns hk₁ => h _ h₁ _ ⟨hns, hk₁, Nat.le_refl _⟩ rfl) hco hgen hk
end
end Mine
end

section -- Io1
open PySem PySem.W PyProof.Rows PySem.Calls PySem.Spec Builtin Builtin.ObjectAttr Builtin.Getset_descriptor
namespace Mine
section
variable {prog : Program} {w : World} {A : Around} {K : Frag} {C : Addr} {R : Result → Shared → Prop} {s : Shared}
structure NewBy (M : Model) (h : Heap) (C fN fI : Addr) : Prop where
  obj : ∃ oc od cd sl, h.get? C = some ⟨oc, od, .cls cd, sl⟩ ∧ cd.mro.isEmpty = false
  made : Looks M h (Bind.madeBy (.ref C)) none
  call : Looks M h (specialOf (.ref C) "__call__") (some (.builtin "type.__call__"))
  typ : Looks M h (isInstance (.ref C) (.type "type")) true
  init : Looks M h (typeLookup (.ref C) "__init__") (some (.ref fI))
  bind : ∀ self, Looks M h (bindSpecial (.ref fI) self) (.ref fI, [self])
  new : ∀ A Q E s, (∀ b o, h.get? b = some o → s.heap.get? b = some o) → (∀ tk, Q (.ref fN) { s with toks := tk }) → wpAny M A (getAttr (.ref C) "__new__") Q E s

theorem make_new {rest : List Value} {kw : List (Str × Value)} {fN fI : Addr} (Y : NewBy (model prog w) s.heap C fN fI)
    (hq : ∀ tk, wpAny (model prog w) (A.under (.builtin "type.__call__" ⟨.ref C :: rest, kw⟩)) (call (.ref fN) (.ref C :: rest) kw)
      (fun v s' => ∃ x, v = .ref x ∧ (∀ b o, s.heap.get? b = some o → s'.heap.get? b = some o) ∧ Looks (model prog w) s'.heap (typeOf (.ref x)) (.ref C) ∧ Looks (model prog w) s'.heap (isInstance (.ref x) (.ref C)) true ∧
        codeAny (model prog w) (A.under (.builtin "type.__call__" ⟨.ref C :: rest, kw⟩)) (.call (.ref fI) ⟨.ref x :: rest, kw⟩) (InitBack x R) s')
      (fun e s' => R (.error e) s') { s with toks := tk }) :
    codeAny (model prog w) A (.call (.ref C) ⟨rest, kw⟩) R s := by
  obtain ⟨hh, g, d, t, os⟩ := s
  obtain ⟨⟨oc, od, cd, sl, hC, e4⟩, made, call, typ, hi, hb, hn⟩ := Y
  dsimp only at hC made call typ hi hb hn hq
  refine codeAny_of_tree ?_
  show wpAny _ _ (callAny (.ref C) _) _ _ _
  refine nd_load hC ?_
  show wpAny _ _ (callAny.viaDunder (.ref C) _) _ _ _
  unfold callAny.viaDunder
  refine wpAny_bind (call.at ?_)
  dsimp only
  rw [tc_bind]
  refine wpAny_bind (wpAny_pure (wpAny_bind (wpAny_pure ?_)))
  refine wpAny_pure (a := Fin.again (.call (.builtin "type.__call__") ⟨.ref C :: rest, kw⟩)) (And.intro rfl ?_)
  refine codeAny_call_builtin_at (Code.quiet_builtin _ (by decide +kernel)) entry_typeCall (check_slot tc_kind tc_split typ (tc_args _ _ _) ?_)
  unfold Builtin.«type.__call__»
  have hm : Looks (model prog w) hh (mroOf (.ref C)) cd.mro := ((Looks.ld (part := none) hC).andThen .now).andThen .now
  repeat (first | (refine wpAny_ite_false (by first | rfl | (simp only [e4, Bool.false_eq_true, decide_false]; done)) ?_) | ((fail_if_success (with_reducible show wpAny _ _ (getAttr _ _ _) _ _ _)); lk))
  refine hn _ _ _ ⟨hh, g, d, t, os⟩ (fun _ _ e => e) fun tk => ?_
  refine wpAny_bind (wpAny_holding (wpAny_mono (hq tk) (fun v s' hv => ?_) fun _ _ z => z))
  obtain ⟨x, rfl, hk, ht, hi', hc⟩ := hv
  obtain ⟨h', g', d', t', os'⟩ := s'
  dsimp only at hk ht hi' hc
  have hi2 := hi.keeps hk
  have b2 := (hb (.ref x)).keeps hk
  refine wpAny_bind (hi'.at ?_)
  refine wpAny_ite_false (by rfl) ?_
  unfold callSpecial? specialOf
  repeat (first | with_reducible refine wpAny_call ?_ | lk)
  refine codeAny_mono hc fun r s' z => ?_
  rcases r with e | (v | _ | _ | _) <;> first | exact z | exact z.elim | skip
  obtain ⟨rfl, z⟩ := z
  exact wpAny_pure (wpAny_pure z)

theorem objnew {Q : Value → Shared → Prop} {E : Value → Shared → Prop} (base : Looks (model prog w) s.heap (Bind.staticBase (.ref C)) (.type "object")) (mo : Looks (model prog w) s.heap (Bind.madeBy (.type "object")) (some "object.__new__")) (hC : ∃ oc od cd sl, s.heap.get? C = some ⟨oc, od, .cls cd, sl⟩ ∧ cd.abstract = false ∧ cd.hasDel = false)
    (it : Looks (model prog w) s.heap (isType (.ref C)) true) (hT : Looks (model prog w) s.heap (isSubtype (.ref C) (.type "object")) true)
    (hq : Q (.ref (s.heap.objs.size + 1)) { s with heap := (s.heap.push emptyDict).push (instObj C s.heap.objs.size) }) :
    wpAny (model prog w) A (call (.builtin "object.__new__") [.ref C]) Q E s := by
  obtain ⟨h, g, d, t, os⟩ := s
  obtain ⟨oc, od, cd, sl, hC, e1, e2⟩ := hC
  dsimp only at base mo hC it hq hT
  refine wpAny_call ?_
  have F := PySem.F.objNew
  refine codeAny_call_builtin_code (Code.quiet_builtin _ F.quiet) ?_
  unfold checkBuiltinCall
  rw [F.kind, F.split, F.row]
  have args : Bind.checkArgs "object.__new__" ⟨.hand, "object.__new__", "__new__", .cls, []⟩ ⟨[.ref C], []⟩ = pure () := by kernel_rfl
  have argsL : Looks (model prog w) h (Bind.checkArgs "object.__new__" ⟨.hand, "object.__new__", "__new__", .cls, []⟩ ⟨[.ref C], []⟩) () := Looks.of_pure args
  dsimp only
  repeat (first | (refine wpAny_ite_false (by first | rfl | (simp only [Option.map_some, bne_self_eq_false, Bool.false_eq_true, decide_false]; done)) ?_) | lk)
  refine codeAny_builtin F.entry ?_
  unfold Builtin.«object.__new__»
  have hC2 := Heap.get?_push_of_some (instObj C h.objs.size) (Heap.get?_push_of_some emptyDict hC)
  have hz : (h.push emptyDict).objs.size = h.objs.size + 1 := Heap.size_push ..
  repeat (first | (refine wpAny_ite_false (by first | rfl | (simp only [e1, e2, Bool.false_eq_true, decide_false]; done)) ?_) | lk)
  all_goals (rw [Heap.size_push]; exact hq)
end
end Mine
end

section -- Io2
open PySem PySem.W PyProof.Rows PySem.Calls PySem.Spec Builtin Builtin.ObjectAttr Builtin.Getset_descriptor
namespace Mine
variable {w : World} {h : Heap}
theorem io_obj (X : (K0 w.params).In h) : h.get? 627 = some (o627 w.params) := X _ _ (by kernel_rfl)
theorem io_made (X : (K0 w.params).In h) : Looks (model pg w) h (Bind.madeBy (.ref 627)) none := Looks.of_peek X (by kernel_rfl)
theorem io_base (X : (K0 w.params).In h) : Looks (model pg w) h (Bind.staticBase (.ref 627)) (.type "object") := Looks.of_peek X (by kernel_rfl)
theorem io_mo (X : (K0 w.params).In h) : Looks (model pg w) h (Bind.madeBy (.type "object")) (some "object.__new__") := Looks.of_peek X (by kernel_rfl)
theorem io_call (X : (K0 w.params).In h) : Looks (model pg w) h (specialOf (.ref 627) "__call__") (some (.builtin "type.__call__")) := Looks.of_peek X (by kernel_rfl)
theorem io_typ (X : (K0 w.params).In h) : Looks (model pg w) h (isInstance (.ref 627) (.type "type")) true := Looks.of_peek X (by kernel_rfl)
theorem io_init (X : (K0 w.params).In h) : Looks (model pg w) h (typeLookup (.ref 627) "__init__") (some (.ref 397)) := Looks.of_peek X (by kernel_rfl)
theorem io_type (X : (K0 w.params).In h) : Looks (model pg w) h (isType (.ref 627)) true := Looks.of_peek X (by kernel_rfl)
theorem io_top (X : (K0 w.params).In h) : Looks (model pg w) h (isSubtype (.ref 627) (.type "object")) true := Looks.of_peek X (by kernel_rfl)
theorem io_self (X : (K0 w.params).In h) : Looks (model pg w) h (isSubtype (.ref 627) (.ref 627)) true := Looks.of_peek X (by kernel_rfl)
theorem news_two {h₀ h : Heap} {L : Addr} {p q : Addr × Obj} {r : List (Addr × Obj)} (N : News h₀ L h (p :: q :: r)) : News h₀ L h [p, q] := fun x hx => N x (by
  rcases List.mem_cons.mp hx with rfl | hx
  · exact .head _
  · rw [List.mem_singleton] at hx; subst hx; exact .tail _ (.head _))
theorem inst_type {M : Model} {h : Heap} {x d C : Addr} (hx : h.get? x = some (instObj C d)) : Looks M h (typeOf (.ref x)) (.ref C) := (Looks.ld hx).andThen .now
theorem io_is {h : Heap} {x d : Addr} (X : (K0 w.params).In h) (hx : h.get? x = some (instObj 627 d)) : Looks (model pg w) h (isInstance (.ref x) (.ref 627)) true := (inst_type hx).andThen (io_self X)
theorem io_objnew {A : Around} {s : Shared} {h₀ : Heap} {L : Addr} {m : Str → Option Value} {news : List (Addr × Obj)} {Q : Value → Shared → Prop} {E : Value → Shared → Prop} (F : Fr h₀ L s.heap m) (N : News h₀ L s.heap news) (X₀ : (K0 w.params).In h₀)
    (hq : ∀ x dx h', Fr h₀ L h' m → News h₀ L h' ((x, instObj 627 dx) :: (dx, dictOf [] 0) :: news) → (∀ p ∈ news, p.1 < dx) → dx < x → Q (.ref x) { s with heap := h' }) :
    wpAny (model pg w) A (call (.builtin "object.__new__") [.ref 627]) Q E s := by
  have X := Frag.In.keeps X₀ F.keep
  have F1 := F.push emptyDict
  have N1 := N.push F emptyDict
  have N2 := N1.push F1 (instObj 627 s.heap.objs.size)
  refine objnew (io_base X) (io_mo X) ⟨_, _, _, _, io_obj X, rfl, rfl⟩ (io_type X) (io_top X) ?_
  have e : (s.heap.push emptyDict).objs.size = s.heap.objs.size + 1 := Heap.size_push ..
  rw [← e]
  exact hq _ _ _ (F1.push _) N2 (fun p hp => Heap.lt_size (N p hp).1) (by rw [e]; exact Nat.lt_succ_self _)
theorem io_new (X : (K0 w.params).In h) : NewBy (model pg w) h 627 120 397 where
  obj := ⟨_, _, _, _, io_obj X, rfl⟩
  made := io_made X
  call := io_call X
  typ := io_typ X
  init := io_init X
  bind := fun self => bind_fn X self (by kernel_rfl)
  new := fun A Q E s k hq => by
    have X' : (K0 w.params).In s.heap := Frag.In.keeps X k
    exact cls_bind (mc := .type "type") (g := .builtin "staticmethod.__get__") (a := .ref 124) (obj := .none) (tp := .ref 627) X' (by kernel_rfl) (by kernel_rfl) (wpAny_call (sm_get (rest := []) (s := { s with toks := s.toks + 1 }) X' (by kernel_rfl) (handed_on rfl (hq _))))
end Mine
end

section -- Enter3
open PySem PySem.W PyProof.Rows PySem.Calls PySem.Spec
namespace Mine
theorem wp_peekA {α : Type} {K : Frag} {M : Model} {A : Around} {E : Value → Shared → Prop} {Q : α → Shared → Prop} {s : Shared} {o : Obj} (X : K.In s.heap) :
    ∀ (t : Sem α) (g : Addr → Sem α), peekA K ⟨M.prog, M.w.params⟩ t = some (o, g) → wpAny M A (g s.heap.objs.size) Q E { s with heap := s.heap.push o } → wpAny M A t Q E s := by
  intro t
  induction t with
  | rule _ k ih => intro g e q Γ p hΓ; exact ih () g e q Γ p hΓ
  | point _ k ih => intro g e q Γ p hΓ; exact ih () g e q Γ p hΓ
  | ask k ih => intro g e q Γ p hΓ; exact ih _ g e q Γ p hΓ
  | load a _ k ih =>
    intro g e q Γ p hΓ
    simp only [peekA] at e
    split at e
    · rename_i ob ho; exact ⟨ob, X _ _ ho, ih ob g e q Γ p hΓ⟩
    · cases e
  | alloc ob k _ =>
    intro g e q
    have e : some (ob, k) = some (o, g) := e
    obtain ⟨e1, e2⟩ := Prod.mk.inj (Option.some.inj e)
    subst e1
    subst e2
    show wpAny M A (alloc ob >>= k) Q E s
    exact wpAny_bind (wpAny_alloc q)
  | _ => intro g e; cases e
theorem none_back {H g : Heap} {D : Addr} {l : List Addr} (G : GSub H g l) (hn : D ∉ l) (e : g.get? D = none) : H.get? D = none := by
  cases q : H.get? D with
  | none => rfl
  | some o => have := G D o q hn; rw [e] at this; cases this
noncomputable abbrev tupObj (vs : List Value) : Obj := { cls := .type "tuple", data := .seq vs.toArray }
section
variable {prog : Program} {w : World} {A₀ A : Around} {s : Shared} {base h₀ : Heap} {outer : List Env} {L : Addr} {m : Str → Option Value} {env : Env} {news : List (Addr × Obj)} {K : Frag} {p : Program} {loose : List Str} {mean : ExcName → Option Value} {mg mb : Str → Option Value}
  {R : Result → Shared → Prop} {name qual : Str} {params : Arguments} {body : List Stmt} {scope : Scope} {dV kV doc pm cdv ct oc : Value} {an od : Option Addr} {osl : Array (Option Value)} {f : Addr} {args : Args}
theorem enterBoth (front : List (Str × Value)) (nr nm : Str) (vs : List Value) {g₁ : Addr → Sem (List (Str × Value))} {g₂ : Addr → Addr → Sem (List (Str × Value))}
    (B : Below A₀ base outer h₀) (F : Fr h₀ L s.heap m) (X₀ : K.In h₀) (N : News h₀ L s.heap news) (T : Top p loose mean mg mb h₀) (hA : A.frames = some (env :: outer)) (hf : env.frame = some L) (hke : env.scope.kind = .function)
    (ho : K.lookup f = some ⟨oc, od, .func (fnOf name qual params body scope dV kV doc pm an cdv ct), osl⟩) (hcd : codeIn K cdv qual = true) (hroom : A.depth < recursionLimit)
    (hp : peekA K ⟨prog, w.params⟩ (bindArgs (fnOf name qual params body scope dV kV doc pm an cdv ct) args) = some (tupObj vs, g₁))
    (hp₂ : ∀ D, peekA K ⟨prog, w.params⟩ (g₁ D) = some (dictOf [] 0, g₂ D))
    (hk₂ : ∀ C D, g₂ C D = pure (front ++ [(nr, Value.ref C)] ++ [(nm, Value.ref D)]))
    (hloc : ∀ C D, ∀ y ∈ front ++ [(nr, Value.ref C)] ++ [(nm, Value.ref D)], scope.names.lookup y.1 = some .local)
    (h : ∀ C D g L' h₁ tk, Fr h₀ L g m → Fr g L' h₁ (fun y => (front ++ [(nr, Value.ref C)] ++ [(nm, Value.ref D)]).reverse.lookup y) → (∀ p ∈ news, p.1 < C) → C < D → s.heap.objs.size ≤ C → (∀ p ∈ (D, dictOf [] 0) :: (C, tupObj vs) :: news, p.1 < L') →
      News g L' h₁ ((D, dictOf [] 0) :: (C, tupObj vs) :: news) → Below A base (env :: outer) g → K.In g → Top p loose mean mg mb g → GSub s.heap g (news.map (·.1)) →
      wpAny (model prog w) (A.deeper (envOf qual scope L' f cdv)) (execs body (envOf qual scope L' f cdv))
        (fun fl s' => LeaveK h₀ L m g R (match fl with | .ret v => v | _ => .none) s')
        (fun e s' => wpAny (model prog w) (A.deeper (envOf qual scope L' f cdv)) (leaving (envOf qual scope L' f cdv) e) (fun _ s'' => R (.error e) s'') (fun e' s'' => R (.error e') s'') s')
        { s with heap := h₁, toks := tk })
    (hco : scope.isCoroutine = false) (hgen : scope.isGenerator = false) (hk : scope.kind = .function)
    (hcell : ∀ x ∈ scope.names, x.2 ≠ .cell) : codeAny (model prog w) A (.call (.ref f) args) R s := by
  refine codeAny_call_function (fd := fnOf name qual params body scope dV kV doc pm an cdv ct) (body := body) hroom ((X₀.keeps F.keep) _ _ ho) rfl hco hgen rfl (codeRec_of (X₀.keeps F.keep) hcd) ?_
  have F1 := F.push (tupObj vs)
  have N1 : News h₀ L (s.heap.push (tupObj vs)) ((s.heap.objs.size, tupObj vs) :: news) := N.push F _
  have F2 := F1.push (dictOf [] 0)
  have N2 : News h₀ L ((s.heap.push (tupObj vs)).push (dictOf [] 0)) (((s.heap.push (tupObj vs)).objs.size, dictOf [] 0) :: (s.heap.objs.size, tupObj vs) :: news) := N1.push F1 _
  refine wp_peekA (o := tupObj vs) (X₀.keeps F.keep) _ g₁ hp ?_
  refine wp_peekA (o := dictOf [] 0) (s := { s with heap := s.heap.push (tupObj vs) }) (X₀.keeps F1.keep) _ _ (hp₂ _) ?_
  rw [hk₂]
  refine wpAny_pure ?_
  have hsz : (s.heap.push (tupObj vs)).objs.size = s.heap.objs.size + 1 := Heap.size_push ..
  obtain ⟨FG, BG, st, lv⟩ := groundX (s := { s with heap := (s.heap.push (tupObj vs)).push (dictOf [] 0) }) (R := R) B F2 N2 hA hf hke
  have up : ∀ b o, s.heap.get? b = some o → ((s.heap.push (tupObj vs)).push (dictOf [] 0)).get? b = some o := fun b o e => Heap.get?_push_of_some _ (Heap.get?_push_of_some _ e)
  refine wpAny_newFunctionEnv hcell (hloc _ _) (fun h₁ hns hsb => ⟨(T.nolimit.keeps F2.keep).fresh _ hsb, codeAny_func ?_⟩) hk
  have hk₁ : ∀ b o, ((s.heap.push (tupObj vs)).push (dictOf [] 0)).get? b = some o → h₁.get? b = some o := fun b o e => hsb.extBut b o (Nat.ne_of_lt (Heap.lt_size e)) (Heap.get?_push_of_some _ e)
  exact wpAny_mono (h _ _ _ _ h₁ _ FG ⟨hns, fun b o e => hk₁ b o (of_hideAll _ e), Nat.le_of_eq (hideAll_size _ _)⟩ (fun p hp => Heap.lt_size (N p hp).1) (by rw [hsz]; exact Nat.lt_succ_self _) (Nat.le_refl _) (fun p hp => Heap.lt_size (N2 p hp).1)
    (fun p hp => ⟨hk₁ _ _ (N2 p hp).1, Nat.ne_of_lt (Heap.lt_size (N2 p hp).1), hideAll_none _ (List.mem_map_of_mem hp)⟩) BG (X₀.keeps st) (T.keeps st) (fun b o e n => hideAll_get _ (up b o e) fun hm => by
      simp only [List.map_cons, List.mem_cons] at hm
      rcases hm with rfl | rfl | hm
      · have this : (s.heap.push (tupObj vs)).objs.size < s.heap.objs.size := Heap.lt_size e
        rw [hsz] at this
        exact absurd this (Nat.not_lt.mpr (Nat.le_succ _))
      · exact Nat.lt_irrefl _ (Heap.lt_size e)
      · exact n hm)) (fun fl s' hl => lv _ _ hl) fun _ _ y => y
theorem news_add2 {h₀ h h' : Heap} {L i d : Addr} {m : Str → Option Value} {news : List (Addr × Obj)} {oi od : Obj} (F : Fr h₀ L h m) (N : News h₀ L h news) (x : ∀ b o, h.get? b = some o → h'.get? b = some o) (q1 : h'.get? i = some oi) (q2 : h'.get? d = some od) (f1 : h.get? i = none) (f2 : h.get? d = none) :
    News h₀ L h' ((i, oi) :: (d, od) :: news) := by
  have hL : ∀ b, h.get? b = none → b ≠ L := fun b e q => by
    obtain ⟨o, es, ep, ho, _⟩ := F.ns
    rw [q, ho] at e; cases e
  have h0 : ∀ b, h.get? b = none → h₀.get? b = none := fun b e => by
    cases q : h₀.get? b with
    | none => rfl
    | some o => rw [F.keep _ _ q] at e; cases e
  intro p hp
  rcases List.mem_cons.mp hp with rfl | hp
  · exact ⟨q1, hL _ f1, h0 _ f1⟩
  · rcases List.mem_cons.mp hp with rfl | hp
    · exact ⟨q2, hL _ f2, h0 _ f2⟩
    · exact ⟨x _ _ (N p hp).1, (N p hp).2⟩
theorem call_put {h₀ h h' : Heap} {L d : Addr} {m : Str → Option Value} {news : List (Addr × Obj)} {od od' : Obj} {g : Obj → List (Addr × Obj)} (F : Fr h₀ L h m) (N : News h₀ L h news) (U : UpdF d od news g) (x : ∀ b o, b ≠ d → h.get? b = some o → h'.get? b = some o) (q : h'.get? d = some od') :
    Fr h₀ L h' m ∧ News h₀ L h' (g od') := by
  obtain ⟨pre, post, rfl, hg, h1, h2⟩ := U.split
  have hd := N (d, od) (List.mem_append_right _ (.head _))
  refine ⟨⟨F.ns.at fun o e => x _ o (Ne.symm hd.2.1) e, fun b o e => x b o (fun z => ?_) (F.keep b o e), F.above⟩, ?_⟩
  · rw [z, hd.2.2] at e; cases e
  · rw [hg]
    intro p hp
    rcases List.mem_append.mp hp with hp | hp
    · exact ⟨x _ _ (h1 p hp) (N p (List.mem_append_left _ hp)).1, (N p (List.mem_append_left _ hp)).2⟩
    · rcases List.mem_cons.mp hp with rfl | hp
      · exact ⟨q, hd.2⟩
      · exact ⟨x _ _ (h2 p hp) (N p (List.mem_append_right _ (.tail _ hp))).1, (N p (List.mem_append_right _ (.tail _ hp))).2⟩
theorem news_pick2 {h₀ h : Heap} {L : Addr} {a b : Addr × Obj} {news : List (Addr × Obj)} (N : News h₀ L h news) (h1 : a ∈ news) (h2 : b ∈ news) : News h₀ L h [a, b] := fun p hp => N p (by
  rcases List.mem_cons.mp hp with rfl | hp
  · exact h1
  · rw [List.mem_singleton] at hp; subst hp; exact h2)
theorem news_below {h₀ h : Heap} {L d : Addr} {news : List (Addr × Obj)} (N : News h₀ L h news) (hd : h.objs.size < d) : ∀ p ∈ news, p.1 < d := fun p hp => Nat.lt_trans (Heap.lt_size (N p hp).1) hd
end
end Mine
end

-- units

section -- E8
open PySem PySem.W PyProof.Rows PySem.Calls PySem.Spec
namespace Mine

noncomputable abbrev ioD (w : World) (k1 k2 k3 : Tok) (x : Str) (t : Tok) (p : Int) (tp : Tok) : List DictEntry :=
  [⟨PyData.keyHash w.params (Str.ofString "_StringIO__newline"), .str (Str.ofString "_StringIO__newline") k1, .str (Str.ofString "\n") 801⟩,
   ⟨PyData.keyHash w.params (Str.ofString "_StringIO__buf"), .str (Str.ofString "_StringIO__buf") k2, .str x t⟩,
   ⟨PyData.keyHash w.params (Str.ofString "_StringIO__pos"), .str (Str.ofString "_StringIO__pos") k3, .int p tp⟩]
theorem spec_io {w : World} {mean : ExcName → Option Value} {mg mb : Str → Option Value} {dp un : Nat} {gd : Option (List Code)} {cn : Str} {cs : Scope} {a : Addr} {ccd : Value} {cl : List (Str × Addr)} {outer : List Env} {A₀ : Around} {base h₀ : Heap} {L : Addr} {m : Str → Option Value} {s : Shared} {Q : Value → Shared → Prop} {E : Value → Shared → Prop} {x : Str} {t : Tok}
    (B : Below A₀ base outer h₀) (F : Fr h₀ L s.heap m) (X : (K0 w.params).In h₀) (T : Top topProg lo2 mean mg mb h₀) (hk : cs.kind = .function) (hd : dp + 6 < recursionLimit) (hu : un + 60 < cLine)
    (hret : ∀ tk' h' i d k1 k2 k3 tp, Ext s.heap h' → h'.get? i = some (instObj 627 d) → h'.get? d = some (dictOf (ioD w k1 k2 k3 x t 0 tp) (nat_lit 3)) → s.heap.get? i = none → s.heap.get? d = none → s.heap.objs.size < d → d < i → Q (.ref i) { s with heap := h', toks := tk' }) :
    wpAny (model PySem.Challenge.rw_oy0371_01.row.prog w) (ktrTop dp un gd cn cs L a ccd cl outer) (call (.ref (nat_lit 627)) [.str x t]) Q E s := by
  have N : News h₀ L s.heap [] := News.nil
  w_on
  w_strict (
    refine wpAny_call (make_new (io_new (Frag.In.keeps X (Fr.keep F))) fun tk9 => ?_)
    refine wpAny_call ?_
    refine' enterBoth [(Str.ofString "cls", .ref 627)] (Str.ofString "args") (Str.ofString "kwargs") [.str x t] ?k1 ?k2 ?k3 ?k4 ?k5 ?kA ?kF ?kK ?k6 ?k7 ?k8 ?kR ?kP ?kT ?kB ?_ ?c2 ?c3 ?c4 ?c5; (case kA => exact rfl); (case kF => exact rfl); (case kK => first | exact rfl | assumption); (case k1 => k_asm); (case k2 => k_asm); (case k3 => k_asm); (case k4 => k_asm); (case k5 => k_asm); (case k6 => k_is); (case k7 => k_is); (case k8 => ktr_room); (case kR => exact rfl); (case kP => exact fun _ => rfl); (case kT => exact fun _ _ => rfl); (case kB => exact fun _ _ => locs rfl); (case c5 => decide); (case c2 => exact rfl); (case c3 => exact rfl); (case c4 => exact rfl); k_whole; intro C' D' g' L' h' tk' FG' F' l1 l2 l0 l3 N' B' X' T' G'; (try k_lt l1); (try k_lt2 l2); (try dsimp only); (try k_fold)
    repeat' (first | (k_unfold; (try dsimp only)) | ((fail_if_success (with_reducible show LeaveK _ _ _ _ _ _ _)); first | ((with_reducible show wpAny _ _ (call (Value.builtin "object.__new__") _ _) _ _ _); k_here; k_dflt (refine io_objnew (by k_asm) (by k_asm) (by k_asm) ?_; k_whole); intro _ _ _ _ _ l7 l8; (try k_lt l7); (try k_lt2 l8)) | walk1 | (dsimp only; walk1)))
    try dsimp only
    rename_i xA dA hA FA NA
    refine leaveK_ (by assumption) (news_two (by assumption)) (fun kF kN => ?_)
    have kX := Frag.In.keeps X (Fr.keep kF)
    refine ⟨_, rfl, fun b o e => Fr.keep (by assumption) b o (G' b o e (fun q => nomatch q)), inst_type (kN _ (.head _)).1, io_is kX (kN _ (.head _)).1, ?_⟩
    have e1 : Ext s.heap hA := fun b o e => Fr.keep FA b o (G' b o e (fun q => nomatch q))
    have hsz9 : s.heap.objs.size < dA := Nat.lt_of_le_of_lt l0 l7.2
    have fx := none_back G' (fun q => nomatch q) (NA _ (.head _)).2.2
    have fd := none_back G' (fun q => nomatch q) (NA _ (.tail _ (.head _))).2.2
    clear F' N' X' T' FG' B' G'
    k_dflt (refine' enterG [(Str.ofString "self", .ref xA), (Str.ofString "initial_value", .str x t), (Str.ofString "newline", .str (Str.ofString "\n") 801)] ?k1 ?k2 ?k3 ?k4 ?k5 ?kA ?kF ?kK ?k6 ?k7 ?k8 ?k9 ?kB ?_ ?c2 ?c3 ?c4 ?c5; (case kA => exact rfl); (case kF => exact rfl); (case kK => assumption); (case k1 => k_asm); (case k2 => k_asm); (case k3 => k_asm); (case k4 => k_asm); (case k5 => k_asm); (case k6 => k_is); (case k7 => k_is); (case k8 => ktr_room); (case k9 => first | exact BindsTo.of_eq rfl | exact binds_K (by k_in) rfl (by k_is) rfl rfl rfl); (case c5 => decide); (case kB => exact locs rfl); (case c2 => exact rfl); (case c3 => exact rfl); (case c4 => exact rfl); k_whole; intro g' L' h' tk' FG' F' N' B' X' T' G'; (try dsimp only); (try (refine letA ?_; intro M' V' A')); (try k_fold))
    repeat' (first | (k_unfold; (try dsimp only)) | ((with_reducible show wpAny _ _ (call (Value.builtin "object.__new__") _ _) _ _ _); k_here; k_dflt (refine io_objnew (by k_asm) (by k_asm) (by k_asm) ?_; k_whole); intro _ _ _ _ _ l7 l8; (try k_lt l7); (try k_lt2 l8)) | walk1 | (dsimp only; walk1))
    rename Fr g' _ _ _ => FZ
    rename News h₀ _ _ _ => kNZ
    refine hret _ _ xA dA _ _ _ _ (fun b o e => Fr.keep FZ b o (G' b o (e1 b o e) fun hb => ?_)) (kNZ _ (.head _)).1 (kNZ _ (.tail _ (.head _))).1 fx fd hsz9 l8
    simp only [List.map_cons, List.map_nil, List.mem_cons, List.not_mem_nil, or_false] at hb
    rcases hb with rfl | rfl
    · rw [show s.heap.get? _ = none from fx] at e; cases e
    · rw [show s.heap.get? _ = none from fd] at e; cases e)
end Mine
end

section -- Loop
open PySem PySem.W PyProof.Rows PySem.Calls PySem.Spec
namespace Mine
section
variable {prog : Program} {w : World} {A : Around} {E : Value → Shared → Prop} {Q : Flow → Shared → Prop} {s : Shared} {env : Env} {h₀ : Heap} {L : Addr}
theorem While_M {test : PySem.Expr} {body : List Stmt} {pos : Pos} {m : Str → Option Value} {news : List (Addr × Obj)} (J : Nat → List (Addr × Obj) → Prop) {n₀ : Nat}
    (F : Fr h₀ L s.heap m) (N : News h₀ L s.heap news) (hJ : J n₀ news)
    (turn : ∀ n news₁ h₁ tk₁, Fr h₀ L h₁ m → News h₀ L h₁ news₁ → J n news₁ →
      wpAny (model prog w) A (isTrue test env (eval test env)) (fun b s₂ =>
        if b = true then wpAny (model prog w) A (execs body env) (WhileStep h₀ L s (fun n m₁ news₁ => m₁ = m ∧ J n news₁) n) E s₂ else Q .next s₂) E { s with heap := h₁, toks := tk₁ })
    (hE : PassesOwn (model prog w) A env E := by passes_own) :
    wpAny (model prog w) A (exec (.While test body [] pos) env) Q E s :=
  While_inv (fun n m₁ news₁ => m₁ = m ∧ J n news₁) F N ⟨rfl, hJ⟩ (by rintro n m₁ news₁ h₁ tk₁ F₁ N₁ ⟨rfl, hj⟩; exact turn n news₁ h₁ tk₁ F₁ N₁ hj) hE
end
end Mine
end

section -- Tests
open PySem PySem.W PyProof.Rows PySem.Calls PySem.Spec
namespace Mine
section
variable {prog : Program} {w : World} {A : Around} {env : Env} {s : Shared} {e l r : PySem.Expr} {a b : Int} {x y : Bool} {pos : Pos}
noncomputable def BVal (prog : Program) (w : World) (A : Around) (env : Env) (s : Shared) (e : PySem.Expr) (x : Bool) : Prop :=
  ∀ tk (Q : Bool → Shared → Prop) (E : Value → Shared → Prop), (∀ tk', Q x { s with toks := tk' }) → wpAny (model prog w) A (isTrue e env (eval e env)) Q E { s with toks := tk }
theorem BVal.use {Q E} (h : BVal prog w A env s e x) (hQ : ∀ tk', Q x { s with toks := tk' }) : wpAny (model prog w) A (isTrue e env (eval e env)) Q E s := h s.toks Q E hQ
theorem BVal.eq (hl : IVal prog w A env s l a) (hr : IVal prog w A env s r b) (hm : behindInMarks .Eq r = false := by with_unfolding_all rfl) : BVal prog w A env s (.Compare l [.Eq] [r] pos) (a == b) := fun tk Q E h =>
  wpAny_isTrue_Compare1 (hl tk _ E fun t tk' => hr tk' _ E fun u tk'' => eq_int (wpAny_truthy_bool (h _))) hm
theorem BVal.le (hl : IVal prog w A env s l a) (hr : IVal prog w A env s r b) (hm : behindInMarks .LtE r = false := by with_unfolding_all rfl) : BVal prog w A env s (.Compare l [.LtE] [r] pos) (decide (a ≤ b)) := fun tk Q E h =>
  wpAny_isTrue_Compare1 (hl tk _ E fun t tk' => hr tk' _ E fun u tk'' => PyProof.Rows.le_int (wpAny_truthy_bool (h _))) hm
theorem BVal.and2 {f g : PySem.Expr} (hf : BVal prog w A env s f x) (hg : BVal prog w A env s g y) : BVal prog w A env s (.BoolOp .And [f, g] pos) (x && y) := fun tk Q E h =>
  wpAny_isTrue_BoolOp (wpAny_allTrue_And_cons (hf tk _ E fun tk' => by
    cases x with
    | false => exact h _
    | true => exact wpAny_allTrue_And_cons (hg tk' _ E fun tk'' => by
        cases y with
        | false => exact h _
        | true => exact wpAny_allTrue_And_nil (h _))))
theorem item_lastL {value slice : PySem.Expr} {l : Addr} {vi : List Value} {v : Value} {u : Tok} {Q : Value → Shared → Prop} {E : Value → Shared → Prop} (hl : s.heap.IsList l (vi ++ [v]).toArray) (h : Q v s)
    (hs : subscripted slice false (.ref l) (.int (-1) u) = operate [.ref l, .int (-1) u] (getItem (.ref l) (.int (-1) u)) := by with_unfolding_all rfl) :
    wpAny (model prog w) A (subscriptTail value slice (.ref l) (.int (-1) u)) Q E s :=
  tail_any hl.typeIs slot_list_getitem.lookup (wpAny_getItem_list_neg hl (by decide) (by simp; omega) (by decide) (by
    have e : ((-1 : Int) + ((vi ++ [v]).toArray.size : Int)).toNat = vi.length := by simp; omega
    rw [e]; simp) h) hs
theorem intsAre_append {vs us : List Value} {ys zs : List Int} (h : IntsAre vs ys) (h' : IntsAre us zs) : IntsAre (vs ++ us) (ys ++ zs) := IntsAre.append h h'
theorem intsAre_last {vs : List Value} {ys : List Int} {z : Int} (h : IntsAre vs (ys ++ [z])) : ∃ us t, vs = us ++ [.int z t] := by
  induction ys generalizing vs with
  | nil => cases h with | cons n t h' => cases h'; exact ⟨[], t, rfl⟩
  | cons y ys ih => cases h with | cons n t h' => obtain ⟨us, t', rfl⟩ := ih h'; exact ⟨_ :: us, t', rfl⟩
theorem intsAre_len {vs : List Value} {ys : List Int} (h : IntsAre vs ys) : vs.length = ys.length := by
  induction h with
  | nil => rfl
  | cons n t _ ih => simp [ih]
end
end Mine
end

section -- E9
open PySem PySem.W PyProof.Rows PySem.Calls PySem.Spec
namespace Mine

noncomputable def nextC (x : Str) (p : Nat) : Str := ⟨((x.cps.toList.drop p).take 1).toArray⟩
noncomputable def nextP (x : Str) (p : Nat) : Nat := if p < x.length then p + 1 else p
theorem nextC_slice {x : Str} {p : Nat} {j : Int} (hp : p < x.length) (hj : j = (p : Int) + 1) : Txt.slice x (some (p : Int)) (some j) = nextC x p := by
  subst hj
  have hl : x.cps.toList.length = x.length := by simp [Str.length]
  have h := eq_of_beq (slice_closes (x := x) (i := (p : Int)) (j := (p : Int) + 1) ⟨by omega, by omega, by rw [hl]; omega⟩)
  rw [h]
  unfold nextC
  have e1 : ((p : Int) + 1 - (p : Int)).toNat = 1 := by omega
  rw [e1, Int.toNat_natCast]
theorem keep_but {H g h' : Heap} {L' i d : Addr} {m' : Str → Option Value} {oi : Obj} (G : GSub H g [i, d]) (F : Fr g L' h' m') (e1 : H.get? i = some oi) (e2 : h'.get? i = some oi) : ∀ b o, b ≠ d → H.get? b = some o → h'.get? b = some o := by
  intro b o hb e
  by_cases hi : b = i
  · subst hi; rw [e1] at e; cases e; exact e2
  · exact F.keep b o (G b o e (by simp [hi, hb]))
theorem nextC_end {x : Str} {p : Nat} (hp : x.length ≤ p) : nextC x p = Str.ofString "" := by
  unfold nextC
  rw [List.drop_of_length_le (by simpa [Str.length] using hp)]
  rfl
theorem spec_read {w : World} {mean : ExcName → Option Value} {mg mb : Str → Option Value} {dp un : Nat} {gd : Option (List Code)} {cn : Str} {cs : Scope} {a : Addr} {ccd : Value} {cl : List (Str × Addr)} {outer : List Env} {A₀ : Around} {base h₀ : Heap} {L : Addr} {m : Str → Option Value} {s : Shared} {Q : Value → Shared → Prop} {E : Value → Shared → Prop} {i d : Addr} {k1 k2 k3 t tp u : Tok} {x : Str} {p : Nat}
    (B : Below A₀ base outer h₀) (F : Fr h₀ L s.heap m) (X : (K0 w.params).In h₀) (T : Top topProg lo2 mean mg mb h₀) (hk : cs.kind = .function) (N : News h₀ L s.heap [(i, instObj 627 d), (d, dictOf (ioD w k1 k2 k3 x t (p : Int) tp) (nat_lit 3))]) (hdi : d < i) (hp : p ≤ x.length) (hx : x.length ≤ 1048576) (hd : dp + 6 < recursionLimit) (hu : un + 60 < cLine)
    (hret : ∀ tk' h' tp', (∀ b o, b ≠ d → s.heap.get? b = some o → h'.get? b = some o) → h'.get? d = some (dictOf (ioD w k1 k2 k3 x t (nextP x p : Int) tp') (nat_lit 3)) → ∀ t', Q (.str (nextC x p) t') { s with heap := h', toks := tk' }) :
    wpAny (model PySem.Challenge.rw_oy0371_01.row.prog w) (ktrTop dp un gd cn cs L a ccd cl outer) (call (.ref (nat_lit 573)) [.ref i, .int 1 u]) Q E s := by
  dsimp only [ioD] at N
  k_lt2 hdi
  w_on
  w_strict (
    refine wpAny_call ?_
    k_dflt (refine' enterG [(Str.ofString "self", .ref i), (Str.ofString "size", .int 1 u)] ?k1 ?k2 ?k3 ?k4 ?k5 ?kA ?kF ?kK ?k6 ?k7 ?k8 ?k9 ?kB ?_ ?c2 ?c3 ?c4 ?c5; (case kA => exact rfl); (case kF => exact rfl); (case kK => assumption); (case k1 => k_asm); (case k2 => k_asm); (case k3 => k_asm); (case k4 => k_asm); (case k5 => k_asm); (case k6 => k_is); (case k7 => k_is); (case k8 => ktr_room); (case k9 => first | exact BindsTo.of_eq rfl | exact binds_K (by k_in) rfl (by k_is) rfl rfl rfl); (case c5 => decide); (case kB => exact locs rfl); (case c2 => exact rfl); (case c3 => exact rfl); (case c4 => exact rfl); k_whole; intro g' L' h' tk' FG' F' N' B' X' T' G'; (try dsimp only); (try (refine letA ?_; intro M' V' A')); (try k_fold))
    repeat' (first | (k_unfold; (try dsimp only)) | walk1 | (dsimp only; walk1))
    · rename Fr g' _ _ _ => FZ
      rename News h₀ _ _ _ => NZ
      have e := fun tk9 t9 => hret tk9 _ tp (keep_but G' FZ (N _ (.head _)).1 (NZ _ (.head _)).1) (by
        have hnp : nextP x p = p := by unfold nextP; rw [if_neg (by omega)]
        rw [hnp]
        exact (NZ _ (.tail _ (.head _))).1) t9
      rw [nextC_end (by omega)] at e
      exact e _ _
    all_goals
      rename Fr g' _ _ _ => FZ
      rename News h₀ _ _ _ => NZ
      have hlt : p < x.length := by omega
      rw [nextC_slice hlt (by omega)]
      have hdZ : Heap.get? _ d = some (dictOf (ioD w k1 k2 k3 x t _ _) (nat_lit 3)) := (NZ _ (.tail _ (.head _))).1
      have hkZ := keep_but G' FZ (N _ (.head _)).1 (NZ _ (.head _)).1
      first
      | (rw [← show ((nextP x p : Nat) : Int) = (p : Int) + 1 by unfold nextP; rw [if_pos hlt]; omega] at hdZ
         exact hret _ _ _ hkZ hdZ _)
      | (rw [← show ((nextP x p : Nat) : Int) = (x.length : Int) by unfold nextP; rw [if_pos hlt]; omega] at hdZ
         exact hret _ _ _ hkZ hdZ _))
end Mine
end

section -- Plain3
open PySem
namespace Mine
inductive LSt where
  | sp | wd | q1 | q2
noncomputable def lexFin (q : Bool) (tok : List Nat) : Option (List Nat) := if q = false ∧ tok = [] then none else some tok
noncomputable def lexBad (c : Nat) : Bool := c == 92 || c == 9 || c == 10 || c == 13
noncomputable def lexTok : LSt → Bool → List Nat → List Nat → Option (Option (List Nat) × Option LSt × List Nat)
  | .sp, q, tok, [] => some (lexFin q tok, none, [])
  | .wd, q, tok, [] => some (lexFin q tok, none, [])
  | .q1, _, _, [] => none
  | .q2, _, _, [] => none
  | st, q, tok, c :: r =>
    if lexBad c then none else
    match st with
    | .sp => if c = 32 then (if q = false ∧ tok = [] then lexTok .sp q tok r else some (lexFin q tok, some .sp, r)) else if c = 39 then lexTok .q1 q tok r else if c = 34 then lexTok .q2 q tok r else lexTok .wd q [c] r
    | .wd => if c = 32 then (if q = false ∧ tok = [] then lexTok .sp q tok r else some (lexFin q tok, some .sp, r)) else if c = 39 then lexTok .q1 q tok r else if c = 34 then lexTok .q2 q tok r else lexTok .wd q (tok ++ [c]) r
    | .q1 => if c = 39 then lexTok .wd true tok r else lexTok .q1 true (tok ++ [c]) r
    | .q2 => if c = 34 then lexTok .wd true tok r else lexTok .q2 true (tok ++ [c]) r
noncomputable def tokAt : Option LSt → List Nat → Option (Option (List Nat) × Option LSt × List Nat)
  | none, [] => some (none, none, [])
  | none, _ :: _ => none
  | some st, r => lexTok st false [] r
inductive LexTo : Option LSt → List Nat → List (List Nat) → Prop
  | done {st r st' r'} : tokAt st r = some (none, st', r') → LexTo st r []
  | more {st r x st' r' ws} : tokAt st r = some (some x, st', r') → LexTo st' r' ws → LexTo st r (x :: ws)

noncomputable def inQ (x : List Nat) : List Nat := x.flatMap fun c => if c = 39 then [39, 34, 39, 34, 39] else [c]
theorem inQ_cons (c : Nat) (x : List Nat) : inQ (c :: x) = (if c = 39 then [39, 34, 39, 34, 39] else [c]) ++ inQ x := rfl
theorem lex_wd {q : Bool} (r : List Nat) : ∀ (x tok : List Nat), (∀ c ∈ x, lexBad c = false ∧ c ≠ 32 ∧ c ≠ 39 ∧ c ≠ 34) → lexTok .wd q tok (x ++ r) = lexTok .wd q (tok ++ x) r
  | [], tok, _ => by simp
  | c :: x, tok, h => by
    obtain ⟨h1, h2, h3, h4⟩ := h c (.head _)
    have e : lexTok .wd q tok (c :: (x ++ r)) = lexTok .wd q (tok ++ [c]) (x ++ r) := by simp [lexTok, h1, h2, h3, h4]
    rw [List.cons_append, e, lex_wd r x (tok ++ [c]) fun d hd => h d (.tail _ hd), List.append_assoc]
    rfl
theorem lex_q1 (r : List Nat) : ∀ (x tok : List Nat), (∀ c ∈ x, lexBad c = false) → lexTok .q1 true tok (inQ x ++ r) = lexTok .q1 true (tok ++ x) r
  | [], tok, _ => by simp [inQ]
  | c :: x, tok, h => by
    have h1 := h c (.head _)
    rw [inQ_cons]
    by_cases hc : c = 39
    · subst hc
      rw [if_pos rfl]
      have e : lexTok .q1 true tok (39 :: 34 :: 39 :: 34 :: 39 :: (inQ x ++ r)) = lexTok .q1 true (tok ++ [39]) (inQ x ++ r) := by simp [lexTok, lexBad]
      show lexTok .q1 true tok (39 :: 34 :: 39 :: 34 :: 39 :: (inQ x ++ r)) = _
      rw [e, lex_q1 r x (tok ++ [39]) fun d hd => h d (.tail _ hd), List.append_assoc]
      rfl
    · rw [if_neg hc]
      have e : lexTok .q1 true tok (c :: (inQ x ++ r)) = lexTok .q1 true (tok ++ [c]) (inQ x ++ r) := by simp [lexTok, h1, hc]
      show lexTok .q1 true tok (c :: (inQ x ++ r)) = _
      rw [e, lex_q1 r x (tok ++ [c]) fun d hd => h d (.tail _ hd), List.append_assoc]
      rfl
theorem lex_q1_any {q : Bool} {tok : List Nat} (c : Nat) (r : List Nat) : lexTok .q1 q tok (c :: r) = lexTok .q1 true tok (c :: r) := by simp [lexTok]
noncomputable def quoteL (p : Nat → Bool) (x : List Nat) : List Nat := if x.all p then x else 39 :: (inQ x ++ [39])
noncomputable def joinL (p : Nat → Bool) : List (List Nat) → List Nat
  | [] => []
  | [x] => quoteL p x
  | x :: y :: ws => quoteL p x ++ 32 :: joinL p (y :: ws)
theorem lex_sp_wd {x r : List Nat} (hx : x ≠ []) (h : ∀ c ∈ x, lexBad c = false ∧ c ≠ 32 ∧ c ≠ 39 ∧ c ≠ 34) : lexTok .sp false [] (x ++ r) = lexTok .wd false x r := by
  cases x with
  | nil => exact absurd rfl hx
  | cons c x =>
    obtain ⟨h1, h2, h3, h4⟩ := h c (.head _)
    have e : lexTok .sp false [] (c :: (x ++ r)) = lexTok .wd false [c] (x ++ r) := by simp [lexTok, h1, h2, h3, h4]
    rw [List.cons_append, e, lex_wd r x [c] fun d hd => h d (.tail _ hd)]
    rfl
theorem lex_sp_q {x r : List Nat} (h : ∀ c ∈ x, lexBad c = false) : lexTok .sp false [] (39 :: (inQ x ++ [39]) ++ r) = lexTok .wd true x r := by
  have e : lexTok .sp false [] (39 :: (inQ x ++ [39]) ++ r) = lexTok .q1 false [] (inQ x ++ (39 :: r)) := by simp [lexTok, lexBad]
  rw [e]
  have e2 : lexTok .q1 false [] (inQ x ++ (39 :: r)) = lexTok .q1 true [] (inQ x ++ (39 :: r)) := by
    cases hq : inQ x ++ (39 :: r) with
    | nil => simp at hq
    | cons c l => exact lex_q1_any c l
  rw [e2, lex_q1 (39 :: r) x [] h]
  simp [lexTok, lexBad]
theorem lex_word {p : Nat → Bool} (hp : ∀ c, p c = true → lexBad c = false ∧ c ≠ 32 ∧ c ≠ 39 ∧ c ≠ 34) {x : List Nat} (hx : x ≠ []) (hb : ∀ c ∈ x, lexBad c = false) (r : List Nat) :
    ∃ q, lexTok .sp false [] (quoteL p x ++ r) = lexTok .wd q x r := by
  unfold quoteL
  by_cases h : x.all p = true
  · rw [if_pos h]
    exact ⟨false, lex_sp_wd hx fun c hc => hp c (List.all_eq_true.mp h c hc)⟩
  · rw [if_neg h]
    exact ⟨true, lex_sp_q hb⟩
theorem lexFin_word {q : Bool} {x : List Nat} (hx : x ≠ []) : lexFin q x = some x := by
  unfold lexFin
  rw [if_neg fun h => hx h.2]
theorem lex_join {p : Nat → Bool} (hp : ∀ c, p c = true → lexBad c = false ∧ c ≠ 32 ∧ c ≠ 39 ∧ c ≠ 34) : ∀ {ws : List (List Nat)}, (∀ x ∈ ws, x ≠ [] ∧ ∀ c ∈ x, lexBad c = false) → LexTo (some .sp) (joinL p ws) ws
  | [], _ => .done (st' := none) (r' := []) (by simp [joinL, tokAt, lexTok, lexFin])
  | [x], h => by
    obtain ⟨hx, hb⟩ := h x (.head _)
    obtain ⟨q, e⟩ := lex_word hp hx hb []
    rw [List.append_nil] at e
    refine .more (st' := none) (r' := []) (x := x) ?_ (.done (st' := none) (r' := []) rfl)
    show lexTok .sp false [] (quoteL p x) = _
    rw [e]
    show some (lexFin q x, none, []) = _
    rw [lexFin_word hx]
  | x :: y :: ws, h => by
    obtain ⟨hx, hb⟩ := h x (.head _)
    obtain ⟨q, e⟩ := lex_word hp hx hb (32 :: joinL p (y :: ws))
    refine .more (st' := some .sp) (r' := joinL p (y :: ws)) (x := x) ?_ (lex_join hp fun z hz => h z (.tail _ hz))
    show lexTok .sp false [] (quoteL p x ++ 32 :: joinL p (y :: ws)) = _
    rw [e]
    simp [lexTok, lexBad, hx, lexFin_word hx]
end Mine
end

section -- Dq1
open PySem PySem.W PyProof.Rows PySem.Calls PySem.Spec
namespace Mine
noncomputable abbrev dqT : String := "collections.deque"
theorem mro_dq : mroOf (.type "collections.deque") = pure [.type "collections.deque", .type "object"] := by rw [mroOf_type]; kernel_rfl
theorem lookup_dq_new : typeLookup (.type "collections.deque") "__new__" = pure (some (.builtin "collections.deque.__new__")) := by rw [typeLookup_type, builtinLookup_eq_fast]; kernel_rfl
theorem slot_dq_init : Slot "collections.deque" "__init__" "collections.deque.__init__" :=
  .of (owner := "collections.deque") (n := "__init__") (by rw [typeLookup_type, builtinLookup_eq_fast]; kernel_rfl) (by decide +kernel) (by decide +kernel) (by decide +kernel)
    (by first | exact .inl (by decide +kernel) | exact .inr (by decide +kernel)) (by rw [isSubtype_type]; kernel_rfl)
theorem slot_dq_len : Slot "collections.deque" "__len__" "collections.deque.__len__" :=
  .of (owner := "collections.deque") (n := "__len__") (by rw [typeLookup_type, builtinLookup_eq_fast]; kernel_rfl) (by decide +kernel) (by decide +kernel) (by decide +kernel)
    (by first | exact .inl (by decide +kernel) | exact .inr (by decide +kernel)) (by rw [isSubtype_type]; kernel_rfl)
theorem noBool_dq : typeLookup (.type "collections.deque") "__bool__" = pure none := by rw [typeLookup_type, builtinLookup_eq_fast]; kernel_rfl
theorem sub_dq : isSubtype (.type "collections.deque") (.type "collections.deque") = pure true := by rw [isSubtype_type]; kernel_rfl
theorem called_dq : TypeCalled "collections.deque" "collections.deque.__new__" "collections.deque.__init__" :=
  ⟨by decide +kernel, by decide +kernel, ⟨_, _, mro_dq⟩, madeBy_type mro_dq lookup_dq_new (by decide +kernel), by decide +kernel, sub_dq, slot_dq_init⟩
theorem typeCall_dq : checkTypeCall "collections.deque" ⟨[], []⟩ = pure () := by kernel_rfl
theorem newCall_dq : checkBuiltinCall "collections.deque.__new__" ⟨[.type "collections.deque"], []⟩ = pure () := by kernel_rfl
theorem entry_dq_new : entryFor table "collections.deque.__new__" = some Builtin.«collections.deque.__new__» := entryFor_of_tree (by kernel_rfl)
theorem entry_dq_init : entryFor table "collections.deque.__init__" = some Builtin.«collections.deque.__init__» := entryFor_of_tree (by kernel_rfl)
theorem entry_dq_len : entryFor table "collections.deque.__len__" = some Builtin.«collections.deque.__len__» := entryFor_of_tree (by kernel_rfl)
theorem args_dq_init (a : Value) : argsOk "collections.deque.__init__" ⟨[a], []⟩ := by unfold argsOk; kernel_rfl
theorem args_dq_len (a : Value) : argsOk "collections.deque.__len__" ⟨[a], []⟩ := by unfold argsOk; kernel_rfl
noncomputable abbrev dqObj : Obj := { cls := .type "collections.deque", data := .fields #[.none, .int 0 0] }
theorem dq_isType : isType (.type "collections.deque") = pure true := by kernel_rfl
theorem meets_dq_new : Meets (Builtin.«collections.deque.__new__» ⟨[.type "collections.deque"], []⟩) (fun _ R s => R (.ok (.ret (.ref s.heap.objs.size))) { s with heap := s.heap.push dqObj }) := by
  refine Meets.of_wp fun prog w A R s hs => ?_
  have h1 := dq_isType
  have h2 := sub_dq
  unfold Builtin.«collections.deque.__new__» Builtin.Deque.newArgs
  obtain ⟨hp, g, d, tk, os⟩ := s
  dsimp only at hs
  have fin : ∀ {Q E}, Q (.ref hp.objs.size) ⟨hp.push dqObj, g, d, tk, os⟩ → wpAny (model prog w) A.in1 (Builtin.Deque.new (.type "collections.deque") #[] none) Q E ⟨hp, g, d, tk, os⟩ := by
    intro Q E hq
    unfold Builtin.Deque.new
    rw [if_neg (by decide)]
    refine wpAny_bind (wpAny_pure ?_)
    exact wpAny_newObj_type hq
  refine wpAny_bind ?_
  refine wpAny_mono (Q := fun r s' => r = (.type "collections.deque", []) ∧ s' = ⟨hp, g, d, tk, os⟩) (E := fun _ _ => False) ?_ ?_ (fun _ _ z => z.elim)
  · dsimp only
    refine wpAny_bind (wpAny_of_eq dq_isType ?_)
    simp only [Bool.not_true, Bool.false_eq_true, if_false]
    refine wpAny_bind ?_
    refine wpAny_of_eq sub_dq ?_
    exact wpAny_pure ⟨rfl, rfl⟩
  · rintro r s' ⟨rfl, rfl⟩
    exact wpAny_bind (fin (wpAny_pure ⟨_, rfl, hs⟩))
section
variable {prog : Program} {w : World} {A : Around} {E : Value → Shared → Prop} {s : Shared} {D : Addr}
theorem dq_init {R : Value → Shared → Prop} (ho : s.heap.get? D = some dqObj) (h : ∀ h', Heap.SameBut D s.heap h' → h'.get? D = some dqObj → R .none { s with heap := h' }) :
    wpAny (model prog w) A (Builtin.«collections.deque.__init__» ⟨[.ref D], []⟩) (fun fin s' => ∃ v, fin = .done (.ret v) ∧ R v s') E s := by
  unfold Builtin.«collections.deque.__init__»
  dsimp only
  show wpAny _ _ (setField (.ref D) 0 .none >>= _) _ _ _
  refine wpAny_bind (wpAny_setField ho rfl (by decide) ?_)
  have hg : (s.heap.update D (Obj.mapFields (·.setIfInBounds 0 .none))).get? D = some dqObj := Heap.get?_update_self _ ho rfl
  have hs := Heap.SameBut.update s.heap D (Obj.mapFields (·.setIfInBounds 0 .none))
  unfold Builtin.Deque.clear Builtin.Deque.items
  refine wpAny_bind (wpAny_bind (wpAny_bind (wpAny_fieldsOf hg rfl (wpAny_pure ?_))))
  refine wpAny_pure ?_
  exact wpAny_bind (wpAny_pure (wpAny_pure ⟨_, rfl, h _ hs hg⟩))
theorem call_dq {Q : Value → Shared → Prop} (h : ∀ h', (∀ b o, s.heap.get? b = some o → h'.get? b = some o) → h'.get? s.heap.objs.size = some dqObj → Q (.ref s.heap.objs.size) { s with heap := h' }) :
    wpAny (model prog w) A (call (.type "collections.deque") []) Q E s := by
  refine callType_meets (Q₁ := fun obj s₁ => obj = .ref s.heap.objs.size ∧ s₁ = { s with heap := s.heap.push dqObj }) called_dq typeCall_dq newCall_dq entry_dq_new entry_dq_init meets_dq_new ⟨rfl, rfl⟩ ?_
  rintro obj s₁ ⟨rfl, rfl⟩
  have hg : (s.heap.push dqObj).get? s.heap.objs.size = some dqObj := Heap.get?_push_size _ rfl
  refine ⟨⟨dqObj, hg, rfl⟩, args_dq_init _, fun A R s => s.heap.get? _ = some dqObj ∧ ∀ h', Heap.SameBut _ s.heap h' → h'.get? _ = some dqObj → R (.ok (.ret .none)) { s with heap := h' },
    Meets.of_wp fun prog w A R s hs => wpAny_mono (dq_init (R := fun v s' => R (.ok (.ret v)) s') (E := fun e s' => R (.error e) s') hs.1 hs.2) (fun _ _ z => z) (fun _ _ z => z), hg, fun h' hsb hg' => ⟨rfl, h h' (fun b o e => ?_) hg'⟩⟩
  exact hsb.extBut b o (Nat.ne_of_lt (Heap.lt_size e)) (Heap.get?_push_of_some _ e)
theorem dq_K {h₀ : Heap} {L : Addr} {m : Str → Option Value} {news : List (Addr × Obj)} {Q : Value → Shared → Prop} (F : Fr h₀ L s.heap m) (N : News h₀ L s.heap news)
    (h : ∀ D h', Fr h₀ L h' m → News h₀ L h' ((D, dqObj) :: news) → (∀ p ∈ news, p.1 < D) → Q (.ref D) { s with heap := h' }) : wpAny (model prog w) A (call (.type "collections.deque") []) Q E s := by
  refine call_dq fun h' hk hg => h _ h' (F.keeps hk) (fun p hp => ?_) fun p hp => Heap.lt_size (N p hp).1
  have F1 := F.push dqObj
  have N1 := N.push F dqObj
  rcases List.mem_cons.mp hp with rfl | hp
  · exact ⟨hg, (N1 _ (.head _)).2⟩
  · exact ⟨hk _ _ (N p hp).1, (N p hp).2⟩
theorem len_body_dq {Q : Value → Shared → Prop} (ho : s.heap.get? D = some dqObj) (h : Q (.int 0 (s.toks + 1)) { s with toks := s.toks + 1 + 1 }) :
    wpAny (model prog w) A (Builtin.«len» ⟨[.ref D], []⟩) (fun fin s' => ∃ r, fin = .done (.ret r) ∧ Q r s') E s := by
  have hT : s.TypeIs (.ref D) "collections.deque" := ⟨dqObj, ho, rfl⟩
  unfold Builtin.«len»
  refine wpAny_bind (m := oneArg "len" _) (wpAny_pure ?_)
  refine wpAny_bind (m := callSpecial? (.ref D) (Str.ofString "__len__")) (wpAny_callSpecial?_slot (name := Str.ofString "__len__") hT slot_dq_len
    (wpAny_call_entry slot_dq_len hT entry_dq_len ?_ (args_dq_len _)))
  unfold Builtin.«collections.deque.__len__» Builtin.Deque.size
  refine wpAny_bind (m := slotArgs "__len__" 0 _) (wpAny_pure ?_)
  refine wpAny_bind (wpAny_bind (wpAny_fieldsOf ho rfl (wpAny_pure ?_)))
  refine wpAny_bind (wpAny_mkInt (wpAny_pure ⟨_, rfl, ?_⟩))
  refine wpAny_bind (wpAny_holding (wpAny_pure ?_))
  refine wpAny_bind (wpAny_letGo ?_)
  exact wpAny_bind (wpAny_mkInt (wpAny_pure ⟨_, rfl, h⟩))
theorem truthy_dq {Q : Bool → Shared → Prop} (ho : s.heap.get? D = some dqObj) (h : Q false { s with toks := s.toks + 1 + 1 }) : wpAny (model prog w) A (truthy (.ref D)) Q E s := by
  have hT : s.TypeIs (.ref D) "collections.deque" := ⟨dqObj, ho, rfl⟩
  have key : wpAny (model prog w) A (runValue (.builtin "len" ⟨[.ref D], []⟩)) (fun r s' => r = .int 0 (s.toks + 1) ∧ Q false s') E s := by
    refine wpAny_runValue (codeAny_builtin entry_len ?_)
    rw [Around.under_plainId plain_len _]
    exact wpAny_mono (len_body_dq (Q := fun r s' => r = .int 0 (s.toks + 1) ∧ Q false s') ho ⟨rfl, h⟩) (fun fin s' h' => by obtain ⟨r, rfl, hq⟩ := h'; exact hq) fun _ _ e => e
  unfold truthy
  first
    | refine wpAny_bind (wpAny_callSpecial?_none (name := Str.ofString "__bool__") hT noBool_dq ?_)
    | refine wpAny_bind (wpAny_pure (wpAny_bind (wpAny_callSpecial?_none (name := Str.ofString "__bool__") hT noBool_dq ?_)))
  first
    | refine wpAny_bind (wpAny_specialOf (name := Str.ofString "__len__") hT slot_dq_len.lookup ?_)
    | refine wpAny_bind (wpAny_pure (wpAny_bind (wpAny_specialOf (name := Str.ofString "__len__") hT slot_dq_len.lookup ?_)))
  first
    | exact wpAny_bind (wpAny_mono key (fun r s' h' => by obtain ⟨rfl, hq⟩ := h'; exact wpAny_pure hq) fun _ _ e => e)
    | exact wpAny_bind (wpAny_pure (wpAny_bind (wpAny_mono key (fun r s' h' => by obtain ⟨rfl, hq⟩ := h'; exact wpAny_pure hq) fun _ _ e => e)))
end
end Mine
end

section -- Lex1
open PySem PySem.W PyProof.Rows PySem.Calls PySem.Spec
namespace Mine
set_option genSizeOf false in
set_option genInjectivity false in
structure LTk where
  (k0 k1 k2 k3 k4 k5 k6 k7 k8 k9 k10 k11 k12 k13 k14 k15 k16 k17 k18 v4 v5 v6 v8 v9 v10 v13 v14 v18 : Tok)
noncomputable abbrev lexD (w : World) (T : LTk) (i pb fs : Addr) (st tok : Value) : List DictEntry :=
  [⟨PyData.keyHash w.params (Str.ofString "instream"), .str (Str.ofString "instream") T.k0, .ref i⟩,
   ⟨PyData.keyHash w.params (Str.ofString "infile"), .str (Str.ofString "infile") T.k1, .none⟩,
   ⟨PyData.keyHash w.params (Str.ofString "posix"), .str (Str.ofString "posix") T.k2, .bool true⟩,
   ⟨PyData.keyHash w.params (Str.ofString "eof"), .str (Str.ofString "eof") T.k3, .none⟩,
   ⟨PyData.keyHash w.params (Str.ofString "commenters"), .str (Str.ofString "commenters") T.k4, .str (Str.ofString "") T.v4⟩,
   ⟨PyData.keyHash w.params (Str.ofString "wordchars"), .str (Str.ofString "wordchars") T.k5, .str (Str.ofString "abcdfeghijklmnopqrstuvwxyzABCDEFGHIJKLMNOPQRSTUVWXYZ0123456789_ßàáâãäåæçèéêëìíîïðñòóôõöøùúûüýþÿÀÁÂÃÄÅÆÇÈÉÊËÌÍÎÏÐÑÒÓÔÕÖØÙÚÛÜÝÞ") T.v5⟩,
   ⟨PyData.keyHash w.params (Str.ofString "whitespace"), .str (Str.ofString "whitespace") T.k6, .str (Str.ofString " \t\x0d\n") T.v6⟩,
   ⟨PyData.keyHash w.params (Str.ofString "whitespace_split"), .str (Str.ofString "whitespace_split") T.k7, .bool true⟩,
   ⟨PyData.keyHash w.params (Str.ofString "quotes"), .str (Str.ofString "quotes") T.k8, .str (Str.ofString "'\"") T.v8⟩,
   ⟨PyData.keyHash w.params (Str.ofString "escape"), .str (Str.ofString "escape") T.k9, .str (Str.ofString "\\") T.v9⟩,
   ⟨PyData.keyHash w.params (Str.ofString "escapedquotes"), .str (Str.ofString "escapedquotes") T.k10, .str (Str.ofString "\"") T.v10⟩,
   ⟨PyData.keyHash w.params (Str.ofString "state"), .str (Str.ofString "state") T.k11, st⟩,
   ⟨PyData.keyHash w.params (Str.ofString "pushback"), .str (Str.ofString "pushback") T.k12, .ref pb⟩,
   ⟨PyData.keyHash w.params (Str.ofString "lineno"), .str (Str.ofString "lineno") T.k13, .int 1 T.v13⟩,
   ⟨PyData.keyHash w.params (Str.ofString "debug"), .str (Str.ofString "debug") T.k14, .int 0 T.v14⟩,
   ⟨PyData.keyHash w.params (Str.ofString "token"), .str (Str.ofString "token") T.k15, tok⟩,
   ⟨PyData.keyHash w.params (Str.ofString "filestack"), .str (Str.ofString "filestack") T.k16, .ref fs⟩,
   ⟨PyData.keyHash w.params (Str.ofString "source"), .str (Str.ofString "source") T.k17, .none⟩,
   ⟨PyData.keyHash w.params (Str.ofString "_punctuation_chars"), .str (Str.ofString "_punctuation_chars") T.k18, .str (Str.ofString "") T.v18⟩]

noncomputable def stV : Option LSt → Tok → Value
  | none, _ => .none
  | some .sp, t => .str (Str.ofString " ") t
  | some .wd, t => .str (Str.ofString "a") t
  | some .q1, t => .str (Str.ofString "'") t
  | some .q2, t => .str (Str.ofString "\"") t
noncomputable def lmap (x : Addr) (q : Bool) (es : Tok) (nc : Option Value) : Str → Option Value := fun y =>
  if y = Str.ofString "nextchar" then nc else if y = Str.ofString "escapedstate" then some (.str (Str.ofString " ") es) else if y = Str.ofString "quoted" then some (.bool q) else if y = Str.ofString "self" then some (.ref x) else none
noncomputable abbrev lexLed (w : World) (xa dx i d pb fs : Addr) (T : LTk) (st tok : Value) (k1 k2 k3 t : Tok) (x : Str) (p : Int) (tp : Tok) : List (Addr × Obj) :=
  [(xa, instObj 790 dx), (dx, dictOf (lexD w T i pb fs st tok) (nat_lit 19)), (i, instObj 627 d), (d, dictOf (ioD w k1 k2 k3 x t p tp) (nat_lit 3)), (pb, dqObj), (fs, dqObj)]

theorem lmap_start {x : Addr} {es : Tok} : (fun y => if y = Str.ofString "escapedstate" then some (.str (Str.ofString " ") es) else if y = Str.ofString "quoted" then some (.bool false) else List.lookup y [(Str.ofString "self", Value.ref x)].reverse) = lmap x false es none := by
  funext y
  unfold lmap
  by_cases h1 : y = Str.ofString "nextchar"
  · subst h1; rfl
  · rw [if_neg h1]
    by_cases h2 : y = Str.ofString "escapedstate"
    · rw [if_pos h2, if_pos h2]
    · rw [if_neg h2, if_neg h2]
      by_cases h3 : y = Str.ofString "quoted"
      · rw [if_pos h3, if_pos h3]
      · rw [if_neg h3, if_neg h3]
        by_cases h4 : y = Str.ofString "self"
        · subst h4; rfl
        · rw [if_neg h4]
          show List.lookup y [(Str.ofString "self", Value.ref x)] = none
          rw [List.lookup_cons]
          have : (y == Str.ofString "self") = false := beq_eq_false_iff_ne.mpr h4
          rw [this]
          rfl
theorem lmap_nc {x : Addr} {q : Bool} {es : Tok} {nc : Option Value} {v : Value} : (fun y => if y = Str.ofString "nextchar" then some v else lmap x q es nc y) = lmap x q es (some v) := by
  funext y
  unfold lmap
  by_cases h1 : y = Str.ofString "nextchar"
  · rw [if_pos h1, if_pos h1]
  · rw [if_neg h1, if_neg h1, if_neg h1]
noncomputable def goOn : Option LSt → Bool → List Nat → List Nat → Option (Option (List Nat) × Option LSt × List Nat)
  | some st, q, tok, r => lexTok st q tok r
  | none, q, tok, r => if q = false ∧ tok = [] ∧ r = [] then some (none, none, []) else none
theorem goOn_start {st : Option LSt} {r : List Nat} {o} (h : tokAt st r = some o) : goOn st false [] r = some o := by
  cases st with
  | some st => exact h
  | none =>
    cases r with
    | nil => exact h
    | cons c r => cases h
noncomputable def StepB (h₀ : Heap) (L : Addr) (s : Shared) (J : Nat → (Str → Option Value) → List (Addr × Obj) → Prop) (Bk : (Str → Option Value) → List (Addr × Obj) → Prop) (n : Nat) (f : Flow) (s₃ : Shared) : Prop :=
  match f with
  | .next | .cont => ∃ h' tk m₂ news₂ n', s₃ = { s with heap := h', toks := tk } ∧ Fr h₀ L h' m₂ ∧ News h₀ L h' news₂ ∧ n' < n ∧ J n' m₂ news₂
  | .brk => ∃ h' tk m₂ news₂, s₃ = { s with heap := h', toks := tk } ∧ Fr h₀ L h' m₂ ∧ News h₀ L h' news₂ ∧ Bk m₂ news₂
  | .ret _ => False
section
variable {prog : Program} {w : World} {A : Around} {E : Value → Shared → Prop} {Q : Flow → Shared → Prop} {s : Shared} {env : Env} {h₀ : Heap} {L : Addr}
  {J : Nat → (Str → Option Value) → List (Addr × Obj) → Prop} {Bk : (Str → Option Value) → List (Addr × Obj) → Prop}
theorem StepB.next {h' : Heap} {n n' tk : Nat} {m₂ m' : Str → Option Value} {news₂ : List (Addr × Obj)} (F : Fr h₀ L h' m') (N : News h₀ L h' news₂) (hm : m' = m₂) (hn : n' < n) (hJ : J n' m₂ news₂) : StepB h₀ L s J Bk n .next { s with heap := h', toks := tk } :=
  ⟨h', tk, m₂, news₂, n', rfl, hm ▸ F, N, hn, hJ⟩
theorem StepB.cont {h' : Heap} {n n' tk : Nat} {m₂ m' : Str → Option Value} {news₂ : List (Addr × Obj)} (F : Fr h₀ L h' m') (N : News h₀ L h' news₂) (hm : m' = m₂) (hn : n' < n) (hJ : J n' m₂ news₂) : StepB h₀ L s J Bk n .cont { s with heap := h', toks := tk } :=
  ⟨h', tk, m₂, news₂, n', rfl, hm ▸ F, N, hn, hJ⟩
theorem StepB.brk {h' : Heap} {n tk : Nat} {m₂ m' : Str → Option Value} {news₂ : List (Addr × Obj)} (F : Fr h₀ L h' m') (N : News h₀ L h' news₂) (hm : m' = m₂) (hB : Bk m₂ news₂) : StepB h₀ L s J Bk n .brk { s with heap := h', toks := tk } :=
  ⟨h', tk, m₂, news₂, rfl, hm ▸ F, N, hB⟩
theorem While_B {test : PySem.Expr} {body : List Stmt} {pos : Pos} {m : Str → Option Value} {news : List (Addr × Obj)} (J : Nat → (Str → Option Value) → List (Addr × Obj) → Prop) (Bk : (Str → Option Value) → List (Addr × Obj) → Prop) {n₀ : Nat}
    (F : Fr h₀ L s.heap m) (N : News h₀ L s.heap news) (hJ : J n₀ m news)
    (ht : ∀ (s : Shared) (Q : Bool → Shared → Prop), Q true s → wpAny (model prog w) A (isTrue test env (eval test env)) Q E s)
    (turn : ∀ n m₁ news₁ h₁ tk₁, Fr h₀ L h₁ m₁ → News h₀ L h₁ news₁ → J n m₁ news₁ → wpAny (model prog w) A (execs body env) (StepB h₀ L s J Bk n) E { s with heap := h₁, toks := tk₁ })
    (after : ∀ m₁ news₁ h₁ tk₁, Fr h₀ L h₁ m₁ → News h₀ L h₁ news₁ → Bk m₁ news₁ → Q .next { s with heap := h₁, toks := tk₁ })
    (hE : PassesOwn (model prog w) A env E := by passes_own) :
    wpAny (model prog w) A (exec (.While test body [] pos) env) Q E s :=
  While_inv2 J F N hJ (fun n m₁ news₁ h₁ tk₁ F₁ N₁ J₁ => ht _ _ (by
    rw [if_pos rfl]
    refine wpAny_mono (turn n m₁ news₁ h₁ tk₁ F₁ N₁ J₁) (fun f s₃ h₃ => ?_) fun _ _ e => e
    cases f with
    | next => exact h₃
    | cont => exact h₃
    | brk => obtain ⟨h', tk, m₂, news₂, rfl, F₂, N₂, B₂⟩ := h₃; exact after m₂ news₂ h' tk F₂ N₂ B₂
    | ret v => exact h₃.elim)) hE
end
end Mine
end

section -- Lex2
open PySem PySem.W PyProof.Rows PySem.Calls PySem.Spec
namespace Mine
theorem nextC_nil {x : Str} {p : Nat} (h : x.cps.toList.drop p = []) : nextC x p = Str.ofString "" := by
  unfold nextC
  rw [h]
  rfl
theorem nextC_cons {x : Str} {p c : Nat} {r : List Nat} (h : x.cps.toList.drop p = c :: r) : nextC x p = ⟨#[c]⟩ := by
  unfold nextC
  rw [h]
  rfl
theorem drop_lt {x : Str} {p c : Nat} {r : List Nat} (h : x.cps.toList.drop p = c :: r) : p < x.length ∧ x.cps.toList.drop (p + 1) = r := by
  have hl : p < x.cps.toList.length := by
    rcases Nat.lt_or_ge p x.cps.toList.length with h' | h'
    · exact h'
    · rw [List.drop_of_length_le h'] at h; cases h
  refine ⟨by simpa [Str.length] using hl, ?_⟩
  rw [← List.tail_drop, h]
  rfl
theorem nextP_cons {x : Str} {p c : Nat} {r : List Nat} (h : x.cps.toList.drop p = c :: r) : nextP x p = p + 1 := by
  unfold nextP
  rw [if_pos (drop_lt h).1]
theorem nextP_nil {x : Str} {p : Nat} (h : x.cps.toList.drop p = []) : nextP x p = p := by
  unfold nextP
  rw [if_neg]
  intro hl
  have := List.drop_eq_nil_iff.mp h
  have : x.length ≤ p := by simpa [Str.length] using this
  omega
theorem lexTok_bad {st : LSt} {q : Bool} {tok : List Nat} {c : Nat} {r : List Nat} {o} (h : lexTok st q tok (c :: r) = some o) : lexBad c = false := by
  cases hb : lexBad c with
  | false => rfl
  | true => cases st <;> (unfold lexTok at h; rw [if_pos hb] at h; cases h)
theorem goOn_nl {st : Option LSt} {q : Bool} {tok : List Nat} {x : Str} {p : Nat} {o} (h : goOn st q tok (x.cps.toList.drop p) = some o) : (nextC x p == Str.ofString "\n") = false := by
  cases hd : x.cps.toList.drop p with
  | nil => rw [nextC_nil hd]; decide +kernel
  | cons c r =>
    rw [nextC_cons hd]
    cases st with
    | none =>
      rw [hd] at h
      have h : (if q = false ∧ tok = [] ∧ c :: r = [] then some (none, none, []) else none) = some o := h
      rw [if_neg (by simp)] at h
      cases h
    | some st =>
      rw [hd] at h
      have hb := lexTok_bad h
      apply beq_eq_false_iff_ne.mpr
      intro e
      have e2 : (⟨#[c]⟩ : Str) = ⟨#[10]⟩ := e.trans (by decide +kernel)
      injection e2 with e3
      simp at e3
      subst e3
      exact absurd hb (by decide)
open Builtin.Str in
theorem found_lit (l : Str) (c : Nat) (b : Bool) (h : decide (c ∈ l.cps.toList) = b) : (!(occurrences l ⟨#[c]⟩ 0 l.length 1).isEmpty) = b := (StrLaws.found_one l c).trans h
theorem bad_ne {c : Nat} (h : lexBad c = false) : c ≠ 92 ∧ c ≠ 9 ∧ c ≠ 10 ∧ c ≠ 13 := by
  unfold lexBad at h
  simp only [Bool.or_eq_false_iff, beq_eq_false_iff_ne] at h
  exact ⟨h.1.1.1, h.1.1.2, h.1.2, h.2⟩
open Builtin.Str in
section
variable {c : Nat}
theorem in_ws (h : c ≠ 32 ∧ c ≠ 9 ∧ c ≠ 13 ∧ c ≠ 10) : (!(occurrences (Str.ofString " \t\x0d\n") ⟨#[c]⟩ 0 (Str.ofString " \t\x0d\n").length 1).isEmpty) = false :=
  found_lit _ _ _ (by rw [show (Str.ofString " \t\x0d\n").cps.toList = [32, 9, 13, 10] from by decide +kernel]; simp [h])
theorem in_esc (h : c ≠ 92) : (!(occurrences (Str.ofString "\\") ⟨#[c]⟩ 0 (Str.ofString "\\").length 1).isEmpty) = false :=
  found_lit _ _ _ (by rw [show (Str.ofString "\\").cps.toList = [92] from by decide +kernel]; simp [h])
theorem in_nil : (!(occurrences (Str.ofString "") ⟨#[c]⟩ 0 (Str.ofString "").length 1).isEmpty) = false :=
  found_lit _ _ _ (by rw [show (Str.ofString "").cps.toList = [] from by decide +kernel]; simp)
theorem in_quotes (h : c ≠ 39 ∧ c ≠ 34) : (!(occurrences (Str.ofString "'\"") ⟨#[c]⟩ 0 (Str.ofString "'\"").length 1).isEmpty) = false :=
  found_lit _ _ _ (by rw [show (Str.ofString "'\"").cps.toList = [39, 34] from by decide +kernel]; simp [h])
theorem ne_lit {l : Str} {d : Nat} (hl : l = ⟨#[d]⟩) (h : c ≠ d) : ((⟨#[c]⟩ : Str) == l) = false := by
  subst hl
  apply beq_eq_false_iff_ne.mpr
  intro e
  injection e with e
  simp at e
  exact h e
theorem one_true : ((((⟨#[c]⟩ : Str).length : Nat) : Int) != 0) = true := rfl
end
theorem tok_add (tok : List Nat) (c : Nat) : (⟨List.toArray tok⟩ : Str) ++ ⟨#[c]⟩ = ⟨List.toArray (tok ++ [c])⟩ := by
  have : ((⟨List.toArray tok⟩ : Str) ++ ⟨#[c]⟩).cps = List.toArray (tok ++ [c]) := by
    rw [Str.cps_append]
    simp
  cases h : ((⟨List.toArray tok⟩ : Str) ++ ⟨#[c]⟩)
  rw [h] at this
  simp at this
  rw [this]
theorem news_tail {h₀ h : Heap} {L : Addr} {a : Addr × Obj} {l : List (Addr × Obj)} (N : News h₀ L h (a :: l)) : News h₀ L h l := fun p hp => N p (.tail _ hp)
theorem fr_nc {h₀ h : Heap} {L x : Addr} {q : Bool} {es : Tok} {nc : Option Value} {v : Value} (F : Fr h₀ L h (fun y => if y = Str.ofString "nextchar" then some v else lmap x q es nc y)) : Fr h₀ L h (lmap x q es (some v)) := lmap_nc ▸ F
theorem keep_put {H g h' h₀ : Heap} {L L' dx d : Addr} {m' : Str → Option Value} {news news' : List (Addr × Obj)} (G : GSub H g (news.map (·.1))) (F : Fr g L' h' m') (N : News h₀ L H news) (N' : News h₀ L h' news')
    (hs : ∀ p ∈ news, p.1 = dx ∨ p.1 = d ∨ p ∈ news') : ∀ b o, b ≠ dx → b ≠ d → H.get? b = some o → h'.get? b = some o := by
  intro b o h1 h2 e
  by_cases hb : b ∈ news.map (·.1)
  · obtain ⟨p, hp, rfl⟩ := List.mem_map.mp hb
    rw [(N p hp).1] at e
    cases e
    rcases hs p hp with h | h | h
    · exact absurd h h1
    · exact absurd h h2
    · exact (N' p h).1
  · exact F.keep b o (G b o e hb)
theorem tok_nil (tok : List Nat) : ((⟨List.toArray tok⟩ : Str) == Str.ofString "") = decide (tok = []) := by
  cases tok with
  | nil => decide +kernel
  | cons a l =>
    have : ((⟨List.toArray (a :: l)⟩ : Str) == Str.ofString "") = false := by
      apply beq_eq_false_iff_ne.mpr
      intro e
      have e2 : (⟨List.toArray (a :: l)⟩ : Str) = ⟨#[]⟩ := e.trans (by decide +kernel)
      injection e2 with e3
      simp at e3
    rw [this]
    simp
noncomputable def resV : Option (List Nat) → Tok → Value
  | none, _ => .none
  | some l, t => .str ⟨List.toArray l⟩ t
section
variable {prog : Program} {w : World} {A : Around} {E : Value → Shared → Prop} {s : Shared} {x y : Str} {t u : Tok} {b : Bool}
theorem in_strF {Q : Value → Shared → Prop} (e : (!(Builtin.Str.occurrences x y 0 x.length 1).isEmpty) = b) (h : Q (.bool b) s) : wpAny (model prog w) A (compareOp .In (.str y u) (.str x t)) Q E s := PyProof.Rows.in_str (e ▸ h)
theorem truthyF {Q : Bool → Shared → Prop} (e : ((y.length : Int) != 0) = b) (hl : y.length ≤ 16777216) (h : ∀ k, Q b { s with toks := k }) : wpAny (model prog w) A (truthy (.str y t)) Q E s := KXt.truthy e hl h
end
end Mine
end

section -- Lex3
open PySem PySem.W PyProof.Rows PySem.Calls PySem.Spec
namespace Mine
theorem truthy_dqN {prog : Program} {w : World} {A : Around} {E : Value → Shared → Prop} {s : Shared} {D : Addr} {h₀ : Heap} {L : Addr} {news : List (Addr × Obj)} {Q : Bool → Shared → Prop} (N : News h₀ L s.heap news) (hm : (D, dqObj) ∈ news) (h : ∀ k, Q false { s with toks := k }) :
    wpAny (model prog w) A (truthy (.ref D)) Q E s := truthy_dq (N _ hm).1 (h _)
theorem lexLed_put {h₀ h h' : Heap} {L : Addr} {m : Str → Option Value} {w : World} {xa dx i d pb fs : Addr} {T : LTk} {st tok st' tok' : Value} {k1 k2 k3 t tp tp' : Tok} {x : Str} {p p' : Int} (F : Fr h₀ L h m) (N : News h₀ L h (lexLed w xa dx i d pb fs T st tok k1 k2 k3 t x p tp))
    (o1 : dx < xa) (o2 : xa < d) (o3 : d < i) (o4 : i < pb) (o5 : pb < fs) (hx : ∀ b o, b ≠ dx → b ≠ d → h.get? b = some o → h'.get? b = some o) (q1 : h'.get? dx = some (dictOf (lexD w T i pb fs st' tok') (nat_lit 19))) (q2 : h'.get? d = some (dictOf (ioD w k1 k2 k3 x t p' tp') (nat_lit 3))) :
    Fr h₀ L h' m ∧ News h₀ L h' (lexLed w xa dx i d pb fs T st' tok' k1 k2 k3 t x p' tp') := by
  k_lt2 o1
  k_lt2 o2
  k_lt2 o3
  k_lt2 o4
  k_lt2 o5
  have e1 := N (xa, instObj 790 dx) (.head _)
  have e2 := N (dx, dictOf (lexD w T i pb fs st tok) (nat_lit 19)) (.tail _ (.head _))
  have e3 := N (i, instObj 627 d) (.tail _ (.tail _ (.head _)))
  have e4 := N (d, dictOf (ioD w k1 k2 k3 x t p tp) (nat_lit 3)) (.tail _ (.tail _ (.tail _ (.head _))))
  have e5 := N (pb, dqObj) (.tail _ (.tail _ (.tail _ (.tail _ (.head _)))))
  have e6 := N (fs, dqObj) (.tail _ (.tail _ (.tail _ (.tail _ (.tail _ (.head _))))))
  refine ⟨⟨F.ns.at fun o e => hx _ o (Ne.symm e2.2.1) (Ne.symm e4.2.1) e, fun b o e => hx b o (fun z => ?_) (fun z => ?_) (F.keep b o e), F.above⟩, ?_⟩
  · rw [z, e2.2.2] at e; cases e
  · rw [z, e4.2.2] at e; cases e
  · refine List.forall_mem_cons.mpr ⟨⟨hx _ _ (by k_ne) (by k_ne) e1.1, e1.2⟩, List.forall_mem_cons.mpr ⟨⟨q1, e2.2⟩, List.forall_mem_cons.mpr ⟨⟨hx _ _ (by k_ne) (by k_ne) e3.1, e3.2⟩, List.forall_mem_cons.mpr ⟨⟨q2, e4.2⟩, List.forall_mem_cons.mpr ⟨⟨hx _ _ (by k_ne) (by k_ne) e5.1, e5.2⟩, List.forall_mem_cons.mpr ⟨⟨hx _ _ (by k_ne) (by k_ne) e6.1, e6.2⟩, fun p hp => nomatch hp⟩⟩⟩⟩⟩⟩
end Mine
end

section -- Lex4
open PySem PySem.W PyProof.Rows PySem.Calls PySem.Spec
namespace Mine
noncomputable abbrev frs (l : List Env) : List Addr := l.filterMap (·.frame)
theorem below_big {A : Around} {base g : Heap} {outer : List Env} (B : Below A base outer g) : Below A (hideAll g (frs outer)) outer g :=
  ⟨B.stack, fun b o e => of_hideAll _ e, funFrames_hide B.frames fun env he b hb => List.mem_filterMap.mpr ⟨env, he, hb⟩⟩
theorem raised_get {base h' : Heap} {l : List Env} {e t : Addr} {cls : Value} {vs : List Value} {news : List (Addr × Obj)} (R : RaisedK base l e cls t vs news h') :
    (∀ b o, base.get? b = some o → h'.get? b = some o) ∧ ∀ q ∈ news, h'.get? q.1 = some q.2 := by
  obtain ⟨⟨B, hB, hl, hfl, _⟩, _⟩ := R
  exact ⟨fun b o e => hfl.1 b o (hB b o e), fun q hq => hfl.1 _ _ (hl q hq).1⟩
theorem stop_own {M : Model} {A : Around} {s : Shared} {base : Heap} {l : List Env} {e t : Addr} {vs : List Value} {news : List (Addr × Obj)} {Q : Option Value → Shared → Prop} {E : Value → Shared → Prop} (R : RaisedK base l e (.type "StopIteration") t vs news s.heap) (hq : Q none s) : OwitStop M A Q E (.ref e) s := by
  obtain ⟨⟨B, hB, hl, hfl, _⟩, _⟩ := R
  obtain ⟨ob, hob, hobc⟩ := hfl.there
  have hT : s.TypeIs (.ref e) "StopIteration" := ⟨ob, hob, hobc⟩
  unfold OwitStop
  refine wpAny_isInstance hT isSubtype_stop ?_
  show (if true = true then Q none s else E (.ref e) s)
  rw [if_pos rfl]
  exact hq
noncomputable def KeepF (fs : List Addr) (dx d : Addr) (h h' : Heap) : Prop :=
  (∀ b o, b ∉ fs → b ≠ dx → b ≠ d → h.get? b = some o → h'.get? b = some o) ∧ ∀ b o, b ∈ fs → h.get? b = some o → (∀ vs, o.data ≠ .fields vs) → ∃ sl, h'.get? b = some { o with slots := sl }
theorem stop_keep {H g h' h₀ : Heap} {L dx d : Addr} {l : List Env} {e t : Addr} {cls : Value} {vs : List Value} {news news' : List (Addr × Obj)} (G : GSub H g (news.map (·.1))) (R : RaisedK (hideAll g (frs l)) l e cls t vs news' h') (U : g.UpToSlots h') (N : News h₀ L H news)
    (hs : ∀ p ∈ news, p.1 = dx ∨ p.1 = d ∨ p ∈ news') (hf : ∀ b ∈ frs l, b ∉ news.map (·.1)) : KeepF (frs l) dx d H h' := by
  obtain ⟨r1, r2⟩ := raised_get R
  refine ⟨fun b o hb h1 h2 e => ?_, fun b o hb e hd => U b o (G b o e (hf b hb)) hd⟩
  by_cases hn : b ∈ news.map (·.1)
  · obtain ⟨p, hp, rfl⟩ := List.mem_map.mp hn
    rw [(N p hp).1] at e
    cases e
    rcases hs p hp with h | h | h
    · exact absurd h h1
    · exact absurd h h2
    · exact r2 p h
  · exact r1 b o (hideAll_get _ (G b o e hn) hb)
theorem frames_off {A₀ : Around} {base h₀ h : Heap} {outer : List Env} {L : Addr} {env : Env} {news : List (Addr × Obj)} (B : Below A₀ base outer h₀) (hf : env.frame = some L) (N : News h₀ L h news) : ∀ b ∈ frs (env :: outer), b ∉ news.map (·.1) := by
  intro b hb hn
  obtain ⟨p, hp, rfl⟩ := List.mem_map.mp hn
  obtain ⟨env', he, hf'⟩ := List.mem_filterMap.mp hb
  rcases List.mem_cons.mp he with rfl | he
  · rw [hf] at hf'; cases hf'
    exact (N p hp).2.1 rfl
  · obtain ⟨o, ho, _⟩ := (B.frames.mem (List.mem_filterMap.mpr ⟨env', he, hf'⟩)).2
    rw [(N p hp).2.2] at ho; cases ho
end Mine
end

section -- For1
open PySem PySem.W PyProof.Rows PySem.Calls PySem.Spec
namespace Mine
section
variable {prog : Program} {w : World} {A : Around} {E : Value → Shared → Prop} {env : Env} {h₀ : Heap} {x : Str} {body : List Stmt} {Q : Flow → Shared → Prop} {s : Shared} {m : Str → Option Value} {news : List (Addr × Obj)} {l : Addr} {vs : List Value} {lo : Obj}
inductive TurnQI (h₀ : Heap) (L I : Addr) (io : Obj) (s : Shared) (Jn : (Str → Option Value) → List (Addr × Obj) → Prop) (s' : Shared) : Prop
  | mk (h' : Heap) (tk : Nat) (m₂ : Str → Option Value) (news₂ : List (Addr × Obj)) (e : s' = { s with heap := h', toks := tk }) (F : Fr h₀ L h' m₂) (N : News h₀ L h' ((I, io) :: news₂)) (ne : ∀ p ∈ news₂, p.1 ≠ I) (J : Jn m₂ news₂)
noncomputable def TurnQ (h₀ : Heap) (L I : Addr) (io : Obj) (s : Shared) (Jn : (Str → Option Value) → List (Addr × Obj) → Prop) (Q : Flow → Shared → Prop) (f : Flow) (s' : Shared) : Prop :=
  match f with
  | .ret v => Q (.ret v) s'
  | .brk => Q .next s'
  | _ => (f = .next ∨ f = .cont) ∧ TurnQI h₀ L I io s Jn s'
theorem loop_list (J : Nat → (Str → Option Value) → List (Addr × Obj) → Prop) (hh : A.handled = none) (F : Fr h₀ env.locals s.heap m) (N : News h₀ env.locals s.heap news) (hl : s.heap.get? l = some lo) (hlc : lo.cls = .type "list") (hld : ∃ n, lo.data = .seq vs.toArray n)
    (hk : ∀ i m₁ news₁ h, J i m₁ news₁ → (∀ b o, h₀.get? b = some o → h.get? b = some o) → News h₀ env.locals h news₁ → h.get? l = some lo) (hlL : l ≠ env.locals) (hJ : J 0 m news)
    (turn : ∀ i v m₁ news₁ h₁ tk I io, vs[i]? = some v → s.heap.objs.size = I → J i m₁ news₁ → (∀ p ∈ news₁, p.1 ≠ I) → Fr h₀ env.locals h₁ (fun y => if y = x then some v else m₁ y) → News h₀ env.locals h₁ ((I, io) :: news₁) →
      wpAny (model prog w) A (execs body env) (TurnQ h₀ env.locals I io s (J (i + 1)) Q) E { s with heap := h₁, toks := tk })
    (done : ∀ h' tk m' news', Fr h₀ env.locals h' m' → News h₀ env.locals h' news' → J vs.length m' news' → Q .next { s with heap := h', toks := tk }) :
    wpAny (model prog w) A (pyIter (.ref l)) (fun it s₂ => LoopAtV prog w A h₀ env x body Q E it s₂) E s := by
  have hLs : env.locals < s.heap.objs.size := F.ns.lt
  have hll : l < s.heap.objs.size := Heap.lt_size hl
  have hIl : s.heap.get? l = some lo := hl
  have hisl : s.heap.IsList l vs.toArray := ⟨lo, hl, hlc, hld⟩
  refine wpAny_pyIter_list hisl ?_
  generalize hI : s.heap.objs.size = I at *
  have push : ∀ b o, s.heap.get? b = some o → (s.heap.push { cls := .type "list_iterator", data := .fields #[.ref l, .int 0 0] }).get? b = some o := fun b o e => Heap.get?_push_of_some _ e
  have gI : (s.heap.push { cls := .type "list_iterator", data := .fields #[.ref l, .int 0 0] }).get? I = some { cls := .type "list_iterator", data := .fields #[.ref l, .int 0 0] } := hI ▸ Heap.get?_push_size _ rfl
  have fI : h₀.get? I = none := by
    cases e : h₀.get? I with
    | none => rfl
    | some o => exact absurd (hI ▸ Heap.lt_size (F.keep I o e)) (Nat.lt_irrefl _)
  generalize (s.heap.push { cls := .type "list_iterator", data := .fields #[.ref l, .int 0 0] }) = g at *
  refine ⟨I, [I, l], [I], vs.toArray.size, fun i v => vs.toArray[i]? = some v, fun i h => h.IsListIter I l i ∧ h.IsList l vs.toArray, m, news, J, rfl, Walks.list hh I l (Nat.ne_of_lt hll) vs.toArray, ?_, ?_, ?_, ⟨⟨_, gI, rfl, rfl⟩, ⟨lo, push _ _ hl, hlc, hld⟩⟩, ⟨F.ns.at fun o e => push _ _ e, fun b o e => push _ _ (F.keep b o e), F.above⟩, fun q hq => ⟨push _ _ (N q hq).1, (N q hq).2⟩, hJ, ?_, ?_⟩
  · intro hm
    simp only [List.mem_cons, List.not_mem_nil, or_false] at hm
    rcases hm with e | e
    · exact absurd (e ▸ hLs) (Nat.lt_irrefl _)
    · exact hlL e.symm
  · intro b hb
    simp only [List.mem_cons, List.not_mem_nil, or_false] at hb
    exact hb ▸ fI
  · intro p hp hb
    simp only [List.mem_cons, List.not_mem_nil, or_false] at hb
    have := Heap.lt_size (N p hp).1
    rw [hb, hI] at this
    exact Nat.lt_irrefl _ this
  · rintro i v m₁ news₁ s₁ own ⟨h₁, tk, rfl⟩ hi hv hJ' hoff hsub hget hall hst F₁ N₁
    obtain ⟨⟨io, hio, hioc, hiod⟩, hli⟩ := hst
    have hmem : (I, io) ∈ own := hall I (List.mem_cons_self ..) fI io hio
    have hoff' : ∀ p ∈ news₁, p.1 ≠ I := fun p hp e => hoff p hp (by simp [e])
    refine wpAny_mono (turn i v m₁ news₁ h₁ tk I io (by simpa using hv) rfl hJ' hoff' F₁ (fun q hq => ?_)) (fun f s' hq => ?_) fun _ _ e => e
    · rcases List.mem_cons.mp hq with rfl | hq
      · exact N₁ _ (List.mem_append_left _ hmem)
      · exact N₁ _ (List.mem_append_right _ hq)
    · have fin : ∀ h' tk' m₂ news₂, s' = { s with heap := h', toks := tk' } → Fr h₀ env.locals h' m₂ → News h₀ env.locals h' ((I, io) :: news₂) → (∀ p ∈ news₂, p.1 ≠ I) → J (i + 1) m₂ news₂ → LoopStepU h₀ env.locals [I] own (J (i + 1)) { s with heap := h₁, toks := tk } .next s' := by
        intro h' tk' m₂ news₂ es F' N' hn' hJ2
        have N2 : News h₀ env.locals h' news₂ := fun q hq => N' q (.tail _ hq)
        refine ⟨rfl, h', tk', m₂, news₂, es, F', fun q hq => ?_, fun p hp hb => hn' p hp (by simpa using hb), hJ2⟩
        rcases List.mem_append.mp hq with hq | hq
        · have hs := hsub q hq
          simp only [List.mem_cons, List.not_mem_nil, or_false] at hs
          have hq0 := (N₁ q (List.mem_append_left _ hq)).2
          refine ⟨?_, hq0⟩
          rcases hs with e | e
          · have e2 := hget q hq
            rw [e] at e2 ⊢
            rw [show h₁.get? I = some io from hio] at e2
            cases e2
            exact (N' _ (List.mem_cons_self ..)).1
          · have e2 := hget q hq
            rw [e] at e2 ⊢
            obtain ⟨lo', hlo', _⟩ := hli
            have e3 : h₁.get? l = some lo := hk i m₁ news₁ h₁ hJ' F₁.keep fun q hq => N₁ q (List.mem_append_right _ hq)
            rw [show h₁.get? l = some lo from e3] at e2
            cases e2
            exact hk (i + 1) m₂ news₂ h' hJ2 F'.keep N2
        · exact N2 q hq
      cases f with
      | ret v => exact hq
      | brk => exact hq
      | next =>
        obtain ⟨_, h', tk', m₂, news₂, es, F', N', hn', hJ2⟩ := hq
        exact fin h' tk' m₂ news₂ es F' N' hn' hJ2
      | cont =>
        obtain ⟨_, h', tk', m₂, news₂, es, F', N', hn', hJ2⟩ := hq
        exact fin h' tk' m₂ news₂ es F' N' hn' hJ2
  · intro h' tk m' news' F' N' _ hJ'
    exact done h' tk m' news' F' N' (by simpa using hJ')
noncomputable def Same (x : Str) (m m₁ : Str → Option Value) : Prop := ∀ y, y ≠ x → m₁ y = m y
theorem Same.rfl {x : Str} {m : Str → Option Value} : Same x m m := fun _ _ => Eq.refl _
theorem Same.self {x : Str} {m : Str → Option Value} {o : Option Value} : Same x m (fun y => if y = x then o else m y) := fun y hy => if_neg hy
theorem Same.put {x : Str} {m m₁ : Str → Option Value} (h : Same x m m₁) {v : Value} : (fun y => if y = x then some v else m₁ y) = fun y => if y = x then some v else m y := by
  funext y
  by_cases e : y = x
  · rw [if_pos e, if_pos e]
  · rw [if_neg e, if_neg e]; exact h y e
theorem Same.out {x : Str} {m m₁ : Str → Option Value} (h : Same x m m₁) : m₁ = fun y => if y = x then m₁ x else m y := by
  funext y
  by_cases e : y = x
  · rw [if_pos e, e]
  · rw [if_neg e]; exact h y e
inductive TurnAI (h₀ : Heap) (L I D : Addr) (io : Obj) (rest : List (Addr × Obj)) (x : Str) (m : Str → Option Value) (s : Shared) (Pn : List Value → Prop) (s' : Shared) : Prop
  | mk (h' : Heap) (tk : Nat) (o : Option Value) (acc : List Value) (n : Nat) (e : s' = { s with heap := h', toks := tk }) (F : Fr h₀ L h' (fun y => if y = x then o else m y)) (N : News h₀ L h' ((I, io) :: (D, W.listOf acc.toArray n) :: rest)) (P : Pn acc)
noncomputable def TurnA (h₀ : Heap) (L I D : Addr) (io : Obj) (rest : List (Addr × Obj)) (x : Str) (m : Str → Option Value) (s : Shared) (Pn : List Value → Prop) (Q : Flow → Shared → Prop) (f : Flow) (s' : Shared) : Prop :=
  match f with
  | .ret v => Q (.ret v) s'
  | .brk => Q .next s'
  | _ => (f = .next ∨ f = .cont) ∧ TurnAI h₀ L I D io rest x m s Pn s'
theorem loop_acc {L D : Addr} {rest : List (Addr × Obj)} {acc₀ : List Value} {n₀ : Nat} (P : Nat → List Value → Prop) (hL : env.locals = L) (hh : A.handled = none) (F : Fr h₀ L s.heap m) (N : News h₀ L s.heap ((D, W.listOf acc₀.toArray n₀) :: rest)) (hl : s.heap.get? l = some lo) (hlc : lo.cls = .type "list") (hld : ∃ n, lo.data = .seq vs.toArray n)
    (hk : h₀.get? l = some lo ∨ (l, lo) ∈ rest) (hP : P 0 acc₀)
    (turn : ∀ i v acc n h₁ tk I io, vs[i]? = some v → P i acc → (∀ p ∈ (D, W.listOf acc.toArray n) :: rest, p.1 < I) → Fr h₀ L h₁ (fun y => if y = x then some v else m y) → News h₀ L h₁ ((I, io) :: (D, W.listOf acc.toArray n) :: rest) →
      wpAny (model prog w) A (execs body env) (TurnA h₀ L I D io rest x m s (P (i + 1)) Q) E { s with heap := h₁, toks := tk })
    (done : ∀ h' tk o acc n, Fr h₀ L h' (fun y => if y = x then o else m y) → News h₀ L h' ((D, W.listOf acc.toArray n) :: rest) → P vs.length acc → Q .next { s with heap := h', toks := tk }) :
    wpAny (model prog w) A (pyIter (.ref l)) (fun it s₂ => LoopAtV prog w A h₀ env x body Q E it s₂) E s := by
  subst hL
  have hDl : D < s.heap.objs.size := Heap.lt_size (N _ (.head _)).1
  have hrl : ∀ p ∈ rest, p.1 < s.heap.objs.size := fun p hp => Heap.lt_size (N _ (.tail _ hp)).1
  have hDs : D ≠ s.heap.objs.size := Nat.ne_of_lt (Heap.lt_size (N _ (.head _)).1)
  have hrs : ∀ p ∈ rest, p.1 ≠ s.heap.objs.size := fun p hp => Nat.ne_of_lt (Heap.lt_size (N _ (.tail _ hp)).1)
  have hlL : l ≠ env.locals := by
    rcases hk with hk | hk
    · intro e; subst e; exact absurd (Nat.lt_of_lt_of_le (Heap.lt_size hk) F.above) (Nat.lt_irrefl _)
    · exact (N _ (.tail _ hk)).2.1
  refine loop_list (fun i m₁ news₁ => Same x m m₁ ∧ ∃ acc n, P i acc ∧ news₁ = (D, W.listOf acc.toArray n) :: rest) hh F N hl hlc hld ?_ hlL ⟨Same.rfl, acc₀, n₀, hP, Eq.refl _⟩ ?_ ?_
  · rintro i m₁ news₁ h ⟨_, acc, n, _, rfl⟩ hkp N'
    rcases hk with hk | hk
    · exact hkp _ _ hk
    · exact (N' _ (.tail _ hk)).1
  · rintro i v m₁ news₁ h₁ tk I io hv hI ⟨hS, acc, n, hp, rfl⟩ hoff F' N'
    rw [hS.put] at F'
    refine wpAny_mono (turn i v acc n h₁ tk I io hv hp (fun p hp => (List.mem_cons.mp hp).elim (fun e => e ▸ hI ▸ hDl) (fun hp => hI ▸ hrl p hp)) F' N') (fun f s' hq => ?_) fun _ _ e => e
    cases f with
    | ret v => exact hq
    | brk => exact hq
    | next =>
      obtain ⟨hf, h', tk, o, acc', n', es, F2, N2, hP2⟩ := hq
      exact ⟨hf, h', tk, _, _, es, F2, N2, fun p hp => (List.mem_cons.mp hp).elim (fun e => e ▸ hI ▸ hDs) (fun hp => hI ▸ hrs p hp), Same.self, acc', n', hP2, Eq.refl _⟩
    | cont =>
      obtain ⟨hf, h', tk, o, acc', n', es, F2, N2, hP2⟩ := hq
      exact ⟨hf, h', tk, _, _, es, F2, N2, fun p hp => (List.mem_cons.mp hp).elim (fun e => e ▸ hI ▸ hDs) (fun hp => hI ▸ hrs p hp), Same.self, acc', n', hP2, Eq.refl _⟩
  · rintro h' tk m' news' F' N' ⟨hS, acc, n, hp, rfl⟩
    rw [hS.out] at F'
    exact done h' tk _ acc n F' N' hp
end
end Mine
end

section -- Set2
open PySem PySem.W PyProof.Rows PySem.Calls PySem.Spec
namespace Mine
section
variable {prog : Program} {w : World} {A : Around} {E : Value → Shared → Prop} {s : Shared} {R : Result → Shared → Prop}
noncomputable abbrev ledW (w : World) : Bool := !(w.params.followText "set-order")
noncomputable def newSetO (w : World) : Obj := { cls := .type "set", dict := none, data := .set #[] 0 (.fresh 0 0 (ledW w)) }
theorem code_set_new_led (a : Value) {Q₁ : Value → Shared → Prop}
    (h : Q₁ (.ref s.heap.objs.size) { s with heap := s.heap.push (newSetO w) }) :
    codeAny (model prog w) A (.call (.builtin "set.__new__") ⟨[.type "set", a], []⟩) (wants Q₁ E) s := by
  refine codeAny_of_tree ?_
  show wpAny _ A.in1 (do checkBuiltinCall "set.__new__" ⟨[.type "set", a], []⟩; again (.builtin "set.__new__" ⟨[.type "set", a], []⟩)) _ _ s
  refine wpAny_bind (wpAny_of_eq (_root_.PySem.F.newCall_set_1 a) (wpAny_pure ⟨plainId_quiet _root_.PySem.F.plain_set_new _, codeAny_builtin _root_.PySem.F.entry_set_new ?_⟩))
  rw [Around.under_plainId _root_.PySem.F.plain_set_new _]
  unfold Builtin.«set.__new__» Builtin.Frozenset.newClass
  have hsub := sub_set_self
  obtain ⟨hp, g, d, tk, os⟩ := s
  dsimp only
  wp_walk
  refine wpAny_askSetting (wpAny_pure ?_)
  dsimp only
  simp only [newObj]
  refine wpAny_bind (wpAny_alloc (wpAny_pure ?_))
  exact wpAny_pure h
theorem strsAre_get : ∀ {vs : List Value} {xs : List Str}, StrsAre vs xs → ∀ (i : Nat) (v : Value), vs[i]? = some v → ∃ x t, xs[i]? = some x ∧ v = .str x t
  | _, _, .nil, i, v, h => by simp at h
  | _, _, .cons n t hr, 0, v, h => by simp at h; exact ⟨n, t, rfl, h.symm⟩
  | _, _, .cons n t hr, i + 1, v, h => by
    simp only [List.getElem?_cons_succ] at h
    obtain ⟨x, t', e, e2⟩ := strsAre_get hr i v h
    exact ⟨x, t', by simpa using e, e2⟩
theorem set_update_loop {I l S : Addr} {led0 : Bool} {vs : List Value} {xs : List Str} (hh : A.in1.handled = none) (hlI : l ≠ I) (hSI : S ≠ I) (hSl : S ≠ l) (hv : StrsAre vs xs) (hb : xs.length < 1000) :
    ∀ (k i : Nat) (s : Shared) (o : Obj) (acc : List Str), vs.length - i = k → i ≤ vs.length → s.heap.IsListIter I l i → s.heap.IsList l vs.toArray → s.heap.get? S = some o → SetObj prog w o led0 acc → (∀ x, x ∈ acc ↔ x ∈ xs.take i) → acc.length ≤ i →
      (∀ h' tk o' acc', (∀ b o, b ≠ S → b ≠ I → s.heap.get? b = some o → h'.get? b = some o) → h'.get? S = some o' → SetObj prog w o' led0 acc' → (∀ x, x ∈ acc' ↔ x ∈ xs) → acc'.length ≤ xs.length → R (.ok (.ret .none)) { s with heap := h', toks := tk }) →
      codeAny (model prog w) A (.builtin "set.update.loop" ⟨[.ref S, .ref I], []⟩) R s := by
  have hlen : vs.length = xs.length := StrsAre.length hv
  have W := Walks.list (prog := prog) (w := w) (A := A.in1) hh I l hlI vs.toArray
  have hsz : vs.toArray.size = vs.length := List.size_toArray ..
  intro k
  induction k with
  | zero =>
    intro i s o acc hk hi hit hl ho hS hm ha hR
    have hin : i = vs.length := Nat.le_antisymm hi (Nat.le_of_sub_eq_zero hk)
    subst hin
    refine codeAny_builtin F.entry_set_update_loop ?_
    rw [Around.under_plainId F.plain_set_update_loop _]
    show wpAny _ A.in1 (pyNext (.ref I) >>= _) _ _ s
    refine wpAny_bind (W.done s _ _ ⟨by rw [hsz]; exact hit, hl⟩ fun h' tk hk' => ?_)
    refine wpAny_pure (hR h' tk o acc (fun b o hb1 hb2 e => hk' b o (by simpa using hb2) e) (hk' S o (by simpa using hSI) ho) hS (fun x => by rw [hm, hlen, List.take_length]) (by omega))
  | succ k ih =>
    intro i s o acc hk hi hit hl ho hS hm ha hR
    have hlt : i < vs.length := Nat.lt_of_sub_eq_succ hk
    refine codeAny_builtin F.entry_set_update_loop ?_
    rw [Around.under_plainId F.plain_set_update_loop _]
    show wpAny _ A.in1 (pyNext (.ref I) >>= _) _ _ s
    refine wpAny_bind (W.item i s _ _ (by rw [hsz]; exact hlt) ⟨hit, hl⟩ fun v h' tk hP hst' hk' => ?_)
    obtain ⟨x, t, hx, rfl⟩ := strsAre_get hv i v (by simpa using hP)
    have ho' := hk' S o (by simpa using hSI) ho
    show wpAny _ A.in1 (holding [Value.str x t] (setAdd S (.str x t)) >>= _) _ _ _
    refine wpAny_bind (wpAny_holding ?_)
    unfold setAdd
    refine wpAny_holding ?_
    refine wpAny_bind ((strKind prog w).pyHash (k := x) (strKind_is _ _ _ _) ?_)
    refine setAdd_str (led0 := led0) (xs := acc) ho' hS (by omega) fun h2 o2 hsb ho2 hS2 b => ?_
    have htk : xs.take (i + 1) = xs.take i ++ [x] := by rw [List.take_add_one, hx]; rfl
    refine wpAny_pure ⟨plainId_quiet F.plain_set_update_loop _, ih (i + 1) { s with heap := h2, toks := _ } o2 _ (n_pred hk) hlt (hst'.1.at fun o e => ?_) (hst'.2.at fun o e => ?_) ho2 hS2 ?_ ?_ fun h3 tk3 o3 acc3 hk3 ho3 hS3 hm3 ha3 => ?_⟩
    · rw [hsb.2 I (Ne.symm hSI)]; exact e
    · rw [hsb.2 l (Ne.symm hSl)]; exact e
    · intro y
      rw [htk, List.mem_append, List.mem_singleton, ← hm y]
      split
      · rename_i hin
        constructor
        · exact .inl
        · rintro (h | rfl)
          · exact h
          · exact hin
      · rw [List.mem_append, List.mem_singleton]
    · split
      · omega
      · rw [List.length_append, List.length_singleton]; omega
    · exact hR h3 tk3 o3 acc3 (fun b o hb1 hb2 e => hk3 b o hb1 hb2 (by rw [hsb.2 b hb1]; exact hk' b o (by simpa using hb2) e)) ho3 hS3 hm3 ha3
inductive SetMade (prog : Program) (w : World) (s : Shared) (xs : List Str) (r : Value) (s₂ : Shared) : Prop
  | mk (er : r = .none) (h' : Heap) (tk : Nat) (o : Obj) (acc : List Str) (e : s₂ = { s with heap := h', toks := tk }) (ho : h'.get? s.heap.objs.size = some o) (hS : SetObj prog w o (ledW w) acc) (hm : ∀ x, x ∈ acc ↔ x ∈ xs) (hl : acc.length ≤ xs.length) (kp : ∀ b o, s.heap.get? b = some o → h'.get? b = some o)
theorem call_set_strs {l : Addr} {vs : List Value} {xs : List Str} {Q : Value → Shared → Prop}
    (hh : A.handled = none) (hl : s.heap.IsList l vs.toArray) (hi : StrsAre vs xs) (hb : xs.length < 1000)
    (h : ∀ (h' : Heap) (tk : Nat) o acc, h'.get? s.heap.objs.size = some o → SetObj prog w o (ledW w) acc → (∀ x, x ∈ acc ↔ x ∈ xs) → acc.length ≤ xs.length →
      (∀ b o, s.heap.get? b = some o → h'.get? b = some o) → Q (.ref s.heap.objs.size) { s with heap := h', toks := tk }) :
    wpAny (model prog w) A (call (.type "set") [.ref l]) Q E s := by
  obtain ⟨c, tl, hmro⟩ := _root_.PySem.F.called_set.mro
  have hmade := _root_.PySem.F.called_set.made
  have hsub := _root_.PySem.F.called_set.sub
  refine wpAny_call (codeAny_of_tree ?_)
  show wpAny _ _ (callAny (.type "set") _) _ _ _
  refine wpAny_pure ⟨Code.quiet_builtin _ (by decide +kernel), codeAny_builtin _root_.PySem.F.entry_type_call ?_⟩
  rw [Around.under_plain (weight_type_call_type "set" [.ref l] []) rfl]
  have h1 := _root_.PySem.F.called_set.notType
  have h2 := _root_.PySem.F.called_set.canCreate
  have hct := _root_.PySem.F.typeCall_set_1 (.ref l)
  repeat (any_goals (first | assumption | wp_step))
  refine codeAny_mono (code_set_new_led (.ref l) (E := E) (Q₁ := fun obj s₁ => obj = .ref s.heap.objs.size ∧ s₁ = { s with heap := s.heap.push (newSetO w) }) ⟨rfl, rfl⟩) fun r s₁ hr => ?_
  cases r with
  | error e => exact hr
  | ok fl =>
    cases fl with
    | ret obj =>
      obtain ⟨rfl, rfl⟩ := hr
      have hS : (s.heap.push (newSetO w)).get? s.heap.objs.size = some (newSetO w) := Heap.get?_push_size _ rfl
      have hT : Shared.TypeIs { s with heap := s.heap.push (newSetO w) } (.ref s.heap.objs.size) "set" := ⟨_, hS, rfl⟩
      have hli := _root_.PySem.F.called_set.init.lookup
      have hbi := _root_.PySem.F.called_set.init.bind (.ref s.heap.objs.size)
      repeat (any_goals (first | assumption | wp_step))
      refine codeAny_mono (codeAny_call_builtin (R := wants (SetMade prog w s xs) E) _root_.PySem.F.called_set.init.plain _root_.PySem.F.entry_set_init (check_set_init_1 hT ?_)) fun r₂ s₂ hr₂ => ?_
      · obtain ⟨ol, hol, hcl, nl, hdl⟩ := hl
        obtain ⟨ocls, odict, odata, oslots⟩ := ol
        simp only at hcl hdl
        subst hcl; subst hdl
        have hol' : (s.heap.push (newSetO w)).get? l = some { cls := .type "list", dict := odict, data := .seq vs.toArray nl, slots := oslots } := Heap.get?_push_of_some _ hol
        have hsls := _root_.PySem.F.sub_list_set
        have hslf := _root_.PySem.F.sub_list_frozenset
        have hne : (Value.type "list" == Value.type "dict") = false := by decide
        have hl1 : (s.heap.push (newSetO w)).IsList l vs.toArray := ⟨_, hol', rfl, nl, rfl⟩
        unfold Builtin.«set.__init__» noKeywords Builtin.Frozenset.updateFrom
        generalize hPI : pyIter = PI
        wp_walk
        subst hPI
        refine wpAny_pyIter_list hl1 ?_
        refine wpAny_bind (wpAny_runValue ?_)
        have hlS : l < s.heap.objs.size := Heap.lt_size hol
        have hh3 : A.in1.in1.in1.handled = none := by simp [hh]
        have hneI : l ≠ (s.heap.push (newSetO w)).objs.size := by
          rw [Heap.size_push]; exact Nat.ne_of_lt (Nat.lt_succ_of_lt hlS)
        have hSI : s.heap.objs.size ≠ (s.heap.push (newSetO w)).objs.size := by
          rw [Heap.size_push]; exact Nat.ne_of_lt (Nat.lt_succ_self _)
        refine set_update_loop (led0 := ledW w) (xs := xs) hh3 hneI hSI (Nat.ne_of_gt hlS) hi hb (vs.length - 0) 0 _ _ [] (by omega) (Nat.zero_le _)
          ⟨_, Heap.get?_push_size _ rfl, rfl, rfl⟩ (hl1.push _) (Heap.get?_push_of_some _ hS) setObj_fresh (fun x => by simp) (Nat.zero_le _) fun h' tk' o' acc' hk' ho' hS' hm' ha' => ?_
        refine wpAny_pure ?_
        show wpAny _ _ (ret Value.none) _ _ _
        refine wpAny_pure ⟨rfl, h', tk', o', acc', rfl, ho', hS', hm', ha', fun b o e => ?_⟩
        have hb := Heap.lt_size e
        have hb1 : b ≠ s.heap.objs.size := Nat.ne_of_lt hb
        have hb2 : b ≠ (s.heap.push (newSetO w)).objs.size := by
          rw [Heap.size_push]; exact Nat.ne_of_lt (Nat.lt_succ_of_lt hb)
        exact hk' b o hb1 hb2 (Heap.get?_push_of_some _ (Heap.get?_push_of_some _ e))
      · cases r₂ with
        | error e => exact hr₂
        | ok fl₂ =>
          cases fl₂ with
          | ret r =>
            obtain ⟨rfl, h', tk, o, acc, rfl, ho, hS', hm', ha', hk'⟩ := hr₂
            repeat (any_goals (first | assumption | wp_step))
            exact h _ _ _ _ ho hS' hm' ha' hk'
          | _ => exact hr₂.elim
    | _ => exact hr.elim
end
end Mine
end

section -- Set3
open PySem PySem.W PyProof.Rows PySem.Calls PySem.Spec
namespace Mine
section
variable {M : Model} {prog : Program} {w : World} {A : Around} {E : Value → Shared → Prop} {s : Shared}
theorem wpAny_choose {src : Source} {n : Nat} {Q : Nat → Shared → Prop} (hn : n ≠ 0) (h : ∀ i, i < n → Q i { s with drawn := s.drawn.bump src }) : wpAny M A (choose src n) Q E s :=
  fun _ _ _ => ⟨hn, h _ (Nat.mod_lt _ (Nat.pos_of_ne_zero hn))⟩
theorem eraseIdx_perm {α : Type} : ∀ {l : List α} {i : Nat} (hi : i < l.length), (l[i] :: l.eraseIdx i).Perm l
  | [], i, hi => absurd hi (Nat.not_lt_zero _)
  | x :: l, 0, hi => .refl _
  | x :: l, i + 1, hi => by
    have := eraseIdx_perm (l := l) (i := i) (Nat.lt_of_succ_lt_succ hi)
    show (l[i]'(Nat.lt_of_succ_lt_succ hi) :: x :: l.eraseIdx i).Perm (x :: l)
    exact (List.Perm.swap ..).trans (this.cons _)
theorem wpAny_drawOrder {α : Type} {Q : List α → Shared → Prop} : ∀ (n : Nat) (xs : List α) (s : Shared), xs.length = n → (∀ ys dr, ys.Perm xs → Q ys { s with drawn := dr }) → wpAny M A (drawOrder n xs) Q E s
  | 0, xs, s, hl, h => by
    obtain rfl := List.eq_nil_of_length_eq_zero hl
    exact wpAny_pure (h [] s.drawn (.refl _))
  | n + 1, [], s, hl, h => by cases hl
  | n + 1, x :: xs, s, hl, h => by
    refine wpAny_bind (wpAny_choose (Nat.succ_ne_zero _) fun i hi => ?_)
    rw [List.getElem?_eq_getElem hi]
    show wpAny _ _ (drawOrder n ((x :: xs).eraseIdx i) >>= fun r => pure ((x :: xs)[i] :: r)) _ _ _
    refine wpAny_bind (wpAny_drawOrder n _ _ (by rw [List.length_eraseIdx_of_lt hi, hl]; rfl) fun ys dr hp => ?_)
    refine wpAny_pure (h _ dr ?_)
    exact (hp.cons _).trans (eraseIdx_perm hi)
end
theorem go_perm {α : Type} (next : Nat → Nat) : ∀ (fuel k : Nat) (left : List α) (out : Array α), left.length = fuel → ((pickOrder.go next fuel k left out).toList).Perm (out.toList ++ left)
  | 0, k, left, out, h => by
    obtain rfl := List.eq_nil_of_length_eq_zero h
    simp [pickOrder.go]
  | fuel + 1, k, left, out, h => by
    have hi : next k % left.length < left.length := Nat.mod_lt _ (by omega)
    unfold pickOrder.go
    rw [List.getElem?_eq_getElem hi]
    dsimp only
    refine (go_perm next fuel (k + 1) _ _ (by rw [List.length_eraseIdx_of_lt hi, h]; rfl)).trans ?_
    rw [Array.toList_push, List.append_assoc, List.singleton_append]
    exact (eraseIdx_perm hi).append_left _
theorem pickOrder_perm {α : Type} (next : Nat → Nat) (xs : Array α) : ((pickOrder next xs).toList).Perm xs.toList := by
  have := go_perm next xs.size 0 xs.toList #[] (by simp)
  simpa [pickOrder] using this
theorem slot_set_iter : Slot "set" "__iter__" "set.__iter__" :=
  .of (owner := "set") (n := "__iter__") (by rw [typeLookup_type, builtinLookup_eq_fast]; kernel_rfl) (by decide +kernel) (by decide +kernel) (by decide +kernel)
    (by first | exact .inl (by decide +kernel) | exact .inr (by decide +kernel)) (by rw [isSubtype_type]; kernel_rfl)
theorem entry_set_iter : entryFor table "set.__iter__" = some Builtin.«frozenset.__iter__» := entryFor_alias (id' := "frozenset.__iter__") (by kernel_rfl) rfl (by decide +kernel) (by kernel_rfl)
theorem args_set_iter (a : Value) : argsOk "set.__iter__" ⟨[a], []⟩ := by
  unfold argsOk; rw [signature?_of (id := "set.__iter__") (n := ['_', '_', 'r', 'e', 't', 'i', '_', '_']) (o := ['t', 'e', 's']) (by kernel_rfl) _root_.PySem.F.owner_set]; kernel_rfl
theorem slot_setit_next : Slot "set_iterator" "__next__" "set_iterator.__next__" :=
  .of (owner := "set_iterator") (n := "__next__") (by rw [typeLookup_type, builtinLookup_eq_fast]; kernel_rfl) (by decide +kernel) (by decide +kernel) (by decide +kernel)
    (by first | exact .inl (by decide +kernel) | exact .inr (by decide +kernel)) (by rw [isSubtype_type]; kernel_rfl)
theorem slot_setit_iter : Slot "set_iterator" "__iter__" "set_iterator.__iter__" :=
  .of (owner := "set_iterator") (n := "__iter__") (by rw [typeLookup_type, builtinLookup_eq_fast]; kernel_rfl) (by decide +kernel) (by decide +kernel) (by decide +kernel)
    (by first | exact .inl (by decide +kernel) | exact .inr (by decide +kernel)) (by rw [isSubtype_type]; kernel_rfl)
theorem entry_setit_next : entryFor table "set_iterator.__next__" = some Builtin.«set_iterator.__next__» := entryFor_of_tree (by kernel_rfl)
theorem entry_setit_iter : entryFor table "set_iterator.__iter__" = some Builtin.«dict_keyiterator.__iter__» :=
  entryFor_alias (id' := "dict_keyiterator.__iter__") (by kernel_rfl) rfl (by decide +kernel) (by kernel_rfl)
theorem args_setit_next (a : Value) : argsOk "set_iterator.__next__" ⟨[a], []⟩ := by unfold argsOk; kernel_rfl
theorem args_setit_iter (a : Value) : argsOk "set_iterator.__iter__" ⟨[a], []⟩ := by unfold argsOk; kernel_rfl
noncomputable def SetIt (h : Heap) (I S : Addr) (first : Value) (i n ep : Nat) : Prop :=
  ∃ o, h.get? I = some o ∧ o.cls = .type "set_iterator" ∧ o.data = .fields #[first, .int i 0, .ref S, .int n 0, .int ep 0]
section
variable {prog : Program} {w : World} {A : Around} {E : Value → Shared → Prop} {s : Shared} {I S : Addr} {first : Value} {i n ep : Nat}
theorem SetIt.typeIs (h : SetIt s.heap I S first i n ep) : s.TypeIs (.ref I) "set_iterator" := let ⟨o, ho, hc, _⟩ := h; ⟨o, ho, hc⟩
theorem pyIter_setit {Q : Value → Shared → Prop} (hit : SetIt s.heap I S first i n ep) (h : Q (.ref I) s) : wpAny (model prog w) A (pyIter (.ref I)) Q E s := by
  refine wpAny_pyIter_slot hit.typeIs slot_setit_iter (wpAny_call_entry slot_setit_iter hit.typeIs entry_setit_iter ?_ (args_setit_iter _))
  show wpAny _ _ (ret (.ref I)) _ _ s
  exact wpAny_pure ⟨_, rfl, "set_iterator", _, hit.typeIs, slot_setit_next.lookup, h⟩
end
end Mine
end

section -- Set4
open PySem PySem.W PyProof.Rows PySem.Calls PySem.Spec
namespace Mine
section
variable {prog : Program} {w : World} {A : Around} {E : Value → Shared → Prop} {s : Shared} {I S : Addr} {o : Obj} {es : Array (Int × Value)} {ep : Nat} {t : SetTable}
noncomputable abbrev setItObj (first : Value) (i : Nat) (S : Addr) (n ep : Nat) : Obj := { cls := .type "set_iterator", data := .fields #[first, .int i 0, .ref S, .int n 0, .int ep 0] }
theorem pyIter_set {Q : Value → Shared → Prop} (ho : s.heap.get? S = some o) (hc : o.cls = .type "set") (hd : o.data = .set es ep t) (hf : t.fits es.size = true) (hn : es.size ≤ 1000)
    (h1 : w.params.followText "set-order" = false → t.plain = false → 1 < es.size → ∀ (pl : List Nat) dr, pl.Perm (List.range es.size) →
      Q (.ref (s.heap.objs.size + 1)) { s with heap := (s.heap.push (tupObj (pl.map fun (i : Nat) => Value.int (i : Int) 0))).push (setItObj (.ref s.heap.objs.size) 0 S es.size ep), drawn := dr })
    (h2 : w.params.followText "set-order" = true ∨ t.plain = true ∨ es.size ≤ 1 → Q (.ref s.heap.objs.size) { s with heap := s.heap.push (setItObj (.int 0 0) 0 S es.size ep) }) :
    wpAny (model prog w) A (pyIter (.ref S)) Q E s := by
  have hT : s.TypeIs (.ref S) "set" := ⟨o, ho, hc⟩
  refine wpAny_pyIter_slot hT slot_set_iter (wpAny_call_entry slot_set_iter hT entry_set_iter ?_ (args_set_iter _))
  unfold Builtin.«frozenset.__iter__»
  refine wpAny_bind (m := Builtin.Frozenset.slot0 "__iter__" _) (wpAny_pure ?_)
  unfold Builtin.Frozenset.sizeOf setEntries setEpoch setDrawn setsByText
  refine wpAny_bind (wpAny_bind (wpAny_bind (wpAny_setState_of ho hd hf (wpAny_pure (wpAny_pure ?_)))))
  refine wpAny_bind (wpAny_bind (wpAny_setState_of ho hd hf ?_))
  dsimp only
  refine wpAny_bind (wpAny_bind (wpAny_askSetting (wpAny_pure (wpAny_pure ?_))))
  show wpAny _ _ (if (!(w.params.followText "set-order") && (!t.plain && decide (es.size > 1))) = true then _ else _) _ _ _
  split
  · rename_i hb
    simp only [Bool.and_eq_true, Bool.not_eq_true', decide_eq_true_eq] at hb
    refine wpAny_bind (wpAny_drawOrder _ _ _ List.length_range fun pl dr hp => ?_)
    show wpAny _ _ (newTuple (pl.map fun (i : Nat) => Value.int (i : Int) 0) >>= _) _ _ _
    unfold newTuple
    refine wpAny_bind (wpAny_newObj_type ?_ (by show Array.size _ ≤ _; rw [List.size_toArray, List.length_map, hp.length_eq, List.length_range, sizeLine_eq]; omega))
    refine wpAny_bind (wpAny_bind (wpAny_setState_of (Heap.get?_push_of_some _ ho) hd hf (wpAny_pure ?_)))
    refine wpAny_bind (wpAny_newObj_type ?_)
    refine wpAny_pure ⟨_, rfl, "set_iterator", _, ⟨_, Heap.get?_push_size _ rfl, rfl⟩, slot_setit_next.lookup, ?_⟩
    have := h1 hb.1 hb.2.1 hb.2.2 pl dr hp
    rw [Heap.size_push]
    exact this
  · rename_i hb
    refine wpAny_bind (wpAny_pure ?_)
    refine wpAny_bind (wpAny_bind (wpAny_setState_of ho hd hf (wpAny_pure ?_)))
    refine wpAny_bind (wpAny_newObj_type ?_)
    refine wpAny_pure ⟨_, rfl, "set_iterator", _, ⟨_, Heap.get?_push_size _ rfl, rfl⟩, slot_setit_next.lookup, ?_⟩
    refine h2 ?_
    simp only [Bool.and_eq_true, Bool.not_eq_true', decide_eq_true_eq, not_and] at hb
    cases e1 : w.params.followText "set-order" with
    | true => exact .inl rfl
    | false =>
      cases e2 : t.plain with
      | true => exact .inr (.inl rfl)
      | false => exact .inr (.inr (Nat.le_of_not_lt (hb e1 e2)))
theorem setit_stop {h₁ : Heap} {tk : Nat} {Q : Option Value → Shared → Prop} (hh : A.in1.handled = none) (hk : ∀ b o, b ≠ I → s.heap.get? b = some o → h₁.get? b = some o)
    (hQ : ∀ h', (∀ b o, b ≠ I → s.heap.get? b = some o → h'.get? b = some o) → Q none { s with heap := h', toks := tk }) :
    wpAny (model prog w) A.in1 (newExc (.type "StopIteration") [] >>= fun e => raiseNew e) (fun (fin : Fin) s' => False) (fun e s' => wpAny (model prog w) A (isInstance e (.type "StopIteration")) (fun b s₂ => if b = true then Q none s₂ else E e s₂) E s') { s with heap := h₁, toks := tk } := by
  refine wpAny_bind ?_
  simp only [newExc, newTuple]
  refine wpAny_bind (wpAny_newObj_type ?_ (by size_fits))
  refine wpAny_bind (m := firstArgMember _ _) (wpAny_of_eq (a := Value.none) (by first | rfl | (simp only [firstArgMember]; rfl)) ?_)
  refine wpAny_newObj_type ?_ (by size_fits)
  unfold raiseNew
  refine wpAny_bind (wpAny_handled ?_)
  rw [hh]
  refine wpAny_bind (wpAny_pure (wpAny_throw ?_))
  refine wpAny_isInstance (T := "StopIteration") (b := true) ⟨_, Heap.get?_push_size _ rfl, rfl⟩ isSubtype_stop ?_
  exact hQ _ fun b o hb e => Heap.get?_push_of_some _ (Heap.get?_push_of_some _ (hk b o hb e))
end
end Mine
end

section -- Set5
open PySem PySem.W PyProof.Rows PySem.Calls PySem.Spec
namespace Mine
section
variable {prog : Program} {w : World} {A : Around} {E : Value → Shared → Prop} {s : Shared} {I S T : Addr} {o : Obj} {es : Array (Int × Value)} {ep i : Nat} {t : SetTable} {pl : List Nat}
theorem next_drawn_item {Q : Option Value → Shared → Prop} {p : Nat} {hv : Int} {x : Value} (hit : SetIt s.heap I S (.ref T) i es.size ep) (ht : s.heap.get? T = some (tupObj (pl.map fun (i : Nat) => Value.int (i : Int) 0)))
    (ho : s.heap.get? S = some o) (hd : o.data = .set es ep t) (hf : t.fits es.size = true) (hp : pl[i]? = some p) (hx : es[p]? = some (hv, x))
    (hQ : ∀ h', SetIt h' I S (.ref T) (i + 1) es.size ep → Heap.SameBut I s.heap h' → Q (some x) { s with heap := h' }) : wpAny (model prog w) A (pyNext (.ref I)) Q E s := by
  obtain ⟨oi, hoi, hci, hdi⟩ := id hit
  unfold pyNext
  refine wpAny_bind (wpAny_attempt (wpAny_callSpecial?_slot (name := Str.ofString "__next__") hit.typeIs slot_setit_next
    (wpAny_call_entry slot_setit_next hit.typeIs entry_setit_next ?_ (args_setit_next _))))
  unfold Builtin.«set_iterator.__next__»
  refine wpAny_bind (m := slotArgs "__next__" 0 _) (wpAny_pure ?_)
  refine wpAny_bind (wpAny_fieldsOf hoi hdi ?_)
  dsimp only
  unfold setEntries
  refine wpAny_bind (wpAny_bind (wpAny_setState_of ho hd hf (wpAny_pure ?_)))
  show wpAny _ _ (if (((es.size : Nat) : Int) != ((es.size : Nat) : Int)) = true then _ else _) _ _ _
  rw [if_neg (by simp)]
  refine wpAny_bind (wpAny_seqItems ht rfl ?_)
  simp only [Int.toNat_natCast, List.getElem?_toArray, List.getElem?_map, hp, Option.map_some]
  unfold setNextDrawn
  refine wpAny_bind (wpAny_bind (wpAny_setState_of ho hd hf ?_))
  dsimp only
  rw [if_neg (by simp)]
  simp only [hx]
  refine wpAny_pure ?_
  refine wpAny_bind (wpAny_setField hoi hdi (by simp) (wpAny_pure ⟨x, rfl, wpAny_pure (hQ _ ?_ (Heap.SameBut.update ..))⟩))
  exact ⟨_, Heap.get?_update_self _ hoi (Obj.isFreed_of_fields (Obj.data_mapFields hdi _)), (Obj.cls_mapFields ..).trans hci, by
    rw [Obj.data_mapFields hdi]; simp [rawInt]⟩
theorem next_drawn_end {Q : Option Value → Shared → Prop} (hh : A.handled = none) (hit : SetIt s.heap I S (.ref T) i es.size ep) (ht : s.heap.get? T = some (tupObj (pl.map fun (i : Nat) => Value.int (i : Int) 0)))
    (ho : s.heap.get? S = some o) (hd : o.data = .set es ep t) (hf : t.fits es.size = true) (hp : pl[i]? = none)
    (hQ : ∀ h' tk, (∀ b o, b ≠ I → s.heap.get? b = some o → h'.get? b = some o) → Q none { s with heap := h', toks := tk }) : wpAny (model prog w) A (pyNext (.ref I)) Q E s := by
  obtain ⟨oi, hoi, hci, hdi⟩ := id hit
  unfold pyNext
  refine wpAny_bind (wpAny_attempt (wpAny_callSpecial?_slot (name := Str.ofString "__next__") hit.typeIs slot_setit_next
    (wpAny_call_entry slot_setit_next hit.typeIs entry_setit_next ?_ (args_setit_next _))))
  unfold Builtin.«set_iterator.__next__»
  refine wpAny_bind (m := slotArgs "__next__" 0 _) (wpAny_pure ?_)
  refine wpAny_bind (wpAny_fieldsOf hoi hdi ?_)
  dsimp only
  unfold setEntries
  refine wpAny_bind (wpAny_bind (wpAny_setState_of ho hd hf (wpAny_pure ?_)))
  show wpAny _ _ (if (((es.size : Nat) : Int) != ((es.size : Nat) : Int)) = true then _ else _) _ _ _
  rw [if_neg (by simp)]
  refine wpAny_bind (wpAny_seqItems ht rfl ?_)
  simp only [Int.toNat_natCast, List.getElem?_toArray, List.getElem?_map, hp, Option.map_none]
  refine wpAny_bind (wpAny_setField hoi hdi (by simp) ?_)
  have h1 := Heap.get?_update_self (Obj.mapFields (·.setIfInBounds 0 (rawInt 0))) hoi (Obj.isFreed_of_fields (Obj.data_mapFields hdi _))
  refine wpAny_bind (wpAny_setField h1 (Obj.data_mapFields hdi _) (by simp) ?_)
  refine wpAny_mono (setit_stop (tk := s.toks) (A := A) (E := E) (Q := Q) (s := s) (I := I) hh (fun b o hb e => ?_) fun h' hk' => hQ h' s.toks hk') (fun fin s' hq => hq.elim) fun e s' he => ?_
  · exact (Heap.get?_update_other _ _ (Ne.symm hb)).trans ((Heap.get?_update_other _ _ (Ne.symm hb)).trans e)
  · refine wpAny_bind (wpAny_mono he (fun b s₂ hb => ?_) fun _ _ z => z)
    cases b with
    | true => exact wpAny_pure hb
    | false => exact wpAny_throw hb
theorem next_text_item {Q : Option Value → Shared → Prop} {hv : Int} {x : Value} (ht : w.params.followText "set-order" = true) (hit : SetIt s.heap I S (.int 0 0) i es.size ep)
    (ho : s.heap.get? S = some o) (hd : o.data = .set es ep t) (hf : t.fits es.size = true) (hx : (pickOrder (w.params.setOrder S ep) es)[i]? = some (hv, x))
    (hQ : ∀ h', SetIt h' I S (.int 0 0) (i + 1) es.size ep → Heap.SameBut I s.heap h' → Q (some x) { s with heap := h' }) : wpAny (model prog w) A (pyNext (.ref I)) Q E s := by
  obtain ⟨oi, hoi, hci, hdi⟩ := id hit
  unfold pyNext
  refine wpAny_bind (wpAny_attempt (wpAny_callSpecial?_slot (name := Str.ofString "__next__") hit.typeIs slot_setit_next
    (wpAny_call_entry slot_setit_next hit.typeIs entry_setit_next ?_ (args_setit_next _))))
  unfold Builtin.«set_iterator.__next__»
  refine wpAny_bind (m := slotArgs "__next__" 0 _) (wpAny_pure ?_)
  refine wpAny_bind (wpAny_fieldsOf hoi hdi ?_)
  dsimp only
  unfold setEntries
  refine wpAny_bind (wpAny_bind (wpAny_setState_of ho hd hf (wpAny_pure ?_)))
  show wpAny _ _ (if (((es.size : Nat) : Int) != ((es.size : Nat) : Int)) = true then _ else _) _ _ _
  rw [if_neg (by simp)]
  have ht' : (model prog w).w.params.followText "set-order" = true := ht
  unfold setNext setWalk setsByText
  refine wpAny_bind (wpAny_bind (wpAny_setState_of ho hd hf ?_))
  dsimp only
  refine wpAny_bind (wpAny_bind (wpAny_askSetting (wpAny_pure ?_)))
  dsimp only
  rw [if_pos ht', if_neg (by simp)]
  refine wpAny_bind (wpAny_bind (wpAny_setState_of ho hd hf ?_))
  dsimp only
  refine wpAny_bind (wpAny_bind (wpAny_askSetting (wpAny_pure ?_)))
  dsimp only
  rw [if_pos ht']
  refine wpAny_bind (wpAny_askSetting (wpAny_pure (wpAny_pure ?_)))
  have hx' : (pickOrder ((model prog w).w.params.setOrder S ep) es)[i]? = some (hv, x) := hx
  simp only [Int.toNat_natCast, hx', Option.map_some]
  refine wpAny_bind (wpAny_setField hoi hdi (by simp) ?_)
  have h1 := Heap.get?_update_self (Obj.mapFields (·.setIfInBounds 0 (rawInt 0))) hoi (Obj.isFreed_of_fields (Obj.data_mapFields hdi _))
  refine wpAny_bind (wpAny_setField h1 (Obj.data_mapFields hdi _) (by simp) (wpAny_pure ⟨x, rfl, wpAny_pure (hQ _ ?_ ((Heap.SameBut.update ..).trans (Heap.SameBut.update ..)))⟩))
  exact ⟨_, Heap.get?_update_self _ h1 (Obj.isFreed_of_fields (Obj.data_mapFields (Obj.data_mapFields hdi _) _)), (Obj.cls_mapFields ..).trans ((Obj.cls_mapFields ..).trans hci), by
    rw [Obj.data_mapFields (Obj.data_mapFields hdi _)]; simp [rawInt]⟩
theorem next_text_end {Q : Option Value → Shared → Prop} (hh : A.handled = none) (ht : w.params.followText "set-order" = true) (hit : SetIt s.heap I S (.int 0 0) i es.size ep)
    (ho : s.heap.get? S = some o) (hd : o.data = .set es ep t) (hf : t.fits es.size = true) (hx : (pickOrder (w.params.setOrder S ep) es)[i]? = none)
    (hQ : ∀ h' tk, (∀ b o, b ≠ I → s.heap.get? b = some o → h'.get? b = some o) → Q none { s with heap := h', toks := tk }) : wpAny (model prog w) A (pyNext (.ref I)) Q E s := by
  obtain ⟨oi, hoi, hci, hdi⟩ := id hit
  unfold pyNext
  refine wpAny_bind (wpAny_attempt (wpAny_callSpecial?_slot (name := Str.ofString "__next__") hit.typeIs slot_setit_next
    (wpAny_call_entry slot_setit_next hit.typeIs entry_setit_next ?_ (args_setit_next _))))
  unfold Builtin.«set_iterator.__next__»
  refine wpAny_bind (m := slotArgs "__next__" 0 _) (wpAny_pure ?_)
  refine wpAny_bind (wpAny_fieldsOf hoi hdi ?_)
  dsimp only
  unfold setEntries
  refine wpAny_bind (wpAny_bind (wpAny_setState_of ho hd hf (wpAny_pure ?_)))
  show wpAny _ _ (if (((es.size : Nat) : Int) != ((es.size : Nat) : Int)) = true then _ else _) _ _ _
  rw [if_neg (by simp)]
  have ht' : (model prog w).w.params.followText "set-order" = true := ht
  unfold setNext setWalk setsByText
  refine wpAny_bind (wpAny_bind (wpAny_setState_of ho hd hf ?_))
  dsimp only
  refine wpAny_bind (wpAny_bind (wpAny_askSetting (wpAny_pure ?_)))
  dsimp only
  rw [if_pos ht', if_neg (by simp)]
  refine wpAny_bind (wpAny_bind (wpAny_setState_of ho hd hf ?_))
  dsimp only
  refine wpAny_bind (wpAny_bind (wpAny_askSetting (wpAny_pure ?_)))
  dsimp only
  rw [if_pos ht']
  refine wpAny_bind (wpAny_askSetting (wpAny_pure (wpAny_pure ?_)))
  have hx' : (pickOrder ((model prog w).w.params.setOrder S ep) es)[i]? = none := hx
  simp only [Int.toNat_natCast, hx', Option.map_none]
  refine wpAny_bind (wpAny_setField hoi hdi (by simp) ?_)
  refine wpAny_mono (setit_stop (tk := s.toks) (A := A) (E := E) (Q := Q) (s := s) (I := I) hh (fun b o hb e => ?_) fun h' hk' => hQ h' s.toks hk') (fun fin s' hq => hq.elim) fun e s' he => ?_
  · exact (Heap.get?_update_other _ _ (Ne.symm hb)).trans e
  · refine wpAny_bind (wpAny_mono he (fun b s₂ hb => ?_) fun _ _ z => z)
    cases b with
    | true => exact wpAny_pure hb
    | false => exact wpAny_throw hb
end
end Mine
end

section -- Set6
open PySem PySem.W PyProof.Rows PySem.Calls PySem.Spec
namespace Mine
theorem below_none (j : Nat) : SetTable.below #[] j = 0 := rfl
theorem below_first (j : Nat) : SetTable.below #[j] 0 = 0 := by simp [SetTable.below, SetTable.below.go]
theorem below_past (j : Nat) : SetTable.below #[j] (j + 1) = 1 := by simp [SetTable.below, SetTable.below.go]
section
variable {prog : Program} {w : World} {A : Around} {E : Value → Shared → Prop} {s : Shared} {I S T : Addr} {o : Obj} {es : Array (Int × Value)} {ep i slot : Nat} {t : SetTable}
theorem next_place_item {Q : Option Value → Shared → Prop} {hv : Int} {x : Value} {j : Nat} (ht : w.params.followText "set-order" = false) (hled : t.led = true) (hs1 : es.size ≤ 1) (hit : SetIt s.heap I S (.int slot 0) i es.size ep)
    (ho : s.heap.get? S = some o) (hd : o.data = .set es ep t) (hf : t.fits es.size = true) (hx : es[SetTable.below t.place slot]? = some (hv, x)) (hj : t.place[SetTable.below t.place slot]? = some j)
    (hQ : ∀ h', SetIt h' I S (.int (j + 1 : Nat) 0) (i + 1) es.size ep → Heap.SameBut I s.heap h' → Q (some x) { s with heap := h' }) : wpAny (model prog w) A (pyNext (.ref I)) Q E s := by
  obtain ⟨oi, hoi, hci, hdi⟩ := id hit
  unfold pyNext
  refine wpAny_bind (wpAny_attempt (wpAny_callSpecial?_slot (name := Str.ofString "__next__") hit.typeIs slot_setit_next
    (wpAny_call_entry slot_setit_next hit.typeIs entry_setit_next ?_ (args_setit_next _))))
  unfold Builtin.«set_iterator.__next__»
  refine wpAny_bind (m := slotArgs "__next__" 0 _) (wpAny_pure ?_)
  refine wpAny_bind (wpAny_fieldsOf hoi hdi ?_)
  dsimp only
  unfold setEntries
  refine wpAny_bind (wpAny_bind (wpAny_setState_of ho hd hf (wpAny_pure ?_)))
  show wpAny _ _ (if (((es.size : Nat) : Int) != ((es.size : Nat) : Int)) = true then _ else _) _ _ _
  rw [if_neg (by simp)]
  have ht' : ¬ (model prog w).w.params.followText "set-order" = true := by rw [show (model prog w).w.params.followText "set-order" = false from ht]; simp
  unfold setNext setsByText
  refine wpAny_bind (wpAny_bind (wpAny_setState_of ho hd hf ?_))
  dsimp only
  refine wpAny_bind (wpAny_bind (wpAny_askSetting (wpAny_pure ?_)))
  dsimp only
  rw [if_neg ht']
  show wpAny _ _ (if (!t.plain && decide (es.size > 1)) = true then _ else _) _ _ _
  rw [if_neg (by simp; omega)]
  refine wpAny_bind ?_
  show wpAny _ _ (if (!t.led && !es.isEmpty) = true then _ else _) _ _ _
  rw [if_neg (by simp [hled])]
  refine wpAny_pure (wpAny_pure ?_)
  simp only [Int.toNat_natCast, hx, hj]
  refine wpAny_bind (wpAny_setField hoi hdi (by simp) ?_)
  have h1 := Heap.get?_update_self (Obj.mapFields (·.setIfInBounds 0 (rawInt ((j + 1 : Nat) : Int)))) hoi (Obj.isFreed_of_fields (Obj.data_mapFields hdi _))
  refine wpAny_bind (wpAny_setField h1 (Obj.data_mapFields hdi _) (by simp) (wpAny_pure ⟨x, rfl, wpAny_pure (hQ _ ?_ ((Heap.SameBut.update ..).trans (Heap.SameBut.update ..)))⟩))
  exact ⟨_, Heap.get?_update_self _ h1 (Obj.isFreed_of_fields (Obj.data_mapFields (Obj.data_mapFields hdi _) _)), (Obj.cls_mapFields ..).trans ((Obj.cls_mapFields ..).trans hci), by
    rw [Obj.data_mapFields (Obj.data_mapFields hdi _)]; simp [rawInt]⟩
theorem next_place_end {Q : Option Value → Shared → Prop} (hh : A.handled = none) (ht : w.params.followText "set-order" = false) (hled : t.led = true) (hs1 : es.size ≤ 1) (hit : SetIt s.heap I S (.int slot 0) i es.size ep)
    (ho : s.heap.get? S = some o) (hd : o.data = .set es ep t) (hf : t.fits es.size = true) (hx : es[SetTable.below t.place slot]? = none)
    (hQ : ∀ h' tk, (∀ b o, b ≠ I → s.heap.get? b = some o → h'.get? b = some o) → Q none { s with heap := h', toks := tk }) : wpAny (model prog w) A (pyNext (.ref I)) Q E s := by
  obtain ⟨oi, hoi, hci, hdi⟩ := id hit
  unfold pyNext
  refine wpAny_bind (wpAny_attempt (wpAny_callSpecial?_slot (name := Str.ofString "__next__") hit.typeIs slot_setit_next
    (wpAny_call_entry slot_setit_next hit.typeIs entry_setit_next ?_ (args_setit_next _))))
  unfold Builtin.«set_iterator.__next__»
  refine wpAny_bind (m := slotArgs "__next__" 0 _) (wpAny_pure ?_)
  refine wpAny_bind (wpAny_fieldsOf hoi hdi ?_)
  dsimp only
  unfold setEntries
  refine wpAny_bind (wpAny_bind (wpAny_setState_of ho hd hf (wpAny_pure ?_)))
  show wpAny _ _ (if (((es.size : Nat) : Int) != ((es.size : Nat) : Int)) = true then _ else _) _ _ _
  rw [if_neg (by simp)]
  have ht' : ¬ (model prog w).w.params.followText "set-order" = true := by rw [show (model prog w).w.params.followText "set-order" = false from ht]; simp
  unfold setNext setsByText
  refine wpAny_bind (wpAny_bind (wpAny_setState_of ho hd hf ?_))
  dsimp only
  refine wpAny_bind (wpAny_bind (wpAny_askSetting (wpAny_pure ?_)))
  dsimp only
  rw [if_neg ht']
  show wpAny _ _ (if (!t.plain && decide (es.size > 1)) = true then _ else _) _ _ _
  rw [if_neg (by simp; omega)]
  refine wpAny_bind ?_
  show wpAny _ _ (if (!t.led && !es.isEmpty) = true then _ else _) _ _ _
  rw [if_neg (by simp [hled])]
  refine wpAny_pure (wpAny_pure ?_)
  simp only [Int.toNat_natCast, hx]
  refine wpAny_bind (wpAny_setField hoi hdi (by simp) ?_)
  refine wpAny_mono (setit_stop (tk := s.toks) (A := A) (E := E) (Q := Q) (s := s) (I := I) hh (fun b o hb e => ?_) fun h' hk' => hQ h' s.toks hk') (fun fin s' hq => hq.elim) fun e s' he => ?_
  · exact (Heap.get?_update_other _ _ (Ne.symm hb)).trans e
  · refine wpAny_bind (wpAny_mono he (fun b s₂ hb => ?_) fun _ _ z => z)
    cases b with
    | true => exact wpAny_pure hb
    | false => exact wpAny_throw hb
end
end Mine
end

section -- Set7
open PySem PySem.W PyProof.Rows PySem.Calls PySem.Spec
namespace Mine
section
variable {prog : Program} {w : World} {A : Around} {E : Value → Shared → Prop} {s : Shared} {I S T : Addr} {o : Obj} {es : Array (Int × Value)} {ep i slot : Nat} {t : SetTable} {pl : List Nat}
theorem SetIt.at {h h' : Heap} {first : Value} {n : Nat} (x : SetIt h I S first i n ep) (e : ∀ o, h.get? I = some o → h'.get? I = some o) : SetIt h' I S first i n ep := let ⟨o, ho, r⟩ := x; ⟨o, e o ho, r⟩
noncomputable abbrev entS (es : Array (Int × Value)) (p : Nat) : Str := strV ((es[p]?.map (·.2)).getD .none)
theorem elem_str (hel : ElemsOf (strKind prog w) es.toList) {p : Nat} {e : Int × Value} (h : es[p]? = some e) : ∃ u, e.2 = .str (strV e.2) u := by
  obtain ⟨⟨k, hk, _⟩, _⟩ := hel e (by rw [← Array.getElem?_toList] at h; exact List.mem_of_getElem? h)
  obtain ⟨u, hu⟩ := Value.isStrOf_shape (show Value.isStrOf k e.2 = true from hk)
  exact ⟨u, by rw [hu]; rfl⟩
theorem walks_drawn (hh : A.handled = none) (hel : ElemsOf (strKind prog w) es.toList) (hd : o.data = .set es ep t) (hf : t.fits es.size = true) (hp : pl.Perm (List.range es.size)) (h1 : S ≠ I) (h2 : T ≠ I) :
    Walks prog w A I [I, S, T] [I] es.size (fun i v => ∃ x u, (pl.map (entS es))[i]? = some x ∧ v = .str x u) (fun i h => SetIt h I S (.ref T) i es.size ep ∧ h.get? T = some (tupObj (pl.map fun (i : Nat) => Value.int (i : Int) 0)) ∧ h.get? S = some o) where
  sub := fun b hb => by simp at hb; simp [hb]
  frame := fun _ _ _ st hk => ⟨st.1.at fun o e => hk I (by simp) o e, hk T (by simp) _ st.2.1, hk S (by simp) _ st.2.2⟩
  item := fun i s Q E hi st hQ => by
    have hl : pl.length = es.size := by rw [hp.length_eq, List.length_range]
    have hip : i < pl.length := by omega
    have hpe : pl[i]? = some pl[i] := List.getElem?_eq_getElem hip
    have hlt : pl[i] < es.size := List.mem_range.mp (hp.mem_iff.mp (List.getElem_mem hip))
    have hx : es[pl[i]]? = some es[pl[i]] := Array.getElem?_eq_getElem hlt
    refine next_drawn_item st.1 st.2.1 st.2.2 hd hf hpe (hv := (es[pl[i]]).1) (x := (es[pl[i]]).2) hx fun h' hit' hs' => ?_
    obtain ⟨u, hu⟩ := elem_str hel hx
    refine hQ _ h' s.toks ⟨entS es pl[i], u, by rw [List.getElem?_map, hpe]; rfl, ?_⟩ ⟨hit', (hs'.2 T h2).trans st.2.1, (hs'.2 S h1).trans st.2.2⟩ fun b o hb e => (hs'.2 b (by simpa using hb)).trans e
    rw [hu, entS, hx]
    rfl
  done := fun s Q E st hQ => next_drawn_end hh st.1 st.2.1 st.2.2 hd hf (List.getElem?_eq_none (by rw [hp.length_eq, List.length_range]; exact Nat.le_refl _)) fun h' tk hk => hQ h' tk fun b o hb e => hk b o (by simpa using hb) e
  self := fun _ _ _ _ st hQ => pyIter_setit st.1 hQ
theorem walks_text (hh : A.handled = none) (ht : w.params.followText "set-order" = true) (hel : ElemsOf (strKind prog w) es.toList) (hd : o.data = .set es ep t) (hf : t.fits es.size = true) (h1 : S ≠ I) :
    Walks prog w A I [I, S] [I] es.size (fun i v => ∃ x u, (((pickOrder (w.params.setOrder S ep) es).toList).map fun e => strV e.2)[i]? = some x ∧ v = .str x u) (fun i h => SetIt h I S (.int 0 0) i es.size ep ∧ h.get? S = some o) where
  sub := fun b hb => by simp at hb; simp [hb]
  frame := fun _ _ _ st hk => ⟨st.1.at fun o e => hk I (by simp) o e, hk S (by simp) _ st.2⟩
  item := fun i s Q E hi st hQ => by
    have hp := pickOrder_perm (w.params.setOrder S ep) es
    have hl : (pickOrder (w.params.setOrder S ep) es).size = es.size := by rw [← Array.length_toList, hp.length_eq, Array.length_toList]
    have hip : i < (pickOrder (w.params.setOrder S ep) es).size := by omega
    have hx := Array.getElem?_eq_getElem hip
    refine next_text_item ht st.1 st.2 hd hf (hv := ((pickOrder (w.params.setOrder S ep) es)[i]).1) (x := ((pickOrder (w.params.setOrder S ep) es)[i]).2) hx fun h' hit' hs' => ?_
    have hel' : ElemsOf (strKind prog w) (pickOrder (w.params.setOrder S ep) es).toList := hel.perm hp
    obtain ⟨u, hu⟩ := elem_str hel' hx
    refine hQ _ h' s.toks ⟨strV ((pickOrder (w.params.setOrder S ep) es)[i]).2, u, by rw [List.getElem?_map, Array.getElem?_toList, hx]; rfl, hu⟩ ⟨hit', (hs'.2 S h1).trans st.2⟩ fun b o hb e => (hs'.2 b (by simpa using hb)).trans e
  done := fun s Q E st hQ => by
    have hp := pickOrder_perm (w.params.setOrder S ep) es
    have hl : (pickOrder (w.params.setOrder S ep) es).size = es.size := by rw [← Array.length_toList, hp.length_eq, Array.length_toList]
    exact next_text_end hh ht st.1 st.2 hd hf (Array.getElem?_eq_none (by rw [hl]; exact Nat.le_refl _)) fun h' tk hk => hQ h' tk fun b o hb e => hk b o (by simpa using hb) e
  self := fun _ _ _ _ st hQ => pyIter_setit st.1 hQ
noncomputable def plSlot (t : SetTable) (i : Nat) : Nat := if i = 0 then 0 else t.place.getD 0 0 + 1
theorem walks_place (hh : A.handled = none) (ht : w.params.followText "set-order" = false) (hled : t.led = true) (hs1 : es.size ≤ 1) (hel : ElemsOf (strKind prog w) es.toList) (hd : o.data = .set es ep t) (hf : t.fits es.size = true) (h1 : S ≠ I) :
    Walks prog w A I [I, S] [I] es.size (fun i v => ∃ x u, (es.toList.map fun e => strV e.2)[i]? = some x ∧ v = .str x u) (fun i h => SetIt h I S (.int (plSlot t i : Nat) 0) i es.size ep ∧ h.get? S = some o) where
  sub := fun b hb => by simp at hb; simp [hb]
  frame := fun _ _ _ st hk => ⟨st.1.at fun o e => hk I (by simp) o e, hk S (by simp) _ st.2⟩
  item := fun i s Q E hi st hQ => by
    have hz : t.place.size = es.size := by
      have := hf
      simp only [SetTable.fits, Bool.and_eq_true, beq_iff_eq] at this
      exact this.1
    have hi0 : i = 0 := by omega
    subst hi0
    have hpl : t.place = #[t.place.getD 0 0] := by
      have h1z : t.place.size = 1 := by omega
      obtain ⟨j, hj⟩ := Array.size_eq_one_iff.mp h1z
      rw [hj]; rfl
    have hb : SetTable.below t.place (plSlot t 0) = 0 := by rw [hpl]; exact below_first _
    have hx : es[0]? = some es[0] := Array.getElem?_eq_getElem hi
    have hj : t.place[0]? = some (t.place.getD 0 0) := by rw [hpl]; rfl
    refine next_place_item ht hled hs1 st.1 st.2 hd hf (hv := (es[0]).1) (x := (es[0]).2) (j := t.place.getD 0 0) (by rw [hb]; exact hx) (by rw [hb]; exact hj) fun h' hit' hs' => ?_
    obtain ⟨u, hu⟩ := elem_str hel hx
    refine hQ _ h' s.toks ⟨strV (es[0]).2, u, by rw [List.getElem?_map, Array.getElem?_toList, hx]; rfl, hu⟩ ⟨hit', (hs'.2 S h1).trans st.2⟩ fun b o hb e => (hs'.2 b (by simpa using hb)).trans e
  done := fun s Q E st hQ => by
    have hz : t.place.size = es.size := by
      have := hf
      simp only [SetTable.fits, Bool.and_eq_true, beq_iff_eq] at this
      exact this.1
    refine next_place_end hh ht hled hs1 st.1 st.2 hd hf ?_ fun h' tk hk => hQ h' tk fun b o hb e => hk b o (by simpa using hb) e
    rcases Nat.lt_or_ge 0 es.size with h0 | h0
    · have h1z : t.place.size = 1 := by omega
      have hes : es.size = 1 := by omega
      obtain ⟨j, hj⟩ := Array.size_eq_one_iff.mp h1z
      rw [hes, hj, plSlot, if_neg (by decide), hj]
      rw [show (#[j] : Array Nat).getD 0 0 = j from rfl, below_past]
      exact Array.getElem?_eq_none (by omega)
    · have hes : es.size = 0 := by omega
      exact Array.getElem?_eq_none (by omega)
  self := fun _ _ _ _ st hQ => pyIter_setit st.1 hQ
theorem iter_set {xs : List Str} {Q : Value → Shared → Prop} (hh : A.handled = none) (ho : s.heap.get? S = some o) (hS : SetObj prog w o (ledW w) xs) (hn : xs.length ≤ 1000)
    (h : ∀ I fp (ord : List Str) St h' dr, Walks prog w A I fp [I] xs.length (fun i v => ∃ x u, ord[i]? = some x ∧ v = .str x u) St → ord.Perm xs → St 0 h' → (∀ b o, s.heap.get? b = some o → h'.get? b = some o) →
      (∀ b ∈ fp, b = S ∨ s.heap.objs.size ≤ b) → s.heap.objs.size ≤ I → Q (.ref I) { s with heap := h', drawn := dr }) : wpAny (model prog w) A (pyIter (.ref S)) Q E s := by
  obtain ⟨es, ep, t, hex, hd, hel, hf, hp, hnd, hled, hpl⟩ := hS
  have hsz := SetObj.size hp
  have hSl : S < s.heap.objs.size := Heap.lt_size ho
  refine pyIter_set ho hex.1 hd hf (by omega) (fun h1 h2 h3 pl dr hpp => ?_) fun h0 => ?_
  · have hz1 : (s.heap.push (tupObj (pl.map fun (i : Nat) => Value.int (i : Int) 0))).objs.size = s.heap.objs.size + 1 := Heap.size_push ..
    have W := walks_drawn (I := s.heap.objs.size + 1) (S := S) (T := s.heap.objs.size) (A := A) (prog := prog) (w := w) hh hel hd hf hpp (Nat.ne_of_lt (Nat.lt_succ_of_lt hSl)) (Nat.ne_of_lt (Nat.lt_succ_self _))
    rw [hsz] at W
    refine h _ _ (pl.map (entS es)) _ _ dr W ?_ ⟨⟨_, by rw [← hz1]; exact Heap.get?_push_size _ rfl, rfl, by rw [hsz]⟩, Heap.get?_push_of_some _ (Heap.get?_push_size _ rfl), Heap.get?_push_of_some _ (Heap.get?_push_of_some _ ho)⟩ (fun b o e => Heap.get?_push_of_some _ (Heap.get?_push_of_some _ e)) ?_ (Nat.le_succ _)
    · refine ((hpp.map (entS es)).trans ?_).trans hp
      have : (List.range es.size).map (entS es) = es.toList.map fun e => strV e.2 := by
        refine List.ext_getElem (by simp) fun n h1 h2 => ?_
        simp only [List.length_map, List.length_range] at h1
        simp [entS, h1]
      rw [this]
    · intro b hb
      simp only [List.mem_cons, List.not_mem_nil, or_false] at hb
      rcases hb with rfl | rfl | rfl
      · exact .inr (Nat.le_succ _)
      · exact .inl rfl
      · exact .inr (Nat.le_refl _)
  · have keep : ∀ b o', s.heap.get? b = some o' → (s.heap.push (setItObj (.int 0 0) 0 S es.size ep)).get? b = some o' := fun b o' e => Heap.get?_push_of_some _ e
    have off : ∀ b ∈ [s.heap.objs.size, S], b = S ∨ s.heap.objs.size ≤ b := by
      intro b hb
      simp only [List.mem_cons, List.not_mem_nil, or_false] at hb
      rcases hb with rfl | rfl
      · exact .inr (Nat.le_refl _)
      · exact .inl rfl
    cases ht : w.params.followText "set-order" with
    | true =>
      have W := walks_text (I := s.heap.objs.size) (S := S) (A := A) (prog := prog) (w := w) hh ht hel hd hf (Nat.ne_of_lt hSl)
      have g0 : SetIt (s.heap.push (setItObj (.int 0 0) 0 S es.size ep)) s.heap.objs.size S (.int 0 0) 0 es.size ep := ⟨_, Heap.get?_push_size _ rfl, rfl, rfl⟩
      rw [hsz] at W
      exact h _ _ _ _ _ s.drawn W (((pickOrder_perm _ es).map _).trans hp) ⟨hsz ▸ g0, keep _ _ ho⟩ keep off (Nat.le_refl _)
    | false =>
      have hs1 : es.size ≤ 1 := by
        rcases h0 with h0 | h0 | h0
        · rw [ht] at h0; cases h0
        · rcases Nat.lt_or_ge 0 es.size with h4 | h4
          · rw [hpl h4] at h0; cases h0
          · omega
        · exact h0
      have hl : t.led = true := by rw [hled]; simp [ledW, ht]
      have W := walks_place (I := s.heap.objs.size) (S := S) (A := A) (prog := prog) (w := w) hh ht hl hs1 hel hd hf (Nat.ne_of_lt hSl)
      have g0 : SetIt (s.heap.push (setItObj (.int 0 0) 0 S es.size ep)) s.heap.objs.size S (.int (plSlot t 0 : Nat) 0) 0 es.size ep := ⟨_, Heap.get?_push_size _ rfl, rfl, rfl⟩
      rw [hsz] at W
      exact h _ _ _ _ _ s.drawn W hp ⟨hsz ▸ g0, keep _ _ ho⟩ keep off (Nat.le_refl _)
end
end Mine
end

section -- For2
open PySem PySem.W PyProof.Rows PySem.Calls PySem.Spec
namespace Mine
section
variable {prog : Program} {w : World} {A : Around} {E : Value → Shared → Prop} {env : Env} {h₀ : Heap} {x : Str} {body : List Stmt} {Q : Flow → Shared → Prop} {s : Shared} {m : Str → Option Value} {news : List (Addr × Obj)} {S L : Addr} {xs : List Str} {o : Obj}
inductive TurnSI (h₀ : Heap) (L : Addr) (own news : List (Addr × Obj)) (x : Str) (m : Str → Option Value) (s s' : Shared) : Prop
  | mk (h' : Heap) (tk : Nat) (v : Option Value) (e : s' = { s with heap := h', toks := tk }) (F : Fr h₀ L h' (fun y => if y = x then v else m y)) (N : News h₀ L h' (news ++ own))
noncomputable def TurnS (h₀ : Heap) (L : Addr) (own news : List (Addr × Obj)) (x : Str) (m : Str → Option Value) (s : Shared) (G : Prop) (Q : Flow → Shared → Prop) (f : Flow) (s' : Shared) : Prop :=
  match f with
  | .ret v => Q (.ret v) s'
  | .brk => Q .next s'
  | _ => (f = .next ∨ f = .cont) ∧ G ∧ TurnSI h₀ L own news x m s s'
theorem loop_set (Good : Str → Prop) (hL : env.locals = L) (hh : A.handled = none) (F : Fr h₀ L s.heap m) (N : News h₀ L s.heap news) (ho : s.heap.get? S = some o) (hS : SetObj prog w o (ledW w) xs) (hn : xs.length ≤ 1000) (hSn : (S, o) ∈ news)
    (turn : ∀ y u h₁ tk dr own, y ∈ xs → (∀ p ∈ own, p.1 = S ∨ s.heap.objs.size ≤ p.1) → Fr h₀ L h₁ (fun z => if z = x then some (.str y u) else m z) → News h₀ L h₁ (news ++ own) →
      wpAny (model prog w) A (execs body env) (TurnS h₀ L own news x m { s with drawn := dr } (Good y) Q) E { s with heap := h₁, toks := tk, drawn := dr })
    (done : ∀ h' tk dr v, (∀ y ∈ xs, Good y) → Fr h₀ L h' (fun z => if z = x then v else m z) → News h₀ L h' news → Q .next { s with heap := h', toks := tk, drawn := dr }) :
    wpAny (model prog w) A (pyIter (.ref S)) (fun it s₂ => LoopAtV prog w A h₀ env x body Q E it s₂) E s := by
  subst hL
  have hLs : env.locals < s.heap.objs.size := F.ns.lt
  refine iter_set hh ho hS hn fun I fp ord St h' dr W hperm hst keep hfp hI => ?_
  refine ⟨I, fp, [I], xs.length, _, St, m, news, fun i m₁ news₁ => (Same x m m₁ ∧ ∀ j y, j < i → ord[j]? = some y → Good y) ∧ news₁ = news, rfl, W, ?_, ?_, ?_, hst, F.keeps keep, News.grown N keep, ⟨⟨Same.rfl, fun j y hj => absurd hj (Nat.not_lt_zero _)⟩, rfl⟩, ?_, ?_⟩
  · intro hm
    rcases hfp _ hm with e | e
    · exact (N _ hSn).2.1 e.symm
    · exact Nat.lt_irrefl _ (Nat.lt_of_lt_of_le hLs e)
  · intro b hb
    simp only [List.mem_cons, List.not_mem_nil, or_false] at hb
    subst hb
    cases e : h₀.get? b with
    | none => rfl
    | some o => exact absurd (Nat.lt_of_lt_of_le (Heap.lt_size (F.keep b o e)) hI) (Nat.lt_irrefl _)
  · intro p hp hb
    simp only [List.mem_cons, List.not_mem_nil, or_false] at hb
    have := Heap.lt_size (N p hp).1
    rw [hb] at this
    exact Nat.lt_irrefl _ (Nat.lt_of_lt_of_le this hI)
  · rintro i v m₁ news₁ s₁ own ⟨h₁, tk, rfl⟩ hi ⟨y, u, hy, rfl⟩ ⟨⟨hSm, hG⟩, rfl⟩ hoff hsub hget hall hst1 F₁ N₁
    rw [hSm.put] at F₁
    refine wpAny_mono (turn y u h₁ tk dr own (hperm.mem_iff.mp (List.mem_of_getElem? hy)) (fun p hp => hfp _ (hsub p hp)) F₁ (fun q hq => N₁ q ((List.mem_append.mp hq).elim (List.mem_append_right _) (List.mem_append_left _)))) (fun f s' hq => ?_) fun _ _ e => e
    cases f with
    | ret v => exact hq
    | brk => exact hq
    | next =>
      obtain ⟨_, hg, h2, tk2, v2, rfl, F2, N2⟩ := hq
      exact ⟨rfl, h2, tk2, _, _, rfl, F2, fun q hq => N2 q ((List.mem_append.mp hq).elim (List.mem_append_right _) (List.mem_append_left _)), hoff, ⟨Same.self, fun j z hj e => by
        rcases Nat.lt_succ_iff_lt_or_eq.mp hj with h | h
        · exact hG j z h e
        · subst h; rw [hy] at e; cases e; exact hg⟩, rfl⟩
    | cont =>
      obtain ⟨_, hg, h2, tk2, v2, rfl, F2, N2⟩ := hq
      exact ⟨rfl, h2, tk2, _, _, rfl, F2, fun q hq => N2 q ((List.mem_append.mp hq).elim (List.mem_append_right _) (List.mem_append_left _)), hoff, ⟨Same.self, fun j z hj e => by
        rcases Nat.lt_succ_iff_lt_or_eq.mp hj with h | h
        · exact hG j z h e
        · subst h; rw [hy] at e; cases e; exact hg⟩, rfl⟩
  · rintro h2 tk2 m' news' F' N' _ ⟨⟨hSm, hG⟩, rfl⟩
    rw [hSm.out] at F'
    refine done h2 tk2 dr _ (fun y hy => ?_) F' N'
    obtain ⟨j, hj, e⟩ := List.getElem_of_mem (hperm.mem_iff.mpr hy)
    exact hG j y (by rw [← hperm.length_eq]; exact hj) (by rw [List.getElem?_eq_getElem hj, e])
end
end Mine
end

section -- Set8
open PySem PySem.W PyProof.Rows PySem.Calls PySem.Spec
namespace Mine
theorem setObj_of {prog : Program} {w : World} {o : Obj} {led0 : Bool} {xs : List Str} (h : SetObj prog w o led0 xs) : o.SetObjOf (strKind prog w) (fun k => decide (k ∈ xs)) xs.length := by
  obtain ⟨es, ep, t, hex, hd, hel, hf, hp, hnd, hled, hpl⟩ := h
  refine ⟨hex, es, ep, t, hd, hel, fun k => ?_, SetObj.size hp, hf⟩
  rw [decide_eq_true_iff, ← setObj_idx hel hp k]
  rfl
end Mine
end

section -- Set9
open PySem PySem.W PyProof.Rows PySem.Calls PySem.Spec
namespace Mine
section
variable {prog : Program} {w : World} {A : Around} {E : Value → Shared → Prop} {s : Shared}
theorem code_set_new_none {Q₁ : Value → Shared → Prop}
    (h : Q₁ (.ref s.heap.objs.size) { s with heap := s.heap.push { cls := .type "set", dict := none, data := .set #[] 0 (.fresh 0 0 (ledW w)) } }) :
    codeAny (model prog w) A (.call (.builtin "set.__new__") ⟨[.type "set"], []⟩) (wants Q₁ E) s := by
  refine codeAny_of_tree ?_
  show wpAny _ A.in1 (do checkBuiltinCall "set.__new__" ⟨[.type "set"], []⟩; again (.builtin "set.__new__" ⟨[.type "set"], []⟩)) _ _ s
  refine wpAny_bind (wpAny_of_eq _root_.PySem.F.newCall_set_0 (wpAny_pure ⟨plainId_quiet _root_.PySem.F.plain_set_new _, codeAny_builtin _root_.PySem.F.entry_set_new ?_⟩))
  rw [Around.under_plainId _root_.PySem.F.plain_set_new _]
  unfold Builtin.«set.__new__» Builtin.Frozenset.newClass
  have hsub := sub_set_self
  obtain ⟨hp, g, d, tk, os⟩ := s
  dsimp only
  wp_walk
  refine wpAny_askSetting (wpAny_pure ?_)
  dsimp only
  simp only [newObj]
  refine wpAny_bind (wpAny_alloc (wpAny_pure ?_))
  exact wpAny_pure h
theorem call_set_none {Q : Value → Shared → Prop}
    (h : Q (.ref s.heap.objs.size) { s with heap := s.heap.push { cls := .type "set", dict := none, data := .set #[] 0 (.fresh 0 0 (ledW w)) } }) :
    wpAny (model prog w) A (call (.type "set") []) Q E s := by
  obtain ⟨c, tl, hmro⟩ := _root_.PySem.F.called_set.mro
  have hmade := _root_.PySem.F.called_set.made
  have hsub := _root_.PySem.F.called_set.sub
  refine wpAny_call (codeAny_of_tree ?_)
  show wpAny _ _ (callAny (.type "set") _) _ _ _
  refine wpAny_pure ⟨Code.quiet_builtin _ (by decide +kernel), codeAny_builtin _root_.PySem.F.entry_type_call ?_⟩
  rw [Around.under_plain (weight_type_call_type "set" [] []) rfl]
  have h1 := _root_.PySem.F.called_set.notType
  have h2 := _root_.PySem.F.called_set.canCreate
  have hct := _root_.PySem.F.typeCall_set_0
  repeat (any_goals (first | assumption | wp_step))
  refine codeAny_mono (code_set_new_none (E := E) (Q₁ := fun obj s₁ => obj = .ref s.heap.objs.size ∧ s₁ = { s with heap := s.heap.push { cls := .type "set", dict := none, data := .set #[] 0 (.fresh 0 0 (ledW w)) } }) ⟨rfl, rfl⟩) fun r s₁ hr => ?_
  cases r with
  | error e => exact hr
  | ok fl =>
    cases fl with
    | ret obj =>
      obtain ⟨rfl, rfl⟩ := hr
      have hS : (s.heap.push { cls := .type "set", dict := none, data := .set #[] 0 (.fresh 0 0 (ledW w)) }).get? s.heap.objs.size = some { cls := .type "set", dict := none, data := .set #[] 0 (.fresh 0 0 (ledW w)) } := Heap.get?_push_size _ rfl
      have hT : Shared.TypeIs { s with heap := s.heap.push { cls := .type "set", dict := none, data := .set #[] 0 (.fresh 0 0 (ledW w)) } } (.ref s.heap.objs.size) "set" := ⟨_, hS, rfl⟩
      have hli := _root_.PySem.F.called_set.init.lookup
      have hbi := _root_.PySem.F.called_set.init.bind (.ref s.heap.objs.size)
      repeat (any_goals (first | assumption | wp_step))
      refine codeAny_mono (codeAny_call_builtin (R := wants (fun r s₂ => r = .none ∧ Q (.ref s.heap.objs.size) s₂) E) _root_.PySem.F.called_set.init.plain _root_.PySem.F.entry_set_init (check_set_init hT ?_)) fun r₂ s₂ hr₂ => ?_
      · unfold Builtin.«set.__init__» noKeywords
        wp_walk
        exact ⟨rfl, h⟩
      · cases r₂ with
        | error e => exact hr₂
        | ok fl₂ =>
          cases fl₂ with
          | ret r =>
            obtain ⟨rfl, hq⟩ := hr₂
            repeat (any_goals (first | assumption | wp_step))
          | _ => exact hr₂.elim
    | _ => exact hr.elim
theorem cut_ref {M : Model} {e : Sem Value} {Q : Value → Shared → Prop} (P : Addr → Heap → Prop) (h1 : wpAny M A e (fun v s' => ∃ r h' tk, v = .ref r ∧ s' = { s with heap := h', toks := tk } ∧ P r h') E s)
    (h2 : ∀ r h' tk, P r h' → Q (.ref r) { s with heap := h', toks := tk }) : wpAny M A e Q E s :=
  wpAny_mono h1 (fun v s' ⟨r, h', tk, e1, e2, p⟩ => by subst e1; subst e2; exact h2 r h' tk p) fun _ _ x => x
theorem news_add1 {h₀ h h' : Heap} {L i : Addr} {m : Str → Option Value} {news : List (Addr × Obj)} {oi : Obj} (F : Fr h₀ L h m) (N : News h₀ L h news) (x : Ext h h') (q1 : h'.get? i = some oi) (f1 : h.get? i = none) : News h₀ L h' ((i, oi) :: news) := by
  intro p hp
  rcases List.mem_cons.mp hp with rfl | hp
  · refine ⟨q1, fun (q : i = L) => ?_, ?_⟩
    · obtain ⟨o, es, ep, ho, _⟩ := F.ns
      rw [q, ho] at f1; cases f1
    · cases q : h₀.get? i with
      | none => rfl
      | some o => have := F.keep _ _ q; rw [show h.get? i = none from f1] at this; cases this
  · exact ⟨x _ _ (N p hp).1, (N p hp).2⟩
noncomputable def FreshSet (prog : Program) (w : World) (h : Heap) (xs : List Str) (r : Addr) (h' : Heap) : Prop :=
  Ext h h' ∧ h.get? r = none ∧ ∃ o acc, h'.get? r = some o ∧ SetObj prog w o (ledW w) acc ∧ (∀ x, x ∈ acc ↔ x ∈ xs) ∧ acc.length ≤ xs.length
theorem size_none {h : Heap} : h.get? h.objs.size = none := by
  cases e : h.get? h.objs.size with
  | none => rfl
  | some o => exact absurd (Heap.lt_size e) (Nat.lt_irrefl _)
end
end Mine
end

section -- Comp5
open PySem PySem.W PyProof.Rows PySem.Calls PySem.Spec
namespace Mine
section
variable {M : Model} {A : Around} {E : Value → Shared → Prop} {s : Shared} {K : Frag} {mg mb : Str → Option Value} {scope : Scope} {cl : List (Str × Addr)} {C : Addr} {env : Env} {x : Str} {pos : Pos} {v : Value} {Q : Value → Shared → Prop}
theorem nmCG (g : s.heap.Ns mainGlobals mg) (X : K.In s.heap) (e : nsIn K mainGlobals x = some (some v)) (h : Q v s) (hge : env.globals = mainGlobals) (hk : scope.kind = .function) (hx : (compEnvC scope cl C env).kindOf x = some .globalImplicit) (hd : (x == ("__debug__" : Str)) = false) :
    wpAny M A (eval (.Name x pos) (compEnvC scope cl C env)) Q E s := Name_function_global hk hx (loadGlobal_global (env := compEnvC scope cl C env) (show s.heap.Ns env.globals mg from hge ▸ g) (mg_of X g e) h) hd
end
section
variable {prog : Program} {w : World} {A : Around} {E : Value → Shared → Prop} {s : Shared}
theorem freshSet_none {r : Addr} {h' : Heap} (hr : r = s.heap.objs.size) (hh : h' = s.heap.push { cls := .type "set", dict := none, data := .set #[] 0 (.fresh 0 0 (ledW w)) }) : FreshSet prog w s.heap [] r h' := by
  subst hr; subst hh
  exact ⟨fun b o e => Heap.get?_push_of_some _ e, size_none, _, [], Heap.get?_push_size _ rfl, setObj_fresh, fun x => Iff.rfl, Nat.le_refl _⟩
end
noncomputable def AllNe (d : Nat) : List (Addr × Obj) → Prop
  | [] => True
  | p :: r => @Ne Nat p.1 d ∧ AllNe d r
theorem allNe_of {h₀ h : Heap} {L d : Addr} : ∀ {l : List (Addr × Obj)}, News h₀ L h l → h.get? d = none → AllNe d l
  | [], _, _ => trivial
  | p :: r, N, f => ⟨fun (e : p.1 = d) => (by have := (N p (.head _)).1; rw [e, f] at this; cases this), allNe_of (fun q hq => N q (.tail _ hq)) f⟩
section
variable {prog : Program} {w : World} {A : Around} {E : Value → Shared → Prop} {s : Shared} {h₀ : Heap} {L : Addr} {m : Str → Option Value} {news : List (Addr × Obj)}
inductive NewSet (prog : Program) (w : World) (h₀ : Heap) (L : Addr) (m : Str → Option Value) (news : List (Addr × Obj)) (xs : List Str) (r : Addr) (h' : Heap) : Prop
  | mk (o : Obj) (acc : List Str) (hE0 : Fr h₀ L h' m) (hE1 : News h₀ L h' ((r, o) :: news)) (hE2 : AllNe r news) (hE3 : SetObj prog w o (ledW w) acc) (hE4 : (∀ x, x ∈ acc ↔ x ∈ xs)) (hE5 : acc.length ≤ xs.length)
theorem cut_set {e : Sem Value} {Q : Value → Shared → Prop} (xs : List Str) (F : Fr h₀ L s.heap m) (N : News h₀ L s.heap news) (h1 : wpAny (model prog w) A e (fun v s' => ∃ r h' tk, v = .ref r ∧ s' = { s with heap := h', toks := tk } ∧ NewSet prog w h₀ L m news xs r h') E s)
    (h2 : ∀ r h' tk, NewSet prog w h₀ L m news xs r h' → Q (.ref r) { s with heap := h', toks := tk }) : wpAny (model prog w) A e Q E s := cut_ref _ h1 h2
theorem newSet_of {xs acc : List Str} {r : Addr} {h h' : Heap} {o : Obj} (F : Fr h₀ L h m) (N : News h₀ L h news) (x : Ext h h') (f : h.get? r = none) (g : h'.get? r = some o) (hS : SetObj prog w o (ledW w) acc) (hm : ∀ x, x ∈ acc ↔ x ∈ xs) (hl : acc.length ≤ xs.length) : NewSet prog w h₀ L m news xs r h' :=
  ⟨o, acc, F.keeps x, news_add1 F N x g f, allNe_of N f, hS, hm, hl⟩
theorem newSet_none {r : Addr} {h h' : Heap} (F : Fr h₀ L h m) (N : News h₀ L h news) (hr : r = h.objs.size) (hh : h' = h.push { cls := .type "set", dict := none, data := .set #[] 0 (.fresh 0 0 (ledW w)) }) : NewSet prog w h₀ L m news [] r h' := by
  subst hr; subst hh
  exact newSet_of F N (fun b o e => Heap.get?_push_of_some _ e) size_none (Heap.get?_push_size _ rfl) setObj_fresh (fun x => Iff.rfl) (Nat.le_refl _)
inductive NewStrs (h₀ : Heap) (L : Addr) (m : Str → Option Value) (news : List (Addr × Obj)) (xs : List Str) (r : Addr) (h' : Heap) : Prop
  | mk (vs : List Value) (c : Nat) (hE0 : Fr h₀ L h' m) (hE1 : News h₀ L h' ((r, W.listOf vs.toArray c) :: news)) (hE2 : AllNe r news) (hE3 : StrsAre vs xs)
theorem cut_list {e : Sem Value} {Q : Value → Shared → Prop} (xs : List Str) (F : Fr h₀ L s.heap m) (N : News h₀ L s.heap news) (h1 : wpAny (model prog w) A e (fun v s' => ∃ r h' tk, v = .ref r ∧ s' = { s with heap := h', toks := tk } ∧ NewStrs h₀ L m news xs r h') E s)
    (h2 : ∀ r h' tk, NewStrs h₀ L m news xs r h' → Q (.ref r) { s with heap := h', toks := tk }) : wpAny (model prog w) A e Q E s := cut_ref _ h1 h2
theorem newStrs_of {xs : List Str} {r : Addr} {h h' : Heap} {vs : List Value} (F : Fr h₀ L h m) (N : News h₀ L h news) (x : Ext h h') (f : h.get? r = none) (g : h'.PlainList r (List.toArray vs)) (hv : StrsAre vs xs) : NewStrs h₀ L m news xs r h' :=
  let ⟨n, g⟩ := g
  ⟨vs, n, F.keeps x, news_add1 F N x g f, allNe_of N f, hv⟩
theorem allNe_lt {r : Nat} {l : List (Addr × Obj)} (h : ∀ p ∈ l, p.1 < r) : AllNe r l := by
  induction l with
  | nil => trivial
  | cons p q ih => exact ⟨Nat.ne_of_lt (h p (.head _)), ih fun z hz => h z (.tail _ hz)⟩
theorem newStrs_nil {r : Addr} {h' : Heap} {n : Nat} (F : Fr h₀ L h' m) (N : News h₀ L h' ((r, W.listOf #[] n) :: news)) (l : ∀ p ∈ news, p.1 < r) : NewStrs h₀ L m news [] r h' :=
  ⟨[], n, F, N, allNe_lt l, .nil⟩
theorem allLt_mem {r : Nat} {l : List (Addr × Obj)} (h : AllLt r l) : ∀ p ∈ l, p.1 < r := by
  induction l with
  | nil => exact fun p hp => nomatch hp
  | cons q t ih =>
    intro p hp
    rcases List.mem_cons.mp hp with rfl | hp
    · exact h.1
    · exact ih h.2 p hp
end
end Mine
end

section -- E11
open PySem PySem.W PyProof.Rows PySem.Calls PySem.Spec
namespace Mine

local macro_rules | `(tactic| walk_at "compareOp In str str") => `(tactic| first
  | (refine in_strF (by assumption) ?_)
  | (refine in_strF (b := true) (by decide +kernel) ?_)
  | (refine in_strF (b := false) (by decide +kernel) ?_))
local macro_rules | `(tactic| walk_at "truthy str") => `(tactic| first
  | (refine truthyF (by assumption) (by assumption) ?_; intro _)
  | (refine truthyF (b := true) (by decide +kernel) (by decide +kernel) ?_; intro _)
  | (refine truthyF (b := false) (by decide +kernel) (by decide +kernel) ?_; intro _))
theorem fr_q1 {h₀ h : Heap} {L x : Addr} {q b : Bool} {es : Tok} {nc : Option Value} (F : Fr h₀ L h (fun y => if y = Str.ofString "quoted" then some (.bool b) else lmap x q es nc y)) : Fr h₀ L h (lmap x b es nc) := by
  have e : (fun y => if y = Str.ofString "quoted" then some (.bool b) else lmap x q es nc y) = lmap x b es nc := by
    funext y
    unfold lmap
    by_cases h3 : y = Str.ofString "quoted"
    · subst h3; rfl
    · rw [if_neg h3, if_neg h3, if_neg h3]
  exact e ▸ F
section
variable {q : Bool} {tok r : List Nat} {c : Nat}
theorem lt_sp32 : lexTok .sp false [] (32 :: r) = lexTok .sp false [] r := by simp [lexTok, lexBad]
theorem lt_sp39 : lexTok .sp q tok (39 :: r) = lexTok .q1 q tok r := by simp [lexTok, lexBad]
theorem lt_sp34 : lexTok .sp q tok (34 :: r) = lexTok .q2 q tok r := by simp [lexTok, lexBad]
theorem lt_wd39 : lexTok .wd q tok (39 :: r) = lexTok .q1 q tok r := by simp [lexTok, lexBad]
theorem lt_wd34 : lexTok .wd q tok (34 :: r) = lexTok .q2 q tok r := by simp [lexTok, lexBad]
theorem lt_spo (hb : lexBad c = false) (c32 : c ≠ 32) (c39 : c ≠ 39) (c34 : c ≠ 34) : lexTok .sp false [] (c :: r) = lexTok .wd false [c] r := by simp [lexTok, hb, c32, c39, c34]
theorem lt_wdo (hb : lexBad c = false) (c32 : c ≠ 32) (c39 : c ≠ 39) (c34 : c ≠ 34) : lexTok .wd q tok (c :: r) = lexTok .wd q (tok ++ [c]) r := by simp [lexTok, hb, c32, c39, c34]
theorem lt_wd32 (h : tok ≠ [] ∨ q = true) : lexTok .wd q tok (32 :: r) = some (lexFin q tok, some LSt.sp, r) := by
  have hne : ¬ (q = false ∧ tok = []) := fun e => by
    rcases h with h | h
    · exact h e.2
    · rw [h] at e; cases e.1
  simp [lexTok, lexBad, hne]
end
theorem st_cases : ∀ st : LSt, (st = .sp ∨ st = .wd) ∨ (st = .q1 ∨ st = .q2)
  | .sp => .inl (.inl rfl)
  | .wd => .inl (.inr rfl)
  | .q1 => .inr (.inl rfl)
  | .q2 => .inr (.inr rfl)
theorem in_W {c : Nat} (h : (!(Builtin.Str.occurrences (Str.ofString "abcdfeghijklmnopqrstuvwxyzABCDEFGHIJKLMNOPQRSTUVWXYZ0123456789_ßàáâãäåæçèéêëìíîïðñòóôõöøùúûüýþÿÀÁÂÃÄÅÆÇÈÉÊËÌÍÎÏÐÑÒÓÔÕÖØÙÚÛÜÝÞ") ⟨#[c]⟩ 0 (Str.ofString "abcdfeghijklmnopqrstuvwxyzABCDEFGHIJKLMNOPQRSTUVWXYZ0123456789_ßàáâãäåæçèéêëìíîïðñòóôõöøùúûüýþÿÀÁÂÃÄÅÆÇÈÉÊËÌÍÎÏÐÑÒÓÔÕÖØÙÚÛÜÝÞ").length 1).isEmpty) = true) : c ≠ 39 ∧ c ≠ 34 := by
  have e := (found_lit (Str.ofString "abcdfeghijklmnopqrstuvwxyzABCDEFGHIJKLMNOPQRSTUVWXYZ0123456789_ßàáâãäåæçèéêëìíîïðñòóôõöøùúûüýþÿÀÁÂÃÄÅÆÇÈÉÊËÌÍÎÏÐÑÒÓÔÕÖØÙÚÛÜÝÞ") c _ rfl).symm.trans h
  have m := of_decide_eq_true e
  constructor <;> (intro z; subst z; exact absurd m (by decide +kernel))
theorem in_W' (c : Nat) : (!(Builtin.Str.occurrences (Str.ofString "abcdfeghijklmnopqrstuvwxyzABCDEFGHIJKLMNOPQRSTUVWXYZ0123456789_ßàáâãäåæçèéêëìíîïðñòóôõöøùúûüýþÿÀÁÂÃÄÅÆÇÈÉÊËÌÍÎÏÐÑÒÓÔÕÖØÙÚÛÜÝÞ") ⟨#[c]⟩ 0 (Str.ofString "abcdfeghijklmnopqrstuvwxyzABCDEFGHIJKLMNOPQRSTUVWXYZ0123456789_ßàáâãäåæçèéêëìíîïðñòóôõöøùúûüýþÿÀÁÂÃÄÅÆÇÈÉÊËÌÍÎÏÐÑÒÓÔÕÖØÙÚÛÜÝÞ").length 1).isEmpty) = false ∨ (!(Builtin.Str.occurrences (Str.ofString "abcdfeghijklmnopqrstuvwxyzABCDEFGHIJKLMNOPQRSTUVWXYZ0123456789_ßàáâãäåæçèéêëìíîïðñòóôõöøùúûüýþÿÀÁÂÃÄÅÆÇÈÉÊËÌÍÎÏÐÑÒÓÔÕÖØÙÚÛÜÝÞ") ⟨#[c]⟩ 0 (Str.ofString "abcdfeghijklmnopqrstuvwxyzABCDEFGHIJKLMNOPQRSTUVWXYZ0123456789_ßàáâãäåæçèéêëìíîïðñòóôõöøùúûüýþÿÀÁÂÃÄÅÆÇÈÉÊËÌÍÎÏÐÑÒÓÔÕÖØÙÚÛÜÝÞ").length 1).isEmpty) = true := by
  cases (!(Builtin.Str.occurrences (Str.ofString "abcdfeghijklmnopqrstuvwxyzABCDEFGHIJKLMNOPQRSTUVWXYZ0123456789_ßàáâãäåæçèéêëìíîïðñòóôõöøùúûüýþÿÀÁÂÃÄÅÆÇÈÉÊËÌÍÎÏÐÑÒÓÔÕÖØÙÚÛÜÝÞ") ⟨#[c]⟩ 0 (Str.ofString "abcdfeghijklmnopqrstuvwxyzABCDEFGHIJKLMNOPQRSTUVWXYZ0123456789_ßàáâãäåæçèéêëìíîïðñòóôõöøùúûüýþÿÀÁÂÃÄÅÆÇÈÉÊËÌÍÎÏÐÑÒÓÔÕÖØÙÚÛÜÝÞ").length 1).isEmpty)
  · exact .inl rfl
  · exact .inr rfl
theorem q_yes {c : Nat} (h : c = 39 ∨ c = 34) : (!(Builtin.Str.occurrences (Str.ofString "'\"") ⟨#[c]⟩ 0 (Str.ofString "'\"").length 1).isEmpty) = true := by
  rcases h with rfl | rfl <;> exact found_lit _ _ _ (by decide +kernel)
theorem q_facts {st : LSt} (h : st = .q1 ∨ st = .q2) : ∃ (S : Str) (k : Nat), (∀ t, stV (some st) t = .str S t) ∧ S = ⟨#[k]⟩ ∧ (S == Str.ofString " ") = false ∧ (!(Builtin.Str.occurrences (Str.ofString "'\"") S 0 (Str.ofString "'\"").length 1).isEmpty) = true ∧ ∀ (q : Bool) (tok r : List Nat) (c : Nat), lexBad c = false → lexTok st q tok (c :: r) = if c = k then lexTok .wd true tok r else lexTok st true (tok ++ [c]) r := by
  rcases h with rfl | rfl
  · refine ⟨Str.ofString "'", 39, fun _ => rfl, by decide +kernel, by decide +kernel, by decide +kernel, fun q tok r c hb => ?_⟩
    by_cases e : c = 39
    · subst e; simp [lexTok, lexBad]
    · simp [lexTok, hb, e]
  · refine ⟨Str.ofString "\"", 34, fun _ => rfl, by decide +kernel, by decide +kernel, by decide +kernel, fun q tok r c hb => ?_⟩
    by_cases e : c = 34
    · subst e; simp [lexTok, lexBad]
    · simp [lexTok, hb, e]
noncomputable abbrev Rd := Option (Option (List Nat) × Option LSt × List Nat)
section
variable (w : World) (xa dx i d pb fs : Addr) (LT : LTk) (k1 k2 k3 t : Tok) (x : Str)
inductive LexJ (g : Rd) (n : Nat) (m₁ : Str → Option Value) (news₁ : List (Addr × Obj)) : Prop
  | mk' (st : Option LSt) (q : Bool) (tok : List Nat) (p : Nat) (ts tt tp : Tok) (nc : Option Value) (es : Tok) (e1 : n = x.length - p) (e2 : m₁ = lmap xa q es nc) (e3 : news₁ = lexLed w xa dx i d pb fs LT (stV st ts) (.str ⟨List.toArray tok⟩ tt) k1 k2 k3 t x (p : Int) tp) (hp : p ≤ x.length) (ht : tok.length ≤ p) (hi : (st = some .sp → q = false ∧ tok = []) ∧ (st = some .wd → tok ≠ [] ∨ q = true)) (hl : goOn st q tok (x.cps.toList.drop p) = g)
inductive LexB (g : Option (List Nat) × Option LSt × List Nat) (m₁ : Str → Option Value) (news₁ : List (Addr × Obj)) : Prop
  | mk' (st : Option LSt) (q : Bool) (tok : List Nat) (p : Nat) (ts tt tp : Tok) (nc : Option Value) (es : Tok) (e2 : m₁ = lmap xa q es nc) (e3 : news₁ = lexLed w xa dx i d pb fs LT (stV st ts) (.str ⟨List.toArray tok⟩ tt) k1 k2 k3 t x (p : Int) tp) (hp : p ≤ x.length) (hl : (lexFin q tok, st, x.cps.toList.drop p) = g)
variable {w xa dx i d pb fs LT k1 k2 k3 t x}
theorem LexJ.mk {g : Rd} (st : Option LSt) (q : Bool) (tok : List Nat) (p : Nat) {ts tt tp : Tok} {nc : Option Value} {es : Tok} (hp : p ≤ x.length) (ht : tok.length ≤ p) (hi : (st = some .sp → q = false ∧ tok = []) ∧ (st = some .wd → tok ≠ [] ∨ q = true)) (hl : goOn st q tok (x.cps.toList.drop p) = g) :
    LexJ w xa dx i d pb fs LT k1 k2 k3 t x g (x.length - p) (lmap xa q es nc) (lexLed w xa dx i d pb fs LT (stV st ts) (.str ⟨List.toArray tok⟩ tt) k1 k2 k3 t x (p : Int) tp) := ⟨st, q, tok, p, ts, tt, tp, nc, es, rfl, rfl, rfl, hp, ht, hi, hl⟩
theorem LexB.mk {g : Option (List Nat) × Option LSt × List Nat} (st : Option LSt) (q : Bool) (tok : List Nat) (p : Nat) (ts : Tok) {tt tp : Tok} {nc : Option Value} {es : Tok} (hp : p ≤ x.length) (hl : (lexFin q tok, st, x.cps.toList.drop p) = g) :
    LexB w xa dx i d pb fs LT k1 k2 k3 t x g (lmap xa q es nc) (lexLed w xa dx i d pb fs LT (stV st ts) (.str ⟨List.toArray tok⟩ tt) k1 k2 k3 t x (p : Int) tp) := ⟨st, q, tok, p, ts, tt, tp, nc, es, rfl, rfl, hp, hl⟩
end
theorem spec_rtok {w : World} {mean : ExcName → Option Value} {mg mb : Str → Option Value} {dp un : Nat} {gd : Option (List Code)} {cn : Str} {cs : Scope} {a : Addr} {ccd : Value} {cl : List (Str × Addr)} {outer : List Env} {A₀ : Around} {base h₀ : Heap} {L : Addr} {m : Str → Option Value} {s : Shared} {Q : Value → Shared → Prop} {E : Value → Shared → Prop} {xa dx i d pb fs : Addr} {LT : LTk} {st : Option LSt} {ts tt k1 k2 k3 t tp : Tok} {x : Str} {p : Nat} {r : Option (List Nat)} {st' : Option LSt} {rest' : List Nat}
    (B : Below A₀ base outer h₀) (F : Fr h₀ L s.heap m) (X : (K0 w.params).In h₀) (T : Top topProg lo2 mean mg mb h₀) (hk : cs.kind = .function) (N : News h₀ L s.heap (lexLed w xa dx i d pb fs LT (stV st ts) (.str (Str.ofString "") tt) k1 k2 k3 t x (p : Int) tp)) (o1 : dx < xa) (o2 : xa < d) (o3 : d < i) (o4 : i < pb) (o5 : pb < fs) (hp : p ≤ x.length) (hx : x.length ≤ 1000000)
    (hst : st ≠ some .wd) (hlt : tokAt st (x.cps.toList.drop p) = some (r, st', rest')) (hd : dp + 10 < recursionLimit) (hu : un + 100 < cLine)
    (hret : ∀ tk' h' ts' tt' tp' p', (∀ b o, b ≠ dx → b ≠ d → s.heap.get? b = some o → h'.get? b = some o) → h'.get? dx = some (dictOf (lexD w LT i pb fs (stV st' ts') (.str (Str.ofString "") tt')) (nat_lit 19)) →
      h'.get? d = some (dictOf (ioD w k1 k2 k3 x t ((p' : Nat) : Int) tp') (nat_lit 3)) → p' ≤ x.length → x.cps.toList.drop p' = rest' → ∀ t', Q (resV r t') { s with heap := h', toks := tk' }) :
    wpAny (model PySem.Challenge.rw_oy0371_01.row.prog w) (ktrTop dp un gd cn cs L a ccd cl outer) (call (.ref (nat_lit 758)) [.ref xa]) Q E s := by
  dsimp only [lexLed, lexD, ioD] at N
  k_lt2 o1
  k_lt2 o2
  k_lt2 o3
  k_lt2 o4
  k_lt2 o5
  have n0 : @Ne Nat xa dx := Nat.ne_of_gt o1
  have n1 : @Ne Nat i dx := Nat.ne_of_gt (Nat.lt_trans (Nat.lt_trans o1 o2) o3)
  have n2 : @Ne Nat d dx := Nat.ne_of_gt (Nat.lt_trans o1 o2)
  have n3 : @Ne Nat pb dx := Nat.ne_of_gt (Nat.lt_trans (Nat.lt_trans (Nat.lt_trans o1 o2) o3) o4)
  have n4 : @Ne Nat fs dx := Nat.ne_of_gt (Nat.lt_trans (Nat.lt_trans (Nat.lt_trans (Nat.lt_trans o1 o2) o3) o4) o5)
  have n5 : @Ne Nat xa d := Nat.ne_of_lt o2
  have n6 : @Ne Nat i d := Nat.ne_of_gt o3
  have n7 : @Ne Nat pb d := Nat.ne_of_gt (Nat.lt_trans o3 o4)
  have n8 : @Ne Nat fs d := Nat.ne_of_gt (Nat.lt_trans (Nat.lt_trans o3 o4) o5)
  w_on
  w_strict (
    refine wpAny_call ?_
    k_dflt (refine' enterG [(Str.ofString "self", .ref xa)] ?k1 ?k2 ?k3 ?k4 ?k5 ?kA ?kF ?kK ?k6 ?k7 ?k8 ?k9 ?kB ?_ ?c2 ?c3 ?c4 ?c5; (case kA => exact rfl); (case kF => exact rfl); (case kK => assumption); (case k1 => k_asm); (case k2 => k_asm); (case k3 => k_asm); (case k4 => k_asm); (case k5 => k_asm); (case k6 => k_is); (case k7 => k_is); (case k8 => ktr_room); (case k9 => first | exact BindsTo.of_eq rfl | exact binds_K (by k_in) rfl (by k_is) rfl rfl rfl); (case c5 => decide); (case kB => exact locs rfl); (case c2 => exact rfl); (case c3 => exact rfl); (case c4 => exact rfl); k_whole; intro g' L' h' tk' FG' F' N' B' X' T' G'; (try dsimp only); (try (refine letA ?_; intro M' V' A')); (try k_fold))
    repeat' (first | (k_unfold; (try dsimp only)) | ((fail_if_success (with_reducible show wpAny _ _ (exec (Stmt.While _ _ _ _) _) _ _ _)); first | ((with_reducible show wpAny _ _ (call (Value.ref 573) _ _) _ _ _); k_here; k_dflt (refine spec_read (by k_asm) (by k_asm) (by k_asm) (by k_asm) (by first | exact rfl | assumption) (by exact news_pick2 (by k_asm) (by k_mem) (by k_mem)) (by assumption) (by assumption) (by omega) (by ktr_room) (by ktr_units) ?_; k_whole); intro tk9 h9 tp9 x9 q9 t9; (obtain ⟨F9, N9⟩ := call_put (by assumption) (by assumption) (by k_updF) x9 q9); clear x9 q9; (try dsimp only at N9); (try dsimp only); (try k_fold)) | walk1 | (dsimp only; walk1)))
    rename Fr _ _ _ _ => F9
    rename News _ _ _ _ => N9
    refine While_B (n₀ := x.length - p) (LexJ w xa dx i d pb fs LT k1 k2 k3 t x (some (r, st', rest'))) (LexB w xa dx i d pb fs LT k1 k2 k3 t x (r, st', rest')) F9 N9 ?start ?test ?turn ?after
    case start => exact ⟨st, false, [], p, ts, tt, tp, none, _, rfl, lmap_start, rfl, hp, Nat.zero_le _, ⟨fun _ => ⟨rfl, rfl⟩, fun e => absurd e hst⟩, goOn_start hlt⟩
    case test => (intro s Q hq; walk1; walk1; exact wpAny_truthy_bool hq)
    case turn =>
      rintro n m₁ news₁ h₁ tk₁ F₁ N₁ ⟨st, q, tok, p, ts, tt, tp, nc, es, rfl, rfl, rfl, hp, htok, hinv, hres⟩
      dsimp only [lexLed, lexD, ioD] at N₁
      have hnl := goOn_nl hres
      repeat' (first | (k_unfold; (try dsimp only)) | ((fail_if_success (with_reducible show wpAny _ _ (exec (Stmt.If (Expr.Compare _ [CmpOp.Is] _ _) _ _ _) _) _ _ _)); first | ((with_reducible show wpAny _ _ (call (Value.ref 573) _ _) _ _ _); k_here; k_dflt (refine spec_read (by k_asm) (by k_asm) (by k_asm) (by k_asm) (by first | exact rfl | assumption) (by exact news_pick2 (by k_asm) (by k_mem) (by k_mem)) (by assumption) (by assumption) (by omega) (by ktr_room) (by ktr_units) ?_; k_whole); intro tk9 h9 tp9 x9 q9 t9; (obtain ⟨F9, N9⟩ := call_put (by assumption) (by assumption) (by k_updF) x9 q9); clear x9 q9; (try dsimp only at N9); (try dsimp only); (try k_fold)) | walk1 | (dsimp only; walk1)))
      rename Fr _ _ _ _ => FA
      rename News _ _ _ _ => NA
      clear hnl
      have FA := fr_nc FA
      cases st with
      | none =>
        have hr0 : (if q = false ∧ tok = [] ∧ x.cps.toList.drop p = [] then some ((none : Option (List Nat)), (none : Option LSt), ([] : List Nat)) else none) = some (r, st', rest') := hres
        by_cases hz : q = false ∧ tok = [] ∧ x.cps.toList.drop p = []
        · obtain ⟨rfl, rfl, hd0⟩ := hz
          rw [if_pos ⟨rfl, rfl, hd0⟩] at hr0
          rw [nextC_nil hd0] at FA
          rw [nextP_nil hd0] at NA
          dsimp only [stV] at NA
          repeat' (first | (k_unfold; (try dsimp only)) | walk1 | (dsimp only; walk1))
          rename Fr _ _ _ _ => FZ0
          rename News _ _ _ _ => NZ
          first | have FZ := fr_q1 FZ0 | have FZ := FZ0
          try dsimp only
          refine StepB.brk FZ NZ rfl (LexB.mk (none) false [] (p) (0) hp ?hl)
          case hl => (rw [hd0]; exact Option.some.inj hr0)
        · rw [if_neg hz] at hr0
          cases hr0
      | some st =>
        have hr1 : lexTok st q tok (x.cps.toList.drop p) = some (r, st', rest') := hres
        have qs := st_cases st
        rcases qs with (rfl | rfl) | hqs
        · obtain ⟨hq0, ht0⟩ := hinv.1 rfl
          subst hq0 ht0
          dsimp only [stV] at NA
          refine letD NA ?_
          clear NA
          intro eN NA
          repeat' (first | (k_unfold; (try dsimp only)) | ((fail_if_success (with_reducible show wpAny _ _ (exec (Stmt.If (Expr.UnaryOp _ _ _) _ _ _) _) _ _ _)); first | walk1 | (dsimp only; walk1)))
          rename Fr _ _ _ _ => FA
          rename News _ _ _ _ => NA
          cases hdr : x.cps.toList.drop p with
          | nil =>
            rw [hdr] at hr1
            rw [nextC_nil hdr] at FA
            rw [nextP_nil hdr] at NA
            repeat' (first | (k_unfold; (try dsimp only)) | walk1 | (dsimp only; walk1))
            rename Fr _ _ _ _ => FZ0
            rename News _ _ _ _ => NZ
            first | have FZ := fr_q1 FZ0 | have FZ := FZ0
            try dsimp only
            refine StepB.brk FZ NZ rfl (LexB.mk (none) false [] (p) (0) hp ?hl)
            case hl => (rw [hdr]; exact Option.some.inj hr1)
          | cons c rr =>
            rw [hdr] at hr1
            rw [nextC_cons hdr] at FA
            rw [nextP_cons hdr] at NA
            have hb := lexTok_bad hr1
            obtain ⟨hplt, hdr1⟩ := drop_lt hdr
            have hp1 : p + 1 ≤ x.length := hplt
            obtain ⟨b92, b9, b10, b13⟩ := bad_ne hb
            have hone := one_true (c := c)
            have hlen : (⟨#[c]⟩ : Str).length ≤ 16777216 := (by decide : (1 : Nat) ≤ 16777216)
            have hesc := in_esc b92
            have hnil := in_nil (c := c)
            repeat' (first | (k_unfold; (try dsimp only)) | ((fail_if_success (with_reducible show wpAny _ _ (exec (Stmt.If (Expr.Compare _ [CmpOp.In] [Expr.Attribute _ (Str.ofString "whitespace") _] _) _ _ _) _) _ _ _)); first | walk1 | (dsimp only; walk1)))
            rename Fr _ _ _ _ => FA
            rename News _ _ _ _ => NA
            by_cases c32 : c = 32
            · subst c32
              have hlc : (⟨#[32]⟩ : Str) = Str.ofString " " := by decide +kernel
              rw [hlc] at FA
              clear hone hlen hesc hnil
              have hr2 := lt_sp32.symm.trans hr1
              repeat' (first | (k_unfold; (try dsimp only)) | walk1 | (dsimp only; walk1))
              rename Fr _ _ _ _ => FZ0
              rename News _ _ _ _ => NZ
              first | have FZ := fr_q1 FZ0 | have FZ := FZ0
              try dsimp only
              refine StepB.cont FZ NZ rfl (n_dec hp1) (LexJ.mk (some .sp) false [] (p + 1) hp1 ?ht ?hi ?hl)
              case ht => first | exact Nat.zero_le _ | exact len_one | exact Nat.le_succ_of_le (by assumption) | exact len_snoc (by assumption)
              case hi => exact ⟨fun e => by first | (cases e; done) | exact ⟨rfl, rfl⟩, fun e => by first | (cases e; done) | exact .inr rfl | exact .inl (by simp)⟩
              case hl => (show lexTok _ _ _ _ = _; rw [hdr1]; exact hr2)
            · have hws := in_ws ⟨c32, b9, b13, b10⟩
              repeat' (first | (k_unfold; (try dsimp only)) | ((fail_if_success (with_reducible show wpAny _ _ (exec (Stmt.If (Expr.Compare _ [CmpOp.In] [Expr.Attribute _ (Str.ofString "wordchars") _] _) _ _ _) _) _ _ _)); first | walk1 | (dsimp only; walk1)))
              rename Fr _ _ _ _ => FA
              rename News _ _ _ _ => NA
              rcases in_W' c with hW | hW
              · repeat' (first | (k_unfold; (try dsimp only)) | ((fail_if_success (with_reducible show wpAny _ _ (exec (Stmt.If (Expr.Compare _ [CmpOp.In] [Expr.Attribute _ (Str.ofString "quotes") _] _) _ _ _) _) _ _ _)); first | walk1 | (dsimp only; walk1)))
                rename Fr _ _ _ _ => FA
                rename News _ _ _ _ => NA
                by_cases hq9 : c = 39 ∨ c = 34
                · have hqy := q_yes hq9
                  repeat' (first | (k_unfold; (try dsimp only)) | walk1 | (dsimp only; walk1))
                  rename News _ _ _ _ => NZ0
                  rcases hq9 with rfl | rfl
                  · have hlc : (⟨#[39]⟩ : Str) = Str.ofString "'" := by decide +kernel
                    dsimp (zetaDelta := true) only at NZ0
                    rw [hlc] at NZ0
                    have hr2 := lt_sp39.symm.trans hr1
                    rename Fr _ _ _ _ => FZ0
                    rename News _ _ _ _ => NZ
                    first | have FZ := fr_q1 FZ0 | have FZ := FZ0
                    try dsimp only
                    refine StepB.next FZ NZ rfl (n_dec hp1) (LexJ.mk (some .q1) false [] (p + 1) hp1 ?ht ?hi ?hl)
                    case ht => first | exact Nat.zero_le _ | exact len_one | exact Nat.le_succ_of_le (by assumption) | exact len_snoc (by assumption)
                    case hi => exact ⟨fun e => by first | (cases e; done) | exact ⟨rfl, rfl⟩, fun e => by first | (cases e; done) | exact .inr rfl | exact .inl (by simp)⟩
                    case hl => (show lexTok _ _ _ _ = _; rw [hdr1]; exact hr2)
                  · have hlc : (⟨#[34]⟩ : Str) = Str.ofString "\"" := by decide +kernel
                    dsimp (zetaDelta := true) only at NZ0
                    rw [hlc] at NZ0
                    have hr2 := lt_sp34.symm.trans hr1
                    rename Fr _ _ _ _ => FZ0
                    rename News _ _ _ _ => NZ
                    first | have FZ := fr_q1 FZ0 | have FZ := FZ0
                    try dsimp only
                    refine StepB.next FZ NZ rfl (n_dec hp1) (LexJ.mk (some .q2) false [] (p + 1) hp1 ?ht ?hi ?hl)
                    case ht => first | exact Nat.zero_le _ | exact len_one | exact Nat.le_succ_of_le (by assumption) | exact len_snoc (by assumption)
                    case hi => exact ⟨fun e => by first | (cases e; done) | exact ⟨rfl, rfl⟩, fun e => by first | (cases e; done) | exact .inr rfl | exact .inl (by simp)⟩
                    case hl => (show lexTok _ _ _ _ = _; rw [hdr1]; exact hr2)
                · have c39 : c ≠ 39 := fun e => hq9 (.inl e)
                  have c34 : c ≠ 34 := fun e => hq9 (.inr e)
                  have hr2 := (lt_spo hb c32 c39 c34).symm.trans hr1
                  have hqs := in_quotes ⟨c39, c34⟩
                  repeat' (first | (k_unfold; (try dsimp only)) | walk1 | (dsimp only; walk1))
                  rename Fr _ _ _ _ => FZ0
                  rename News _ _ _ _ => NZ
                  first | have FZ := fr_q1 FZ0 | have FZ := FZ0
                  try dsimp only
                  refine StepB.next FZ NZ rfl (n_dec hp1) (LexJ.mk (some .wd) false [c] (p + 1) hp1 ?ht ?hi ?hl)
                  case ht => first | exact Nat.zero_le _ | exact len_one | exact Nat.le_succ_of_le (by assumption) | exact len_snoc (by assumption)
                  case hi => exact ⟨fun e => by first | (cases e; done) | exact ⟨rfl, rfl⟩, fun e => by first | (cases e; done) | exact .inr rfl | exact .inl (by simp)⟩
                  case hl => (show lexTok _ _ _ _ = _; rw [hdr1]; exact hr2)
              · obtain ⟨c39, c34⟩ := in_W hW
                have hr2 := (lt_spo hb c32 c39 c34).symm.trans hr1
                repeat' (first | (k_unfold; (try dsimp only)) | walk1 | (dsimp only; walk1))
                rename Fr _ _ _ _ => FZ0
                rename News _ _ _ _ => NZ
                first | have FZ := fr_q1 FZ0 | have FZ := FZ0
                try dsimp only
                refine StepB.next FZ NZ rfl (n_dec hp1) (LexJ.mk (some .wd) false [c] (p + 1) hp1 ?ht ?hi ?hl)
                case ht => first | exact Nat.zero_le _ | exact len_one | exact Nat.le_succ_of_le (by assumption) | exact len_snoc (by assumption)
                case hi => exact ⟨fun e => by first | (cases e; done) | exact ⟨rfl, rfl⟩, fun e => by first | (cases e; done) | exact .inr rfl | exact .inl (by simp)⟩
                case hl => (show lexTok _ _ _ _ = _; rw [hdr1]; exact hr2)
        · dsimp only [stV] at NA
          refine letD NA ?_
          clear NA
          intro eN NA
          repeat' (first | (k_unfold; (try dsimp only)) | ((fail_if_success (with_reducible show wpAny _ _ (exec (Stmt.If (Expr.UnaryOp _ _ _) _ _ _) _) _ _ _)); first | walk1 | (dsimp only; walk1)))
          rename Fr _ _ _ _ => FA
          rename News _ _ _ _ => NA
          cases hdr : x.cps.toList.drop p with
          | nil =>
            rw [hdr] at hr1
            rw [nextC_nil hdr] at FA
            rw [nextP_nil hdr] at NA
            repeat' (first | (k_unfold; (try dsimp only)) | walk1 | (dsimp only; walk1))
            rename Fr _ _ _ _ => FZ0
            rename News _ _ _ _ => NZ
            first | have FZ := fr_q1 FZ0 | have FZ := FZ0
            try dsimp only
            refine StepB.brk FZ (news_tail NZ) rfl (LexB.mk (none) q tok (p) (0) hp ?hl)
            case hl => (rw [hdr]; exact Option.some.inj hr1)
          | cons c rr =>
            rw [hdr] at hr1
            rw [nextC_cons hdr] at FA
            rw [nextP_cons hdr] at NA
            have hb := lexTok_bad hr1
            obtain ⟨hplt, hdr1⟩ := drop_lt hdr
            have hp1 : p + 1 ≤ x.length := hplt
            obtain ⟨b92, b9, b10, b13⟩ := bad_ne hb
            have hone := one_true (c := c)
            have hlen : (⟨#[c]⟩ : Str).length ≤ 16777216 := (by decide : (1 : Nat) ≤ 16777216)
            have hesc := in_esc b92
            have hnil := in_nil (c := c)
            repeat' (first | (k_unfold; (try dsimp only)) | ((fail_if_success (with_reducible show wpAny _ _ (exec (Stmt.If (Expr.Compare _ [CmpOp.In] [Expr.Attribute _ (Str.ofString "whitespace") _] _) _ _ _) _) _ _ _)); first | walk1 | (dsimp only; walk1)))
            rename Fr _ _ _ _ => FA
            rename News _ _ _ _ => NA
            by_cases c32 : c = 32
            · subst c32
              have hlc : (⟨#[32]⟩ : Str) = Str.ofString " " := by decide +kernel
              rw [hlc] at FA
              clear hone hlen hesc hnil
              have hr2 := (lt_wd32 (hinv.2 rfl)).symm.trans hr1
              have htl : (⟨List.toArray tok⟩ : Str).length ≤ 16777216 := by show tok.toArray.size ≤ _; rw [List.size_toArray]; exact Nat.le_trans (by assumption : tok.length ≤ p) (Nat.le_trans (Nat.le_of_lt hp1) (Nat.le_trans (by assumption : x.length ≤ 1000000) (by decide)))
              repeat' (first | (k_unfold; (try dsimp only)) | ((fail_if_success (with_reducible show wpAny _ _ (exec (Stmt.If (Expr.BoolOp _ _ _) _ _ _) _) _ _ _)); first | walk1 | (dsimp only; walk1)))
              rename Fr _ _ _ _ => FA
              rename News _ _ _ _ => NA
              by_cases ht0 : tok = []
              · have hq1 : q = true := by
                  rcases hinv.2 rfl with h | h
                  · exact absurd ht0 h
                  · exact h
                subst ht0 hq1
                repeat' (first | (k_unfold; (try dsimp only)) | walk1 | (dsimp only; walk1))
                rename Fr _ _ _ _ => FZ0
                rename News _ _ _ _ => NZ
                first | have FZ := fr_q1 FZ0 | have FZ := FZ0
                try dsimp only
                refine StepB.brk FZ (news_tail NZ) rfl (LexB.mk (some .sp) true [] (p + 1) (_) hp1 ?hl)
                case hl => (rw [hdr1]; exact Option.some.inj hr2)
              · have htp : ((((⟨List.toArray tok⟩ : Str).length : Nat) : Int) != 0) = true := by
                  apply bne_iff_ne.mpr
                  have : (⟨List.toArray tok⟩ : Str).length = tok.length := by show tok.toArray.size = _; rw [List.size_toArray]
                  rw [this]
                  exact fun e => Nat.ne_of_gt (List.length_pos_iff.mpr ht0) (Int.ofNat.inj e)
                repeat' (first | (k_unfold; (try dsimp only)) | walk1 | (dsimp only; walk1))
                rename Fr _ _ _ _ => FZ0
                rename News _ _ _ _ => NZ
                first | have FZ := fr_q1 FZ0 | have FZ := FZ0
                try dsimp only
                refine StepB.brk FZ (news_tail NZ) rfl (LexB.mk (some .sp) q tok (p + 1) (_) hp1 ?hl)
                case hl => (rw [hdr1]; exact Option.some.inj hr2)
            · have hws := in_ws ⟨c32, b9, b13, b10⟩
              repeat' (first | (k_unfold; (try dsimp only)) | ((fail_if_success (with_reducible show wpAny _ _ (exec (Stmt.If (Expr.BoolOp _ [_, Expr.Compare _ [CmpOp.In] [Expr.Attribute _ (Str.ofString "quotes") _] _] _) _ _ _) _) _ _ _)); first | walk1 | (dsimp only; walk1)))
              rename Fr _ _ _ _ => FA
              rename News _ _ _ _ => NA
              by_cases hq9 : c = 39 ∨ c = 34
              · have hqy := q_yes hq9
                repeat' (first | (k_unfold; (try dsimp only)) | walk1 | (dsimp only; walk1))
                rename News _ _ _ _ => NZ0
                rcases hq9 with rfl | rfl
                · have hlc : (⟨#[39]⟩ : Str) = Str.ofString "'" := by decide +kernel
                  dsimp (zetaDelta := true) only at NZ0
                  rw [hlc] at NZ0
                  have hr2 := lt_wd39.symm.trans hr1
                  rename Fr _ _ _ _ => FZ0
                  rename News _ _ _ _ => NZ
                  first | have FZ := fr_q1 FZ0 | have FZ := FZ0
                  try dsimp only
                  refine StepB.next FZ (news_tail NZ) rfl (n_dec hp1) (LexJ.mk (some .q1) q tok (p + 1) hp1 ?ht ?hi ?hl)
                  case ht => first | exact Nat.zero_le _ | exact len_one | exact Nat.le_succ_of_le (by assumption) | exact len_snoc (by assumption)
                  case hi => exact ⟨fun e => by first | (cases e; done) | exact ⟨rfl, rfl⟩, fun e => by first | (cases e; done) | exact .inr rfl | exact .inl (by simp)⟩
                  case hl => (show lexTok _ _ _ _ = _; rw [hdr1]; exact hr2)
                · have hlc : (⟨#[34]⟩ : Str) = Str.ofString "\"" := by decide +kernel
                  dsimp (zetaDelta := true) only at NZ0
                  rw [hlc] at NZ0
                  have hr2 := lt_wd34.symm.trans hr1
                  rename Fr _ _ _ _ => FZ0
                  rename News _ _ _ _ => NZ
                  first | have FZ := fr_q1 FZ0 | have FZ := FZ0
                  try dsimp only
                  refine StepB.next FZ (news_tail NZ) rfl (n_dec hp1) (LexJ.mk (some .q2) q tok (p + 1) hp1 ?ht ?hi ?hl)
                  case ht => first | exact Nat.zero_le _ | exact len_one | exact Nat.le_succ_of_le (by assumption) | exact len_snoc (by assumption)
                  case hi => exact ⟨fun e => by first | (cases e; done) | exact ⟨rfl, rfl⟩, fun e => by first | (cases e; done) | exact .inr rfl | exact .inl (by simp)⟩
                  case hl => (show lexTok _ _ _ _ = _; rw [hdr1]; exact hr2)
              · have c39 : c ≠ 39 := fun e => hq9 (.inl e)
                have c34 : c ≠ 34 := fun e => hq9 (.inr e)
                have hr2 := (lt_wdo hb c32 c39 c34).symm.trans hr1
                have hqs := in_quotes ⟨c39, c34⟩
                repeat' (first | (k_unfold; (try dsimp only)) | ((fail_if_success (with_reducible show wpAny _ _ (exec (Stmt.If (Expr.BoolOp _ [_, _, _] _) _ _ _) _) _ _ _)); first | walk1 | (dsimp only; walk1)))
                rename Fr _ _ _ _ => FA
                rename News _ _ _ _ => NA
                rcases in_W' c with hW | hW
                all_goals
                  repeat' (first | (k_unfold; (try dsimp only)) | walk1 | (dsimp only; walk1))
                  rename Fr _ _ _ _ => FZ0
                  rename News _ _ _ _ => NZ
                  first | have FZ := fr_q1 FZ0 | have FZ := FZ0
                  try dsimp only
                  dsimp (zetaDelta := true) only at NZ
                  rw [tok_add] at NZ
                  refine StepB.next FZ (news_tail NZ) rfl (n_dec hp1) (LexJ.mk (some .wd) q (tok ++ [c]) (p + 1) hp1 ?ht ?hi ?hl)
                  case ht => first | exact Nat.zero_le _ | exact len_one | exact Nat.le_succ_of_le (by assumption) | exact len_snoc (by assumption)
                  case hi => exact ⟨fun e => by first | (cases e; done) | exact ⟨rfl, rfl⟩, fun e => by first | (cases e; done) | exact .inr rfl | exact .inl (by simp)⟩
                  case hl => (show lexTok _ _ _ _ = _; rw [hdr1]; exact hr2)
        · obtain ⟨S, k, hS, hSk, hS1, hS2, hSl⟩ := q_facts hqs
          try dsimp only at NA
          rw [hS] at NA
          refine letD NA ?_
          clear NA
          intro eN NA
          cases hdr : x.cps.toList.drop p with
          | nil =>
            rw [hdr] at hr1
            rcases hqs with rfl | rfl <;> cases hr1
          | cons c rr =>
            rw [hdr] at hr1
            rw [nextC_cons hdr] at FA
            rw [nextP_cons hdr] at NA
            have hb := lexTok_bad hr1
            obtain ⟨hplt, hdr1⟩ := drop_lt hdr
            have hp1 : p + 1 ≤ x.length := hplt
            obtain ⟨b92, b9, b10, b13⟩ := bad_ne hb
            have hone := one_true (c := c)
            have hlen : (⟨#[c]⟩ : Str).length ≤ 16777216 := (by decide : (1 : Nat) ≤ 16777216)
            have hesc := in_esc b92
            have hnil := in_nil (c := c)
            rw [hSl _ _ _ _ hb] at hr1
            repeat' (first | (k_unfold; (try dsimp only)) | ((fail_if_success (with_reducible show wpAny _ _ (exec (Stmt.If (Expr.Compare _ [CmpOp.Eq] [Expr.Attribute _ _ _] _) _ _ _) _) _ _ _)); first | walk1 | (dsimp only; walk1)))
            rename Fr _ _ _ _ => FA
            rename News _ _ _ _ => NA
            by_cases cq : c = k
            · rw [if_pos cq] at hr1
              have hr2 := hr1
              have heq : ((⟨#[c]⟩ : Str) == S) = true := by rw [hSk, cq]; exact beq_self_eq_true _
              repeat' (first | (k_unfold; (try dsimp only)) | walk1 | (dsimp only; walk1))
              rename Fr _ _ _ _ => FZ0
              rename News _ _ _ _ => NZ
              first | have FZ := fr_q1 FZ0 | have FZ := FZ0
              try dsimp only
              refine StepB.next FZ NZ rfl (n_dec hp1) (LexJ.mk (some .wd) true tok (p + 1) hp1 ?ht ?hi ?hl)
              case ht => first | exact Nat.zero_le _ | exact len_one | exact Nat.le_succ_of_le (by assumption) | exact len_snoc (by assumption)
              case hi => exact ⟨fun e => by first | (cases e; done) | exact ⟨rfl, rfl⟩, fun e => by first | (cases e; done) | exact .inr rfl | exact .inl (by simp)⟩
              case hl => (show lexTok _ _ _ _ = _; rw [hdr1]; exact hr2)
            · rw [if_neg cq] at hr1
              have hr2 := hr1
              have heq : ((⟨#[c]⟩ : Str) == S) = false := ne_lit hSk cq
              repeat' (first | (k_unfold; (try dsimp only)) | walk1 | (dsimp only; walk1))
              rename Fr _ _ _ _ => FZ0
              rename News _ _ _ _ => NZ
              first | have FZ := fr_q1 FZ0 | have FZ := FZ0
              try dsimp only
              dsimp (zetaDelta := true) only at NZ
              rw [tok_add] at NZ
              rw [← hS] at NZ
              refine StepB.next FZ NZ rfl (n_dec hp1) (LexJ.mk (some st) true (tok ++ [c]) (p + 1) hp1 ?ht ?hi ?hl)
              case ht => first | exact Nat.zero_le _ | exact len_one | exact Nat.le_succ_of_le (by assumption) | exact len_snoc (by assumption)
              case hi => exact ⟨fun e => (by cases e; rcases hqs with h | h <;> cases h), fun _ => .inr rfl⟩
              case hl => (show lexTok _ _ _ _ = _; rw [hdr1]; exact hr2)
    case after =>
      rintro m₁ news₁ h₁ tk₁ F₁ N₁ ⟨st, q, tok, p, ts, tt, tp, nc, es, rfl, rfl, hp, hres⟩
      injection hres with hr1 hr2
      injection hr2 with hr2 hr3
      subst hr1 hr2 hr3
      dsimp only [lexLed, lexD, ioD] at N₁
      dsimp only
      repeat' (first | (k_unfold; (try dsimp only)) | walk1 | (dsimp only; walk1))
      all_goals
        (rename News h₀ _ _ _ => NZ)
        (rename Fr g' L' _ _ => FZ)
        have hk := keep_put (dx := dx) (d := d) G' FZ N NZ (List.forall_mem_cons.mpr ⟨.inr (.inr (.head _)), List.forall_mem_cons.mpr ⟨.inl rfl, List.forall_mem_cons.mpr ⟨.inr (.inr (.tail _ (.tail _ (.head _)))), List.forall_mem_cons.mpr ⟨.inr (.inl rfl), List.forall_mem_cons.mpr ⟨.inr (.inr (.tail _ (.tail _ (.tail _ (.tail _ (.head _)))))), List.forall_mem_cons.mpr ⟨.inr (.inr (.tail _ (.tail _ (.tail _ (.tail _ (.tail _ (.head _))))))), fun p hp => nomatch hp⟩⟩⟩⟩⟩⟩)
        have hR := fun tk7 => hret tk7 _ ts _ tp p hk (NZ _ (.tail _ (.head _))).1 (NZ _ (.tail _ (.tail _ (.tail _ (.head _))))).1 hp rfl
        first
        | (have hq7 : q = true := by assumption
           have e7 : lexFin q tok = some tok := by unfold lexFin; rw [if_neg (by rw [hq7]; simp)]
           rw [e7] at hR
           first | exact hR _ _ | exact hR _ tt)
        | (have hq7 : q = false := by assumption
           have ht7 : ((⟨List.toArray tok⟩ : Str) == Str.ofString "") = true := by assumption
           rw [tok_nil] at ht7
           have e7 : lexFin q tok = none := by unfold lexFin; rw [if_pos ⟨hq7, of_decide_eq_true ht7⟩]
           rw [e7] at hR
           first | exact hR _ _ | exact hR _ tt)
        | (have hq7 : q = false := by assumption
           have ht7 : ((⟨List.toArray tok⟩ : Str) == Str.ofString "") = false := by assumption
           rw [tok_nil] at ht7
           have e7 : lexFin q tok = some tok := by unfold lexFin; rw [if_neg (fun z => of_decide_eq_false ht7 z.2)]
           rw [e7] at hR
           first | exact hR _ _ | exact hR _ tt))
end Mine
end

section -- E12
open PySem PySem.W PyProof.Rows PySem.Calls PySem.Spec
namespace Mine

theorem spec_gtok {w : World} {mean : ExcName → Option Value} {mg mb : Str → Option Value} {dp un : Nat} {gd : Option (List Code)} {cn : Str} {cs : Scope} {a : Addr} {ccd : Value} {cl : List (Str × Addr)} {outer : List Env} {A₀ : Around} {base h₀ : Heap} {L : Addr} {m : Str → Option Value} {s : Shared} {Q : Value → Shared → Prop} {E : Value → Shared → Prop} {xa dx i d pb fs : Addr} {LT : LTk} {st : Option LSt} {ts tt k1 k2 k3 t tp : Tok} {x : Str} {p : Nat} {r : Option (List Nat)} {st' : Option LSt} {rest' : List Nat}
    (B : Below A₀ base outer h₀) (F : Fr h₀ L s.heap m) (X : (K0 w.params).In h₀) (T : Top topProg lo2 mean mg mb h₀) (hk : cs.kind = .function) (N : News h₀ L s.heap (lexLed w xa dx i d pb fs LT (stV st ts) (.str (Str.ofString "") tt) k1 k2 k3 t x (p : Int) tp)) (o1 : dx < xa) (o2 : xa < d) (o3 : d < i) (o4 : i < pb) (o5 : pb < fs) (hp : p ≤ x.length) (hx : x.length ≤ 1000000)
    (hst : st ≠ some .wd) (hlt : tokAt st (x.cps.toList.drop p) = some (r, st', rest')) (hd : dp + 15 < recursionLimit) (hu : un + 150 < cLine)
    (hret : ∀ tk' h' ts' tt' tp' p', (∀ b o, b ≠ dx → b ≠ d → s.heap.get? b = some o → h'.get? b = some o) → h'.get? dx = some (dictOf (lexD w LT i pb fs (stV st' ts') (.str (Str.ofString "") tt')) (nat_lit 19)) →
      h'.get? d = some (dictOf (ioD w k1 k2 k3 x t ((p' : Nat) : Int) tp') (nat_lit 3)) → p' ≤ x.length → x.cps.toList.drop p' = rest' → ∀ t', Q (resV r t') { s with heap := h', toks := tk' }) :
    wpAny (model PySem.Challenge.rw_oy0371_01.row.prog w) (ktrTop dp un gd cn cs L a ccd cl outer) (call (.ref (nat_lit 751)) [.ref xa]) Q E s := by
  dsimp only [lexLed, lexD, ioD] at N
  k_lt2 o1
  k_lt2 o2
  k_lt2 o3
  k_lt2 o4
  k_lt2 o5
  w_on
  w_strict (
    refine wpAny_call ?_
    k_dflt (refine' enterG [(Str.ofString "self", .ref xa)] ?k1 ?k2 ?k3 ?k4 ?k5 ?kA ?kF ?kK ?k6 ?k7 ?k8 ?k9 ?kB ?_ ?c2 ?c3 ?c4 ?c5; (case kA => exact rfl); (case kF => exact rfl); (case kK => assumption); (case k1 => k_asm); (case k2 => k_asm); (case k3 => k_asm); (case k4 => k_asm); (case k5 => k_asm); (case k6 => k_is); (case k7 => k_is); (case k8 => ktr_room); (case k9 => first | exact BindsTo.of_eq rfl | exact binds_K (by k_in) rfl (by k_is) rfl rfl rfl); (case c5 => decide); (case kB => exact locs rfl); (case c2 => exact rfl); (case c3 => exact rfl); (case c4 => exact rfl); k_whole; intro g' L' h' tk' FG' F' N' B' X' T' G'; (try dsimp only); (try (refine letA ?_; intro M' V' A')); (try k_fold))
    repeat' (first | (k_unfold; (try dsimp only)) | ((fail_if_success (with_reducible show wpAny _ _ (exec (Stmt.While _ _ _ _) _) _ _ _)); first | ((with_reducible show wpAny _ _ (call (Value.ref 758) _ _) _ _ _); k_here; k_dflt (refine spec_rtok (by k_asm) (by k_asm) (by k_asm) (by k_asm) (by first | exact rfl | assumption) (by k_asm) (by assumption) (by assumption) (by assumption) (by assumption) (by assumption) (by assumption) (by assumption) (by assumption) (by assumption) (by ktr_room) (by ktr_units) ?_; k_whole); intro tk9 h9 ts9 tt9 tp9 p9 x9 q91 q92 hp9 hr9 t9; (obtain ⟨F9, N9⟩ := lexLed_put (by assumption) (by assumption) (by assumption) (by assumption) (by assumption) (by assumption) (by assumption) x9 q91 q92); clear x9 q91 q92; (try dsimp only [lexLed, lexD, ioD] at N9); (try dsimp only); (try k_fold)) | ((with_reducible show wpAny _ _ (truthy (Value.ref _)) _ _ _); k_here; k_dflt (refine truthy_dqN (by k_asm) (by k_mem) ?_; k_whole); intro _) | walk1 | (dsimp only; walk1)))
    cases r with
    | none =>
      rename Fr _ _ _ _ => FA
      dsimp (zetaDelta := true) only [resV] at FA
      repeat' (first | (k_unfold; (try dsimp only)) | ((with_reducible show wpAny _ _ (call (Value.ref 758) _ _) _ _ _); k_here; k_dflt (refine spec_rtok (by k_asm) (by k_asm) (by k_asm) (by k_asm) (by first | exact rfl | assumption) (by k_asm) (by assumption) (by assumption) (by assumption) (by assumption) (by assumption) (by assumption) (by assumption) (by assumption) (by assumption) (by ktr_room) (by ktr_units) ?_; k_whole); intro tk9 h9 ts9 tt9 tp9 p9 x9 q91 q92 hp9 hr9 t9; (obtain ⟨F9, N9⟩ := lexLed_put (by assumption) (by assumption) (by assumption) (by assumption) (by assumption) (by assumption) (by assumption) x9 q91 q92); clear x9 q91 q92; (try dsimp only [lexLed, lexD, ioD] at N9); (try dsimp only); (try k_fold)) | ((with_reducible show wpAny _ _ (truthy (Value.ref _)) _ _ _); k_here; k_dflt (refine truthy_dqN (by k_asm) (by k_mem) ?_; k_whole); intro _) | walk1 | (dsimp only; walk1))
      rename News h₀ _ _ _ => NZ
      have hk := keep_put (dx := dx) (d := d) G' (by assumption) N NZ (List.forall_mem_cons.mpr ⟨.inr (.inr (.head _)), List.forall_mem_cons.mpr ⟨.inl rfl, List.forall_mem_cons.mpr ⟨.inr (.inr (.tail _ (.tail _ (.head _)))), List.forall_mem_cons.mpr ⟨.inr (.inl rfl), List.forall_mem_cons.mpr ⟨.inr (.inr (.tail _ (.tail _ (.tail _ (.tail _ (.head _)))))), List.forall_mem_cons.mpr ⟨.inr (.inr (.tail _ (.tail _ (.tail _ (.tail _ (.tail _ (.head _))))))), fun p hp => nomatch hp⟩⟩⟩⟩⟩⟩)
      exact hret _ _ _ _ _ _ hk (NZ _ (.tail _ (.head _))).1 (NZ _ (.tail _ (.tail _ (.tail _ (.head _))))).1 (by assumption) (by assumption) 0
    | some l =>
      rename Fr _ _ _ _ => FA
      dsimp (zetaDelta := true) only [resV] at FA
      repeat' (first | (k_unfold; (try dsimp only)) | ((with_reducible show wpAny _ _ (call (Value.ref 758) _ _) _ _ _); k_here; k_dflt (refine spec_rtok (by k_asm) (by k_asm) (by k_asm) (by k_asm) (by first | exact rfl | assumption) (by k_asm) (by assumption) (by assumption) (by assumption) (by assumption) (by assumption) (by assumption) (by assumption) (by assumption) (by assumption) (by ktr_room) (by ktr_units) ?_; k_whole); intro tk9 h9 ts9 tt9 tp9 p9 x9 q91 q92 hp9 hr9 t9; (obtain ⟨F9, N9⟩ := lexLed_put (by assumption) (by assumption) (by assumption) (by assumption) (by assumption) (by assumption) (by assumption) x9 q91 q92); clear x9 q91 q92; (try dsimp only [lexLed, lexD, ioD] at N9); (try dsimp only); (try k_fold)) | ((with_reducible show wpAny _ _ (truthy (Value.ref _)) _ _ _); k_here; k_dflt (refine truthy_dqN (by k_asm) (by k_mem) ?_; k_whole); intro _) | walk1 | (dsimp only; walk1))
      rename News h₀ _ _ _ => NZ
      have hk := keep_put (dx := dx) (d := d) G' (by assumption) N NZ (List.forall_mem_cons.mpr ⟨.inr (.inr (.head _)), List.forall_mem_cons.mpr ⟨.inl rfl, List.forall_mem_cons.mpr ⟨.inr (.inr (.tail _ (.tail _ (.head _)))), List.forall_mem_cons.mpr ⟨.inr (.inl rfl), List.forall_mem_cons.mpr ⟨.inr (.inr (.tail _ (.tail _ (.tail _ (.tail _ (.head _)))))), List.forall_mem_cons.mpr ⟨.inr (.inr (.tail _ (.tail _ (.tail _ (.tail _ (.tail _ (.head _))))))), fun p hp => nomatch hp⟩⟩⟩⟩⟩⟩)
      exact hret _ _ _ _ _ _ hk (NZ _ (.tail _ (.head _))).1 (NZ _ (.tail _ (.tail _ (.tail _ (.head _))))).1 (by assumption) (by assumption) _)
end Mine
end

section -- E13
open PySem PySem.W PyProof.Rows PySem.Calls PySem.Spec
namespace Mine

theorem spec_next {w : World} {mean : ExcName → Option Value} {mg mb : Str → Option Value} {dp un : Nat} {gd : Option (List Code)} {cn : Str} {cs : Scope} {a : Addr} {ccd : Value} {cl : List (Str × Addr)} {outer : List Env} {A₀ : Around} {base h₀ : Heap} {L : Addr} {m : Str → Option Value} {s : Shared} {Q : Option Value → Shared → Prop} {E : Value → Shared → Prop} {xa dx i d pb fs : Addr} {LT : LTk} {st : Option LSt} {ts tt k1 k2 k3 t tp : Tok} {x : Str} {p : Nat} {r : Option (List Nat)} {st' : Option LSt} {rest' : List Nat}
    (B : Below A₀ base outer h₀) (F : Fr h₀ L s.heap m) (X : (K0 w.params).In h₀) (T : Top topProg lo2 mean mg mb h₀) (hk : cs.kind = .function) (N : News h₀ L s.heap (lexLed w xa dx i d pb fs LT (stV st ts) (.str (Str.ofString "") tt) k1 k2 k3 t x (p : Int) tp)) (o1 : dx < xa) (o2 : xa < d) (o3 : d < i) (o4 : i < pb) (o5 : pb < fs) (hp : p ≤ x.length) (hx : x.length ≤ 1000000)
    (hst : st ≠ some .wd) (hlt : tokAt st (x.cps.toList.drop p) = some (r, st', rest')) (hd : dp + 20 < recursionLimit) (hu : un + 200 < cLine)
    (hS : ∀ l, r = some l → ∀ tk' h' ts' tt' tp' p', (∀ b o, b ≠ dx → b ≠ d → s.heap.get? b = some o → h'.get? b = some o) → h'.get? dx = some (dictOf (lexD w LT i pb fs (stV st' ts') (.str (Str.ofString "") tt')) (nat_lit 19)) →
      h'.get? d = some (dictOf (ioD w k1 k2 k3 x t ((p' : Nat) : Int) tp') (nat_lit 3)) → p' ≤ x.length → x.cps.toList.drop p' = rest' → ∀ t', Q (some (.str ⟨List.toArray l⟩ t')) { s with heap := h', toks := tk' })
    (hN : r = none → ∀ tk' h', KeepF (frs (envX cn cs L a ccd cl :: outer)) dx d s.heap h' → Q none { s with heap := h', toks := tk' }) :
    wpAny (model PySem.Challenge.rw_oy0371_01.row.prog w) (ktrTop dp un gd cn cs L a ccd cl outer) (pyNext (.ref xa)) Q E s := by
  dsimp only [lexLed, lexD, ioD] at N
  k_lt2 o1
  k_lt2 o2
  k_lt2 o3
  k_lt2 o4
  k_lt2 o5
  w_on
  w_strict (
    refine' owit_next ?F ?X ?I ?hs ?hf ?_
    case F => k_asm
    case X => k_asm
    case I => k_inst
    case hs => k_is
    case hf => k_is
    k_whole
    refine wpAny_call ?_
    k_dflt (refine' enterG [(Str.ofString "self", .ref xa)] ?k1 ?k2 ?k3 ?k4 ?k5 ?kA ?kF ?kK ?k6 ?k7 ?k8 ?k9 ?kB ?_ ?c2 ?c3 ?c4 ?c5; (case kA => exact rfl); (case kF => exact rfl); (case kK => assumption); (case k1 => k_asm); (case k2 => k_asm); (case k3 => k_asm); (case k4 => k_asm); (case k5 => k_asm); (case k6 => k_is); (case k7 => k_is); (case k8 => ktr_room); (case k9 => first | exact BindsTo.of_eq rfl | exact binds_K (by k_in) rfl (by k_is) rfl rfl rfl); (case c5 => decide); (case kB => exact locs rfl); (case c2 => exact rfl); (case c3 => exact rfl); (case c4 => exact rfl); k_whole; intro g' L' h' tk' FG' F' N' B' X' T' G'; (try dsimp only); (try (refine letA ?_; intro M' V' A')); (try k_fold))
    have B2 := below_big B'
    clear B'
    repeat' (first | (k_unfold; (try dsimp only)) | ((fail_if_success (with_reducible show wpAny _ _ (exec (Stmt.If _ _ _ _) _) _ _ _)); first | ((with_reducible show wpAny _ _ (call (Value.ref 751) _ _) _ _ _); k_here; k_dflt (refine spec_gtok (by k_asm) (by k_asm) (by k_asm) (by k_asm) (by first | exact rfl | assumption) (by k_asm) (by assumption) (by assumption) (by assumption) (by assumption) (by assumption) (by assumption) (by assumption) (by assumption) (by assumption) (by ktr_room) (by ktr_units) ?_; k_whole); intro tk9 h9 ts9 tt9 tp9 p9 x9 q91 q92 hp9 hr9 t9; (obtain ⟨F9, N9⟩ := lexLed_put (by assumption) (by assumption) (by assumption) (by assumption) (by assumption) (by assumption) (by assumption) x9 q91 q92); clear x9 q91 q92; (try dsimp only [lexLed, lexD, ioD] at N9); (try dsimp only); (try k_fold)) | walk1 | (dsimp only; walk1)))
    cases r with
    | none =>
      rename Fr _ _ _ _ => FA
      dsimp (zetaDelta := true) only [resV] at FA
      repeat' (first | (k_unfold; (try dsimp only)) | ((with_reducible show wpAny _ _ (call (Value.ref 751) _ _) _ _ _); k_here; k_dflt (refine spec_gtok (by k_asm) (by k_asm) (by k_asm) (by k_asm) (by first | exact rfl | assumption) (by k_asm) (by assumption) (by assumption) (by assumption) (by assumption) (by assumption) (by assumption) (by assumption) (by assumption) (by assumption) (by ktr_room) (by ktr_units) ?_; k_whole); intro tk9 h9 ts9 tt9 tp9 p9 x9 q91 q92 hp9 hr9 t9; (obtain ⟨F9, N9⟩ := lexLed_put (by assumption) (by assumption) (by assumption) (by assumption) (by assumption) (by assumption) (by assumption) x9 q91 q92); clear x9 q91 q92; (try dsimp only [lexLed, lexD, ioD] at N9); (try dsimp only); (try k_fold)) | walk1 | (dsimp only; walk1))
      rename RaisedK _ _ _ _ _ _ _ _ => RZ
      rename Heap.UpToSlots _ _ => UZ
      refine stop_own RZ (hN rfl _ _ (stop_keep G' RZ UZ N (List.forall_mem_cons.mpr ⟨.inr (.inr (.head _)), List.forall_mem_cons.mpr ⟨.inl rfl, List.forall_mem_cons.mpr ⟨.inr (.inr (.tail _ (.tail _ (.head _)))), List.forall_mem_cons.mpr ⟨.inr (.inl rfl), List.forall_mem_cons.mpr ⟨.inr (.inr (.tail _ (.tail _ (.tail _ (.tail _ (.head _)))))), List.forall_mem_cons.mpr ⟨.inr (.inr (.tail _ (.tail _ (.tail _ (.tail _ (.tail _ (.head _))))))), fun p hp => nomatch hp⟩⟩⟩⟩⟩⟩) (frames_off B rfl N)))
    | some l =>
      rename Fr _ _ _ _ => FA
      dsimp (zetaDelta := true) only [resV] at FA
      repeat' (first | (k_unfold; (try dsimp only)) | ((with_reducible show wpAny _ _ (call (Value.ref 751) _ _) _ _ _); k_here; k_dflt (refine spec_gtok (by k_asm) (by k_asm) (by k_asm) (by k_asm) (by first | exact rfl | assumption) (by k_asm) (by assumption) (by assumption) (by assumption) (by assumption) (by assumption) (by assumption) (by assumption) (by assumption) (by assumption) (by ktr_room) (by ktr_units) ?_; k_whole); intro tk9 h9 ts9 tt9 tp9 p9 x9 q91 q92 hp9 hr9 t9; (obtain ⟨F9, N9⟩ := lexLed_put (by assumption) (by assumption) (by assumption) (by assumption) (by assumption) (by assumption) (by assumption) x9 q91 q92); clear x9 q91 q92; (try dsimp only [lexLed, lexD, ioD] at N9); (try dsimp only); (try k_fold)) | walk1 | (dsimp only; walk1))
      rename News h₀ _ _ _ => NZ
      have hk := keep_put (dx := dx) (d := d) G' (by assumption) N NZ (List.forall_mem_cons.mpr ⟨.inr (.inr (.head _)), List.forall_mem_cons.mpr ⟨.inl rfl, List.forall_mem_cons.mpr ⟨.inr (.inr (.tail _ (.tail _ (.head _)))), List.forall_mem_cons.mpr ⟨.inr (.inl rfl), List.forall_mem_cons.mpr ⟨.inr (.inr (.tail _ (.tail _ (.tail _ (.tail _ (.head _)))))), List.forall_mem_cons.mpr ⟨.inr (.inr (.tail _ (.tail _ (.tail _ (.tail _ (.tail _ (.head _))))))), fun p hp => nomatch hp⟩⟩⟩⟩⟩⟩)
      exact hS l rfl _ _ _ _ _ _ hk (NZ _ (.tail _ (.head _))).1 (NZ _ (.tail _ (.tail _ (.tail _ (.head _))))).1 (by assumption) (by assumption) _)
end Mine
end

section -- E14
open PySem PySem.W PyProof.Rows PySem.Calls PySem.Spec
namespace Mine

theorem lexTok_st : ∀ (r : List Nat) (st : LSt) (q : Bool) (tok : List Nat) {o st' r'}, lexTok st q tok r = some (o, st', r') → st' ≠ some .wd
  | [], st, q, tok, o, st', r', h => by
    cases st <;> simp only [lexTok, Option.some.injEq, Prod.mk.injEq, reduceCtorEq] at h
    · rw [← h.2.1]; simp
    · rw [← h.2.1]; simp
  | c :: r, st, q, tok, o, st', r', h => by
    have hb := lexTok_bad h
    have ih := lexTok_st r
    cases st <;> (unfold lexTok at h; rw [if_neg (by rw [hb]; simp)] at h; dsimp only at h)
    · split at h
      · split at h
        · exact ih _ _ _ h
        · simp only [Option.some.injEq, Prod.mk.injEq] at h; rw [← h.2.1]; simp
      · split at h
        · exact ih _ _ _ h
        · split at h
          · exact ih _ _ _ h
          · exact ih _ _ _ h
    · split at h
      · split at h
        · exact ih _ _ _ h
        · simp only [Option.some.injEq, Prod.mk.injEq] at h; rw [← h.2.1]; simp
      · split at h
        · exact ih _ _ _ h
        · split at h
          · exact ih _ _ _ h
          · exact ih _ _ _ h
    · split at h
      · exact ih _ _ _ h
      · exact ih _ _ _ h
    · split at h
      · exact ih _ _ _ h
      · exact ih _ _ _ h
theorem tokAt_st {st : Option LSt} {r o st' r'} (h : tokAt st r = some (o, st', r')) : st' ≠ some .wd := by
  cases st with
  | some st => exact lexTok_st _ _ _ _ h
  | none =>
    cases r with
    | nil => simp only [tokAt, Option.some.injEq, Prod.mk.injEq] at h; rw [← h.2.1]; simp
    | cons c r => cases h
noncomputable def KeepS (fs : List Addr) (dx d S : Addr) (h h' : Heap) : Prop :=
  (∀ b o, b ∉ fs → b ≠ dx → b ≠ d → b ≠ S → h.get? b = some o → h'.get? b = some o) ∧ ∀ b o, b ∈ fs → b ≠ dx → b ≠ d → b ≠ S → h.get? b = some o → (∀ vs, o.data ≠ .fields vs) → ∃ sl, h'.get? b = some { o with slots := sl }
noncomputable abbrev lstObj (vs : List Value) (c : Nat) : Obj := { cls := .type "list", dict := none, data := .seq vs.toArray c, slots := #[] }
theorem spec_iter {w : World} {mean : ExcName → Option Value} {mg mb : Str → Option Value} {dp un : Nat} {gd : Option (List Code)} {cn : Str} {cs : Scope} {a : Addr} {ccd : Value} {cl : List (Str × Addr)} {outer : List Env} {A₀ : Around} {base h₀ : Heap} {L : Addr} {m : Str → Option Value} {s : Shared} {Q : Value → Shared → Prop} {E : Value → Shared → Prop} {xa dx i d pb fs : Addr} {LT : LTk} {st : Option LSt} {ts tt k1 k2 k3 t tp : Tok} {x : Str} {p : Nat}
    (B : Below A₀ base outer h₀) (F : Fr h₀ L s.heap m) (X : (K0 w.params).In h₀) (T : Top topProg lo2 mean mg mb h₀) (hk : cs.kind = .function) (N : News h₀ L s.heap (lexLed w xa dx i d pb fs LT (stV st ts) (.str (Str.ofString "") tt) k1 k2 k3 t x (p : Int) tp)) (hd : dp + 5 < recursionLimit) (hu : un + 50 < cLine)
    (hret : ∀ tk' h', Fr h₀ L h' m → News h₀ L h' (lexLed w xa dx i d pb fs LT (stV st ts) (.str (Str.ofString "") tt) k1 k2 k3 t x (p : Int) tp) → Ext s.heap h' → Q (.ref xa) { s with heap := h', toks := tk' }) :
    wpAny (model PySem.Challenge.rw_oy0371_01.row.prog w) (ktrTop dp un gd cn cs L a ccd cl outer) (call (.ref (nat_lit 780)) [.ref xa]) Q E s := by
  dsimp only [lexLed, lexD, ioD] at N
  w_on
  w_strict (
    refine wpAny_call ?_
    k_dflt (refine' enterG [(Str.ofString "self", .ref xa)] ?k1 ?k2 ?k3 ?k4 ?k5 ?kA ?kF ?kK ?k6 ?k7 ?k8 ?k9 ?kB ?_ ?c2 ?c3 ?c4 ?c5; (case kA => exact rfl); (case kF => exact rfl); (case kK => assumption); (case k1 => k_asm); (case k2 => k_asm); (case k3 => k_asm); (case k4 => k_asm); (case k5 => k_asm); (case k6 => k_is); (case k7 => k_is); (case k8 => ktr_room); (case k9 => first | exact BindsTo.of_eq rfl | exact binds_K (by k_in) rfl (by k_is) rfl rfl rfl); (case c5 => decide); (case kB => exact locs rfl); (case c2 => exact rfl); (case c3 => exact rfl); (case c4 => exact rfl); k_whole; intro g' L' h' tk' FG' F' N' B' X' T' G'; (try dsimp only); (try (refine letA ?_; intro M' V' A')); (try k_fold))
    repeat' (first | (k_unfold; (try dsimp only)) | walk1 | (dsimp only; walk1))
    rename News h₀ _ _ _ => NZ
    rename Fr h₀ _ _ _ => FZ
    refine hret _ _ FZ NZ (fun b o e => ?_)
    by_cases hn : b ∈ ([(xa, instObj 790 dx), (dx, dictOf (lexD w LT i pb fs (stV st ts) (.str (Str.ofString "") tt)) (nat_lit 19)), (i, instObj 627 d), (d, dictOf (ioD w k1 k2 k3 x t (p : Int) tp) (nat_lit 3)), (pb, dqObj), (fs, dqObj)] : List (Addr × Obj)).map (·.1)
    · obtain ⟨q, hq, rfl⟩ := List.mem_map.mp hn
      rw [(N q hq).1] at e
      cases e
      exact (NZ q hq).1
    · exact Fr.keep F' b o (G' b o e hn))
noncomputable def mkS (l : List Nat) : Str := ⟨List.toArray l⟩
theorem lex_loop {w : World} {mean : ExcName → Option Value} {mg mb : Str → Option Value} {dp un : Nat} {gd : Option (List Code)} {cn : Str} {cs : Scope} {a : Addr} {ccd : Value} {cl : List (Str × Addr)} {outer : List Env} {A₀ : Around} {base h₀ : Heap} {L : Addr} {m : Str → Option Value} {R : Result → Shared → Prop} {xa dx i d pb fs S : Addr} {LT : LTk} {k1 k2 k3 t : Tok} {x : Str}
    (B : Below A₀ base outer h₀) (X : (K0 w.params).In h₀) (T : Top topProg lo2 mean mg mb h₀) (hk : cs.kind = .function) (o1 : dx < xa) (o2 : xa < d) (o3 : d < i) (o4 : i < pb) (o5 : pb < fs) (hx : x.length ≤ 1000000)
    (hd : dp + 25 < recursionLimit) (hu : un + 300 < cLine) (s0 : ∀ b o, h₀.get? b = some o → b ≠ S) (s1 : S ≠ L) (s2 : fs < S) (s3 : S ∉ frs (envX cn cs L a ccd cl :: outer)) :
    ∀ {st : Option LSt} {rest : List Nat} {ws : List (List Nat)}, LexTo st rest ws → ∀ (s : Shared) (acc : List Value) (c : Nat) (ts tt tp : Tok) (p : Nat), rest = x.cps.toList.drop p → Fr h₀ L s.heap m →
      News h₀ L s.heap (lexLed w xa dx i d pb fs LT (stV st ts) (.str (Str.ofString "") tt) k1 k2 k3 t x (p : Int) tp) → s.heap.get? S = some (lstObj acc c) → st ≠ some .wd → p ≤ x.length → acc.length + ws.length ≤ 100000 →
      (∀ tk' h' vs c', KeepS (frs (envX cn cs L a ccd cl :: outer)) dx d S s.heap h' → h'.get? S = some (lstObj (acc ++ vs) c') → StrsAre vs (ws.map mkS) → R (.ok (.ret .none)) { s with heap := h', toks := tk' }) →
      codeAny (model PySem.Challenge.rw_oy0371_01.row.prog w) (ktrTop dp un gd cn cs L a ccd cl outer) (.builtin "list.extend.loop" ⟨[.ref S, .ref xa, .none], []⟩) R s := by
  have sdx : S ≠ dx := Nat.ne_of_gt (Nat.lt_trans (Nat.lt_trans (Nat.lt_trans (Nat.lt_trans (Nat.lt_trans o1 o2) o3) o4) o5) s2)
  have sd : S ≠ d := Nat.ne_of_gt (Nat.lt_trans (Nat.lt_trans (Nat.lt_trans o3 o4) o5) s2)
  intro st rest ws hl
  induction hl with
  | @done st r st' r' htk =>
    intro s acc c ts tt tp p hr F N hS hst hp hlen hR
    subst hr
    refine codeAny_builtin _root_.PySem.F.entry_extend_loop ?_
    rw [Around.under_plainId _root_.PySem.F.plain_extend_loop _]
    show wpAny _ (ktrTop dp (un + 1) gd cn cs L a ccd cl outer) (pyNext (.ref xa) >>= _) _ _ s
    refine wpAny_bind (spec_next B F X T hk N o1 o2 o3 o4 o5 hp hx hst htk (by omega) (by omega) (fun l hl => nomatch hl) fun _ tk' h' hk' => ?_)
    refine wpAny_pure (hR tk' h' [] c ⟨fun b o hb h1 h2 _ e => hk'.1 b o hb h1 h2 e, fun b o hb _ _ _ e hd => hk'.2 b o hb e hd⟩ ?_ .nil)
    rw [List.append_nil]
    exact hk'.1 S _ s3 sdx sd hS
  | @more st r w1 st' r' ws htk hl ih =>
    intro s acc c ts tt tp p hr F N hS hst hp hlen hR
    subst hr
    refine codeAny_builtin _root_.PySem.F.entry_extend_loop ?_
    rw [Around.under_plainId _root_.PySem.F.plain_extend_loop _]
    show wpAny _ (ktrTop dp (un + 1) gd cn cs L a ccd cl outer) (pyNext (.ref xa) >>= _) _ _ s
    refine wpAny_bind (spec_next B F X T hk N o1 o2 o3 o4 o5 hp hx hst htk (by omega) (by omega) (fun l hl tk' h' ts' tt' tp' p' hkp q1 q2 hp' hr' t' => ?_) fun e => nomatch e)
    cases hl
    obtain ⟨F9, N9⟩ := lexLed_put F N o1 o2 o3 o4 o5 hkp q1 q2
    have hS9 := hkp S _ sdx sd hS
    show wpAny _ _ (updateSeq S (·.push (.str (mkS w1) t')) >>= _) _ _ _
    refine wpAny_bind ?_
    have hlen' : acc.length + (ws.length + 1) ≤ 100000 := hlen
    have hsz : acc.toArray.size = acc.length := List.size_toArray ..
    refine wpAny_updateSeq hS9 rfl (wpAny_pure ⟨plainId_quiet _root_.PySem.F.plain_extend_loop _, ?_⟩) (by rw [hsz, sizeLine_eq]; omega) (by show (acc.toArray.push _).size ≤ _; rw [Array.size_push, hsz, sizeLine_eq]; omega)
    have oth : ∀ b o, b ≠ S → h'.get? b = some o → (h'.update S (Obj.mapSeq (·.push (.str (mkS w1) t')))).get? b = some o := fun b o hb e => (Heap.get?_update_other _ _ (Ne.symm hb)).trans e
    have hS2 : (h'.update S (Obj.mapSeq (·.push (.str (mkS w1) t')))).get? S = some (lstObj (acc ++ [.str (mkS w1) t']) (c + 1)) := by
      have e := Heap.get?_update_self (Obj.mapSeq (·.push (.str (mkS w1) t'))) hS9 rfl
      rw [e]
      show some (_ : Obj) = some _
      simp [Obj.mapSeq]
    refine ih { s with heap := _, toks := _ } (acc ++ [.str (mkS w1) t']) (c + 1) ts' tt' tp' p' hr'.symm ⟨F9.ns.at fun o e => oth _ o (Ne.symm s1) e, fun b o e => oth b o (s0 b o e) (F9.keep b o e), F9.above⟩ ?_ hS2 (tokAt_st htk) hp' (by rw [List.length_append]; simp only [List.length_cons, List.length_nil]; omega) ?_
    · intro q hq
      refine ⟨oth _ _ ?_ (N9 q hq).1, (N9 q hq).2⟩
      have hlt : (q.1 : Nat) < S := by
        simp only [lexLed, List.mem_cons, List.not_mem_nil, or_false] at hq
        have e1 := Nat.lt_trans o5 s2
        have e2 := Nat.lt_trans o4 e1
        have e3 := Nat.lt_trans o3 e2
        have e4 := Nat.lt_trans o2 e3
        have e5 := Nat.lt_trans o1 e4
        rcases hq with rfl | rfl | rfl | rfl | rfl | rfl
        · exact e4
        · exact e5
        · exact e2
        · exact e3
        · exact e1
        · exact s2
      exact Nat.ne_of_lt hlt
    · intro tk2 h2 vs c' hk2 hS3 hvs
      refine hR tk2 h2 (.str (mkS w1) t' :: vs) c' ⟨fun b o hb h1 h2' h3 e => hk2.1 b o hb h1 h2' h3 (oth b o h3 (hkp b o h1 h2' e)), fun b o hb h1 h2' h3 e hd => hk2.2 b o hb h1 h2' h3 (oth b o h3 (hkp b o h1 h2' e)) hd⟩ ?_ (.cons _ _ hvs)
      rw [hS3, List.append_assoc]
      rfl
end Mine
end

section -- E15
open PySem PySem.W PyProof.Rows PySem.Calls PySem.Spec
namespace Mine

theorem fr_other {h₀ h h' : Heap} {L S : Addr} {m : Str → Option Value} (F : Fr h₀ L h m) (oth : ∀ b o, b ≠ S → h.get? b = some o → h'.get? b = some o) (s0 : ∀ b o, h₀.get? b = some o → b ≠ S) (s1 : S ≠ L) : Fr h₀ L h' m :=
  ⟨F.ns.at fun o e => oth _ o (Ne.symm s1) e, fun b o e => oth b o (s0 b o e) (F.keep b o e), F.above⟩
theorem news_other {h₀ h h' : Heap} {L S : Addr} {news : List (Addr × Obj)} (N : News h₀ L h news) (oth : ∀ b o, b ≠ S → h.get? b = some o → h'.get? b = some o) (hn : ∀ q ∈ news, q.1 ≠ S) : News h₀ L h' news :=
  fun q hq => ⟨oth _ _ (hn q hq) (N q hq).1, (N q hq).2⟩
theorem get_lt {h : Heap} {b : Addr} {o : Obj} (e : h.get? b = some o) : b < h.objs.size := by
  rcases Nat.lt_or_ge b h.objs.size with h1 | h1
  · exact h1
  · simp [Heap.get?, h1] at e
theorem spec_list {w : World} {mean : ExcName → Option Value} {mg mb : Str → Option Value} {dp un : Nat} {gd : Option (List Code)} {cn : Str} {cs : Scope} {a : Addr} {ccd : Value} {cl : List (Str × Addr)} {outer : List Env} {A₀ : Around} {base h₀ : Heap} {L : Addr} {m : Str → Option Value} {s : Shared} {Q : Value → Shared → Prop} {E : Value → Shared → Prop} {xa dx i d pb fs : Addr} {LT : LTk} {st : Option LSt} {ts tt k1 k2 k3 t tp : Tok} {x : Str} {p : Nat} {ws : List (List Nat)}
    (B : Below A₀ base outer h₀) (F : Fr h₀ L s.heap m) (X : (K0 w.params).In h₀) (T : Top topProg lo2 mean mg mb h₀) (hk : cs.kind = .function) (N : News h₀ L s.heap (lexLed w xa dx i d pb fs LT (stV st ts) (.str (Str.ofString "") tt) k1 k2 k3 t x (p : Int) tp)) (o1 : dx < xa) (o2 : xa < d) (o3 : d < i) (o4 : i < pb) (o5 : pb < fs) (hp : p ≤ x.length) (hx : x.length ≤ 1000000)
    (hst : st ≠ some .wd) (hl : LexTo st (x.cps.toList.drop p) ws) (hw : ws.length ≤ 100000) (hd : dp + 25 < recursionLimit) (hu : un + 400 < cLine)
    (hret : ∀ tk' h' D vs c', s.heap.get? D = none → h'.get? D = some (lstObj vs c') → StrsAre vs (ws.map mkS) → KeepS (frs (envX cn cs L a ccd cl :: outer)) dx d D s.heap h' → Q (.ref D) { s with heap := h', toks := tk' }) :
    wpAny (model PySem.Challenge.rw_oy0371_01.row.prog w) (ktrTop dp un gd cn cs L a ccd cl outer) (call (.type "list") [.ref xa]) Q E s := by
  have memN : ∀ q ∈ lexLed w xa dx i d pb fs LT (stV st ts) (.str (Str.ofString "") tt) k1 k2 k3 t x (p : Int) tp, (q.1 : Nat) < s.heap.objs.size := fun q hq => get_lt (N q hq).1
  have memF : ∀ b ∈ frs (envX cn cs L a ccd cl :: outer), b < s.heap.objs.size := by
    intro b hb
    obtain ⟨env', he, hf'⟩ := List.mem_filterMap.mp hb
    rcases List.mem_cons.mp he with rfl | he
    · obtain rfl : L = b := Option.some.inj hf'
      exact F.ns.lt
    · obtain ⟨o, ho, _⟩ := (B.frames.mem (List.mem_filterMap.mpr ⟨env', he, hf'⟩)).2
      exact get_lt (F.keep _ _ ho)
  refine callType_codes (Q₁ := fun obj s₁ => obj = .ref s.heap.objs.size ∧ s₁ = { s with heap := s.heap.push { cls := .type "list", data := .seq #[] } }) _root_.PySem.F.called_list (_root_.PySem.F.typeCall_list_1 _) _root_.PySem.F.entry_list_init
    (code_list_new _ ⟨rfl, rfl⟩) fun obj s₁ h₁ => ?_
  obtain ⟨rfl, rfl⟩ := h₁
  have hS : (s.heap.push { cls := .type "list", data := .seq #[] }).get? s.heap.objs.size = some { cls := .type "list", data := .seq #[] } := Heap.get?_push_size _ rfl
  have oth0 : ∀ b o, s.heap.get? b = some o → (s.heap.push { cls := .type "list", data := .seq #[] }).get? b = some o := fun b o e => Heap.get?_push_of_some _ e
  have hfree : s.heap.get? s.heap.objs.size = none := by
    cases e : s.heap.get? s.heap.objs.size with
    | none => rfl
    | some o => exact absurd (get_lt e) (Nat.lt_irrefl _)
  refine ⟨⟨_, hS, rfl⟩, _root_.PySem.F.args_list_init_2 _ _, ?_⟩
  generalize hSe : s.heap.objs.size = S at *
  have s0 : ∀ b o, h₀.get? b = some o → b ≠ S := fun b o e => Nat.ne_of_lt (hSe ▸ get_lt (F.keep b o e))
  have s1 : S ≠ L := fun e => Nat.lt_irrefl _ (e ▸ memF L (List.mem_filterMap.mpr ⟨_, List.mem_cons_self, rfl⟩))
  have s2 : fs < S := memN (fs, dqObj) (.tail _ (.tail _ (.tail _ (.tail _ (.tail _ (.head _))))))
  have s3 : S ∉ frs (envX cn cs L a ccd cl :: outer) := fun hm => Nat.lt_irrefl _ (memF S hm)
  have s4 : ∀ q ∈ lexLed w xa dx i d pb fs LT (stV st ts) (.str (Str.ofString "") tt) k1 k2 k3 t x (p : Int) tp, q.1 ≠ S := fun q hq => Nat.ne_of_lt (memN q hq)
  have sxa : xa ≠ S := s4 (xa, instObj 790 dx) (.head _)
  show wpAny _ (ktrTop dp (un + 2) gd cn cs L a ccd cl outer) (do let old ← Builtin.List.listItems (.ref S); Builtin.List.listUpdate (.ref S) (fun _ => #[]); letGo old.toList.reverse; Builtin.List.listExtendWith (.ref S) (.ref xa) .none) _ _ _
  refine wpAny_bind ?_
  unfold Builtin.List.listItems
  refine wpAny_bind (wpAny_seqItems hS rfl (wpAny_pure ?_))
  show wpAny _ (ktrTop dp (un + 2) gd cn cs L a ccd cl outer) (updateSeq S (fun _ => #[]) >>= fun _ => letGo (#[] : Array Value).toList.reverse >>= fun _ => Builtin.List.listExtendWith (.ref S) (.ref xa) .none) _ _ _
  refine wpAny_bind (wpAny_updateSeq hS rfl ?_)
  have hS₂ := Heap.get?_update_self (Obj.mapSeq (fun _ => (#[] : Array Value))) hS rfl
  have oth1 : ∀ b o, b ≠ S → s.heap.get? b = some o → ((s.heap.push { cls := .type "list", data := .seq #[] }).update S (Obj.mapSeq (fun _ => (#[] : Array Value)))).get? b = some o :=
    fun b o hb e => (Heap.get?_update_other _ _ (Ne.symm hb)).trans (oth0 b o e)
  refine wpAny_bind (wpAny_letGo ?_)
  generalize (s.heap.push { cls := .type "list", data := .seq #[] }).update S (Obj.mapSeq (fun _ => (#[] : Array Value))) = h1 at *
  have F1 := fr_other F oth1 s0 s1
  have N1 := news_other N oth1 s4
  have I1 : InstAt h1 xa (instObj 790 dx) 790 (some (dictOf (lexD w LT i pb fs (stV st ts) (.str (Str.ofString "") tt)) (nat_lit 19))) := InstAt.of_news N1 (.head _) (.tail _ (.head _))
  unfold Builtin.List.listExtendWith
  refine wpAny_bind (I1.type.here ?_)
  have hsr : Builtin.List.listSameRef (.ref S) (.ref xa) = false := by simp [Builtin.List.listSameRef, Ne.symm sxa]
  rw [if_neg (by rw [hsr]; decide)]
  refine wpAny_bind ?_
  refine owit_iter (f := 780) (K := K0 w.params) F1 X I1 (by kernel_rfl) (by kernel_rfl) ?_
  refine spec_iter B F1 X T hk N1 (by omega) (by omega) fun tk2 h2 F2 N2 x2 => ?_
  have I2 : InstAt h2 xa (instObj 790 dx) 790 (some (dictOf (lexD w LT i pb fs (stV st ts) (.str (Str.ofString "") tt)) (nat_lit 19))) := InstAt.of_news N2 (.head _) (.tail _ (.head _))
  refine owit_it (K := K0 w.params) F2 X I2 (g := .ref 787) (by kernel_rfl) ?_
  refine wpAny_bind (wpAny_holding ?_)
  unfold Builtin.List.listLengthHint
  have X2 := X.keeps F2.keep
  refine wpAny_bind (wpAny_bind (I2.type.here ((looks_findIn X2 (r := none) (by kernel_rfl)).here ?_)))
  show wpAny _ (ktrTop dp (un + 2) gd cn cs L a ccd cl outer) (specialOf (Value.ref xa) (Str.ofString "__length_hint__") >>= _) _ _ _
  refine wpAny_bind (wpAny_bind (I2.type.here ((looks_findIn X2 (r := none) (by kernel_rfl)).here ?_)))
  refine wpAny_pure ?_
  show wpAny _ (ktrTop dp (un + 2) gd cn cs L a ccd cl outer) (rule "list.extend.makes-room" >>= fun _ => Builtin.List.listTouch (.ref S) >>= fun _ =>
    again (.builtin "list.extend.loop" ⟨[.ref S, .ref xa, .none], []⟩)) _ _ _
  refine wpAny_bind (wpAny_rule ?_)
  refine wpAny_bind ?_
  show wpAny _ (ktrTop dp (un + 2) gd cn cs L a ccd cl outer) (updateSeq S (·.push .none) >>= fun _ => updateSeq S (·.pop)) _ _ _
  have hS3 := x2 S _ hS₂
  refine wpAny_bind (wpAny_updateSeq hS3 rfl ?_)
  have hS₄ := Heap.get?_update_self (Obj.mapSeq (·.push Value.none)) hS3 rfl
  refine wpAny_updateSeq (hz := by seq_fits) hS₄ rfl ?_
  have hS₅ := Heap.get?_update_self (Obj.mapSeq (·.pop)) hS₄ rfl
  have oth3 : ∀ b o, b ≠ S → h2.get? b = some o → ((h2.update S (Obj.mapSeq (·.push Value.none))).update S (Obj.mapSeq (·.pop))).get? b = some o :=
    fun b o hb e => (Heap.get?_update_other _ _ (Ne.symm hb)).trans ((Heap.get?_update_other _ _ (Ne.symm hb)).trans e)
  generalize (h2.update S (Obj.mapSeq (·.push Value.none))).update S (Obj.mapSeq (·.pop)) = h3 at *
  refine wpAny_pure ⟨plainId_quiet _root_.PySem.F.plain_extend_loop _, ?_⟩
  refine lex_loop (un := un + 1) B X T hk o1 o2 o3 o4 o5 hx (by omega) (by omega) s0 s1 s2 s3 hl { s with heap := h3, toks := tk2 } [] _ ts tt tp p rfl (fr_other F2 oth3 s0 s1) (news_other N2 oth3 s4) hS₅ hst hp (by simpa using hw) fun tk' h' vs c' hk' hS' hvs => ?_
  exact ⟨rfl, hret tk' h' S vs c' hfree hS' hvs ⟨fun b o hb h1 h2 h3 e => hk'.1 b o hb h1 h2 h3 (oth3 b o h3 (x2 b o (oth1 b o h3 e))), fun b o hb h1 h2 h3 e hd => hk'.2 b o hb h1 h2 h3 (oth3 b o h3 (x2 b o (oth1 b o h3 e))) hd⟩⟩
end Mine
end

section -- Enter4
open PySem PySem.W PyProof.Rows PySem.Calls PySem.Spec
namespace Mine
section
variable {prog : Program} {w : World} {A₀ A : Around} {s : Shared} {base h₀ : Heap} {outer : List Env} {L : Addr} {m : Str → Option Value} {env : Env} {news : List (Addr × Obj)} {K : Frag} {p : Program} {loose : List Str} {mean : ExcName → Option Value} {mg mb : Str → Option Value}
  {R : Result → Shared → Prop} {name qual : Str} {params : Arguments} {body : List Stmt} {scope : Scope} {dV kV doc pm cdv ct oc : Value} {an od : Option Addr} {osl : Array (Option Value)} {f : Addr} {args : Args}
theorem enterS (binds : List (Str × Value)) (B : Below A₀ base outer h₀) (F : Fr h₀ L s.heap m) (X₀ : K.In h₀) (T : Top p loose mean mg mb h₀) (hA : A.frames = some (env :: outer)) (hf : env.frame = some L) (hke : env.scope.kind = .function)
    (ho : K.lookup f = some ⟨oc, od, .func (fnOf name qual params body scope dV kV doc pm an cdv ct), osl⟩) (hcd : codeIn K cdv qual = true) (hroom : A.depth < recursionLimit)
    (hbind : BindsTo s (fnOf name qual params body scope dV kV doc pm an cdv ct) args binds) (hloc : ∀ y ∈ binds, scope.names.lookup y.1 = some .local)
    (h : ∀ g L' h₁ tk, Fr h₀ L g m → Fr g L' h₁ (fun y => binds.reverse.lookup y) → News g L' h₁ [] → Below A base (env :: outer) g → K.In g → Top p loose mean mg mb g → GSub s.heap g [] →
      wpAny (model prog w) (A.deeper (envOf qual scope L' f cdv)) (execs body (envOf qual scope L' f cdv))
        (fun fl s' => R (.ok (.ret (match fl with | .ret v => v | _ => .none))) s')
        (fun e s' => wpAny (model prog w) (A.deeper (envOf qual scope L' f cdv)) (leaving (envOf qual scope L' f cdv) e) (fun _ s'' => R (.error e) s'') (fun e' s'' => R (.error e') s'') s')
        { s with heap := h₁, toks := tk })
    (hco : scope.isCoroutine = false) (hgen : scope.isGenerator = false) (hk : scope.kind = .function)
    (hcell : ∀ x ∈ scope.names, x.2 ≠ .cell) : codeAny (model prog w) A (.call (.ref f) args) R s := by
  obtain ⟨FG, BG, st, lv⟩ := groundX (R := R) B F (News.nil : News h₀ L s.heap []) hA hf hke
  refine codeAny_call_def (fd := fnX name qual params body scope [] dV kV doc pm an cdv ct) (body := body) (binds := binds) hroom ((X₀.keeps F.keep) _ _ ho) rfl (T.nolimit.keeps F.keep) (codeRec_of (X₀.keeps F.keep) hcd) rfl hbind hcell hloc (fun h₁ hns hk₁ => ?_) hco hgen hk
  exact h _ s.heap.objs.size h₁ _ FG ⟨hns, fun b o e => hk₁ b o (of_hideAll _ e), Nat.le_of_eq (hideAll_size _ _)⟩ (fun p hp => nomatch hp) BG (X₀.keeps st) (T.keeps st) (fun b o e n => hideAll_get _ e n)
end
noncomputable def KeepZ (fs : List Addr) (h h' : Heap) : Prop :=
  (∀ b o, b ∉ fs → h.get? b = some o → h'.get? b = some o) ∧ ∀ b o, b ∈ fs → h.get? b = some o → (∀ vs, o.data ≠ .fields vs) → ∃ sl, h'.get? b = some { o with slots := sl }
end Mine
end

section -- Plain4
open PySem PySem.W PyProof.Rows PySem.Calls PySem.Spec PyProof PySem.StrLaws
namespace Mine
noncomputable def jn (c : Nat) : List (List Nat) → List Nat
  | [] => []
  | [p] => p
  | p :: q :: r => p ++ c :: jn c (q :: r)
theorem jn_join (c : Nat) : ∀ ps : List Str, (Str.join ⟨#[c]⟩ ps).cps.toList = jn c (ps.map (·.cps.toList))
  | [] => rfl
  | [p] => rfl
  | p :: q :: r => by
    have ih := jn_join c (q :: r)
    show (p ++ (⟨#[c]⟩ : Str) ++ Str.join ⟨#[c]⟩ (q :: r)).cps.toList = p.cps.toList ++ c :: jn c (q.cps.toList :: r.map (·.cps.toList))
    rw [show jn c (q.cps.toList :: r.map (·.cps.toList)) = (Str.join ⟨#[c]⟩ (q :: r)).cps.toList from ih.symm]
    show ((p.cps ++ #[c]) ++ (Str.join ⟨#[c]⟩ (q :: r)).cps).toList = _
    simp
theorem cut_one {c : Nat} : ∀ {p p' X Y : List Nat}, c ∉ p → c ∉ p' → p ++ c :: X = p' ++ c :: Y → p = p' ∧ X = Y
  | [], [], X, Y, _, _, h => ⟨rfl, by simpa using h⟩
  | [], b :: p', X, Y, _, h2, h => by
    simp only [List.nil_append, List.cons_append, List.cons.injEq] at h
    exact absurd (h.1 ▸ List.mem_cons_self) h2
  | a :: p, [], X, Y, h1, _, h => by
    simp only [List.nil_append, List.cons_append, List.cons.injEq] at h
    exact absurd (h.1 ▸ List.mem_cons_self) h1
  | a :: p, b :: p', X, Y, h1, h2, h => by
    simp only [List.cons_append, List.cons.injEq] at h
    obtain ⟨e1, e2⟩ := cut_one (fun hm => h1 (.tail _ hm)) (fun hm => h2 (.tail _ hm)) h.2
    exact ⟨by rw [h.1, e1], e2⟩
theorem jn_inj {c : Nat} : ∀ {A B : List (List Nat)}, A ≠ [] → B ≠ [] → (∀ p ∈ A, c ∉ p) → (∀ p ∈ B, c ∉ p) → jn c A = jn c B → A = B
  | [], _, h, _, _, _, _ => absurd rfl h
  | _ :: _, [], _, h, _, _, _ => absurd rfl h
  | [p], [p'], _, _, _, _, h => by rw [show p = p' from h]
  | [p], p' :: q' :: r', _, _, h1, _, h => by
    have h : p = p' ++ c :: jn c (q' :: r') := h
    exact absurd (h ▸ List.mem_append_right _ List.mem_cons_self) (h1 p List.mem_cons_self)
  | p :: q :: r, [p'], _, _, _, h2, h => by
    have h : p ++ c :: jn c (q :: r) = p' := h
    exact absurd (h ▸ List.mem_append_right _ List.mem_cons_self) (h2 p' List.mem_cons_self)
  | p :: q :: r, p' :: q' :: r', _, _, h1, h2, h => by
    have h : p ++ c :: jn c (q :: r) = p' ++ c :: jn c (q' :: r') := h
    obtain ⟨e1, e2⟩ := cut_one (h1 p List.mem_cons_self) (h2 p' List.mem_cons_self) h
    rw [e1, jn_inj (by simp) (by simp) (fun x hx => h1 x (.tail _ hx)) (fun x hx => h2 x (.tail _ hx)) e2]
theorem split_nonempty (x y : Str) : Txt.split x y ≠ [] := by
  unfold Txt.split
  split
  · simp
  · split
    · simp
    · rw [partsBetween_eq]
      generalize Builtin.Str.occurrences x y 0 x.length (x.length + 1) = cs
      cases cs <;> simp [partsFrom]
theorem split_is {x : Str} {c : Nat} {ps : List (List Nat)} (h0 : ps ≠ []) (h1 : ∀ p ∈ ps, c ∉ p) (h : x.cps.toList = jn c ps) : (Txt.split x ⟨#[c]⟩).map (·.cps.toList) = ps := by
  refine jn_inj (by simpa using split_nonempty x ⟨#[c]⟩) h0 (fun p hp => ?_) h1 ?_
  · obtain ⟨q, hq, rfl⟩ := List.mem_map.mp hp
    exact split_free x c q hq
  · rw [← jn_join, join_split, h]
theorem txt_join (sep : Str) (ps : List Str) : Txt.join sep ps = Str.join sep ps := glued_eq_join sep ps
noncomputable abbrev sgl (y : Nat) : Str := ⟨#[y]⟩
noncomputable def pthL : List Nat → List Nat
  | [] => []
  | c :: r => 47 :: c :: pthL r
theorem pthL_jn : ∀ (c : Nat) (r : List Nat), pthL (c :: r) = 47 :: jn 47 ((c :: r).map fun y => [y])
  | c, [] => rfl
  | c, d :: r => by
    show 47 :: c :: pthL (d :: r) = 47 :: ([c] ++ 47 :: jn 47 ((d :: r).map fun y => [y]))
    rw [pthL_jn d r]
    rfl
theorem pthL_len : ∀ c : List Nat, (pthL c).length = 2 * c.length
  | [] => rfl
  | c :: r => by simp [pthL, pthL_len r]; omega
theorem str_eta (x : Str) : x = mkS x.cps.toList := by cases x; simp [mkS]
theorem str_ext {x y : Str} (h : x.cps.toList = y.cps.toList) : x = y := by rw [str_eta x, str_eta y, h]
theorem slash_join {c : List Nat} (hc : c ≠ []) : Str.ofString "/" ++ Txt.join (Str.ofString "/") (c.map sgl) = mkS (pthL c) := by
  cases c with
  | nil => exact absurd rfl hc
  | cons a r =>
    refine str_ext ?_
    rw [txt_join]
    show (#[47] ++ (Str.join ⟨#[47]⟩ ((a :: r).map sgl)).cps).toList = pthL (a :: r)
    rw [pthL_jn, Array.toList_append, jn_join, List.map_map]
    rfl
theorem map_cps_inj : ∀ {A B : List Str}, A.map (·.cps.toList) = B.map (·.cps.toList) → A = B
  | [], [], _ => rfl
  | [], _ :: _, h => by cases h
  | _ :: _, [], h => by cases h
  | a :: A, b :: B, h => by
    simp only [List.map_cons, List.cons.injEq] at h
    rw [map_cps_inj h.2, show a = b from by cases a; cases b; simp_all]
structure PthFacts (c : List Nat) (x : Str) : Prop where
  len : x.length = 2 * c.length
  n0 : ((x.length : Int) != 0) = true
  s1 : (Txt.slice x none (some 1) != Str.ofString "/") = false
  s2 : (Txt.slice x (some 1) (some 2) != Str.ofString "/") = true
  sp : Txt.split (Txt.slice x (some 1) none) (Str.ofString "/") = c.map sgl
  jo : Str.ofString "/" ++ Txt.join (Str.ofString "/") (c.map sgl) = x
theorem pth_facts {c : List Nat} (hc : c ≠ []) (hg : ∀ y ∈ c, y ≠ 47) : PthFacts c (mkS (pthL c)) := by
  have hl : (mkS (pthL c)).length = 2 * c.length := by rw [← pthL_len]; simp [mkS, Str.length]
  have hlt : (mkS (pthL c)).cps.toList = pthL c := by simp [mkS]
  have hpos : 0 < c.length := List.length_pos_iff.mpr hc
  cases c with
  | nil => exact absurd rfl hc
  | cons a r =>
    have hlen : (pthL (a :: r)).length = 2 * (r.length + 1) := pthL_len _
    refine ⟨hl, ?_, ?_, ?_, ?_, slash_join hc⟩
    · rw [hl]; simp; omega
    · have := eq_of_beq (slice_closes_to (x := mkS (pthL (a :: r))) (j := 1) ⟨by decide, by rw [hlt, hlen]; omega⟩)
      rw [this, hlt]
      rfl
    · have := eq_of_beq (slice_closes (x := mkS (pthL (a :: r))) (i := 1) (j := 2) ⟨by decide, by decide, by rw [hlt, hlen]; omega⟩)
      rw [this, hlt]
      have h47 := hg a (List.mem_cons_self ..)
      show ((⟨[a].toArray⟩ : Str) != Str.ofString "/") = true
      rw [bne_iff_ne]
      intro e
      have : a = 47 := by
        have e2 : (⟨[a].toArray⟩ : Str).cps.toList = [47] := by rw [e]; rfl
        simpa using e2
      exact h47 this
    · refine map_cps_inj ?_
      have hs := slice_from_eq (x := mkS (pthL (a :: r))) (i := 1) (b := (mkS (pthL (a :: r))).length) (by decide) (by rw [hl]; simp; omega) rfl
      have hx : (Txt.slice (mkS (pthL (a :: r))) (some 1) none).cps.toList = jn 47 ((a :: r).map fun y => [y]) := by
        rw [hs, hlt, pthL_jn]
        show List.take _ (List.drop 1 (47 :: _)) = _
        rw [List.drop_one, List.tail_cons, List.take_of_length_le]
        simp [mkS, Str.length]
      have h := split_is (x := Txt.slice (mkS (pthL (a :: r))) (some 1) none) (c := 47) (ps := (a :: r).map fun y => [y]) (by simp) (fun p hp => by
        obtain ⟨y, hy, rfl⟩ := List.mem_map.mp hp
        simp only [List.mem_singleton]
        exact fun e => hg y hy e.symm) hx
      rw [show Str.ofString "/" = ⟨#[47]⟩ from rfl, h, List.map_map]
      rfl
end Mine
end

section -- E17
open PySem PySem.W PyProof.Rows PySem.Calls PySem.Spec
namespace Mine

theorem truthy_kw0 {prog : Program} {w : World} {A : Around} {E : Value → Shared → Prop} {s : Shared} {D : Addr} {h₀ : Heap} {L : Addr} {news : List (Addr × Obj)} {Q : Bool → Shared → Prop} (N : News h₀ L s.heap news) (hm : (D, dictOf [] 0) ∈ news) (hs : (D == sysModules) = false) (h : ∀ k, Q false { s with toks := k }) :
    wpAny (model prog w) A (truthy (.ref D)) Q E s :=
  wpAny_truthy_dict (knd := strKind prog w) (kvs := []) hs ⟨_, _, _, (N _ hm).1, ⟨rfl, rfl, rfl⟩, rfl, fun i hi => (by simp at hi), .nil, List.nodup_nil⟩ (by decide) (h _)
theorem ne_strF {prog : Program} {w : World} {A : Around} {E : Value → Shared → Prop} {s : Shared} {x y : Str} {t u : Tok} {b : Bool} {Q : Value → Shared → Prop} (e : (x != y) = b) (h : Q (.bool b) s) : wpAny (model prog w) A (compareOp .NotEq (.str x t) (.str y u)) Q E s := ne_str (e ▸ h)
theorem eq_strF {prog : Program} {w : World} {A : Around} {E : Value → Shared → Prop} {s : Shared} {x y : Str} {t u : Tok} {b : Bool} {Q : Value → Shared → Prop} (e : (x == y) = b) (h : Q (.bool b) s) : wpAny (model prog w) A (compareOp .Eq (.str x t) (.str y u)) Q E s := eq_str (e ▸ h)
theorem sum_sgl : ∀ c : List Nat, ((c.map sgl).map (·.length)).sum = c.length
  | [] => rfl
  | y :: c => by rw [List.map_cons, List.map_cons, List.sum_cons, sum_sgl c, List.length_cons, show (sgl y).length = 1 from rfl]; omega
theorem strValues_get {c : List Nat} : ∀ {l : List (Str × Tok)} {i : Nat} {v : Value}, l.map (·.1) = c.map sgl → (strValues l)[i]? = some v → ∃ y t, c[i]? = some y ∧ v = .str (sgl y) t := by
  intro l i v h e
  simp only [strValues, List.getElem?_map, Option.map_eq_some_iff] at e
  obtain ⟨p, hp, rfl⟩ := e
  have h2 : (l.map (·.1))[i]? = some p.1 := by rw [List.getElem?_map, hp]; rfl
  rw [h, List.getElem?_map, Option.map_eq_some_iff] at h2
  obtain ⟨y, hy, e2⟩ := h2
  exact ⟨y, p.2, hy, by rw [e2]⟩
theorem spec_normpath {w : World} {mean : ExcName → Option Value} {mg mb : Str → Option Value} {dp un : Nat} {gd : Option (List Code)} {cn : Str} {cs : Scope} {a : Addr} {ccd : Value} {cl : List (Str × Addr)} {outer : List Env} {A₀ : Around} {base h₀ : Heap} {L : Addr} {m : Str → Option Value} {s : Shared} {Q : Value → Shared → Prop} {E : Value → Shared → Prop} {c : List Nat} {t : Tok}
    (B : Below A₀ base outer h₀) (F : Fr h₀ L s.heap m) (X : (K0 w.params).In h₀) (T : Top topProg lo2 mean mg mb h₀) (hk : cs.kind = .function) (hc : c ≠ []) (hcn : c.length ≤ 1000) (hcg : ∀ y ∈ c, y ≠ 47 ∧ y ≠ 46) (hd : dp + 30 < recursionLimit) (hu : un + 500 < cLine)
    (hret : ∀ tk' h', Ext s.heap h' → ∀ t', Q (.str (mkS (pthL c)) t') { s with heap := h', toks := tk' }) :
    wpAny (model PySem.Challenge.rw_oy0371_01.row.prog w) (ktrTop dp un gd cn cs L a ccd cl outer) (call (.ref (nat_lit 699)) [.str (mkS (pthL c)) t]) Q E s := by
  have N : News h₀ L s.heap [] := News.nil
  obtain ⟨xlen, hx0, hs1, hs2, hsp, hjo⟩ := pth_facts hc fun y hy => (hcg y hy).1
  generalize mkS (pthL c) = x at *
  have hxn : x.length ≤ 16777216 := by omega
  w_on
  w_strict (
    refine wpAny_call ?_
    refine' enterBoth [] (Str.ofString "args") (Str.ofString "kwargs") [.str x t] ?k1 ?k2 ?k3 ?k4 ?k5 ?kA ?kF ?kK ?k6 ?k7 ?k8 ?kR ?kP ?kT ?kB ?_ ?c2 ?c3 ?c4 ?c5; (case kA => exact rfl); (case kF => exact rfl); (case kK => first | exact rfl | assumption); (case k1 => k_asm); (case k2 => k_asm); (case k3 => k_asm); (case k4 => k_asm); (case k5 => k_asm); (case k6 => k_is); (case k7 => k_is); (case k8 => ktr_room); (case kR => exact rfl); (case kP => exact fun _ => rfl); (case kT => exact fun _ _ => rfl); (case kB => exact fun _ _ => locs rfl); (case c5 => decide); (case c2 => exact rfl); (case c3 => exact rfl); (case c4 => exact rfl); k_whole; intro C' D' g' L' h' tk' FG' F' l1 l2 l0 l3 N' B' X' T' G'; (try k_lt l1); (try k_lt2 l2); (try dsimp only); (try k_fold)
    have hsm : (D' == sysModules) = false := by
      have e1 := modules_low T.nolimit
      have e2 := F.above
      have e3 := F.ns.lt
      refine beq_eq_false_iff_ne.mpr fun e => ?_
      subst e
      exact Nat.lt_irrefl _ (Nat.lt_of_lt_of_le (Nat.lt_trans e1 (Nat.lt_of_le_of_lt e2 e3)) (Nat.le_trans l0 (Nat.le_of_lt l2)))
    repeat' (first | (k_unfold; (try dsimp only)) | ((fail_if_success (with_reducible show wpAny _ _ (pyIter _) (fun it s₂ => LoopAtV _ _ _ _ _ _ _ _ _ it s₂) _ _)); first | ((with_reducible show wpAny _ _ (call (Value.builtin "list.append") _ _) _ _ _); k_here; (try dsimp only [List.cons_append, List.nil_append]); k_dflt (refine append_K (by k_asm) (by k_asm) (by k_upd) ?_ (by first | assumption | size_fits); k_whole); intro _ _ _; (try k_sweep)) | ((with_reducible show wpAny _ _ (compareOp CmpOp.Eq (Value.str _ _) (Value.str _ _)) _ _ _); refine eq_strF (by assumption) ?_) | ((with_reducible show wpAny _ _ (compareOp CmpOp.NotEq (Value.str _ _) (Value.str _ _)) _ _ _); refine ne_strF (by assumption) ?_) | ((with_reducible show wpAny _ _ (truthy (Value.str _ _)) _ _ _); first | (refine truthyF (by assumption) (by assumption) ?_; intro _) | (refine truthyF (b := true) (by decide +kernel) (by decide +kernel) ?_; intro _) | (refine truthyF (b := false) (by decide +kernel) (by decide +kernel) ?_; intro _)) | ((with_reducible show wpAny _ _ (truthy (Value.ref _)) _ _ _); k_here; k_dflt (refine truthy_kw0 (by k_asm) (by k_mem) (by assumption) ?_; k_whole); intro _) | walk1 | (dsimp only; walk1)))
    rename Fr _ _ _ _ => FZ
    rename News _ _ _ _ => NZ
    rename (List.map _ _ = Txt.split _ _) => hparts
    rw [hsp] at hparts
    refine loop_acc (acc₀ := []) (fun i acc => StrsAre acc ((c.take i).map sgl)) rfl rfl FZ NZ (NZ _ (.tail _ (.head _))).1 rfl ⟨_, rfl⟩ (.inr (.head _)) .nil ?turn ?done
    case turn =>
      intro i v acc n h₁ tk I io hv hP hlI F1 N1
      k_lt hlI
      obtain ⟨y, ty, hy, rfl⟩ := strValues_get hparts hv
      have hyc := hcg y (List.mem_of_getElem? hy)
      have f1 : (((sgl y).length : Int) != 0) = true := rfl
      have f2 : (sgl y == Str.ofString ".") = false := by
        rw [beq_eq_false_iff_ne]
        intro e
        have e2 : (sgl y).cps.toList = [46] := by rw [e]; rfl
        exact hyc.2 (by simpa using e2)
      have f3 : (sgl y != Str.ofString "..") = true := by
        rw [bne_iff_ne]
        intro e
        have e2 : (sgl y).length = 2 := by rw [e]; rfl
        cases e2
      have f4 : (sgl y).length ≤ 16777216 := by show 1 ≤ _; omega
      have hz : acc.toArray.size ≤ sizeLine := by
        have := StrsAre.length hP
        rw [sizeLine_eq]
        simp only [List.size_toArray, List.length_map, List.length_take] at *
        omega
      repeat' (first | (k_unfold; (try dsimp only)) | ((with_reducible show wpAny _ _ (call (Value.builtin "list.append") _ _) _ _ _); k_here; (try dsimp only [List.cons_append, List.nil_append]); k_dflt (refine append_K (by k_asm) (by k_asm) (by k_upd) ?_ (by first | assumption | size_fits); k_whole); intro _ _ _; (try k_sweep)) | ((with_reducible show wpAny _ _ (compareOp CmpOp.Eq (Value.str _ _) (Value.str _ _)) _ _ _); refine eq_strF (by assumption) ?_) | ((with_reducible show wpAny _ _ (compareOp CmpOp.NotEq (Value.str _ _) (Value.str _ _)) _ _ _); refine ne_strF (by assumption) ?_) | ((with_reducible show wpAny _ _ (truthy (Value.str _ _)) _ _ _); first | (refine truthyF (by assumption) (by assumption) ?_; intro _) | (refine truthyF (b := true) (by decide +kernel) (by decide +kernel) ?_; intro _) | (refine truthyF (b := false) (by decide +kernel) (by decide +kernel) ?_; intro _)) | ((with_reducible show wpAny _ _ (truthy (Value.ref _)) _ _ _); k_here; k_dflt (refine truthy_kw0 (by k_asm) (by k_mem) (by assumption) ?_; k_whole); intro _) | walk1 | (dsimp only; walk1))
      rename Fr _ _ _ _ => FY
      rename News _ _ _ _ => NY
      have epush : ∀ v : Value, acc.toArray.push v = (acc ++ [v]).toArray := fun v => by simp
      rw [epush] at NY
      refine ⟨.inl rfl, _, _, _, _, _, rfl, FY, NY, ?_⟩
      rw [List.take_add_one, hy]
      show StrsAre (acc ++ _) (List.map sgl (List.take i c ++ [y]))
      rw [List.map_append]
      exact StrsAre.append' hP (.cons _ _ .nil)
    case done =>
      intro h9 tk9 o9 acc n F9 N9 hP
      rw [show (strValues _).length = c.length from by rw [strValues, List.length_map, ← List.length_map (f := fun (p : Str × Tok) => p.1), hparts, List.length_map], List.take_length] at hP
      repeat' (first | (k_unfold; (try dsimp only)) | ((fail_if_success (with_reducible show wpAny _ _ (call (Value.builtin "str.join") _) _ _ _)); first | ((with_reducible show wpAny _ _ (call (Value.builtin "list.append") _ _) _ _ _); k_here; (try dsimp only [List.cons_append, List.nil_append]); k_dflt (refine append_K (by k_asm) (by k_asm) (by k_upd) ?_ (by first | assumption | size_fits); k_whole); intro _ _ _; (try k_sweep)) | ((with_reducible show wpAny _ _ (compareOp CmpOp.Eq (Value.str _ _) (Value.str _ _)) _ _ _); refine eq_strF (by assumption) ?_) | ((with_reducible show wpAny _ _ (compareOp CmpOp.NotEq (Value.str _ _) (Value.str _ _)) _ _ _); refine ne_strF (by assumption) ?_) | ((with_reducible show wpAny _ _ (truthy (Value.str _ _)) _ _ _); first | (refine truthyF (by assumption) (by assumption) ?_; intro _) | (refine truthyF (b := true) (by decide +kernel) (by decide +kernel) ?_; intro _) | (refine truthyF (b := false) (by decide +kernel) (by decide +kernel) ?_; intro _)) | ((with_reducible show wpAny _ _ (truthy (Value.ref _)) _ _ _); k_here; k_dflt (refine truthy_kw0 (by k_asm) (by k_mem) (by assumption) ?_; k_whole); intro _) | walk1 | (dsimp only; walk1)))
      rename News _ _ _ _ => NY
      have hsum := sum_sgl c
      refine join_listW (ys := c.map sgl) ⟨_, (NY _ (.head _)).1, rfl, _, rfl⟩ hP (by decide) (by rw [hsum, List.length_map]; omega) ?_
      intro t7 k7
      have hjl : (Str.ofString "/").length + (Txt.join (Str.ofString "/") (c.map sgl)).length ≤ sizeLine := by rw [← Str.length_append, hjo, sizeLine_eq]; omega
      repeat' (first | (k_unfold; (try dsimp only)) | ((fail_if_success (with_reducible show wpAny _ _ (binaryOp _ _ _) _ _ _)); first | ((with_reducible show wpAny _ _ (call (Value.builtin "list.append") _ _) _ _ _); k_here; (try dsimp only [List.cons_append, List.nil_append]); k_dflt (refine append_K (by k_asm) (by k_asm) (by k_upd) ?_ (by first | assumption | size_fits); k_whole); intro _ _ _; (try k_sweep)) | ((with_reducible show wpAny _ _ (compareOp CmpOp.Eq (Value.str _ _) (Value.str _ _)) _ _ _); refine eq_strF (by assumption) ?_) | ((with_reducible show wpAny _ _ (compareOp CmpOp.NotEq (Value.str _ _) (Value.str _ _)) _ _ _); refine ne_strF (by assumption) ?_) | ((with_reducible show wpAny _ _ (truthy (Value.str _ _)) _ _ _); first | (refine truthyF (by assumption) (by assumption) ?_; intro _) | (refine truthyF (b := true) (by decide +kernel) (by decide +kernel) ?_; intro _) | (refine truthyF (b := false) (by decide +kernel) (by decide +kernel) ?_; intro _)) | ((with_reducible show wpAny _ _ (truthy (Value.ref _)) _ _ _); k_here; k_dflt (refine truthy_kw0 (by k_asm) (by k_mem) (by assumption) ?_; k_whole); intro _) | walk1 | (dsimp only; walk1)))
      refine PyProof.Rows.add_str (fun t8 k8 => ?_) hjl
      rw [hjo]
      repeat' (first | (k_unfold; (try dsimp only)) | ((with_reducible show wpAny _ _ (call (Value.builtin "list.append") _ _) _ _ _); k_here; (try dsimp only [List.cons_append, List.nil_append]); k_dflt (refine append_K (by k_asm) (by k_asm) (by k_upd) ?_ (by first | assumption | size_fits); k_whole); intro _ _ _; (try k_sweep)) | ((with_reducible show wpAny _ _ (compareOp CmpOp.Eq (Value.str _ _) (Value.str _ _)) _ _ _); refine eq_strF (by assumption) ?_) | ((with_reducible show wpAny _ _ (compareOp CmpOp.NotEq (Value.str _ _) (Value.str _ _)) _ _ _); refine ne_strF (by assumption) ?_) | ((with_reducible show wpAny _ _ (truthy (Value.str _ _)) _ _ _); first | (refine truthyF (by assumption) (by assumption) ?_; intro _) | (refine truthyF (b := true) (by decide +kernel) (by decide +kernel) ?_; intro _) | (refine truthyF (b := false) (by decide +kernel) (by decide +kernel) ?_; intro _)) | ((with_reducible show wpAny _ _ (truthy (Value.ref _)) _ _ _); k_here; k_dflt (refine truthy_kw0 (by k_asm) (by k_mem) (by assumption) ?_; k_whole); intro _) | walk1 | (dsimp only; walk1))
      rename Fr g' L' _ _ => FQ
      exact hret _ _ (fun b o e => FQ.keep b o (G' b o e (fun hm => nomatch hm))) _)
end Mine
end

section -- E18
open PySem PySem.W PyProof.Rows PySem.Calls PySem.Spec
namespace Mine

theorem truthy_newL {prog : Program} {w : World} {A : Around} {E : Value → Shared → Prop} {s : Shared} {h₀ : Heap} {L l : Addr} {news : List (Addr × Obj)} {vs : List Value} {c : Nat} {b : Bool} {Q : Bool → Shared → Prop} (N : News h₀ L s.heap news) (hl : (l, W.listOf vs.toArray c) ∈ news) (hz : vs.length ≤ 900) (hb : (!vs.toArray.isEmpty) = b)
    (h : ∀ k, Q b { s with toks := k }) : wpAny (model prog w) A (truthy (.ref l)) Q E s :=
  wpAny_truthy_list ⟨_, (N _ hl).1, rfl, _, rfl⟩ (by simp; omega) (hb ▸ h _)
theorem keep_led {H g h' h₀ : Heap} {led led' : List (Addr × Obj)} {L L' d : Addr} {m' : Str → Option Value} (G : GSub H g (led.map (·.1))) (F : Fr g L' h' m') (N : News h₀ L H led) (N' : News g L' h' led') (hs : ∀ p ∈ led, p.1 = d ∨ p ∈ led') :
    ∀ b o, b ≠ d → H.get? b = some o → h'.get? b = some o := by
  intro b o hb e
  by_cases hm : b ∈ led.map (·.1)
  · obtain ⟨p, hp, rfl⟩ := List.mem_map.mp hm
    rcases hs p hp with h | h
    · exact absurd h hb
    · rw [(N p hp).1] at e; cases e
      exact (N' p h).1
  · exact F.keep b o (G b o e hm)
theorem gsub_none {H g : Heap} {as : List Addr} {D : Addr} (G : GSub H g as) (hD : D ∉ as) (e : g.get? D = none) : H.get? D = none := by
  cases q : H.get? D with
  | none => rfl
  | some o => rw [G D o q hD] at e; cases e
noncomputable abbrev ignD (w : World) (k1 k2 k3 : Tok) (S D G : Addr) : List DictEntry :=
  [⟨PyData.keyHash w.params (Str.ofString "_mods"), .str (Str.ofString "_mods") k1, .ref S⟩, ⟨PyData.keyHash w.params (Str.ofString "_dirs"), .str (Str.ofString "_dirs") k2, .ref D⟩, ⟨PyData.keyHash w.params (Str.ofString "_ignore"), .str (Str.ofString "_ignore") k3, .ref G⟩]
theorem spec_ignore {w : World} {mean : ExcName → Option Value} {mg mb : Str → Option Value} {dp un : Nat} {gd : Option (List Code)} {cn : Str} {cs : Scope} {a : Addr} {ccd : Value} {cl : List (Str × Addr)} {outer : List Env} {A₀ : Around} {base h₀ : Heap} {L : Addr} {m : Str → Option Value} {s : Shared} {Q : Value → Shared → Prop} {E : Value → Shared → Prop} {M D x9 d9 : Addr} {ms ds : List Value} {cM cD : Nat} {xs : List Str} {cs' : List (List Nat)} {b1 b2 : Bool} {R : Result → Shared → Prop}
    (B : Below A₀ base outer h₀) (F : Fr h₀ L s.heap m) (X : (K0 w.params).In h₀) (T : Top topProg lo2 mean mg mb h₀) (hk : cs.kind = .function) (N : News h₀ L s.heap [(x9, instObj 840 d9), (d9, dictOf [] 0), (M, W.listOf ms.toArray cM), (D, W.listOf ds.toArray cD)]) (l1 : M < d9 ∧ D < d9) (l2 : d9 < x9) (hMD : M ≠ D) (hm0 : ms.length ≤ 900) (hd0 : ds.length ≤ 900) (hb1 : (!ms.toArray.isEmpty) = b1) (hb2 : (!ds.toArray.isEmpty) = b2)
    (hms : StrsAre ms xs) (hcs : ∀ c ∈ cs', c ≠ [] ∧ c.length ≤ 1000 ∧ ∀ y ∈ c, y ≠ 47 ∧ y ≠ 46) (hds : StrsAre ds (cs'.map fun c => mkS (pthL c))) (hd : dp + 40 < recursionLimit) (hu : un + 900 < cLine)
    (hret : ∀ tk' h' S D2 G oS acc vs c2 oG k0 k1 k2 k3, (∀ b o, b ≠ d9 → s.heap.get? b = some o → h'.get? b = some o) → h'.get? d9 = some (dictOf (ignD w k1 k2 k3 S D2 G) (nat_lit 3)) →
      h'.get? S = some oS → h'.get? D2 = some (W.listOf (List.toArray vs) c2) → h'.get? G = some oG → s.heap.get? S = none → s.heap.get? D2 = none → s.heap.get? G = none → S ≠ D2 → S ≠ G → D2 ≠ G → (G == sysModules) = false →
      SetObj PySem.Challenge.rw_oy0371_01.row.prog w oS (ledW w) acc → (∀ x, x ∈ acc ↔ x ∈ xs) → acc.length ≤ xs.length → StrsAre vs (cs'.map fun c => mkS (pthL c)) →
      oG.IsDictOf (PySem.strKind PySem.Challenge.rw_oy0371_01.row.prog w) [(Str.ofString "<string>", .int 1 k0)] → R (.ok (.ret .none)) { s with heap := h', toks := tk' }) :
    codeAny (model PySem.Challenge.rw_oy0371_01.row.prog w) ((ktrTop dp un gd cn cs L a ccd cl outer).under (Code.builtin "type.__call__" ⟨[.ref (nat_lit 840), .ref M, .ref D], []⟩)) (.call (.ref (nat_lit 830)) ⟨[.ref x9, .ref M, .ref D], []⟩) R s := by
  obtain ⟨l1a, l1b⟩ := l1
  k_lt2 l1a
  k_lt2 l1b
  k_lt2 l2
  w_on
  w_strict (
    k_dflt (refine' enterG [(Str.ofString "self", .ref x9), (Str.ofString "modules", .ref M), (Str.ofString "dirs", .ref D)] ?k1 ?k2 ?k3 ?k4 ?k5 ?kA ?kF ?kK ?k6 ?k7 ?k8 ?k9 ?kB ?_ ?c2 ?c3 ?c4 ?c5; (case kA => exact rfl); (case kF => exact rfl); (case kK => assumption); (case k1 => k_asm); (case k2 => k_asm); (case k3 => k_asm); (case k4 => k_asm); (case k5 => k_asm); (case k6 => k_is); (case k7 => k_is); (case k8 => ktr_room); (case k9 => first | exact BindsTo.of_eq rfl | exact binds_K (by k_in) rfl (by k_is) rfl rfl rfl); (case c5 => decide); (case kB => exact locs rfl); (case c2 => exact rfl); (case c3 => exact rfl); (case c4 => exact rfl); k_whole; intro g' L' h' tk' FG' F' N' B' X' T' G'; (try dsimp only); (try (refine letA ?_; intro M' V' A')); (try k_fold))
    repeat' (first | (k_unfold; (try dsimp only)) | ((fail_if_success (with_reducible show wpAny _ _ (eval (PySem.Expr.IfExp _ _ _ _) _) _ _ _)); first | ((with_reducible show wpAny _ _ (truthy (Value.ref _)) _ _ _); k_here; k_dflt (refine truthy_newL (by k_asm) (by k_mem) (by assumption) (by assumption) ?_; k_whole); intro _) | walk1 | (dsimp only; walk1)))
    rename Fr _ _ _ _ => FZ
    rename News _ _ _ _ => NZ
    refine cut_set xs FZ NZ ?set1 ?set2
    case set1 =>
      cases b1
      · have hx : xs = [] := by
          have e : ms = [] := by cases ms with
            | nil => rfl
            | cons a b => simp at hb1
          subst e
          cases hms
          rfl
        subst hx
        repeat' (first | (k_unfold; (try dsimp only)) | ((fail_if_success (with_reducible show wpAny _ _ (call (Value.type "set") _) _ _ _)); first | ((with_reducible show wpAny _ _ (truthy (Value.ref _)) _ _ _); k_here; k_dflt (refine truthy_newL (by k_asm) (by k_mem) (by assumption) (by assumption) ?_; k_whole); intro _) | walk1 | (dsimp only; walk1)))
        exact call_set_none ⟨_, _, _, rfl, rfl, newSet_none FZ NZ rfl rfl⟩
      · repeat' (first | (k_unfold; (try dsimp only)) | ((fail_if_success (with_reducible show wpAny _ _ (call (Value.type "set") _) _ _ _)); first | ((with_reducible show wpAny _ _ (truthy (Value.ref _)) _ _ _); k_here; k_dflt (refine truthy_newL (by k_asm) (by k_mem) (by assumption) (by assumption) ?_; k_whole); intro _) | walk1 | (dsimp only; walk1)))
        refine call_set_strs rfl (News.isList NZ (by k_mem)) hms (by have := StrsAre.length hms; omega) ?_
        intro h5 t5 o5 acc5 g1 g2 g3 g4 g5
        exact ⟨_, _, _, rfl, rfl, newSet_of FZ NZ g5 size_none g1 g2 g3 g4⟩
    case set2 =>
      rintro S h5 t5 ⟨oS, acc, F5, N5, l5, hS, hacc, hlen⟩
      simp only [AllNe, and_true] at l5
      have a1 := l5.1
      have a2 := l5.2.1
      have a3 := l5.2.2.1
      have a4 := l5.2.2.2
      clear l5
      clear FZ NZ
      try dsimp only
      repeat' (first | (k_unfold; (try dsimp only)) | ((fail_if_success (with_reducible show wpAny _ _ (eval (PySem.Expr.IfExp _ _ _ _) _) _ _ _)); first | ((with_reducible show wpAny _ _ (truthy (Value.ref _)) _ _ _); k_here; k_dflt (refine truthy_newL (by k_asm) (by k_mem) (by assumption) (by assumption) ?_; k_whole); intro _) | walk1 | (dsimp only; walk1)))
      rename Fr _ _ _ _ => FZ
      rename News _ _ _ _ => NZ
      refine cut_list (cs'.map fun c => mkS (pthL c)) FZ NZ ?list1 ?list2
      case list1 =>
        cases b2
        · have hx : cs' = [] := by
            have e : ds = [] := by cases ds with
              | nil => rfl
              | cons a b => simp at hb2
            subst e
            cases cs' with
            | nil => rfl
            | cons a b => cases hds
          subst hx
          repeat' (first | (k_unfold; (try dsimp only)) | ((with_reducible show wpAny _ _ (truthy (Value.ref _)) _ _ _); k_here; k_dflt (refine truthy_newL (by k_asm) (by k_mem) (by assumption) (by assumption) ?_; k_whole); intro _) | walk1 | (dsimp only; walk1))
          rename Fr _ _ _ _ => FY
          rename News _ _ _ _ => NY
          exact newStrs_nil FY NY (allLt_mem (by simp only [AllLt, and_true]; assumption))
        · repeat' (first | (k_unfold; (try dsimp only)) | ((fail_if_success (with_reducible show wpAny _ _ (eval (PySem.Expr.ListComp _ _ _ _) _) _ _ _)); first | ((with_reducible show wpAny _ _ (truthy (Value.ref _)) _ _ _); k_here; k_dflt (refine truthy_newL (by k_asm) (by k_mem) (by assumption) (by assumption) ?_; k_whole); intro _) | walk1 | (dsimp only; walk1)))
          refine' evalCompL rfl ?hclos ?hcell ?hkind ?hnames (fun i ys more => more = [] ∧ StrsAre ys ((cs'.take i).map fun c => mkS (pthL c))) ⟨rfl, by simpa using StrsAre.nil⟩ ?hlen ?hh ?hs
          case hclos => with_unfolding_all rfl
          case hcell => decide
          case hkind => rfl
          case hnames => decide
          case hs => (intro _; rfl)
          case hlen =>
            intro i ys more hP
            rw [StrsAre.length hP.2, List.length_map, List.length_take]
            omega
          walk1
          refine ⟨D, ds, rfl, News.isList NZ (by k_mem), by rw [sizeLine_eq]; omega, ?turn, ?done⟩
          case turn =>
            intro C i v ys more h₃ tk₃ m₃ E' hC hv hP hn3 hx3 hmore
            have hlt : i < cs'.length := by
              have := (List.getElem?_eq_some_iff.mp hv).1
              rw [StrsAre.length hds, List.length_map] at this
              exact this
            obtain ⟨u, hu9⟩ := StrsAre.get hds i (mkS (pthL cs'[i])) (by rw [List.getElem?_map, List.getElem?_eq_getElem hlt]; rfl)
            rw [hv] at hu9
            obtain rfl := Option.some.inj hu9
            obtain ⟨q1, q2, q3⟩ := hcs _ (List.getElem_mem hlt)
            refine wpAny_assign_Name (wpAny_storeName_local (env := compEnvC _ _ C _) (by exact rfl) hn3 (fun h₄ hn₄ hs₄ => ?_) (by exact rfl))
            refine wpAny_tests_nil ?_
            rw [if_pos rfl]
            have F3 := FZ.keeps hx3
            have k4 : ∀ b o, b ≠ C → h₃.get? b = some o → h₄.get? b = some o := fun b o hb ho => hs₄.extBut b o hb ho
            have k5 : ∀ b o, g'.get? b = some o → h₄.get? b = some o := fun b o e => k4 b o (fun z => by
              have := Heap.lt_size (FZ.keep b o e)
              rw [z] at this
              exact Nat.lt_irrefl _ (Nat.lt_of_lt_of_le this hC)) (F3.keep b o e)
            refine Call_ ?_
            refine nmCG (K := K0 w.params) (mg := mg) (v := .ref 699) (T'.g.keeps k5) (X'.keeps k5) (by kernel_rfl) ?_ rfl rfl rfl (by decide)
            refine callWith_K (K := K0 w.params) X' (by kernel_rfl) ?_
            refine args_cons ?_
            refine nmL hn₄ (by rfl) ?_ rfl rfl (by decide)
            refine args_nil ⟨X'.keeps k5, ?_⟩
            have F4 : Fr g' L' h₄ _ := ⟨F3.ns.at (fun o e => k4 _ o (fun z => by
              have := F3.ns.lt
              have h2 := FZ.ns.lt
              rw [z] at h2
              exact Nat.lt_irrefl _ (Nat.lt_of_lt_of_le h2 hC)) e), k5, F3.above⟩
            refine spec_normpath (mean := mean) (mg := mg) (mb := mb) B' F4 X' T' rfl q1 q2 q3 ?kd ?ku ?_
            case kd => ktr_room
            case ku => ktr_units
            intro tk6 h6 x6 t6
            refine ⟨h6, _, _, [], rfl, hn₄.keeps x6, fun b o hb ho => x6 b o (k4 b o hb ho), (fun p hp => nomatch hp), by simp [hP.1], ?_⟩
            rw [List.take_add_one, List.getElem?_eq_getElem hlt]
            show StrsAre _ (List.map _ (List.take i cs' ++ [cs'[i]]))
            rw [List.map_append]
            exact StrsAre.append' hP.2 (.cons _ _ .nil)
          case done =>
            intro D9 ys more h9' tk9' hx hDn hpl hP hmore
            have hlen' : ds.length = cs'.length := by rw [StrsAre.length hds, List.length_map]
            rw [hlen', List.take_length] at hP
            exact ⟨_, _, _, rfl, rfl, newStrs_of FZ NZ hx hDn hpl hP.2⟩
      case list2 =>
        rintro D2 h6 t6 ⟨vs, c2, F6, N6, l6, hvs⟩
        simp only [AllNe, and_true] at l6
        have b0 := l6.1
        have b1 := l6.2.1
        have b2 := l6.2.2.1
        have b3 := l6.2.2.2.1
        have b4 := l6.2.2.2.2
        clear l6
        clear FZ NZ
        try dsimp only
        repeat' (first | (k_unfold; (try dsimp only)) | ((with_reducible show wpAny _ _ (truthy (Value.ref _)) _ _ _); k_here; k_dflt (refine truthy_newL (by k_asm) (by k_mem) (by assumption) (by assumption) ?_; k_whole); intro _) | walk1 | (dsimp only; walk1))
        rename Fr g' L' _ _ => FQ
        rename News g' L' _ _ => NQ
        rename (D2 < _ ∧ _) => lG
        rename Obj.IsDictOf _ _ _ => hG
        rename ((_ == sysModules) = false) => hlo
        have nG := (NQ _ (.head _)).2.2
        have nD := (NQ _ (.tail _ (.head _))).2.2
        have nS := (NQ _ (.tail _ (.tail _ (.head _)))).2.2
        refine hret _ _ S D2 _ oS acc vs c2 _ _ _ _ _ (keep_led G' FQ N NQ ?hs) (NQ _ (.tail _ (.tail _ (.tail _ (.tail _ (.head _)))))).1 (NQ _ (.tail _ (.tail _ (.head _)))).1 (NQ _ (.tail _ (.head _))).1 (NQ _ (.head _)).1
          (gsub_none G' ?h1 nS) (gsub_none G' ?h2 nD) (gsub_none G' ?h3 nG) ?h4 ?h5 ?h6 hlo hS hacc hlen hvs hG
        case hs => exact List.forall_mem_cons.mpr ⟨.inr (.tail _ (.tail _ (.tail _ (.head _)))), List.forall_mem_cons.mpr ⟨.inl rfl, List.forall_mem_cons.mpr ⟨.inr (.tail _ (.tail _ (.tail _ (.tail _ (.tail _ (.head _)))))), List.forall_mem_cons.mpr ⟨.inr (.tail _ (.tail _ (.tail _ (.tail _ (.tail _ (.tail _ (.head _))))))), fun p hp => nomatch hp⟩⟩⟩⟩
        case h1 =>
          intro hm
          simp only [List.map_cons, List.map_nil, List.mem_cons, List.not_mem_nil, or_false] at hm
          rcases hm with h | h | h | h
          · exact a1 h.symm
          · exact a2 h.symm
          · exact a3 h.symm
          · exact a4 h.symm
        case h2 =>
          intro hm
          have e1 := b1
          have e2 := b2
          have e3 := b3
          have e4 := b4
          simp only [List.map_cons, List.map_nil, List.mem_cons, List.not_mem_nil, or_false] at hm
          rcases hm with h | h | h | h
          · exact e1 h.symm
          · exact e2 h.symm
          · exact e3 h.symm
          · exact e4 h.symm
        case h3 =>
          obtain ⟨_, _, e1, e2, e3, e4⟩ := lG
          intro hm
          simp only [List.map_cons, List.map_nil, List.mem_cons, List.not_mem_nil, or_false] at hm
          rcases hm with h | h | h | h
          · exact absurd h (Nat.ne_of_gt e1)
          · exact absurd h (Nat.ne_of_gt e2)
          · exact absurd h (Nat.ne_of_gt e3)
          · exact absurd h (Nat.ne_of_gt e4)
        case h4 => exact b0
        case h5 => exact Nat.ne_of_lt lG.2.1
        case h6 => exact Nat.ne_of_lt lG.1)
end Mine
end

section -- For3
open PySem PySem.W PyProof.Rows PySem.Calls PySem.Spec
namespace Mine
section
variable {prog : Program} {w : World} {A : Around} {E : Value → Shared → Prop} {env : Env} {h₀ : Heap} {x : Str} {body : List Stmt} {Q : Flow → Shared → Prop} {s : Shared} {m : Str → Option Value} {news : List (Addr × Obj)} {l L : Addr} {vs : List Value} {lo : Obj}
noncomputable def TurnK (h₀ : Heap) (L I : Addr) (io : Obj) (news : List (Addr × Obj)) (x : Str) (m : Str → Option Value) (s : Shared) (G : Prop) (Q : Flow → Shared → Prop) (f : Flow) (s' : Shared) : Prop :=
  match f with
  | .ret v => Q (.ret v) s'
  | .brk => Q .next s'
  | _ => (f = .next ∨ f = .cont) ∧ G ∧ ∃ h' tk o, s' = { s with heap := h', toks := tk } ∧ Fr h₀ L h' (fun y => if y = x then o else m y) ∧ News h₀ L h' ((I, io) :: news)
theorem loop_keep (Good : Nat → Prop) (hL : env.locals = L) (hh : A.handled = none) (F : Fr h₀ L s.heap m) (N : News h₀ L s.heap news) (hl : s.heap.get? l = some lo) (hlc : lo.cls = .type "list") (hld : ∃ n, lo.data = .seq vs.toArray n)
    (hk : h₀.get? l = some lo ∨ (l, lo) ∈ news)
    (turn : ∀ i v h₁ tk I io, vs[i]? = some v → (∀ p ∈ news, p.1 < I) → Fr h₀ L h₁ (fun y => if y = x then some v else m y) → News h₀ L h₁ ((I, io) :: news) →
      wpAny (model prog w) A (execs body env) (TurnK h₀ L I io news x m s (Good i) Q) E { s with heap := h₁, toks := tk })
    (done : ∀ h' tk o, (∀ i, i < vs.length → Good i) → Fr h₀ L h' (fun y => if y = x then o else m y) → News h₀ L h' news → Q .next { s with heap := h', toks := tk }) :
    wpAny (model prog w) A (pyIter (.ref l)) (fun it s₂ => LoopAtV prog w A h₀ env x body Q E it s₂) E s := by
  subst hL
  have hrl : ∀ p ∈ news, p.1 < s.heap.objs.size := fun p hp => Heap.lt_size (N _ hp).1
  have hlL : l ≠ env.locals := by
    rcases hk with hk | hk
    · intro e; subst e; exact absurd (Nat.lt_of_lt_of_le (Heap.lt_size hk) F.above) (Nat.lt_irrefl _)
    · exact (N _ hk).2.1
  refine loop_list (fun i m₁ news₁ => Same x m m₁ ∧ (∀ j, j < i → Good j) ∧ news₁ = news) hh F N hl hlc hld ?_ hlL ⟨Same.rfl, fun j hj => absurd hj (Nat.not_lt_zero _), Eq.refl _⟩ ?_ ?_
  · rintro i m₁ news₁ h ⟨_, _, rfl⟩ hkp N'
    rcases hk with hk | hk
    · exact hkp _ _ hk
    · exact (N' _ hk).1
  · rintro i v m₁ news₁ h₁ tk I io hv hI ⟨hS, hg, rfl⟩ hoff F' N'
    rw [hS.put] at F'
    refine wpAny_mono (turn i v h₁ tk I io hv (fun p hp => hI ▸ hrl p hp) F' N') (fun f s' hq => ?_) fun _ _ e => e
    cases f with
    | ret v => exact hq
    | brk => exact hq
    | next =>
      obtain ⟨hf, hG, h', tk, o, es, F2, N2⟩ := hq
      exact ⟨hf, h', tk, _, _, es, F2, N2, fun p hp => hI ▸ Nat.ne_of_lt (hrl p hp), Same.self, fun j hj => (Nat.lt_succ_iff_lt_or_eq.mp hj).elim (hg j) (fun e => e ▸ hG), Eq.refl _⟩
    | cont =>
      obtain ⟨hf, hG, h', tk, o, es, F2, N2⟩ := hq
      exact ⟨hf, h', tk, _, _, es, F2, N2, fun p hp => hI ▸ Nat.ne_of_lt (hrl p hp), Same.self, fun j hj => (Nat.lt_succ_iff_lt_or_eq.mp hj).elim (hg j) (fun e => e ▸ hG), Eq.refl _⟩
  · rintro h' tk m' news' F' N' ⟨hS, hg, rfl⟩
    rw [hS.out] at F'
    exact done h' tk _ hg F' N'
end
end Mine
end

section -- E19
open PySem PySem.W PyProof.Rows PySem.Calls PySem.Spec
namespace Mine


theorem in_setF {prog : Program} {w : World} {A : Around} {E : Value → Shared → Prop} {s : Shared} {h₀ : Heap} {L S : Addr} {news : List (Addr × Obj)} {oS : Obj} {acc : List Str} {x : Str} {t : Tok} {b : Bool} {Q : Value → Shared → Prop} (N : News h₀ L s.heap news) (hm : (S, oS) ∈ news) (hS : SetObj prog w oS (ledW w) acc) (hn : acc.length ≤ 900) (hb : decide (x ∈ acc) = b) (h : ∀ tk, Q (.bool b) { s with toks := tk }) :
    wpAny (model prog w) A (compareOp .In (.str x t) (.ref S)) Q E s := by
  have N1 : News h₀ L s.heap [(S, oS)] := fun p hp => by rw [List.mem_singleton.mp hp]; exact N _ hm
  exact kse_in (knd := PySem.strKind _ _) (S := fun k => decide (k ∈ acc)) N1 (UpdF.head (fun p hp => nomatch hp)) (setObj_of hS) (by unfold scanBound; omega) (strKind_is _ _ _ _) rfl (by rw [hb]; exact h _)
theorem keep_same {H g h' h₀ : Heap} {led led' : List (Addr × Obj)} {L L' : Addr} {m' : Str → Option Value} (G : GSub H g (led.map (·.1))) (F : Fr g L' h' m') (N : News h₀ L H led) (N' : News g L' h' led') (hs : ∀ p ∈ led, p ∈ led') : Ext H h' := by
  intro b o e
  by_cases hm : b ∈ led.map (·.1)
  · obtain ⟨p, hp, rfl⟩ := List.mem_map.mp hm
    rw [(N p hp).1] at e; cases e
    exact (N' p (hs p hp)).1
  · exact F.keep b o (G b o e hm)
noncomputable def ansB (acc ds : List Str) (fo : Option (Str × Tok)) (x : Str) : Bool :=
  decide (x ∈ acc) || acc.any (fun y => Txt.startswith x (y ++ Str.ofString ".")) || match fo with
    | none => true
    | some f => ds.any fun d => Txt.startswith f.1 (d ++ Str.ofString "/")
noncomputable abbrev fileV : Option (Str × Tok) → Value
  | none => .none
  | some f => .str f.1 f.2
noncomputable abbrev bitI (b : Bool) : Int := if b then 1 else 0
theorem starts_F {prog : Program} {w : World} {A : Around} {E : Value → Shared → Prop} {s : Shared} {x y : Str} {t u : Tok} {b : Bool} {Q : Value → Shared → Prop} (e : Txt.startswith x y = b) (h : Q (.bool b) s) : wpAny (model prog w) A (call (.builtin "str.startswith") [.str x t, .str y u]) Q E s := SC.startswith (e ▸ h)
local macro_rules | `(tactic| k_all) => `(tactic| assumption)
theorem spec_names {w : World} {mean : ExcName → Option Value} {mg mb : Str → Option Value} {dp un : Nat} {gd : Option (List Code)} {cn : Str} {cs : Scope} {a : Addr} {ccd : Value} {cl : List (Str × Addr)} {outer : List Env} {A₀ : Around} {base h₀ : Heap} {L : Addr} {m : Str → Option Value} {s : Shared} {Q : Value → Shared → Prop} {E : Value → Shared → Prop} {x d S D G : Addr} {oS oG : Obj} {acc ds : List Str} {vs : List Value} {c : Nat} {k1 k2 k3 t : Tok} {fo : Option (Str × Tok)} {y : Str} {kvs : List (Str × Value)}
    (B : Below A₀ base outer h₀) (F : Fr h₀ L s.heap m) (X : (K0 w.params).In h₀) (T : Top topProg lo2 mean mg mb h₀) (hk : cs.kind = .function) (N : News h₀ L s.heap [(G, oG), (x, instObj 840 d), (d, dictOf (ignD w k1 k2 k3 S D G) (nat_lit 3)), (S, oS), (D, W.listOf vs.toArray c)]) (n1 : x ≠ G) (n2 : d ≠ G) (n3 : S ≠ G) (n4 : D ≠ G)
    (hS : SetObj PySem.Challenge.rw_oy0371_01.row.prog w oS (ledW w) acc) (ha : acc.length ≤ 900) (hal : ∀ z ∈ acc, z.length ≤ 1000) (hvs : StrsAre vs ds) (hvn : ds.length ≤ 900) (hdl : ∀ z ∈ ds, z.length ≤ 1000)
    (hG : oG.IsDictOf (PySem.strKind PySem.Challenge.rw_oy0371_01.row.prog w) kvs) (hk9 : kvs.length ≤ sizeLine) (hsm : (G == sysModules) = false) (hyl : y.length ≤ 1000) (hd : dp + 10 < recursionLimit) (hu : un + 100 < cLine)
    (hold : ∀ v tk' h', valueAt kvs y = some v → Ext s.heap h' → Q v { s with heap := h', toks := tk' })
    (hnew : ∀ tk' h' dr' oG' t', valueAt kvs y = none → (∀ b o, b ≠ G → s.heap.get? b = some o → h'.get? b = some o) → h'.get? G = some oG' → oG'.IsDictOf (PySem.strKind PySem.Challenge.rw_oy0371_01.row.prog w) (kvs ++ [(y, .int (bitI (ansB acc ds fo y)) t')]) →
      ∀ u, Q (.int (bitI (ansB acc ds fo y)) u) { s with heap := h', toks := tk', drawn := dr' }) :
    wpAny (model PySem.Challenge.rw_oy0371_01.row.prog w) (ktrTop dp un gd cn cs L a ccd cl outer) (call (.ref (nat_lit 837)) [.ref x, fileV fo, .str y t]) Q E s := by
  replace n1 := neN n1
  replace n2 := neN n2
  replace n3 := neN n3
  replace n4 := neN n4
  dsimp only [ignD] at N
  have hn1 : ansB acc ds fo y = true → ∀ tk' h' dr' oG' t', valueAt kvs y = none → (∀ b o, b ≠ G → s.heap.get? b = some o → h'.get? b = some o) → h'.get? G = some oG' → oG'.IsDictOf (PySem.strKind PySem.Challenge.rw_oy0371_01.row.prog w) (kvs ++ [(y, .int 1 t')]) →
      ∀ u, Q (.int 1 u) { s with heap := h', toks := tk', drawn := dr' } := fun e tk' h' dr' oG' t' h1 h2 h3 h4 u => by
    have := hnew tk' h' dr' oG' t' h1 h2 h3 (by rw [e]; exact h4) u
    rw [e] at this
    exact this
  have hn0 : ansB acc ds fo y = false → ∀ tk' h' dr' oG' t', valueAt kvs y = none → (∀ b o, b ≠ G → s.heap.get? b = some o → h'.get? b = some o) → h'.get? G = some oG' → oG'.IsDictOf (PySem.strKind PySem.Challenge.rw_oy0371_01.row.prog w) (kvs ++ [(y, .int 0 t')]) →
      ∀ u, Q (.int 0 u) { s with heap := h', toks := tk', drawn := dr' } := fun e tk' h' dr' oG' t' h1 h2 h3 h4 u => by
    have := hnew tk' h' dr' oG' t' h1 h2 h3 (by rw [e]; exact h4) u
    rw [e] at this
    exact this
  w_on
  w_strict (
    refine wpAny_call ?_
    k_dflt (refine' enterG [(Str.ofString "self", .ref x), (Str.ofString "filename", fileV fo), (Str.ofString "modulename", .str y t)] ?k1 ?k2 ?k3 ?k4 ?k5 ?kA ?kF ?kK ?k6 ?k7 ?k8 ?k9 ?kB ?_ ?c2 ?c3 ?c4 ?c5; (case kA => exact rfl); (case kF => exact rfl); (case kK => assumption); (case k1 => k_asm); (case k2 => k_asm); (case k3 => k_asm); (case k4 => k_asm); (case k5 => k_asm); (case k6 => k_is); (case k7 => k_is); (case k8 => ktr_room); (case k9 => first | exact BindsTo.of_eq rfl | exact binds_K (by k_in) rfl (by k_is) rfl rfl rfl); (case c5 => decide); (case kB => exact locs rfl); (case c2 => exact rfl); (case c3 => exact rfl); (case c4 => exact rfl); k_whole; intro g' L' h' tk' FG' F' N' B' X' T' G'; (try dsimp only); (try (refine letA ?_; intro M' V' A')); (try k_fold))
    repeat' (first | (k_unfold; (try dsimp only)) | ((fail_if_success (with_reducible show wpAny _ _ (compareOp CmpOp.In _ _) _ _ _)); first | ((with_reducible show wpAny _ _ (getItem (Value.ref _) (Value.str _ _)) _ _ _); k_here; k_dflt (refine kdt_getItem (knd := PySem.strKind _ _) (by k_asm) (by k_mem) (by assumption) (strKind_is _ _ _ _) (by assumption) ?_; k_whole)) | ((with_reducible show wpAny _ _ (subscriptTail _ _ (Value.ref _) _) _ _ _); k_here; k_dflt (refine kda_item (knd := PySem.strKind _ _) (by k_asm) (by k_mem) (by assumption) (strKind_is _ _ _ _) (by assumption) ?_; k_whole)) | ((with_reducible show wpAny _ _ (call (Value.builtin "str.startswith") _ _) _ _ _); k_here; refine starts_F (by assumption) ?_) | ((with_reducible show wpAny _ _ (setItem (Value.ref _) (Value.str _ _) _) _ _ _); k_here; k_dflt (refine kda_set (knd := PySem.strKind _ _) (by k_asm) (by k_asm) (by k_updF) (by assumption) (strKind_is _ _ _ _) (by assumption) ?_); intro _ _ _ N' _; (try dsimp only at N')) | ((with_reducible show wpAny _ _ (compareOp CmpOp.In (Value.str _ _) (Value.ref _)) _ _ _); k_here; first | (k_dflt (refine kda_in (knd := PySem.strKind _ _) (by k_asm) (by k_mem) (by assumption) (by assumption) (strKind_is _ _ _ _) _ (by assumption) ?_; k_whole)) | (k_dflt (refine in_setF (by k_asm) (by k_mem) (by assumption) (by assumption) (by assumption) ?_; k_whole); intro _)) | walk1 | (dsimp only; walk1)))
    cases hb0 : (valueAt kvs y).isSome
    case true =>
      obtain ⟨v9, hv9⟩ := Option.isSome_iff_exists.mp hb0
      repeat' (first | (k_unfold; (try dsimp only)) | ((with_reducible show wpAny _ _ (getItem (Value.ref _) (Value.str _ _)) _ _ _); k_here; k_dflt (refine kdt_getItem (knd := PySem.strKind _ _) (by k_asm) (by k_mem) (by assumption) (strKind_is _ _ _ _) (by assumption) ?_; k_whole)) | ((with_reducible show wpAny _ _ (subscriptTail _ _ (Value.ref _) _) _ _ _); k_here; k_dflt (refine kda_item (knd := PySem.strKind _ _) (by k_asm) (by k_mem) (by assumption) (strKind_is _ _ _ _) (by assumption) ?_; k_whole)) | ((with_reducible show wpAny _ _ (call (Value.builtin "str.startswith") _ _) _ _ _); k_here; refine starts_F (by assumption) ?_) | ((with_reducible show wpAny _ _ (setItem (Value.ref _) (Value.str _ _) _) _ _ _); k_here; k_dflt (refine kda_set (knd := PySem.strKind _ _) (by k_asm) (by k_asm) (by k_updF) (by assumption) (strKind_is _ _ _ _) (by assumption) ?_); intro _ _ _ N' _; (try dsimp only at N')) | ((with_reducible show wpAny _ _ (compareOp CmpOp.In (Value.str _ _) (Value.ref _)) _ _ _); k_here; first | (k_dflt (refine kda_in (knd := PySem.strKind _ _) (by k_asm) (by k_mem) (by assumption) (by assumption) (strKind_is _ _ _ _) _ (by assumption) ?_; k_whole)) | (k_dflt (refine in_setF (by k_asm) (by k_mem) (by assumption) (by assumption) (by assumption) ?_; k_whole); intro _)) | walk1 | (dsimp only; walk1))
      rename Fr g' L' _ _ => FQ
      rename News g' L' _ _ => NQ
      have hx := keep_same G' FQ N NQ fun p hp => hp
      exact hold _ _ _ hv9 hx
    have hv0 : valueAt kvs y = none := by simpa using hb0
    cases hb1 : decide (y ∈ acc)
    case true =>
      repeat' (first | (k_unfold; (try dsimp only)) | ((with_reducible show wpAny _ _ (getItem (Value.ref _) (Value.str _ _)) _ _ _); k_here; k_dflt (refine kdt_getItem (knd := PySem.strKind _ _) (by k_asm) (by k_mem) (by assumption) (strKind_is _ _ _ _) (by assumption) ?_; k_whole)) | ((with_reducible show wpAny _ _ (subscriptTail _ _ (Value.ref _) _) _ _ _); k_here; k_dflt (refine kda_item (knd := PySem.strKind _ _) (by k_asm) (by k_mem) (by assumption) (strKind_is _ _ _ _) (by assumption) ?_; k_whole)) | ((with_reducible show wpAny _ _ (call (Value.builtin "str.startswith") _ _) _ _ _); k_here; refine starts_F (by assumption) ?_) | ((with_reducible show wpAny _ _ (setItem (Value.ref _) (Value.str _ _) _) _ _ _); k_here; k_dflt (refine kda_set (knd := PySem.strKind _ _) (by k_asm) (by k_asm) (by k_updF) (by assumption) (strKind_is _ _ _ _) (by assumption) ?_); intro _ _ _ N' _; (try dsimp only at N')) | ((with_reducible show wpAny _ _ (compareOp CmpOp.In (Value.str _ _) (Value.ref _)) _ _ _); k_here; first | (k_dflt (refine kda_in (knd := PySem.strKind _ _) (by k_asm) (by k_mem) (by assumption) (by assumption) (strKind_is _ _ _ _) _ (by assumption) ?_; k_whole)) | (k_dflt (refine in_setF (by k_asm) (by k_mem) (by assumption) (by assumption) (by assumption) ?_; k_whole); intro _)) | walk1 | (dsimp only; walk1))
      rename Fr g' L' _ _ => FQ
      rename News g' L' _ _ => NQ
      rename Obj.IsDictOf _ _ (stored _ _ _) => hq
      rw [stored_absent hv0] at hq
      exact hn1 (by simp only [ansB, hb1, Bool.true_or]) _ _ _ _ _ hv0 (keep_led (d := G) G' FQ N NQ (List.forall_mem_cons.mpr ⟨.inl rfl, List.forall_mem_cons.mpr ⟨.inr (.tail _ (.head _)), List.forall_mem_cons.mpr ⟨.inr (.tail _ (.tail _ (.head _))), List.forall_mem_cons.mpr ⟨.inr (.tail _ (.tail _ (.tail _ (.head _)))), List.forall_mem_cons.mpr ⟨.inr (.tail _ (.tail _ (.tail _ (.tail _ (.head _))))), fun p hp => nomatch hp⟩⟩⟩⟩⟩)) (NQ _ (.head _)).1 hq _

    repeat' (first | (k_unfold; (try dsimp only)) | ((fail_if_success (with_reducible show wpAny _ _ (pyIter _) (fun it s₂ => LoopAtV _ _ _ _ _ _ _ _ _ it s₂) _ _)); first | ((with_reducible show wpAny _ _ (getItem (Value.ref _) (Value.str _ _)) _ _ _); k_here; k_dflt (refine kdt_getItem (knd := PySem.strKind _ _) (by k_asm) (by k_mem) (by assumption) (strKind_is _ _ _ _) (by assumption) ?_; k_whole)) | ((with_reducible show wpAny _ _ (subscriptTail _ _ (Value.ref _) _) _ _ _); k_here; k_dflt (refine kda_item (knd := PySem.strKind _ _) (by k_asm) (by k_mem) (by assumption) (strKind_is _ _ _ _) (by assumption) ?_; k_whole)) | ((with_reducible show wpAny _ _ (call (Value.builtin "str.startswith") _ _) _ _ _); k_here; refine starts_F (by assumption) ?_) | ((with_reducible show wpAny _ _ (setItem (Value.ref _) (Value.str _ _) _) _ _ _); k_here; k_dflt (refine kda_set (knd := PySem.strKind _ _) (by k_asm) (by k_asm) (by k_updF) (by assumption) (strKind_is _ _ _ _) (by assumption) ?_); intro _ _ _ N' _; (try dsimp only at N')) | ((with_reducible show wpAny _ _ (compareOp CmpOp.In (Value.str _ _) (Value.ref _)) _ _ _); k_here; first | (k_dflt (refine kda_in (knd := PySem.strKind _ _) (by k_asm) (by k_mem) (by assumption) (by assumption) (strKind_is _ _ _ _) _ (by assumption) ?_; k_whole)) | (k_dflt (refine in_setF (by k_asm) (by k_mem) (by assumption) (by assumption) (by assumption) ?_; k_whole); intro _)) | walk1 | (dsimp only; walk1)))
    rename Fr _ _ _ _ => FZ
    rename News _ _ _ _ => NZ
    have hGl : G < s.heap.objs.size := Heap.lt_size (N _ (.head _)).1
    refine loop_set (fun z => Txt.startswith y (z ++ Str.ofString ".") = false) rfl rfl FZ NZ (NZ _ (.tail _ (.tail _ (.tail _ (.head _))))).1 hS (by omega) (.tail _ (.tail _ (.tail _ (.head _)))) ?turn ?done
    case turn =>
      intro z u h₁ tk dr own hz hown F1 N1
      have hown' : ∀ p ∈ own, @Ne Nat p.1 G := fun p hp e => by
        rcases hown p hp with h | h
        · exact n3 (h.symm.trans e)
        · have := Heap.lt_size (NZ _ (.head _)).1
          rw [e] at h
          exact Nat.lt_irrefl _ (Nat.lt_of_lt_of_le this h)
      simp only [List.cons_append, List.nil_append] at N1
      have hzl := hal z hz
      repeat' (first | (k_unfold; (try dsimp only)) | ((fail_if_success (with_reducible show wpAny _ _ (binaryOp _ _ _) _ _ _)); first | ((with_reducible show wpAny _ _ (getItem (Value.ref _) (Value.str _ _)) _ _ _); k_here; k_dflt (refine kdt_getItem (knd := PySem.strKind _ _) (by k_asm) (by k_mem) (by assumption) (strKind_is _ _ _ _) (by assumption) ?_; k_whole)) | ((with_reducible show wpAny _ _ (subscriptTail _ _ (Value.ref _) _) _ _ _); k_here; k_dflt (refine kda_item (knd := PySem.strKind _ _) (by k_asm) (by k_mem) (by assumption) (strKind_is _ _ _ _) (by assumption) ?_; k_whole)) | ((with_reducible show wpAny _ _ (call (Value.builtin "str.startswith") _ _) _ _ _); k_here; refine starts_F (by assumption) ?_) | ((with_reducible show wpAny _ _ (setItem (Value.ref _) (Value.str _ _) _) _ _ _); k_here; k_dflt (refine kda_set (knd := PySem.strKind _ _) (by k_asm) (by k_asm) (by k_updF) (by assumption) (strKind_is _ _ _ _) (by assumption) ?_); intro _ _ _ N' _; (try dsimp only at N')) | ((with_reducible show wpAny _ _ (compareOp CmpOp.In (Value.str _ _) (Value.ref _)) _ _ _); k_here; first | (k_dflt (refine kda_in (knd := PySem.strKind _ _) (by k_asm) (by k_mem) (by assumption) (by assumption) (strKind_is _ _ _ _) _ (by assumption) ?_; k_whole)) | (k_dflt (refine in_setF (by k_asm) (by k_mem) (by assumption) (by assumption) (by assumption) ?_; k_whole); intro _)) | walk1 | (dsimp only; walk1)))
      refine PyProof.Rows.add_str (fun t7 tk7 => ?_) (by rw [sizeLine_eq]; show z.length + 1 ≤ _; omega)
      cases hsw : Txt.startswith y (z ++ Str.ofString ".")
      · repeat' (first | (k_unfold; (try dsimp only)) | ((with_reducible show wpAny _ _ (getItem (Value.ref _) (Value.str _ _)) _ _ _); k_here; k_dflt (refine kdt_getItem (knd := PySem.strKind _ _) (by k_asm) (by k_mem) (by assumption) (strKind_is _ _ _ _) (by assumption) ?_; k_whole)) | ((with_reducible show wpAny _ _ (subscriptTail _ _ (Value.ref _) _) _ _ _); k_here; k_dflt (refine kda_item (knd := PySem.strKind _ _) (by k_asm) (by k_mem) (by assumption) (strKind_is _ _ _ _) (by assumption) ?_; k_whole)) | ((with_reducible show wpAny _ _ (call (Value.builtin "str.startswith") _ _) _ _ _); k_here; refine starts_F (by assumption) ?_) | ((with_reducible show wpAny _ _ (setItem (Value.ref _) (Value.str _ _) _) _ _ _); k_here; k_dflt (refine kda_set (knd := PySem.strKind _ _) (by k_asm) (by k_asm) (by k_updF) (by assumption) (strKind_is _ _ _ _) (by assumption) ?_); intro _ _ _ N' _; (try dsimp only at N')) | ((with_reducible show wpAny _ _ (compareOp CmpOp.In (Value.str _ _) (Value.ref _)) _ _ _); k_here; first | (k_dflt (refine kda_in (knd := PySem.strKind _ _) (by k_asm) (by k_mem) (by assumption) (by assumption) (strKind_is _ _ _ _) _ (by assumption) ?_; k_whole)) | (k_dflt (refine in_setF (by k_asm) (by k_mem) (by assumption) (by assumption) (by assumption) ?_; k_whole); intro _)) | walk1 | (dsimp only; walk1))
        exact ⟨.inl rfl, by first | rfl | assumption, _, _, _, rfl, F1, N1⟩
      · have hany : acc.any (fun q => Txt.startswith y (q ++ Str.ofString ".")) = true := List.any_eq_true.mpr ⟨z, hz, hsw⟩
        repeat' (first | (k_unfold; (try dsimp only)) | ((with_reducible show wpAny _ _ (getItem (Value.ref _) (Value.str _ _)) _ _ _); k_here; k_dflt (refine kdt_getItem (knd := PySem.strKind _ _) (by k_asm) (by k_mem) (by assumption) (strKind_is _ _ _ _) (by assumption) ?_; k_whole)) | ((with_reducible show wpAny _ _ (subscriptTail _ _ (Value.ref _) _) _ _ _); k_here; k_dflt (refine kda_item (knd := PySem.strKind _ _) (by k_asm) (by k_mem) (by assumption) (strKind_is _ _ _ _) (by assumption) ?_; k_whole)) | ((with_reducible show wpAny _ _ (call (Value.builtin "str.startswith") _ _) _ _ _); k_here; refine starts_F (by assumption) ?_) | ((with_reducible show wpAny _ _ (setItem (Value.ref _) (Value.str _ _) _) _ _ _); k_here; k_dflt (refine kda_set (knd := PySem.strKind _ _) (by k_asm) (by k_asm) (by k_updF) (by assumption) (strKind_is _ _ _ _) (by assumption) ?_); intro _ _ _ N' _; (try dsimp only at N')) | ((with_reducible show wpAny _ _ (compareOp CmpOp.In (Value.str _ _) (Value.ref _)) _ _ _); k_here; first | (k_dflt (refine kda_in (knd := PySem.strKind _ _) (by k_asm) (by k_mem) (by assumption) (by assumption) (strKind_is _ _ _ _) _ (by assumption) ?_; k_whole)) | (k_dflt (refine in_setF (by k_asm) (by k_mem) (by assumption) (by assumption) (by assumption) ?_; k_whole); intro _)) | walk1 | (dsimp only; walk1))
        rename Fr g' _ _ _ => FV
        rename News g' _ _ _ => NV
        dsimp only [TurnS, TurnK]
        try refine seqK_r ?_
        try k_unfold
        try dsimp only
        refine leaveK_ FV NV (fun kF kN => ?_)
        clear kF kN
        rename Fr g' _ _ _ => FQ
        rename News g' _ _ _ => NQ
        rename Obj.IsDictOf _ _ (stored _ _ _) => hq
        rw [stored_absent hv0] at hq
        exact hn1 (by unfold ansB; rw [hany, Bool.or_true, Bool.true_or]) _ _ _ _ _ hv0 (keep_led (d := G) G' FQ N NQ (List.forall_mem_cons.mpr ⟨.inl rfl, List.forall_mem_cons.mpr ⟨.inr (.tail _ (.head _)), List.forall_mem_cons.mpr ⟨.inr (.tail _ (.tail _ (.head _))), List.forall_mem_cons.mpr ⟨.inr (.tail _ (.tail _ (.tail _ (.head _)))), List.forall_mem_cons.mpr ⟨.inr (.tail _ (.tail _ (.tail _ (.tail _ (.head _))))), fun p hp => nomatch hp⟩⟩⟩⟩⟩)) (NQ _ (.head _)).1 hq _
    case done =>
      intro h9 tk9 dr9 v9 hall F9 N9
      have hany : acc.any (fun q => Txt.startswith y (q ++ Str.ofString ".")) = false := by
        rw [Bool.eq_false_iff]
        intro e
        obtain ⟨z, hz, e2⟩ := List.any_eq_true.mp e
        rw [hall z hz] at e2
        cases e2
      repeat' (first | (k_unfold; (try dsimp only)) | ((fail_if_success (with_reducible show wpAny _ _ (compareOp CmpOp.Is _ _) _ _ _)); first | ((with_reducible show wpAny _ _ (getItem (Value.ref _) (Value.str _ _)) _ _ _); k_here; k_dflt (refine kdt_getItem (knd := PySem.strKind _ _) (by k_asm) (by k_mem) (by assumption) (strKind_is _ _ _ _) (by assumption) ?_; k_whole)) | ((with_reducible show wpAny _ _ (subscriptTail _ _ (Value.ref _) _) _ _ _); k_here; k_dflt (refine kda_item (knd := PySem.strKind _ _) (by k_asm) (by k_mem) (by assumption) (strKind_is _ _ _ _) (by assumption) ?_; k_whole)) | ((with_reducible show wpAny _ _ (call (Value.builtin "str.startswith") _ _) _ _ _); k_here; refine starts_F (by assumption) ?_) | ((with_reducible show wpAny _ _ (setItem (Value.ref _) (Value.str _ _) _) _ _ _); k_here; k_dflt (refine kda_set (knd := PySem.strKind _ _) (by k_asm) (by k_asm) (by k_updF) (by assumption) (strKind_is _ _ _ _) (by assumption) ?_); intro _ _ _ N' _; (try dsimp only at N')) | ((with_reducible show wpAny _ _ (compareOp CmpOp.In (Value.str _ _) (Value.ref _)) _ _ _); k_here; first | (k_dflt (refine kda_in (knd := PySem.strKind _ _) (by k_asm) (by k_mem) (by assumption) (by assumption) (strKind_is _ _ _ _) _ (by assumption) ?_; k_whole)) | (k_dflt (refine in_setF (by k_asm) (by k_mem) (by assumption) (by assumption) (by assumption) ?_; k_whole); intro _)) | walk1 | (dsimp only; walk1)))
      cases fo with
      | none =>
        repeat' (first | (k_unfold; (try dsimp only)) | ((with_reducible show wpAny _ _ (getItem (Value.ref _) (Value.str _ _)) _ _ _); k_here; k_dflt (refine kdt_getItem (knd := PySem.strKind _ _) (by k_asm) (by k_mem) (by assumption) (strKind_is _ _ _ _) (by assumption) ?_; k_whole)) | ((with_reducible show wpAny _ _ (subscriptTail _ _ (Value.ref _) _) _ _ _); k_here; k_dflt (refine kda_item (knd := PySem.strKind _ _) (by k_asm) (by k_mem) (by assumption) (strKind_is _ _ _ _) (by assumption) ?_; k_whole)) | ((with_reducible show wpAny _ _ (call (Value.builtin "str.startswith") _ _) _ _ _); k_here; refine starts_F (by assumption) ?_) | ((with_reducible show wpAny _ _ (setItem (Value.ref _) (Value.str _ _) _) _ _ _); k_here; k_dflt (refine kda_set (knd := PySem.strKind _ _) (by k_asm) (by k_asm) (by k_updF) (by assumption) (strKind_is _ _ _ _) (by assumption) ?_); intro _ _ _ N' _; (try dsimp only at N')) | ((with_reducible show wpAny _ _ (compareOp CmpOp.In (Value.str _ _) (Value.ref _)) _ _ _); k_here; first | (k_dflt (refine kda_in (knd := PySem.strKind _ _) (by k_asm) (by k_mem) (by assumption) (by assumption) (strKind_is _ _ _ _) _ (by assumption) ?_; k_whole)) | (k_dflt (refine in_setF (by k_asm) (by k_mem) (by assumption) (by assumption) (by assumption) ?_; k_whole); intro _)) | walk1 | (dsimp only; walk1))
        rename Fr g' L' _ _ => FQ
        rename News g' L' _ _ => NQ
        rename Obj.IsDictOf _ _ (stored _ _ _) => hq
        rw [stored_absent hv0] at hq
        exact hn1 (by unfold ansB; rw [Bool.or_true]) _ _ _ _ _ hv0 (keep_led (d := G) G' FQ N NQ (List.forall_mem_cons.mpr ⟨.inl rfl, List.forall_mem_cons.mpr ⟨.inr (.tail _ (.head _)), List.forall_mem_cons.mpr ⟨.inr (.tail _ (.tail _ (.head _))), List.forall_mem_cons.mpr ⟨.inr (.tail _ (.tail _ (.tail _ (.head _)))), List.forall_mem_cons.mpr ⟨.inr (.tail _ (.tail _ (.tail _ (.tail _ (.head _))))), fun p hp => nomatch hp⟩⟩⟩⟩⟩)) (NQ _ (.head _)).1 hq _
      | some f =>
        repeat' (first | (k_unfold; (try dsimp only)) | ((fail_if_success (with_reducible show wpAny _ _ (pyIter _) (fun it s₂ => LoopAtV _ _ _ _ _ _ _ _ _ it s₂) _ _)); first | ((with_reducible show wpAny _ _ (getItem (Value.ref _) (Value.str _ _)) _ _ _); k_here; k_dflt (refine kdt_getItem (knd := PySem.strKind _ _) (by k_asm) (by k_mem) (by assumption) (strKind_is _ _ _ _) (by assumption) ?_; k_whole)) | ((with_reducible show wpAny _ _ (subscriptTail _ _ (Value.ref _) _) _ _ _); k_here; k_dflt (refine kda_item (knd := PySem.strKind _ _) (by k_asm) (by k_mem) (by assumption) (strKind_is _ _ _ _) (by assumption) ?_; k_whole)) | ((with_reducible show wpAny _ _ (call (Value.builtin "str.startswith") _ _) _ _ _); k_here; refine starts_F (by assumption) ?_) | ((with_reducible show wpAny _ _ (setItem (Value.ref _) (Value.str _ _) _) _ _ _); k_here; k_dflt (refine kda_set (knd := PySem.strKind _ _) (by k_asm) (by k_asm) (by k_updF) (by assumption) (strKind_is _ _ _ _) (by assumption) ?_); intro _ _ _ N' _; (try dsimp only at N')) | ((with_reducible show wpAny _ _ (compareOp CmpOp.In (Value.str _ _) (Value.ref _)) _ _ _); k_here; first | (k_dflt (refine kda_in (knd := PySem.strKind _ _) (by k_asm) (by k_mem) (by assumption) (by assumption) (strKind_is _ _ _ _) _ (by assumption) ?_; k_whole)) | (k_dflt (refine in_setF (by k_asm) (by k_mem) (by assumption) (by assumption) (by assumption) ?_; k_whole); intro _)) | walk1 | (dsimp only; walk1)))
        rename Fr g' _ _ _ => FY
        rename News g' _ _ _ => NY
        refine loop_keep (fun i => ∀ z, ds[i]? = some z → Txt.startswith f.1 (z ++ Str.ofString "/") = false) rfl rfl FY NY (NY _ (.tail _ (.tail _ (.tail _ (.tail _ (.head _)))))).1 rfl ⟨_, rfl⟩ (.inr (.tail _ (.tail _ (.tail _ (.tail _ (.head _)))))) ?turn2 ?done2
        case turn2 =>
          intro i v h₁ tk I io hv hlI F1 N1
          k_lt hlI
          obtain ⟨z, u, hz, rfl⟩ := strsAre_get hvs i v hv
          have hzl := hdl z (List.mem_of_getElem? hz)
          repeat' (first | (k_unfold; (try dsimp only)) | ((fail_if_success (with_reducible show wpAny _ _ (binaryOp _ _ _) _ _ _)); first | ((with_reducible show wpAny _ _ (getItem (Value.ref _) (Value.str _ _)) _ _ _); k_here; k_dflt (refine kdt_getItem (knd := PySem.strKind _ _) (by k_asm) (by k_mem) (by assumption) (strKind_is _ _ _ _) (by assumption) ?_; k_whole)) | ((with_reducible show wpAny _ _ (subscriptTail _ _ (Value.ref _) _) _ _ _); k_here; k_dflt (refine kda_item (knd := PySem.strKind _ _) (by k_asm) (by k_mem) (by assumption) (strKind_is _ _ _ _) (by assumption) ?_; k_whole)) | ((with_reducible show wpAny _ _ (call (Value.builtin "str.startswith") _ _) _ _ _); k_here; refine starts_F (by assumption) ?_) | ((with_reducible show wpAny _ _ (setItem (Value.ref _) (Value.str _ _) _) _ _ _); k_here; k_dflt (refine kda_set (knd := PySem.strKind _ _) (by k_asm) (by k_asm) (by k_updF) (by assumption) (strKind_is _ _ _ _) (by assumption) ?_); intro _ _ _ N' _; (try dsimp only at N')) | ((with_reducible show wpAny _ _ (compareOp CmpOp.In (Value.str _ _) (Value.ref _)) _ _ _); k_here; first | (k_dflt (refine kda_in (knd := PySem.strKind _ _) (by k_asm) (by k_mem) (by assumption) (by assumption) (strKind_is _ _ _ _) _ (by assumption) ?_; k_whole)) | (k_dflt (refine in_setF (by k_asm) (by k_mem) (by assumption) (by assumption) (by assumption) ?_; k_whole); intro _)) | walk1 | (dsimp only; walk1)))
          refine PyProof.Rows.add_str (fun t7 tk7 => ?_) (by rw [sizeLine_eq]; show z.length + 1 ≤ _; omega)
          cases hsw : Txt.startswith f.1 (z ++ Str.ofString "/")
          · repeat' (first | (k_unfold; (try dsimp only)) | ((with_reducible show wpAny _ _ (getItem (Value.ref _) (Value.str _ _)) _ _ _); k_here; k_dflt (refine kdt_getItem (knd := PySem.strKind _ _) (by k_asm) (by k_mem) (by assumption) (strKind_is _ _ _ _) (by assumption) ?_; k_whole)) | ((with_reducible show wpAny _ _ (subscriptTail _ _ (Value.ref _) _) _ _ _); k_here; k_dflt (refine kda_item (knd := PySem.strKind _ _) (by k_asm) (by k_mem) (by assumption) (strKind_is _ _ _ _) (by assumption) ?_; k_whole)) | ((with_reducible show wpAny _ _ (call (Value.builtin "str.startswith") _ _) _ _ _); k_here; refine starts_F (by assumption) ?_) | ((with_reducible show wpAny _ _ (setItem (Value.ref _) (Value.str _ _) _) _ _ _); k_here; k_dflt (refine kda_set (knd := PySem.strKind _ _) (by k_asm) (by k_asm) (by k_updF) (by assumption) (strKind_is _ _ _ _) (by assumption) ?_); intro _ _ _ N' _; (try dsimp only at N')) | ((with_reducible show wpAny _ _ (compareOp CmpOp.In (Value.str _ _) (Value.ref _)) _ _ _); k_here; first | (k_dflt (refine kda_in (knd := PySem.strKind _ _) (by k_asm) (by k_mem) (by assumption) (by assumption) (strKind_is _ _ _ _) _ (by assumption) ?_; k_whole)) | (k_dflt (refine in_setF (by k_asm) (by k_mem) (by assumption) (by assumption) (by assumption) ?_; k_whole); intro _)) | walk1 | (dsimp only; walk1))
            exact ⟨.inl rfl, fun z' e => by rw [hz] at e; cases e; exact hsw, _, _, _, rfl, F1, N1⟩
          · have hany2 : ds.any (fun q => Txt.startswith f.1 (q ++ Str.ofString "/")) = true := List.any_eq_true.mpr ⟨z, List.mem_of_getElem? hz, hsw⟩
            repeat' (first | (k_unfold; (try dsimp only)) | ((with_reducible show wpAny _ _ (getItem (Value.ref _) (Value.str _ _)) _ _ _); k_here; k_dflt (refine kdt_getItem (knd := PySem.strKind _ _) (by k_asm) (by k_mem) (by assumption) (strKind_is _ _ _ _) (by assumption) ?_; k_whole)) | ((with_reducible show wpAny _ _ (subscriptTail _ _ (Value.ref _) _) _ _ _); k_here; k_dflt (refine kda_item (knd := PySem.strKind _ _) (by k_asm) (by k_mem) (by assumption) (strKind_is _ _ _ _) (by assumption) ?_; k_whole)) | ((with_reducible show wpAny _ _ (call (Value.builtin "str.startswith") _ _) _ _ _); k_here; refine starts_F (by assumption) ?_) | ((with_reducible show wpAny _ _ (setItem (Value.ref _) (Value.str _ _) _) _ _ _); k_here; k_dflt (refine kda_set (knd := PySem.strKind _ _) (by k_asm) (by k_asm) (by k_updF) (by assumption) (strKind_is _ _ _ _) (by assumption) ?_); intro _ _ _ N' _; (try dsimp only at N')) | ((with_reducible show wpAny _ _ (compareOp CmpOp.In (Value.str _ _) (Value.ref _)) _ _ _); k_here; first | (k_dflt (refine kda_in (knd := PySem.strKind _ _) (by k_asm) (by k_mem) (by assumption) (by assumption) (strKind_is _ _ _ _) _ (by assumption) ?_; k_whole)) | (k_dflt (refine in_setF (by k_asm) (by k_mem) (by assumption) (by assumption) (by assumption) ?_; k_whole); intro _)) | walk1 | (dsimp only; walk1))
            rename Fr g' _ _ _ => FV
            rename News g' _ _ _ => NV
            dsimp only [TurnS, TurnK]
            try refine seqK_r ?_
            try k_unfold
            try dsimp only
            refine leaveK_ FV NV (fun kF kN => ?_)
            clear kF kN
            rename Fr g' _ _ _ => FQ
            rename News g' _ _ _ => NQ
            rename Obj.IsDictOf _ _ (stored _ _ _) => hq
            rw [stored_absent hv0] at hq
            exact hn1 (by unfold ansB; dsimp only; rw [hany2, Bool.or_true]) _ _ _ _ _ hv0 (keep_led (d := G) G' FQ N NQ (List.forall_mem_cons.mpr ⟨.inl rfl, List.forall_mem_cons.mpr ⟨.inr (.tail _ (.tail _ (.head _))), List.forall_mem_cons.mpr ⟨.inr (.tail _ (.tail _ (.tail _ (.head _)))), List.forall_mem_cons.mpr ⟨.inr (.tail _ (.tail _ (.tail _ (.tail _ (.head _))))), List.forall_mem_cons.mpr ⟨.inr (.tail _ (.tail _ (.tail _ (.tail _ (.tail _ (.head _)))))), fun p hp => nomatch hp⟩⟩⟩⟩⟩)) (NQ _ (.tail _ (.head _))).1 hq _
        case done2 =>
          intro h8 tk8 o8 hall2 F8 N8
          have hany2 : ds.any (fun q => Txt.startswith f.1 (q ++ Str.ofString "/")) = false := by
            rw [Bool.eq_false_iff]
            intro e
            obtain ⟨z, hz, e2⟩ := List.any_eq_true.mp e
            obtain ⟨i, hi, e3⟩ := List.getElem_of_mem hz
            rw [hall2 i (by rw [StrsAre.length hvs]; exact hi) z (by rw [List.getElem?_eq_getElem hi, e3])] at e2
            cases e2
          repeat' (first | (k_unfold; (try dsimp only)) | ((with_reducible show wpAny _ _ (getItem (Value.ref _) (Value.str _ _)) _ _ _); k_here; k_dflt (refine kdt_getItem (knd := PySem.strKind _ _) (by k_asm) (by k_mem) (by assumption) (strKind_is _ _ _ _) (by assumption) ?_; k_whole)) | ((with_reducible show wpAny _ _ (subscriptTail _ _ (Value.ref _) _) _ _ _); k_here; k_dflt (refine kda_item (knd := PySem.strKind _ _) (by k_asm) (by k_mem) (by assumption) (strKind_is _ _ _ _) (by assumption) ?_; k_whole)) | ((with_reducible show wpAny _ _ (call (Value.builtin "str.startswith") _ _) _ _ _); k_here; refine starts_F (by assumption) ?_) | ((with_reducible show wpAny _ _ (setItem (Value.ref _) (Value.str _ _) _) _ _ _); k_here; k_dflt (refine kda_set (knd := PySem.strKind _ _) (by k_asm) (by k_asm) (by k_updF) (by assumption) (strKind_is _ _ _ _) (by assumption) ?_); intro _ _ _ N' _; (try dsimp only at N')) | ((with_reducible show wpAny _ _ (compareOp CmpOp.In (Value.str _ _) (Value.ref _)) _ _ _); k_here; first | (k_dflt (refine kda_in (knd := PySem.strKind _ _) (by k_asm) (by k_mem) (by assumption) (by assumption) (strKind_is _ _ _ _) _ (by assumption) ?_; k_whole)) | (k_dflt (refine in_setF (by k_asm) (by k_mem) (by assumption) (by assumption) (by assumption) ?_; k_whole); intro _)) | walk1 | (dsimp only; walk1))
          rename Fr g' L' _ _ => FQ
          rename News g' L' _ _ => NQ
          rename Obj.IsDictOf _ _ (stored _ _ _) => hq
          rw [stored_absent hv0] at hq
          exact hn0 (by unfold ansB; dsimp only; rw [hany2, hany, hb1]; rfl) _ _ _ _ _ hv0 (keep_led (d := G) G' FQ N NQ (List.forall_mem_cons.mpr ⟨.inl rfl, List.forall_mem_cons.mpr ⟨.inr (.tail _ (.head _)), List.forall_mem_cons.mpr ⟨.inr (.tail _ (.tail _ (.head _))), List.forall_mem_cons.mpr ⟨.inr (.tail _ (.tail _ (.tail _ (.head _)))), List.forall_mem_cons.mpr ⟨.inr (.tail _ (.tail _ (.tail _ (.tail _ (.head _))))), fun p hp => nomatch hp⟩⟩⟩⟩⟩)) (NQ _ (.head _)).1 hq _
)
end Mine
end

section -- Enter5
open PySem PySem.W PyProof.Rows PySem.Calls PySem.Spec
namespace Mine
section
variable {prog : Program} {w : World} {A₀ A : Around} {s : Shared} {base h₀ : Heap} {outer : List Env} {L : Addr} {m : Str → Option Value} {env : Env} {news : List (Addr × Obj)} {K : Frag} {p : Program} {loose : List Str} {mean : ExcName → Option Value} {mg mb : Str → Option Value}
  {R : Result → Shared → Prop} {name qual : Str} {params : Arguments} {body : List Stmt} {scope : Scope} {dV kV doc pm cdv ct oc : Value} {an od : Option Addr} {osl : Array (Option Value)} {f : Addr} {args : Args} {binds : List (Str × Value)}
theorem enterCZ (B : Below A₀ base outer h₀) (F : Fr h₀ L s.heap m) (X₀ : K.In h₀) (N : News h₀ L s.heap news) (T : Top p loose mean mg mb h₀) (hA : A.frames = some (env :: outer)) (hf : env.frame = some L) (hke : env.scope.kind = .function)
    (ho : K.lookup f = some ⟨oc, od, .func (fnOf name qual params body scope dV kV doc pm an cdv ct), osl⟩) (hcd : codeIn K cdv qual = true) (hroom : A.depth < recursionLimit)
    (hbind : BindsTo s (fnOf name qual params body scope dV kV doc pm an cdv ct) args binds) (hkind : (binds.all fun y => scope.names.lookup y.1 == some .local || scope.names.lookup y.1 == some .cell) = true)
    (hnd : ((cellsFrom 0 scope.names []).map (·.1)).Nodup)
    (h : ∀ g L' h₁ tk cells, Fr h₀ L g m → Fr g L' h₁ (bindL (envOfC qual scope L' f cdv).kindOf binds fun _ => none) → News g L' h₁ (cells ++ news) →
      CellsAre (bindC (envOfC qual scope L' f cdv).kindOf binds fun _ => none) (cellsFrom (L' + 1) scope.names []) cells → Below A base (env :: outer) g → K.In g → Top p loose mean mg mb g → (∀ p ∈ news, p.1 < L') → GSub s.heap g (news.map (·.1)) → Ext s.heap h₁ → L' = s.heap.objs.size →
      wpAny (model prog w) (A.deeper (envOfC qual scope L' f cdv)) (execs body (envOfC qual scope L' f cdv))
        (fun fl s' => R (.ok (.ret (match fl with | .ret v => v | _ => .none))) s')
        (fun e s' => wpAny (model prog w) (A.deeper (envOfC qual scope L' f cdv)) (leaving (envOfC qual scope L' f cdv) e) (fun _ s'' => R (.error e) s'') (fun e' s'' => R (.error e') s'') s')
        { s with heap := h₁, toks := tk })
    (hco : scope.isCoroutine = false) (hgen : scope.isGenerator = false) (hk : scope.kind = .function) : codeAny (model prog w) A (.call (.ref f) args) R s := by
  obtain ⟨FG, BG, st, _⟩ := groundX (R := R) B F N hA hf hke
  refine codeAny_call_function (fd := fnX name qual params body scope [] dV kV doc pm an cdv ct) hroom ((X₀.keeps F.keep) _ _ ho) rfl hco hgen rfl (codeRec_of (X₀.keeps F.keep) hcd) (hbind _ _ _ _ ?_)
  refine wpAny_newFunctionEnv_cells hk ((kindsX hkind) _) fun env' he s' x => ?_
  subst he
  refine ⟨(T.nolimit.keeps F.keep).keeps x.toInCall.keep, codeAny_func ?_⟩
  obtain ⟨h₁, tk, rfl, _⟩ := x.done
  have hk₁ := x.toInCall.keep
  obtain ⟨cells, NC, Y⟩ := Cl.news (h₀ := s.heap) (Nat.le_refl _) fun n c hm => ⟨x.cell n c (lookup_of_mem_nodup (cellsFrom_names scope.names 0 (s.heap.objs.size + 1) [] [] rfl ▸ hnd) hm), x.above n c hm⟩
  refine wpAny_mono (h _ s.heap.objs.size h₁ tk cells FG ⟨x.toInCall.ns, fun b o e => hk₁ b o (of_hideAll _ e), Nat.le_of_eq (hideAll_size _ _)⟩ (fun p hp => ?_) Y BG (X₀.keeps st) (T.keeps st) (fun p hp => Heap.lt_size (N p hp).1) (fun b o e n => hideAll_get _ e n) hk₁ rfl) (fun fl s' hl => hl) fun _ _ y => y
  rcases List.mem_append.mp hp with hp | hp
  · refine ⟨(NC p hp).1, (NC p hp).2.1, ?_⟩
    cases q : (hideAll s.heap (news.map (·.1))).get? p.1 with
    | none => rfl
    | some o => have := of_hideAll _ q; rw [(NC p hp).2.2] at this; cases this
  · exact ⟨hk₁ _ _ (N p hp).1, Nat.ne_of_lt (Heap.lt_size (N p hp).1), hideAll_none _ (List.mem_map_of_mem hp)⟩
end
end Mine
end

section -- Comp6
open PySem PySem.W PyProof.Rows PySem.Calls PySem.Spec
namespace Mine
section
variable {prog : Program} {w : World} {A : Around} {E : Value → Shared → Prop} {env : Env} {h₀ : Heap} {L : Addr} {m : Str → Option Value} {news : List (Addr × Obj)}
theorem news_more {h h' : Heap} {D : Addr} {ys : List Value} {more : List (Addr × Obj)} (F : Fr h₀ L h m) (N : News h₀ L h news) (x : Ext h h') (f : h.get? D = none) (g : h'.PlainList D (List.toArray ys))
    (hm : ∀ p ∈ more, h'.get? p.1 = some p.2 ∧ h.get? p.1 = none ∧ p.1 ≠ D) : ∃ c, News h₀ L h' ((D, W.listOf ys.toArray c) :: (more ++ news)) ∧ ∀ p ∈ more ++ news, p.1 ≠ D := by
  obtain ⟨c, g⟩ := g
  have nL : ∀ b, h.get? b = none → b ≠ L := fun b e q => by
    obtain ⟨o, es, ep, ho, _⟩ := F.ns
    rw [q, ho] at e; cases e
  have n0 : ∀ b, h.get? b = none → h₀.get? b = none := fun b e => by
    cases q : h₀.get? b with
    | none => rfl
    | some o => rw [F.keep _ _ q] at e; cases e
  refine ⟨c, fun p hp => ?_, fun p hp => ?_⟩
  · rcases List.mem_cons.mp hp with rfl | hp
    · exact ⟨g, nL _ f, n0 _ f⟩
    · rcases List.mem_append.mp hp with hp | hp
      · exact ⟨(hm p hp).1, nL _ (hm p hp).2.1, n0 _ (hm p hp).2.1⟩
      · exact ⟨x _ _ (N p hp).1, (N p hp).2⟩
  · rcases List.mem_append.mp hp with hp | hp
    · exact (hm p hp).2.2
    · intro e
      have := (N p hp).1
      rw [e, f] at this; cases this
inductive SrcAN (prog : Program) (w : World) (A : Around) (env : Env) (scope : Scope) (cl : List (Str × Addr)) (target : PySem.Expr) (ifs : List PySem.Expr) (elt : PySem.Expr) (n : Nat) (y : Str) (h₀ : Heap) (P : Nat → List Value → List (Addr × Obj) → Prop) (Q : Flow → Shared → Prop) (xv : Value) (s₁ : Shared) : Prop
  | mk (ax : Addr) (t₁ : Tok) (t₂ : Tok) (t₃ : Tok) (m : Str → Option Value) (news : List (Addr × Obj)) (hE0 : xv = .ref ax) (hE1 : IsRange s₁.heap ax 0 (n : Int) 1 t₁ t₂ t₃) (hE2 : Fr h₀ env.locals s₁.heap m) (hE3 : News h₀ env.locals s₁.heap news) (hE4 : TurnsN prog w A env scope cl target ifs elt n P s₁) (hE5 : (∀ D ys more h' tk c, Fr h₀ env.locals h' (fun z => if z = y then some (.ref D) else m z) → News h₀ env.locals h' ((D, W.listOf (List.toArray ys) c) :: (more ++ news)) → (∀ p ∈ more ++ news, p.1 ≠ D) → P n ys more → Q .next { s₁ with heap := h', toks := tk }))
theorem assignCompN {s : Shared} {elt target iter : PySem.Expr} {ifs : List PySem.Expr} {scope : Scope} {cl : List (Str × Addr)} {pos spos : Pos} {y : Str} {py : Pos} {n : Nat} {Q : Flow → Shared → Prop} (hh : A.handled = none) (hsz : n ≤ sizeLine) (hsm : Builtin.Range.small 0 (n : Int) 1 = true)
    (hrs : Builtin.Range.rangeSize 0 (n : Int) 1 = (n : Int))
    (hsw : swapsWith (.ListComp elt [⟨target, iter, ifs, 0⟩] scope pos) (some (.Name y py)) spos.line env = pure true)
    (hx : env.kindOf y = some .local) (hp : (env.scope.kind == .class || (env.scope.kind == .module && env.locals != env.globals)) = false)
    (hclos : closureFor scope env = pure cl) (hcell : ∀ y ∈ scope.names, y.2 ≠ .cell) (hkind : scope.kind = .function)
    (hnames : ∀ y ∈ scope.names, y.2 = .local → scope.names.lookup y.1 = some .local)
    (P : Nat → List Value → List (Addr × Obj) → Prop) (h0 : P 0 [] []) (hlen : ∀ i ys more, P i ys more → ys.length ≤ i)
    (h : wpAny (model prog w) A (eval iter env) (SrcAN prog w A env scope cl target ifs elt n y h₀ P Q) E s)
    (hs : ∀ x, foldedSetIterable iter env x = pure x := by intro _; rfl) :
    wpAny (model prog w) A (exec (.Assign [.Name y py] (.ListComp elt [⟨target, iter, ifs, 0⟩] scope pos) spos) env) Q E s := by
  rw [exec_Assign_Name_used _ _ _ _ hsw]
  refine wpAny_bind (wpAny_standAt (wpAny_bind ?_))
  show wpAny _ A (do let _ ← comprehension (.ListComp elt [⟨target, iter, ifs, 0⟩] scope pos) scope env _ (newList []) false (eval iter env) (some (assign (.Name y py) env))) _ _ s
  refine wpAny_bind (wpAny_mono (wpAny_comprehension_free (use := some (assign (.Name y py) env)) (Q := fun _ s' => Q .next s') rfl hs hclos hkind hnames
    (wpAny_mono h (fun xv s₁ h₁ => ?_) fun _ _ e => e)) (fun _ s' hq => wpAny_pure (wpAny_pure hq)) fun _ _ e => e)
  obtain ⟨ax, t₁, t₂, t₃, m, news, rfl, hr, F, N, T, hQ⟩ := h₁
  refine wpAny_pyIter_range hr hsm ?_
  rw [hrs]
  refine comp_blockR (RR := fun acc C => compPost (model prog w) A E (some (assign (.Name y py) env)) (fun _ s' => Q .next s') acc C) (fp := [s₁.heap.objs.size]) (wr := [s₁.heap.objs.size]) (Walks.range hh s₁.heap.objs.size 0 1 n) hsz P
    (fun i v s' Q E st hq => range_let st hq) (fun i h st b hb => by rw [List.mem_singleton.mp hb]; exact ⟨_, st⟩) hcell hkind ?_ ?_ h0 hlen (turnsN_of T) ?_
  · show IsRangeIter _ _ _ _ _
    simpa using Heap.get?_push_size _ rfl
  · intro b hb
    show b < (s₁.heap.push _).objs.size
    rw [Heap.size_push, List.mem_singleton.mp hb]
    exact Nat.lt_succ_self _
  · intro D C h' tk m' ys more hD hC hDC hn hpl hP hmore hk
    have old : Ext s₁.heap h' := fun b o e => hk b o (fun q => by rw [List.mem_singleton.mp q] at e; exact Nat.lt_irrefl _ (Heap.lt_size e)) (Heap.get?_push_of_some _ e)
    have none_of : ∀ (a : Addr), (s₁.heap.push { cls := .type "range_iterator", data := .fields #[rawInt 0, rawInt (n : Int), rawInt 1] }).get? a = none → s₁.heap.get? a = none := fun a e => by
      cases q : s₁.heap.get? a with
      | none => rfl
      | some o => rw [Heap.get?_push_of_some _ q] at e; cases e
    have fD := none_of _ hD
    have fC := none_of _ hC
    have CL : C ≠ env.locals := fun q => by
      obtain ⟨o, es, ep, ho, _⟩ := F.ns
      rw [q, ho] at fC; cases fC
    have F1 := F.keeps old
    obtain ⟨c, N1, hne⟩ := news_more (D := D) (ys := ys) (more := more) F N old fD hpl fun p hp => ⟨(hmore p hp).1, none_of _ (hmore p hp).2.1, (hmore p hp).2.2.1⟩
    refine wpAny_assign_Name (wpAny_storeName_local hx F1.ns (fun h₂ hn₂ hs₂ => ?_) hp)
    refine ⟨m', hn.at (fun o e => (hs₂.2 C CL).trans e), fun h'' hs'' => ?_⟩
    have F2 := F1.set hn₂ hs₂
    have N2 := N1.set hs₂
    have C0 : h₀.get? C = none := by
      cases q : h₀.get? C with
      | none => rfl
      | some o => rw [F.keep _ _ q] at fC; cases fC
    have nC : ∀ p ∈ (D, W.listOf ys.toArray c) :: (more ++ news), p.1 ≠ C := fun p hp => by
      rcases List.mem_cons.mp hp with rfl | hp
      · exact hDC
      · rcases List.mem_append.mp hp with hp | hp
        · exact (hmore p hp).2.2.2
        · intro q
          have := (N p hp).1
          rw [q, fC] at this; cases this
    refine hQ D ys more h'' _ c ⟨F2.ns.at (fun o e => (hs''.2 _ (Ne.symm CL)).trans e), fun b o e => (hs''.2 b (fun q => by rw [q, C0] at e; cases e)).trans (F2.keep b o e), F2.above⟩ (fun p hp => ⟨(hs''.2 _ (nC p hp)).trans (N2 p hp).1, (N2 p hp).2⟩) hne hP
theorem assign_eval {M : Model} {A : Around} {E : Value → Shared → Prop} {env : Env} {s : Shared} {x : Str} {pos' pos : Pos} {value : PySem.Expr} {Q : Flow → Shared → Prop} (hs : swapsWith value (some (.Name x pos')) pos.line env = pure false)
    (h : wpAny M A (eval value env) (fun v s' => wpAny M A (storeName env x v) (fun _ s'' => Q .next s'') E s') E s) : wpAny M A (exec (.Assign [.Name x pos'] value pos) env) Q E s := by
  rw [exec_Assign_Name (hs := hs)]
  refine wpAny_bind (wpAny_standAt (wpAny_bind (wpAny_mono h (fun v s' h' => ?_) fun _ _ e => e)))
  exact wpAny_bind (wpAny_standAt (wpAny_bind (wpAny_bindName (wpAny_mono h' (fun _ _ q => wpAny_pure q) fun _ _ e => e))))
end
theorem mem_swap {α : Type _} {a q : α} {l m : List α} (h : q ∈ a :: (l ++ m)) : q ∈ a :: (m ++ l) := by
  rcases List.mem_cons.mp h with h | h
  · exact h ▸ .head _
  · rcases List.mem_append.mp h with h | h
    · exact .tail _ (List.mem_append_right _ h)
    · exact .tail _ (List.mem_append_left _ h)
theorem mem_swap0 {α : Type _} {q : α} {l m : List α} (h : q ∈ l ++ m) : q ∈ m ++ l := List.mem_append.mpr (List.mem_append.mp h).symm
theorem news_tailed {h₀ h : Heap} {L : Addr} {l m : List (Addr × Obj)} (N : News h₀ L h l) (M : ∀ p ∈ m, h.get? p.1 = some p.2 ∧ p.1 ≠ L ∧ h₀.get? p.1 = none) : News h₀ L h (l ++ m) := fun p hp => (List.mem_append.mp hp).elim (N p) (M p)
end Mine
end

section -- E1
open PySem PySem.W PyProof.Rows PySem.Calls PySem.Spec
namespace Mine
theorem fillE1 : (K0 = K0) ∧ (PySem.Challenge.rw_oy0371_01 = PySem.Challenge.rw_oy0371_01) := by
  k_fill
  exact ⟨rfl, rfl⟩
noncomputable def alph : Str := Str.ofString "ABCDEFGHIJKLMNOPQRSTUVWXYZabcdefghijklmnopqrstuvwxyz0123456789' "
theorem alph_len : alph.length = 64 := by decide +kernel
noncomputable def sign (n : Int) (k : Nat) : Str := Txt.item alph ((n.fdiv (64 ^ ((3 : Int) - (k : Int)).toNat)).fmod 64)
noncomputable def signs (n : Int) (c : Nat) : List Str := (List.range c).map (sign n)
theorem signs_succ (n : Int) (c : Nat) : signs n (c + 1) = signs n c ++ [sign n c] := by simp [signs, List.range_succ]
theorem strsAre_append {vs us : List Value} {ys zs : List Str} (h : StrsAre vs ys) (h' : StrsAre us zs) : StrsAre (vs ++ us) (ys ++ zs) := by
  induction h with
  | nil => exact h'
  | cons y t _ ih => exact .cons y t ih
theorem strsAre_len {vs : List Value} {ys : List Str} (h : StrsAre vs ys) : vs.length = ys.length := by
  induction h with
  | nil => rfl
  | cons y t _ ih => simp [ih]
theorem spec_own {w : World} {mean : ExcName → Option Value} {mg mb : Str → Option Value} {dp un : Nat} {gd : Option (List Code)} {cn : Str} {cs : Scope} {a : Addr} {ccd : Value} {cl : List (Str × Addr)} {outer : List Env} {A₀ : Around} {base h₀ : Heap} {L : Addr} {m : Str → Option Value} {s : Shared} {Q : Value → Shared → Prop} {E : Value → Shared → Prop} {n : Int} {t : Tok}
    (B : Below A₀ base outer h₀) (F : Fr h₀ L s.heap m) (X : (K0 w.params).In h₀) (T : Top topProg lo2 mean mg mb h₀) (hk : cs.kind = .function)
    (hd : dp + 3 < recursionLimit) (hu : un + 30 < cLine)
    (hret : ∀ l tk' h' vs, Ext s.heap h' → s.heap.get? l = none → h'.PlainList l (List.toArray vs) → StrsAre vs (signs n 4) → Q (.ref l) { s with heap := h', toks := tk' }) :
    wpAny (model PySem.Challenge.rw_oy0371_01.row.prog w) (ktrTop dp un gd cn cs L a ccd cl outer) (call (.ref (nat_lit 861)) [.int n t]) Q E s := by
  have N : News h₀ L s.heap [] := News.nil
  w_on
  w_strict (
    refine wpAny_call ?_
    k_dflt (refine' enterCG ?k1 ?k2 ?k3 ?k4 ?k5 ?kA ?kF ?kK ?k6 ?k7 ?k8 ?k9 ?kB ?kD ?_ ?c2 ?c3 ?c4; (case kA => exact rfl); (case kF => exact rfl); (case kK => assumption); (case k1 => k_asm); (case k2 => k_asm); (case k3 => k_asm); (case k4 => k_asm); (case k5 => k_asm); (case k6 => k_is); (case k7 => k_is); (case k8 => ktr_room); (case k9 => first | exact BindsTo.of_eq rfl | exact binds_K (by k_in) rfl (by k_is) rfl rfl rfl); (case kB => exact rfl); (case kD => decide +kernel); (case c2 => exact rfl); (case c3 => exact rfl); (case c4 => exact rfl); k_whole; intro g' L' h' tk' cells' FG' F' N' Y' B' X' T' l1 G'; (try k_lt l1); k_cells Y'; (try simp only [List.cons_append, List.nil_append] at N'); (try dsimp only); (try k_fold))
    repeat' (first | (k_unfold; (try dsimp only)) | ((fail_if_success (with_reducible show wpAny _ _ (eval (PySem.Expr.ListComp _ _ _ _) _) _ _ _)); first | walk1 | (dsimp only; walk1)))
    have cA : Heap.IsCell _ (L' + 1 + 1) (some (.str alph _)) := isCell_of (by assumption) (by k_mem) (by assumption)
    have cB : Heap.IsCell _ (L' + 1) (some (.int n _)) := isCell_of (by assumption) (by k_mem) (by assumption)
    refine' evalCompN (n := 4) rfl ?e1 ?e2 ?e3 ?hclos ?hcell ?hkind ?hnames (fun i ys more => more = [] ∧ StrsAre ys (signs n i)) ⟨rfl, .nil⟩ ?hlen ?hh ?hs
    case e1 => decide
    case e2 => decide
    case e3 => decide
    case hclos => with_unfolding_all rfl
    case hcell => decide
    case hkind => rfl
    case hnames => decide
    case hs => (intro _; rfl)
    case hlen => 
      intro i ys more hP
      rw [strsAre_len hP.2]
      simp [signs]
    repeat' (first | (k_unfold; (try dsimp only)) | walk1 | (dsimp only; walk1))
    rename_i hF9 hN9 hE9
    refine ⟨_, _, _, _, rfl, by assumption, ?turn, ?done⟩
    case turn =>
      intro C i t' ys more h₃ tk₃ m₃ E' hC hi hP hn3 hx3 hmore
      have cA3 := isCell_ext (isCell_ext cA hE9) hx3
      have cB3 := isCell_ext (isCell_ext cB hE9) hx3
      refine wpAny_assign_Name (wpAny_storeName_local (env := compEnvC _ _ C _) (by exact rfl) hn3 (fun h₄ hn₄ hs₄ => ?_) (by exact rfl))
      refine wpAny_tests_nil ?_
      rw [if_pos rfl]
      have hne : L' + 1 + 1 ≠ C := by
        obtain ⟨o, ho, -⟩ := isCell_ext cA hE9
        exact Nat.ne_of_lt (Nat.lt_of_lt_of_le (Heap.lt_size ho) hC)
      have hne2 : L' + 1 ≠ C := by
        obtain ⟨o, ho, -⟩ := isCell_ext cB hE9
        exact Nat.ne_of_lt (Nat.lt_of_lt_of_le (Heap.lt_size ho) hC)
      have cA4 := isCell_but cA3 hs₄.extBut hne
      have cB4 := isCell_but cB3 hs₄.extBut hne2
      refine Subscript_ ?_
      first | (with_unfolding_all refine nmL (by assumption) (by exact rfl) ?_ (by exact rfl) (by exact rfl) (by decide)) | (with_unfolding_all refine nmC (by exact rfl) (by assumption) ?_ (by exact rfl) (by exact rfl) (by decide)) | walk1
      refine IVal.use (v := (n.fdiv (64 ^ ((3 : Int) - (i : Int)).toNat)).fmod 64) ?_ ?_
      · refine IVal.mod (IVal.div ?_ (IVal.pow IVal.const (IVal.sub IVal.const ?_) ?_ ?_ ?_) ?_ ?_) IVal.const ?_
        · exact IVal.nmC (c := L' + 1) (by rfl) cB4 (by rfl) (by rfl) (by decide)
        · exact IVal.nmL hn₄ (by rfl) (by rfl) (by rfl) (by decide)
        · omega
        · omega
        · decide
        · exact Int.ne_of_gt (Int.pow_pos (by decide))
        · rcases (n_four hi) with rfl | rfl | rfl | rfl <;> decide
        · decide
      · intro t5 tk5
        refine item_str_fmod (by decide) (by rw [alph_len]; decide) (by rw [alph_len]; decide) ?_
        intro _
        refine ⟨h₄, _, _, [], rfl, hn₄, fun b o hb ho => hs₄.extBut b o hb ho, (fun p hp => nomatch hp), by simp [hP.1], ?_⟩
        rw [signs_succ]
        exact strsAre_append hP.2 (.cons _ _ .nil)
    case done =>
      intro D ys more h6 tk6 hx hDn hpl hP hmore
      have F6 := hF9.keeps hx
      repeat' (first | (k_unfold; (try dsimp only)) | ((fail_if_success (with_reducible show LeaveK _ _ _ _ _ _ _)); first | walk1 | (dsimp only; walk1)))
      refine leaveK_ F6 News.nil (fun kF kN => ?_)
      refine hret D tk6 h6 ys (ext_of_sub G' F6) ?_ hpl hP.2
      exact fresh_back G' hF9 hDn)
end Mine
end

section -- E2
open PySem PySem.W PyProof.Rows PySem.Calls PySem.Spec
namespace Mine

theorem spec_buffer {w : World} {mean : ExcName → Option Value} {mg mb : Str → Option Value} {dp un : Nat} {gd : Option (List Code)} {cn : Str} {cs : Scope} {a : Addr} {ccd : Value} {cl : List (Str × Addr)} {outer : List Env} {A₀ : Around} {base h₀ : Heap} {L : Addr} {m : Str → Option Value} {s : Shared} {Q : Value → Shared → Prop} {E : Value → Shared → Prop} {b : Array UInt8} {t : Tok}
    (B : Below A₀ base outer h₀) (F : Fr h₀ L s.heap m) (X : (K0 w.params).In h₀) (T : Top topProg lo2 mean mg mb h₀) (hk : cs.kind = .function) (hd : dp + 3 < recursionLimit) (hu : un + 30 < cLine)
    (hret : ∀ tk' h', Ext s.heap h' → Q (.bytes b t) { s with heap := h', toks := tk' }) :
    wpAny (model PySem.Challenge.rw_oy0371_01.row.prog w) (ktrTop dp un gd cn cs L a ccd cl outer) (call (.ref (nat_lit 51)) [.bytes b t]) Q E s := by
  have N : News h₀ L s.heap [] := News.nil
  w_on
  w_strict (
    refine wpAny_call ?_
    k_dflt (refine' enterG [(Str.ofString "data", .bytes b t)] ?k1 ?k2 ?k3 ?k4 ?k5 ?kA ?kF ?kK ?k6 ?k7 ?k8 ?k9 ?kB ?_ ?c2 ?c3 ?c4 ?c5; (case kA => exact rfl); (case kF => exact rfl); (case kK => assumption); (case k1 => k_asm); (case k2 => k_asm); (case k3 => k_asm); (case k4 => k_asm); (case k5 => k_asm); (case k6 => k_is); (case k7 => k_is); (case k8 => ktr_room); (case k9 => first | exact BindsTo.of_eq rfl | exact binds_K (by k_in) rfl (by k_is) rfl rfl rfl); (case c5 => decide); (case kB => exact locs rfl); (case c2 => exact rfl); (case c3 => exact rfl); (case c4 => exact rfl); k_whole; intro g' L' h' tk' FG' F' N' B' X' T' G'; (try dsimp only); (try (refine letA ?_; intro M' V' A')); (try k_fold))
    repeat' (first | (k_unfold; (try dsimp only)) | walk1 | (dsimp only; walk1))
    exact hret _ _ (ext_of_sub G' (by assumption)))
theorem spec_truth {w : World} {mean : ExcName → Option Value} {mg mb : Str → Option Value} {dp un : Nat} {gd : Option (List Code)} {cn : Str} {cs : Scope} {a : Addr} {ccd : Value} {cl : List (Str × Addr)} {outer : List Env} {A₀ : Around} {base h₀ : Heap} {L : Addr} {m : Str → Option Value} {s : Shared} {Q : Value → Shared → Prop} {E : Value → Shared → Prop}
    (B : Below A₀ base outer h₀) (F : Fr h₀ L s.heap m) (X : (K0 w.params).In h₀) (T : Top topProg lo2 mean mg mb h₀) (hk : cs.kind = .function) (hd : dp + 3 < recursionLimit) (hu : un + 30 < cLine)
    (hret : ∀ tk' h', Ext s.heap h' → Q (.bool false) { s with heap := h', toks := tk' }) :
    wpAny (model PySem.Challenge.rw_oy0371_01.row.prog w) (ktrTop dp un gd cn cs L a ccd cl outer) (call (.ref (nat_lit 58)) [.bool false]) Q E s := by
  have N : News h₀ L s.heap [] := News.nil
  w_on
  w_strict (
    refine wpAny_call ?_
    k_dflt (refine' enterG [(Str.ofString "x", .bool false)] ?k1 ?k2 ?k3 ?k4 ?k5 ?kA ?kF ?kK ?k6 ?k7 ?k8 ?k9 ?kB ?_ ?c2 ?c3 ?c4 ?c5; (case kA => exact rfl); (case kF => exact rfl); (case kK => assumption); (case k1 => k_asm); (case k2 => k_asm); (case k3 => k_asm); (case k4 => k_asm); (case k5 => k_asm); (case k6 => k_is); (case k7 => k_is); (case k8 => ktr_room); (case k9 => first | exact BindsTo.of_eq rfl | exact binds_K (by k_in) rfl (by k_is) rfl rfl rfl); (case c5 => decide); (case kB => exact locs rfl); (case c2 => exact rfl); (case c3 => exact rfl); (case c4 => exact rfl); k_whole; intro g' L' h' tk' FG' F' N' B' X' T' G'; (try dsimp only); (try (refine letA ?_; intro M' V' A')); (try k_fold))
    repeat' (first | (k_unfold; (try dsimp only)) | walk1 | (dsimp only; walk1))
    exact hret _ _ (ext_of_sub G' (by assumption)))
noncomputable def b64l : List UInt8 := [65, 66, 67, 68, 69, 70, 71, 72, 73, 74, 75, 76, 77, 78, 79, 80, 81, 82, 83, 84, 85, 86, 87, 88, 89, 90, 97, 98, 99, 100, 101, 102, 103, 104, 105, 106, 107, 108, 109, 110, 111, 112, 113, 114, 115, 116, 117, 118, 119, 120, 121, 122, 48, 49, 50, 51, 52, 53, 54, 55, 56, 57, 43, 47]
noncomputable def b64of (x : Int) : Int := ((b64l.getD (Builtin.bitAnd x 63).toNat 0).toNat : Nat)
theorem b64of_in (x : Int) : 0 ≤ b64of x ∧ b64of x < 256 := ⟨Int.natCast_nonneg _, by unfold b64of; have := (b64l.getD (Builtin.bitAnd x 63).toNat 0).toNat_lt; omega⟩
theorem b64_item {prog : Program} {w : World} {A : Around} {E : Value → Shared → Prop} {s : Shared} {value slice : PySem.Expr} {x : Int} {t ui : Tok} {Q : Value → Shared → Prop} (h : Q (.int (b64of x) s.toks) { s with toks := s.toks + 1 })
    (hs : subscripted slice false (.bytes b64l.toArray t) (.int (Builtin.bitAnd x 63) ui) = operate [.bytes b64l.toArray t, .int (Builtin.bitAnd x 63) ui] (getItem (.bytes b64l.toArray t) (.int (Builtin.bitAnd x 63) ui)) := by with_unfolding_all rfl)
    (ht : ∀ r, letTemporaryGo value (.bytes b64l.toArray t) r = pure () := by intro _; with_unfolding_all rfl) :
    wpAny (model prog w) A (subscriptTail value slice (.bytes b64l.toArray t) (.int (Builtin.bitAnd x 63) ui)) Q E s := by
  have hr := bitAnd_range x (y := 63) (by decide)
  exact KBy.item_N (by decide) hr.1 (by show _ < ((64 : Nat) : Int); omega) h hs ht
theorem and16_lt (x : Int) : (Builtin.bitAnd x 65535).natAbs < 2 ^ 64 := by
  have := bitAnd_range x (y := 65535) (by decide)
  omega
theorem make4 {prog : Program} {w : World} {A : Around} {E : Value → Shared → Prop} {s : Shared} {h₀ : Heap} {L D : Addr} {m : PySem.Str → Option Value} {news : List (Addr × Obj)} {y0 y1 y2 y3 : Int} {t0 t1 t2 t3 : Tok} {n : Nat} {Q : Value → Shared → Prop}
    (F : Fr h₀ L s.heap m) (N : News h₀ L s.heap news) (hh : A.handled = none) (hm : (D, listOf ((((#[].push (.int y0 t0)).push (.int y1 t1)).push (.int y2 t2)).push (.int y3 t3)) n) ∈ news) (hr : KBa.In [y0, y1, y2, y3])
    (h : ∀ h' t' k, Fr h₀ L h' m → Q (.bytes (byteArr [y0, y1, y2, y3]) t') { s with heap := h', toks := k }) : wpAny (model prog w) A (call (.type "bytes") [.ref D]) Q E s :=
  KBa.make_K F N hh (vs := [.int y0 t0, .int y1 t1, .int y2 t2, .int y3 t3]) (News.isList N hm) (.cons _ _ (.cons _ _ (.cons _ _ (.cons _ _ .nil)))) hr (by simp) fun h' t' k F' _ _ => h h' t' k F'
noncomputable def lc1 (x0 : Int) : Int := Builtin.bitAnd (Builtin.bitOr (0 * 2 ^ Int.toNat 8) x0) 65535
noncomputable def lc2 (x0 x1 : Int) : Int := Builtin.bitAnd (Builtin.bitOr (lc1 x0 * 2 ^ Int.toNat 8) x1) 65535
noncomputable def lc3 (x0 x1 x2 : Int) : Int := Builtin.bitAnd (Builtin.bitOr (lc2 x0 x1 * 2 ^ Int.toNat 8) x2) 65535
noncomputable def b64x (x0 x1 x2 : Int) : List Int := [b64of ((lc1 x0).fdiv (2 ^ (2 : Nat))), b64of ((lc2 x0 x1).fdiv (2 ^ (4 : Nat))), b64of ((lc3 x0 x1 x2).fdiv (2 ^ (6 : Nat))), b64of ((lc3 x0 x1 x2).fdiv (2 ^ (0 : Nat)))]
theorem spec_b2a {w : World} {mean : ExcName → Option Value} {mg mb : Str → Option Value} {dp un : Nat} {gd : Option (List Code)} {cn : Str} {cs : Scope} {a : Addr} {ccd : Value} {cl : List (Str × Addr)} {outer : List Env} {A₀ : Around} {base h₀ : Heap} {L : Addr} {m : Str → Option Value} {s : Shared} {Q : Value → Shared → Prop} {E : Value → Shared → Prop} {b : Array UInt8} {x0 x1 x2 : Int} {t : Tok}
    (B : Below A₀ base outer h₀) (F : Fr h₀ L s.heap m) (X : (K0 w.params).In h₀) (T : Top topProg lo2 mean mg mb h₀) (hk : cs.kind = .function) (hb : KBw.bInts b = [x0, x1, x2]) (h00 : 0 ≤ x0) (h01 : x0 < 256) (h10 : 0 ≤ x1) (h11 : x1 < 256) (h20 : 0 ≤ x2) (h21 : x2 < 256) (hd : dp + 5 < recursionLimit) (hu : un + 60 < cLine)
    (hret : ∀ tk' h', Ext s.heap h' → ∀ t', Q (.bytes (byteArr (b64x x0 x1 x2)) t') { s with heap := h', toks := tk' }) :
    wpAny (model PySem.Challenge.rw_oy0371_01.row.prog w) (ktrTop dp un gd cn cs L a ccd cl outer) (call (.ref (nat_lit 66)) [.bytes b t] [(Str.ofString "newline", .bool false)]) Q E s := by
  have N : News h₀ L s.heap [] := News.nil
  w_on
  w_strict (
    refine wpAny_call ?_
    k_dflt (refine' enterG [(Str.ofString "data", .bytes b t), (Str.ofString "newline", .bool false)] ?k1 ?k2 ?k3 ?k4 ?k5 ?kA ?kF ?kK ?k6 ?k7 ?k8 ?k9 ?kB ?_ ?c2 ?c3 ?c4 ?c5; (case kA => exact rfl); (case kF => exact rfl); (case kK => assumption); (case k1 => k_asm); (case k2 => k_asm); (case k3 => k_asm); (case k4 => k_asm); (case k5 => k_asm); (case k6 => k_is); (case k7 => k_is); (case k8 => ktr_room); (case k9 => first | exact BindsTo.of_eq rfl | exact binds_K (by k_in) rfl (by k_is) rfl rfl rfl); (case c5 => decide); (case kB => exact locs rfl); (case c2 => exact rfl); (case c3 => exact rfl); (case c4 => exact rfl); k_whole; intro g' L' h' tk' FG' F' N' B' X' T' G'; (try dsimp only); (try (refine letA ?_; intro M' V' A')); (try k_fold))
    repeat' (first | (k_unfold; (try dsimp only)) | ((fail_if_success (with_reducible show wpAny _ _ (call (Value.type "bytes") _) _ _ _)); first | ((with_reducible show wpAny _ _ (pyIter (Value.bytes _ _)) (fun it s₂ => LoopAtV _ _ _ _ _ _ _ _ _ it s₂) _ _); k_here; k_bytesUnr) | ((with_reducible show wpAny _ _ (binaryOp Operator.LShift (Value.int (Builtin.bitAnd _ 65535) _) (Value.int _ _)) _ _ _); (refine lshift_int_small (by decide) (by decide) (and16_lt _) ?_)) | ((with_reducible show wpAny _ _ (call (Value.builtin "list.append") _ _) _ _ _); k_here; (try dsimp only [List.cons_append, List.nil_append]); k_dflt (refine append_K (by k_asm) (by k_asm) (by k_upd) ?_ (by size_fits); k_whole); intro _ _ _; (try k_sweep)) | ((with_reducible show wpAny _ _ (subscriptTail _ _ (Value.bytes _ _) (Value.int (Builtin.bitAnd _ 63) _)) _ _ _); k_here; (with_unfolding_all refine b64_item ?_)) | ((with_reducible show wpAny _ _ (call (Value.ref _) _ _) _ _ _); k_here; k_dflt (refine spec_truth (by k_asm) (by k_asm) (by k_asm) (by k_asm) (by first | exact rfl | assumption)  (by ktr_room) (by ktr_units) ?_;  k_whole); intro tk9 h9 x9 ; (have F9 := Fr.keeps (by assumption) x9); (have N9 := News.grown (by assumption) x9); (try dsimp only); (try k_fold)) | ((with_reducible show wpAny _ _ (call (Value.ref _) _ _) _ _ _); k_here; k_dflt (refine spec_buffer (by k_asm) (by k_asm) (by k_asm) (by k_asm) (by first | exact rfl | assumption)  (by ktr_room) (by ktr_units) ?_;  k_whole); intro tk9 h9 x9 ; (have F9 := Fr.keeps (by assumption) x9); (have N9 := News.grown (by assumption) x9); (try dsimp only); (try k_fold)) | walk1 | (dsimp only; walk1)))
    refine make4 (by assumption) (by assumption) rfl (by k_mem) ?_ ?_
    · intro k hk
      simp only [List.mem_cons, List.not_mem_nil, or_false] at hk
      rcases hk with rfl | rfl | rfl | rfl <;> exact b64of_in _
    · intro h9 t9 k9 F9
      repeat' (first | (k_unfold; (try dsimp only)) | ((fail_if_success (with_reducible show LeaveK _ _ _ _ _ _ _)); first | ((with_reducible show wpAny _ _ (pyIter (Value.bytes _ _)) (fun it s₂ => LoopAtV _ _ _ _ _ _ _ _ _ it s₂) _ _); k_here; k_bytesUnr) | ((with_reducible show wpAny _ _ (binaryOp Operator.LShift (Value.int (Builtin.bitAnd _ 65535) _) (Value.int _ _)) _ _ _); (refine lshift_int_small (by decide) (by decide) (and16_lt _) ?_)) | ((with_reducible show wpAny _ _ (call (Value.builtin "list.append") _ _) _ _ _); k_here; (try dsimp only [List.cons_append, List.nil_append]); k_dflt (refine append_K (by k_asm) (by k_asm) (by k_upd) ?_ (by size_fits); k_whole); intro _ _ _; (try k_sweep)) | ((with_reducible show wpAny _ _ (subscriptTail _ _ (Value.bytes _ _) (Value.int (Builtin.bitAnd _ 63) _)) _ _ _); k_here; (with_unfolding_all refine b64_item ?_)) | ((with_reducible show wpAny _ _ (call (Value.ref _) _ _) _ _ _); k_here; k_dflt (refine spec_truth (by k_asm) (by k_asm) (by k_asm) (by k_asm) (by first | exact rfl | assumption)  (by ktr_room) (by ktr_units) ?_;  k_whole); intro tk9 h9 x9 ; (have F9 := Fr.keeps (by assumption) x9); (have N9 := News.grown (by assumption) x9); (try dsimp only); (try k_fold)) | ((with_reducible show wpAny _ _ (call (Value.ref _) _ _) _ _ _); k_here; k_dflt (refine spec_buffer (by k_asm) (by k_asm) (by k_asm) (by k_asm) (by first | exact rfl | assumption)  (by ktr_room) (by ktr_units) ?_;  k_whole); intro tk9 h9 x9 ; (have F9 := Fr.keeps (by assumption) x9); (have N9 := News.grown (by assumption) x9); (try dsimp only); (try k_fold)) | walk1 | (dsimp only; walk1)))
      refine leaveK_ F9 News.nil (fun kF kN => ?_)
      exact hret _ _ (ext_of_sub G' (by assumption)) _)
end Mine
end

section -- Byt
open PySem PySem.W PyProof.Rows PySem.Calls PySem.Spec
namespace Mine
theorem slot_bytes_translate : Slot "bytes" "translate" "bytes.translate" :=
  .of (owner := "bytes") (n := "translate") (by rw [typeLookup_type, builtinLookup_eq_fast]; kernel_rfl) (by decide +kernel) (by decide +kernel) (by decide +kernel)
    (by first | exact .inl (by decide +kernel) | exact .inr (by decide +kernel)) (by rw [isSubtype_type]; kernel_rfl)
theorem type_bytes_translate : typeOf (.builtin "bytes.translate") = pure (.type "method_descriptor") := by show builtinType _ = _; rw [builtinType_eq_fast]; kernel_rfl
theorem entry_bytes_translate : entryFor table "bytes.translate" = some Builtin.«bytes.translate» := entryFor_of_tree (by kernel_rfl)
theorem args_bytes_translate_2 (a b : Value) : argsOk "bytes.translate" ⟨[a, b], []⟩ := by
  unfold argsOk; rw [signature?_of (id := "bytes.translate") (n := ['e', 't', 'a', 'l', 's', 'n', 'a', 'r', 't']) (o := ['s', 'e', 't', 'y', 'b']) (by kernel_rfl) FB.owner_bytes]; kernel_rfl
theorem args_bytes_decode_2 (a b : Value) : argsOk "bytes.decode" ⟨[a, b], []⟩ := by
  unfold argsOk; rw [signature?_of (id := "bytes.decode") (n := ['e', 'd', 'o', 'c', 'e', 'd']) (o := ['s', 'e', 't', 'y', 'b']) (by kernel_rfl) FB.owner_bytes]; kernel_rfl
theorem entry_bytes_maketrans : entryFor table "bytes.maketrans" = some Builtin.«bytes.maketrans» := entryFor_of_tree (by kernel_rfl)
section
variable {prog : Program} {w : World} {A : Around} {E : Value → Shared → Prop} {s : Shared} {b c : Array UInt8} {t u : Tok}
theorem gm_translate {M : Model} {pl : Sem Bool} {Q : Value × List Value → Shared → Prop} (h : Q (.builtin "bytes.translate", [.bytes b t]) s) : wpAny M A (getMethod (.bytes b t) "translate" pl) Q E s := by
  with_reducible exact KBd.method_of (.bytes b t) (typeIs_bytes _ _ _) slot_bytes_translate type_bytes_translate KBd.noRef h
noncomputable def trans (tab b : Array UInt8) : Array UInt8 := b.map fun c => tab.getD c.toNat c
theorem meets_translate (hs : c.size = 256) :
    Meets (Builtin.«bytes.translate» ⟨[.bytes b t, .bytes c u], []⟩) (fun _ R s => (trans c b).size ≤ sizeLine ∧ ∀ t' k, R (.ok (.ret (.bytes (trans c b) t'))) { s with toks := k }) := by
  refine .of_wp fun prog w A R s hS => ?_
  obtain ⟨hsz, h⟩ := hS
  show wpAny _ _ (Builtin.Bytes.bytesLike _ (.bytes c u) >>= fun r => _) _ _ s
  refine wpAny_bind (wpAny_of_eq KBd.like_eq ?_)
  show wpAny _ _ (if (c.size != 256) = true then _ else _) _ _ s
  rw [if_neg (by simp [hs])]
  have key : ((b.filter (!(#[] : Array UInt8).contains ·)).map fun c_1 => c.getD c_1.toNat c_1) = trans c b := by
    unfold trans
    congr 1
    simp
  show wpAny _ _ (if (((b.filter (!(#[] : Array UInt8).contains ·)).map fun c_1 => c.getD c_1.toNat c_1) == b) = true then _ else _) _ _ s
  by_cases hb : (((b.filter (!(#[] : Array UInt8).contains ·)).map fun c_1 => c.getD c_1.toNat c_1) == b) = true
  · rw [if_pos hb]
    have hb' : trans c b = b := by rw [← key]; exact eq_of_beq hb
    refine wpAny_bind (wpAny_rule ?_)
    refine wpAny_bind ?_
    refine wpAny_bind (wpAny_typeOf (typeIs_bytes s b t) ?_)
    refine wpAny_pure (wpAny_pure ⟨_, rfl, ?_⟩)
    have := h t s.toks
    rw [hb'] at this
    exact this
  · rw [if_neg hb, key]
    exact wpAny_bind (wpAny_mkBytes (wpAny_pure ⟨_, rfl, h _ _⟩) hsz)
theorem call_translate {Q : Value → Shared → Prop} (hs : c.size = 256) (hb : b.size ≤ 16777216) (h : ∀ t' k, Q (.bytes (trans c b) t') { s with toks := k }) :
    wpAny (model prog w) A (call (.builtin "bytes.translate") [.bytes b t, .bytes c u]) Q E s :=
  call_meets slot_bytes_translate (typeIs_bytes _ _ _) entry_bytes_translate (args_bytes_translate_2 _ _) (meets_translate hs) ⟨by rw [sizeLine_eq]; simpa [trans] using hb, h⟩
theorem gm_maketrans {K : Frag} {pl : Sem Bool} {Q : Value × List Value → Shared → Prop} {h₀ : Heap} {L : Addr} {m : Str → Option Value} (F : Fr h₀ L s.heap m) (X₀ : K.In h₀)
    (e : findCls K (.type "bytes") (.type "type") (PySem.Str.ofString "maketrans") = some (.val (.builtin "bytes.maketrans")))
    (h : Q (.builtin "bytes.maketrans", []) { s with toks := s.toks + 1 }) :
    wpAny (model prog w) A (getMethod (.type "bytes") (PySem.Str.ofString "maketrans") pl) Q E s := by
  have X := X₀.keeps F.keep
  have hstub : opaqueClassAbove (.type "bytes") = pure none := by unfold opaqueClassAbove; dsimp only; rw [show Manifest.isStub "bytes" = false by decide +kernel]; rfl
  have ht : typeOf (.type "bytes") = pure (.type "type") := by first | rfl | kernel_rfl
  have L0 : Looks (model prog w) s.heap (typeOf (.type "bytes")) (.type "type") := Looks.of_pure ht
  have hg : findIn K (.type "type") "__getattribute__" = some (some (.builtin "type.__getattribute__")) := type_tga
  unfold getMethod specialOf
  refine wpAny_bind (wpAny_bind (L0.here ((looks_findIn X hg).here ?_)))
  dsimp only
  rw [if_pos canon_tga]
  refine wpAny_bind (wpAny_mono (Q := fun v => Q (v, [])) (E := E) ?_ (fun _ _ z => wpAny_pure z) fun _ _ z => z)
  have LO : Looks (model prog w) s.heap (opaqueClassAbove (.type "bytes")) none := Looks.of_pure hstub
  refine cls_open X LO L0 hg (looks_hook X (r := none) (by rfl)) (by show subIn K _ _ = _; rfl) e ?_
  exact wpAny_pure (wpAny_pure h)
noncomputable def mkTab : Array UInt8 := ((#[43, 47] : Array UInt8).toList.zip (#[39, 32] : Array UInt8).toList).foldl (fun t (f, x) => t.setIfInBounds f.toNat x) ((Array.range 256).map (·.toUInt8))
theorem mkTab_size : mkTab.size = 256 := by decide +kernel
theorem kind_maketrans : builtinKind "bytes.maketrans" = some .staticMethod := by decide +kernel
theorem split_maketrans : splitId "bytes.maketrans" = some ("bytes", "maketrans") := by decide +kernel
theorem plain_maketrans : plainId "bytes.maketrans" = true := by decide +kernel
theorem args_maketrans (a b : Value) : argsOk "bytes.maketrans" ⟨[a, b], []⟩ := by
  unfold argsOk; rw [signature?_of (id := "bytes.maketrans") (n := ['s', 'n', 'a', 'r', 't', 'e', 'k', 'a', 'm']) (o := ['s', 'e', 't', 'y', 'b']) (by kernel_rfl) FB.owner_bytes]; kernel_rfl
theorem meets_maketrans : Meets (Builtin.«bytes.maketrans» ⟨[.bytes #[43, 47] t, .bytes #[39, 32] u], []⟩) (fun _ R s => ∀ t' k, R (.ok (.ret (.bytes mkTab t'))) { s with toks := k }) := by
  refine .of_wp fun prog w A R s h => ?_
  show wpAny _ _ (Builtin.Bytes.bytesLike _ (.bytes #[43, 47] t) >>= fun r => _) _ _ s
  refine wpAny_bind (wpAny_of_eq KBd.like_eq ?_)
  show wpAny _ _ (Builtin.Bytes.bytesLike _ (.bytes #[39, 32] u) >>= fun r => _) _ _ s
  refine wpAny_bind (wpAny_of_eq KBd.like_eq ?_)
  show wpAny _ _ (mkBytes mkTab >>= fun v => ret v) _ _ s
  exact wpAny_bind (wpAny_mkBytes (wpAny_pure ⟨_, rfl, h _ _⟩) (by rw [mkTab_size, sizeLine_eq]; decide))
theorem call_maketrans {Q : Value → Shared → Prop} (h : ∀ t' k, Q (.bytes mkTab t') { s with toks := k }) :
    wpAny (model prog w) A (call (.builtin "bytes.maketrans") [.bytes #[43, 47] t, .bytes #[39, 32] u]) Q E s :=
by
  refine wpAny_call (codeAny_call_builtin plain_maketrans entry_bytes_maketrans ?_)
  have hfin := meets_maketrans (t := t) (u := u) prog w A (wants Q E) s h
  unfold checkBuiltinCall
  rw [kind_maketrans, split_maketrans]
  cases hsig : Manifest.signature? "bytes.maketrans" with
  | none => exact wpAny_pure hfin
  | some sig =>
    have ok := args_maketrans (.bytes #[43, 47] t) (.bytes #[39, 32] u)
    simp only [argsOk, hsig] at ok
    show wpAny _ _ (Bind.checkArgs "bytes.maketrans" sig ⟨_, []⟩) _ _ s
    rw [ok]; exact wpAny_pure hfin
end
end Mine
end

section -- Byt2
open PySem PySem.W PyProof.Rows PySem.Calls PySem.Spec
namespace Mine
section
variable {prog : Program} {w : World} {A : Around} {E : Value → Shared → Prop} {s : Shared} {b c : Array UInt8} {t u : Tok} {x : Str}
theorem road_ascii {id : String} : Builtin._codecs.decodeRoad id b (PySem.Str.ofString "ascii") none [] = (Builtin._codecs.runDecoder id Builtin._codecs.asciiDecoder none true b 0 [] >>= fun r => mkStr ⟨r.1⟩) := by kernel_rfl
theorem run_ascii {id : String} {c0 c1 c2 c3 : UInt8} (h0 : c0.toNat < 128) (h1 : c1.toNat < 128) (h2 : c2.toNat < 128) (h3 : c3.toNat < 128) :
    Builtin._codecs.runDecoder id Builtin._codecs.asciiDecoder none true [c0, c1, c2, c3].toArray 0 [] = pure (#[c0.toNat, c1.toNat, c2.toNat, c3.toNat], 4) := by
  unfold Builtin._codecs.runDecoder
  simp [Std.Legacy.Range.forIn_eq_forIn_range', Std.Legacy.Range.size, List.range', Builtin._codecs.asciiDecoder, Builtin._codecs.Found.char, h0, h1, h2, h3, sizeLine]
theorem args_text (a b c d : Value) : argsOk "_codecs.decode.text" ⟨[a, b, c, d], []⟩ := KBd.args_text a b c d
theorem meets_text_ascii {t1 t2 : Tok} {d : PySem.Str} {n : Nat} (hd : ∀ id, Builtin._codecs.runDecoder id Builtin._codecs.asciiDecoder none true b 0 [] = pure (x.cps, n)) :
    Meets (Builtin.«_codecs.decode.text» ⟨[.bytes b t, .str (PySem.Str.ofString "ascii") t1, .none, .str d t2], []⟩) (fun _ R s => x.length ≤ sizeLine ∧ R (.ok (.ret (.str x s.toks))) { s with toks := s.toks + 1 }) := by
  refine .of_wp fun prog w A R s hS => ?_
  obtain ⟨hsz, h⟩ := hS
  show wpAny _ _ (Builtin.Bytes.bytesLike _ (.bytes b t) >>= fun r => _) _ _ s
  refine wpAny_bind (wpAny_of_eq KBd.like_eq ?_)
  refine wpAny_bind (wpAny_of_eq KBd.held_eq ?_)
  show wpAny _ _ (Builtin._codecs.decodeRoad _ b (PySem.Str.ofString "ascii") none [] >>= fun v => _) _ _ s
  rw [road_ascii, hd]
  refine wpAny_bind (wpAny_bind (wpAny_pure ?_))
  exact wpAny_mkStr (wpAny_pure ⟨_, rfl, h⟩) hsz
theorem entry_ascii {c : UInt8} {cs : List UInt8} : Builtin.«bytes.decode» ⟨[.bytes (c :: cs).toArray t, .str (PySem.Str.ofString "ascii") u], []⟩ = (mkStr (PySem.Str.ofString "utf-8") >>= fun _ => mkStr (PySem.Str.ofString "ascii") >>= fun e => mkStr (PySem.Str.ofString "bytes.decode") >>= fun d =>
    call (.builtin "_codecs.decode.text") [.bytes (c :: cs).toArray t, e, .none, d] >>= fun v => ret v) := by kernel_rfl
theorem meets_decode_ascii {c : UInt8} {cs : List UInt8} {n : Nat} (hd : ∀ id, Builtin._codecs.runDecoder id Builtin._codecs.asciiDecoder none true (c :: cs).toArray 0 [] = pure (x.cps, n)) :
    Meets (Builtin.«bytes.decode» ⟨[.bytes (c :: cs).toArray t, .str (PySem.Str.ofString "ascii") u], []⟩) (fun _ R s => x.length ≤ sizeLine ∧ ∀ t' k, R (.ok (.ret (.str x t'))) { s with toks := k }) := by
  refine .of_wp fun prog w A R s hS => ?_
  obtain ⟨hsz, h⟩ := hS
  rw [entry_ascii]
  refine wpAny_bind (wpAny_mkStr ?_ (by decide))
  refine wpAny_bind (wpAny_mkStr ?_ (by decide))
  refine wpAny_bind (wpAny_mkStr ?_ (by decide))
  exact wpAny_bind (call_function_meets KBd.kind_text KBd.plain_text KBd.entry_text (KBd.args_text _ _ _ _) (meets_text_ascii hd) ⟨hsz, wpAny_pure ⟨_, rfl, h _ _⟩⟩)
theorem call_decode4 {c0 c1 c2 c3 : UInt8} {Q : Value → Shared → Prop} (h0 : c0.toNat < 128) (h1 : c1.toNat < 128) (h2 : c2.toNat < 128) (h3 : c3.toNat < 128)
    (h : ∀ t' k, Q (.str ⟨#[c0.toNat, c1.toNat, c2.toNat, c3.toNat]⟩ t') { s with toks := k }) :
    wpAny (model prog w) A (call (.builtin "bytes.decode") [.bytes [c0, c1, c2, c3].toArray t, .str (PySem.Str.ofString "ascii") u]) Q E s :=
  call_meets FB.slot_bytes_decode (typeIs_bytes _ _ _) FB.entry_bytes_decode (args_bytes_decode_2 _ _) (meets_decode_ascii (fun id => run_ascii h0 h1 h2 h3)) ⟨by rw [sizeLine_eq]; show 4 ≤ _; decide, h⟩
end
end Mine
end

section -- Plain1
open PySem PySem.W PyProof.Rows PySem.Calls PySem.Spec
namespace Mine
noncomputable def alphL : List UInt8 := [65, 66, 67, 68, 69, 70, 71, 72, 73, 74, 75, 76, 77, 78, 79, 80, 81, 82, 83, 84, 85, 86, 87, 88, 89, 90, 97, 98, 99, 100, 101, 102, 103, 104, 105, 106, 107, 108, 109, 110, 111, 112, 113, 114, 115, 116, 117, 118, 119, 120, 121, 122, 48, 49, 50, 51, 52, 53, 54, 55, 56, 57, 39, 32]
noncomputable def alphN (i : Nat) : Nat := (alphL.getD i 0).toNat
noncomputable def sgnI (n : Int) (j : Nat) : Nat := ((n.fdiv (64 ^ ((3 : Int) - (j : Int)).toNat)).fmod 64).toNat
noncomputable def codes (n : Int) (c : Nat) : List Nat := (List.range c).map fun j => alphN (sgnI n j)
noncomputable def signsStr (n : Int) (c : Nat) : Str := ⟨(codes n c).toArray⟩
theorem sgnI_lt (n : Int) (j : Nat) : sgnI n j < 64 := by
  unfold sgnI
  have h0 := Int.fmod_nonneg_of_pos (n.fdiv (64 ^ ((3 : Int) - (j : Int)).toNat)) (b := 64) (by decide)
  have h1 := Int.fmod_lt_of_pos (n.fdiv (64 ^ ((3 : Int) - (j : Int)).toNat)) (b := 64) (by decide)
  omega
theorem alph_item : ∀ i < 64, Txt.item alph (i : Nat) = ⟨#[alphN i]⟩ := by decide +kernel
theorem sign_eq (n : Int) (j : Nat) : sign n j = ⟨#[alphN (sgnI n j)]⟩ := by
  have h0 := Int.fmod_nonneg_of_pos (n.fdiv (64 ^ ((3 : Int) - (j : Int)).toNat)) (b := 64) (by decide)
  have e : ((sgnI n j : Nat) : Int) = (n.fdiv (64 ^ ((3 : Int) - (j : Int)).toNat)).fmod 64 := by unfold sgnI; omega
  unfold sign
  rw [← e]
  exact alph_item _ (sgnI_lt n j)
theorem alphN_lt : ∀ i < 64, alphN i < 128 := by decide +kernel
theorem tab_eq : ∀ i < 64, mkTab.getD (b64l.getD i 0).toNat (b64l.getD i 0) = alphL.getD i 0 := by decide +kernel
theorem and_mul256 {a x : Int} (ha : 0 ≤ a) (hx0 : 0 ≤ x) (hx : x < 256) : Builtin.bitAnd (a * 256) x = 0 := by
  obtain ⟨n, rfl⟩ := Int.eq_ofNat_of_zero_le ha
  obtain ⟨k, rfl⟩ := Int.eq_ofNat_of_zero_le hx0
  have hk : k < 2 ^ 8 := by omega
  unfold Builtin.bitAnd
  rw [decide_eq_true (by omega), decide_eq_true (by omega)]
  show ((((n : Int) * 256).toNat &&& (k : Int).toNat : Nat) : Int) = 0
  have e1 : ((n : Int) * 256).toNat = n * 2 ^ 8 := by omega
  have e2 : (k : Int).toNat = k := by omega
  rw [e1, e2]
  have : n * 2 ^ 8 &&& k = 0 := by
    apply Nat.eq_of_testBit_eq
    intro i
    rw [Nat.testBit_and, ← Nat.shiftLeft_eq, Nat.testBit_shiftLeft, Nat.zero_testBit]
    by_cases hi : 8 ≤ i
    · rw [Nat.testBit_lt_two_pow (Nat.lt_of_lt_of_le hk (Nat.pow_le_pow_right (by decide) hi)), Bool.and_false]
    · simp [hi]
  rw [this]; rfl
theorem or_mul256 {a x : Int} (ha : 0 ≤ a) (hx0 : 0 ≤ x) (hx : x < 256) : Builtin.bitOr (a * 256) x = a * 256 + x := by
  rw [bitOr_and, and_mul256 ha hx0 hx]; omega
theorem lc1_eq {x0 : Int} (h0 : 0 ≤ x0) (h1 : x0 < 256) : lc1 x0 = x0 := by
  unfold lc1
  rw [show (0 : Int) * 2 ^ Int.toNat 8 = 0 * 256 from rfl, or_mul256 (by decide) h0 h1, bitAnd_m16]
  omega
theorem lc2_eq {x0 x1 : Int} (h0 : 0 ≤ x0) (h1 : x0 < 256) (h2 : 0 ≤ x1) (h3 : x1 < 256) : lc2 x0 x1 = x0 * 256 + x1 := by
  unfold lc2
  rw [lc1_eq h0 h1, show x0 * 2 ^ Int.toNat 8 = x0 * 256 from rfl, or_mul256 h0 h2 h3, bitAnd_m16]
  omega
theorem lc3_eq {x0 x1 x2 : Int} (h0 : 0 ≤ x0) (h1 : x0 < 256) (h2 : 0 ≤ x1) (h3 : x1 < 256) (h4 : 0 ≤ x2) (h5 : x2 < 256) : lc3 x0 x1 x2 = (x0 * 65536 + x1 * 256 + x2) % 65536 := by
  unfold lc3
  rw [lc2_eq h0 h1 h2 h3, show (x0 * 256 + x1) * 2 ^ Int.toNat 8 = (x0 * 256 + x1) * 256 from rfl, or_mul256 (by omega) h4 h5, bitAnd_m16]
  omega
theorem tr_of {z : Int} : mkTab.getD ((b64of z).toNat.toUInt8).toNat ((b64of z).toNat.toUInt8) = alphL.getD (z % 64).toNat 0 := by
  have e : (b64of z).toNat.toUInt8 = b64l.getD (z % 64).toNat 0 := by
    unfold b64of
    rw [bitAnd_m6]
    simp
  rw [e]
  exact tab_eq _ (by omega)
theorem dvm (z : Int) {a b : Int} (ha : 0 ≤ a) : z / (a * b) = z / a / b := by rw [Int.ediv_ediv, if_neg fun h => absurd h.1 (Int.not_lt.mpr ha), Int.sub_zero]
theorem top16 {x0 x1 x2 n : Int} (h2 : 0 ≤ x1) (h3 : x1 < 256) (h4 : 0 ≤ x2) (h5 : x2 < 256) (hn : n = x0 * 65536 + x1 * 256 + x2) : n / 65536 = x0 := by
  rw [hn, Int.add_assoc, Int.add_comm, Int.add_mul_ediv_right _ _ (by decide), Int.ediv_eq_zero_of_lt (by omega) (by omega), Int.zero_add]
theorem top8 {x0 x1 x2 n : Int} (h4 : 0 ≤ x2) (h5 : x2 < 256) (hn : n = x0 * 65536 + x1 * 256 + x2) : n / 256 = x0 * 256 + x1 := by
  have e : n = x2 + (x0 * 256 + x1) * 256 := by rw [hn, Int.add_mul]; omega
  rw [e, Int.add_mul_ediv_right _ _ (by decide), Int.ediv_eq_zero_of_lt h4 h5, Int.zero_add]
theorem mid64 (n : Int) : n / 64 % 64 = n % 65536 / 64 % 64 := by omega
theorem trans_b64x {x0 x1 x2 n : Int} (h0 : 0 ≤ x0) (h1 : x0 < 256) (h2 : 0 ≤ x1) (h3 : x1 < 256) (h4 : 0 ≤ x2) (h5 : x2 < 256) (hn : n = x0 * 65536 + x1 * 256 + x2) :
    trans mkTab (byteArr (b64x x0 x1 x2)) = [alphL.getD (sgnI n 0) 0, alphL.getD (sgnI n 1) 0, alphL.getD (sgnI n 2) 0, alphL.getD (sgnI n 3) 0].toArray := by
  have e : trans mkTab (byteArr (b64x x0 x1 x2)) = ((b64x x0 x1 x2).map fun z => mkTab.getD (z.toNat.toUInt8).toNat (z.toNat.toUInt8)).toArray := by
    simp [trans, byteArr, Function.comp_def]
  rw [e]
  unfold b64x
  simp only [List.map_cons, List.map_nil, tr_of]
  rw [lc1_eq h0 h1, lc2_eq h0 h1 h2 h3, lc3_eq h0 h1 h2 h3 h4 h5]
  have f : ∀ a b : Int, 0 ≤ b → a.fdiv b = a / b := fun a b hb => Int.fdiv_eq_ediv_of_nonneg a hb
  have g : ∀ a b : Int, 0 ≤ b → a.fmod b = a % b := fun a b hb => Int.fmod_eq_emod_of_nonneg a hb
  have i0 : sgnI n 0 = (x0.fdiv (2 ^ 2) % 64).toNat := by
    unfold sgnI; rw [f _ _ (by decide), f _ _ (by decide), g _ _ (by decide)]
    show (n / 262144 % 64).toNat = (x0 / 4 % 64).toNat
    rw [show n / 262144 = n / 65536 / 4 from dvm n (a := 65536) (b := 4) (by decide), top16 h2 h3 h4 h5 hn]
  have i1 : sgnI n 1 = ((x0 * 256 + x1).fdiv (2 ^ 4) % 64).toNat := by
    unfold sgnI; rw [f _ _ (by decide), f _ _ (by decide), g _ _ (by decide)]
    show (n / 4096 % 64).toNat = ((x0 * 256 + x1) / 16 % 64).toNat
    rw [show n / 4096 = n / 256 / 16 from dvm n (a := 256) (b := 16) (by decide), top8 h4 h5 hn]
  have i2 : sgnI n 2 = (((x0 * 65536 + x1 * 256 + x2) % 65536).fdiv (2 ^ 6) % 64).toNat := by
    unfold sgnI; rw [f _ _ (by decide), f _ _ (by decide), g _ _ (by decide)]
    show (n / 64 % 64).toNat = ((x0 * 65536 + x1 * 256 + x2) % 65536 / 64 % 64).toNat
    rw [← hn, ← mid64]
  have i3 : sgnI n 3 = (((x0 * 65536 + x1 * 256 + x2) % 65536).fdiv (2 ^ 0) % 64).toNat := by
    unfold sgnI; rw [f _ _ (by decide), f _ _ (by decide), g _ _ (by decide)]
    show (n / 1 % 64).toNat = ((x0 * 65536 + x1 * 256 + x2) % 65536 / 1 % 64).toNat
    rw [← hn, Int.ediv_one, Int.ediv_one, Int.emod_emod_of_dvd n (show (64 : Int) ∣ 65536 by decide)]
  rw [i0, i1, i2, i3]
end Mine
end

section -- Plain2
open PySem PySem.W PyProof.Rows PySem.Calls PySem.Spec
namespace Mine
noncomputable def kOf (lo hi : Int) : Nat := if lo.fmod 262144 = 0 ∧ lo + 262144 ≤ hi then 3 else if lo.fmod 4096 = 0 ∧ lo + 4096 ≤ hi then 2 else if lo.fmod 64 = 0 ∧ lo + 64 ≤ hi then 1 else 0
theorem pw_pos (k : Nat) : (0 : Int) < 64 ^ k := Int.pow_pos (by decide)
theorem blocks_dec {lo hi : Int} (h : lo < hi) : (hi - (lo + 64 ^ kOf lo hi)).toNat < (hi - lo).toNat := by
  have := pw_pos (kOf lo hi)
  omega
noncomputable def blocksOf (lo hi : Int) : List (Int × Nat) := (measure fun (lo : Int) => (hi - lo).toNat).wf.fix (C := fun _ => List (Int × Nat)) (fun lo rec => if h : lo < hi then (lo, kOf lo hi) :: rec (lo + 64 ^ kOf lo hi) (blocks_dec h) else []) lo
noncomputable def kGood (lo hi : Int) (k : Nat) : Bool := (lo.fmod (64 ^ ((k : Int)).toNat) == 0) && decide (lo + 64 ^ ((k : Int)).toNat ≤ hi)
noncomputable def kList (lo hi : Int) (i : Nat) : List Int := ((List.range i).filter (kGood lo hi)).map fun (k : Nat) => (k : Int)
theorem kList_succ (lo hi : Int) (i : Nat) : kList lo hi (i + 1) = kList lo hi i ++ (if kGood lo hi i then [(i : Int)] else []) := by
  unfold kList
  rw [List.range_succ, List.filter_append, List.map_append]
  by_cases h : kGood lo hi i <;> simp [h]
theorem kList_len (lo hi : Int) (i : Nat) : (kList lo hi i).length ≤ i := by
  unfold kList
  rw [List.length_map]
  exact Nat.le_trans (List.length_filter_le _ _) (by simp)
theorem kList_last {lo hi : Int} (h : lo < hi) : ∃ ys, kList lo hi 4 = ys ++ [((kOf lo hi : Nat) : Int)] := by
  have g3 : kGood lo hi 3 = decide (lo.fmod 262144 = 0 ∧ lo + 262144 ≤ hi) := by
    rw [Bool.decide_and]; rfl
  have g2 : kGood lo hi 2 = decide (lo.fmod 4096 = 0 ∧ lo + 4096 ≤ hi) := by
    rw [Bool.decide_and]; rfl
  have g1 : kGood lo hi 1 = decide (lo.fmod 64 = 0 ∧ lo + 64 ≤ hi) := by
    rw [Bool.decide_and]; rfl
  have g0 : kGood lo hi 0 = true := by
    unfold kGood
    have e : lo.fmod 1 = 0 := Int.fmod_one lo
    show ((lo.fmod 1 == 0) && decide (lo + 1 ≤ hi)) = true
    rw [e]; simp; omega
  rw [kList_succ, kList_succ, kList_succ, kList_succ, g3, g2, g1, g0]
  unfold kOf
  by_cases c3 : lo.fmod 262144 = 0 ∧ lo + 262144 ≤ hi
  · rw [if_pos c3, decide_eq_true c3]
    exact ⟨_, rfl⟩
  · rw [if_neg c3, decide_eq_false c3]
    by_cases c2 : lo.fmod 4096 = 0 ∧ lo + 4096 ≤ hi
    · rw [if_pos c2, decide_eq_true c2]
      simp only [if_true, Bool.false_eq_true, if_false, List.append_nil]
      exact ⟨_, rfl⟩
    · rw [if_neg c2, decide_eq_false c2]
      by_cases c1 : lo.fmod 64 = 0 ∧ lo + 64 ≤ hi
      · rw [if_pos c1, decide_eq_true c1]
        simp only [if_true, Bool.false_eq_true, if_false, List.append_nil]
        exact ⟨_, rfl⟩
      · rw [if_neg c1, decide_eq_false c1]
        simp only [if_true, Bool.false_eq_true, if_false, List.append_nil]
        exact ⟨_, rfl⟩
theorem kOf_le (lo hi : Int) : kOf lo hi ≤ 3 := by
  unfold kOf
  split
  · exact Nat.le_refl _
  · split
    · decide
    · split <;> decide
theorem kOf_fits {lo hi : Int} (h : lo < hi) : lo + 64 ^ kOf lo hi ≤ hi := by
  unfold kOf
  split
  · rename_i c; exact c.2
  · split
    · rename_i c; exact c.2
    · split
      · rename_i c; exact c.2
      · show lo + 1 ≤ hi; omega
inductive BlkAre : List (Addr × Obj) → List Value → List (Int × Nat) → Prop
  | nil {tups} : BlkAre tups [] []
  | cons {tups a o b k t u vs bs} : (a, o) ∈ tups → (o.cls = .type "tuple" ∧ o.data = .seq #[.int b t, .int (k : Nat) u] 0) → BlkAre tups vs bs → BlkAre tups (.ref a :: vs) ((b, k) :: bs)
theorem BlkAre.len {tups : List (Addr × Obj)} {vs : List Value} {bs : List (Int × Nat)} (h : BlkAre tups vs bs) : vs.length = bs.length := by
  induction h with
  | nil => rfl
  | cons _ _ _ ih => simp [ih]
theorem BlkAre.mono {tups tups' : List (Addr × Obj)} {vs : List Value} {bs : List (Int × Nat)} (h : BlkAre tups vs bs) (hs : ∀ p ∈ tups, p ∈ tups') : BlkAre tups' vs bs := by
  induction h with
  | nil => exact .nil
  | cons hm ho _ ih => exact .cons (hs _ hm) ho ih
theorem BlkAre.snoc {tups : List (Addr × Obj)} {vs : List Value} {bs : List (Int × Nat)} {a : Addr} {o : Obj} {b : Int} {k : Nat} {t u : Tok} (h : BlkAre tups vs bs) (hm : (a, o) ∈ tups) (ho : o.cls = .type "tuple" ∧ o.data = .seq #[.int b t, .int (k : Nat) u] 0) : BlkAre tups (vs ++ [.ref a]) (bs ++ [(b, k)]) := by
  induction h with
  | nil => exact .cons hm ho .nil
  | cons hm' ho' _ ih => exact .cons hm' ho' ih
theorem BlkAre.get {tups : List (Addr × Obj)} {vs : List Value} {bs : List (Int × Nat)} (h : BlkAre tups vs bs) : ∀ {i : Nat} {v : Value}, vs[i]? = some v → ∃ a o b k t u, v = .ref a ∧ (a, o) ∈ tups ∧ o.cls = .type "tuple" ∧ o.data = .seq #[.int b t, .int (k : Nat) u] 0 ∧ bs[i]? = some (b, k) := by
  induction h with
  | nil => intro i v hv; simp at hv
  | @cons a o b k t u vs bs hm ho h ih =>
    intro i v hv
    cases i with
    | zero => simp at hv; exact ⟨a, o, b, k, t, u, hv.symm, hm, ho.1, ho.2, rfl⟩
    | succ i => simpa using ih (by simpa using hv)
theorem blocksOf_step {lo hi : Int} (h : lo < hi) : blocksOf lo hi = (lo, kOf lo hi) :: blocksOf (lo + 64 ^ kOf lo hi) hi := by
  exact (WellFounded.fix_eq _ _ lo).trans (dif_pos h)
theorem blocksOf_end {lo hi : Int} (h : ¬ lo < hi) : blocksOf lo hi = [] := by
  exact (WellFounded.fix_eq _ _ lo).trans (dif_neg h)
theorem isList_push {h₀ h : Heap} {L l : Addr} {news : List (Addr × Obj)} {vs : List Value} {v : Value} {n : Nat} (N : News h₀ L h news) (hm : (l, listOf (vs.toArray.push v) n) ∈ news) : h.IsList l (vs ++ [v]).toArray := by
  have := News.isList N hm
  rwa [List.push_toArray] at this
theorem perm4 {α : Type} {a b c d p : α} {r : List α} (h : p ∈ b :: c :: d :: a :: r) : p ∈ a :: b :: c :: d :: r := by
  simp only [List.mem_cons] at h ⊢
  rcases h with h | h | h | h | h
  · exact .inr (.inl h)
  · exact .inr (.inr (.inl h))
  · exact .inr (.inr (.inr (.inl h)))
  · exact .inl h
  · exact .inr (.inr (.inr (.inr h)))
theorem none_base {H g : Heap} {D : Addr} (G : GSub H g (([] : List (Addr × Obj)).map (·.1))) (e : g.get? D = none) : H.get? D = none := by
  cases hq : H.get? D with
  | none => rfl
  | some o => exact absurd (e.symm.trans (G _ _ hq (fun q => nomatch q))) (by nofun)
end Mine
end

section -- Sre1
open PySem PySem.W PyProof.Rows PySem.Calls PySem.Spec
namespace Mine
noncomputable def sreCode : Array Nat := #[14, 17, 4, 1, 1, 21, 9, 0, 604043296, 1, 0, 0, 0, 0, 0, 8, 4, 0, 13, 14, 21, 9, 0, 604043296, 1, 0, 0, 0, 0, 0, 8, 4, 0, 1]
noncomputable def safeC (c : Nat) : Bool := (decide (c < 256) && (sreCode.getD (6 + (1 + c / 32)) 0).testBit (c % 32)) || Sre.isWord c
theorem cat4 (c : Nat) : Sre.category 4 c = .ok (Sre.isWord c) := by
  show Except.ok (Sre.isWord c != (4 % 2 == 1)) = _
  congr 1
  cases Sre.isWord c <;> rfl
theorem inSetN (base : Nat) (hb : base = 5 ∨ base = 20) (c : Nat) (seen : Sre.Seen) : ∃ seen', Sre.inSet sreCode c 34 base true seen = .ok (!safeC c, seen') := by
  have key : ∀ i, (i = 6 ∨ i = 21) → ∀ s1, ∃ seen', Sre.inSet sreCode c 33 i false s1 = .ok (!safeC c, seen') := by
    intro i hi s1
    have e2 : Sre.inSet sreCode c 33 i false s1 = if (decide (c < 256) && (sreCode.getD (i + (1 + c / 32)) 0).testBit (c % 32)) = true then .ok (false, s1.add 9) else Sre.inSet sreCode c 32 (i + 9) false (s1.add 9) := by
      rcases hi with rfl | rfl <;> rfl
    have ew : (decide (c < 256) && (sreCode.getD (i + (1 + c / 32)) 0).testBit (c % 32)) = (decide (c < 256) && (sreCode.getD (6 + (1 + c / 32)) 0).testBit (c % 32)) := by
      rcases hi with rfl | rfl
      · rfl
      · by_cases h : c < 256
        · have hk : c / 32 < 8 := by omega
          have : ∀ k < 8, sreCode.getD (21 + (1 + k)) 0 = sreCode.getD (6 + (1 + k)) 0 := by decide
          rw [this _ hk]
        · simp [h]
    rw [e2, ew]
    by_cases h1 : (decide (c < 256) && (sreCode.getD (6 + (1 + c / 32)) 0).testBit (c % 32)) = true
    · rw [if_pos h1]
      exact ⟨_, by unfold safeC; rw [h1]; rfl⟩
    · rw [if_neg h1]
      have e3 : ∀ s2, Sre.inSet sreCode c 32 (i + 9) false s2 = (do if ← Sre.category 4 c then pure (false, (s2.add 8).add 59) else Sre.inSet sreCode c 31 (i + 11) false ((s2.add 8).add 59)) := by
        intro s2; rcases hi with rfl | rfl <;> rfl
      have e4 : ∀ s3, Sre.inSet sreCode c 31 (i + 11) false s3 = .ok (true, s3.add 0) := by
        intro s3; rcases hi with rfl | rfl <;> rfl
      rw [e3, cat4]
      have hs : safeC c = Sre.isWord c := by unfold safeC; rw [Bool.eq_false_iff.mpr h1]; rfl
      rw [hs]
      show ∃ seen', (if Sre.isWord c = true then (Except.ok (false, _) : Except String (Bool × Sre.Seen)) else _) = _
      by_cases h2 : Sre.isWord c = true
      · rw [if_pos h2, h2]; exact ⟨_, rfl⟩
      · rw [if_neg h2, e4, Bool.eq_false_iff.mpr h2]; exact ⟨_, rfl⟩
  rcases hb with rfl | rfl
  · exact key 6 (.inl rfl) _
  · exact key 21 (.inr rfl) _
theorem admitted_none (m : Sre.M) (hc : m.code = sreCode) : ∀ fuel s seen, (∀ i, s ≤ i → i < m.lim → safeC (m.text.getD i 0) = true) → ∃ seen', Sre.M.admitted m fuel s seen = .ok (none, seen') := by
  intro fuel
  induction fuel with
  | zero => intro s seen _; exact ⟨seen, rfl⟩
  | succ fuel ih =>
    intro s seen h
    unfold Sre.M.admitted
    by_cases hs : s ≥ m.lim
    · rw [if_pos hs]; exact ⟨_, rfl⟩
    · rw [if_neg hs, hc]
      obtain ⟨seen', e⟩ := inSetN 5 (.inl rfl) (m.text.getD s 0) seen
      have e' : Sre.inSet sreCode (m.text.getD s 0) sreCode.size 5 true seen = .ok (!safeC (m.text.getD s 0), seen') := e
      rw [e', h s (Nat.le_refl _) (by omega)]
      exact ih (s + 1) seen' fun i h1 h2 => h i (by omega) h2
theorem admitted_some (m : Sre.M) (hc : m.code = sreCode) : ∀ fuel s seen i, s ≤ i → i < m.lim → i < s + fuel → safeC (m.text.getD i 0) = false → ∃ s' seen', Sre.M.admitted m fuel s seen = .ok (some s', seen') ∧ s' < m.lim ∧ safeC (m.text.getD s' 0) = false := by
  intro fuel
  induction fuel with
  | zero => intro s seen i h1 h2 h3 _; omega
  | succ fuel ih =>
    intro s seen i h1 h2 h3 h4
    unfold Sre.M.admitted
    rw [if_neg (by omega), hc]
    obtain ⟨seen', e⟩ := inSetN 5 (.inl rfl) (m.text.getD s 0) seen
    have e' : Sre.inSet sreCode (m.text.getD s 0) sreCode.size 5 true seen = .ok (!safeC (m.text.getD s 0), seen') := e
    rw [e']
    by_cases hs : safeC (m.text.getD s 0) = true
    · rw [hs]
      have hne : s ≠ i := by rintro rfl; rw [h4] at hs; cases hs
      exact ih (s + 1) seen' i (by omega) h2 (by omega) h4
    · rw [Bool.eq_false_iff.mpr hs]
      exact ⟨s, seen', rfl, by omega, Bool.eq_false_iff.mpr hs⟩
theorem af_safe (m : Sre.M) (hc : m.code = sreCode) (hf : m.outcome = none) (hfr : m.frames = []) (h : ∀ i, i < m.lim → safeC (m.text.getD i 0) = true) :
    ((m.attemptFrom 0 true).runFor 4).outcome = some .failed := by
  have hfs : m.hasFirstSet = true := by unfold Sre.M.hasFirstSet; rw [hc]; rfl
  obtain ⟨seen', e⟩ := admitted_none m hc (m.lim + 1 - 0) 0 m.seen fun i _ h2 => h i h2
  unfold Sre.M.attemptFrom
  rw [hfs, e]
  simp [Sre.M.runFor, Sre.M.step, Sre.M.say, hf, hfr]
theorem af_unsafe (m : Sre.M) (hc : m.code = sreCode) (hf : m.outcome = none) (ha : m.answer = none) (hfr : m.frames = []) (hw : m.weight = 0) (hpc : m.pc = 18) (hwt : m.wholeText = false) {i : Nat} (hi : i < m.lim) (h : safeC (m.text.getD i 0) = false) :
    ((m.attemptFrom 0 true).runFor 4).outcome = some .matched := by
  have hfs : m.hasFirstSet = true := by unfold Sre.M.hasFirstSet; rw [hc]; rfl
  obtain ⟨s', seen', e, hs, hu⟩ := admitted_some m hc (m.lim + 1 - 0) 0 m.seen i (Nat.zero_le _) hi (by omega) h
  unfold Sre.M.attemptFrom
  rw [hfs, e]
  obtain ⟨code, text, lim, start, lastStart, wholeText, mustAdvance, pc, pos, handed, outermost, marks, lastmark, lastindex, loops, inner, frames, weight, answer, seen, outcome⟩ := m
  dsimp only at hc hf ha hfr hw hpc hwt hs hu hfs
  subst hc hf ha hfr hw hpc hwt
  obtain ⟨seen2, e2⟩ := inSetN 20 (.inr rfl) (text.getD s' 0) (seen'.add 13)
  rw [hu] at e2
  simp only [Bool.not_true, Bool.false_eq_true, if_false]
  have run : ∀ (m1 : Sre.M), m1.code = sreCode → m1.outcome = none → m1.answer = none → m1.pc = 18 → m1.wholeText = false → m1.mustAdvance = false → m1.pos = s' → s' < m1.lim → m1.text = text → m1.seen = seen' → m1.outermost = true →
      m1.frames = [{ wait := .nextStart, pc := 18, pos := s', outermost := true }] → (m1.runFor 4).outcome = some .matched := by
    rintro ⟨code, text1, lim1, start1, lastStart1, wholeText1, mustAdvance1, pc1, pos1, handed1, outermost1, marks1, lastmark1, lastindex1, loops1, inner1, frames1, weight1, answer1, seen1, outcome1⟩ h1 h2 h3 h4 h5 h6 h7 h8 h9 h10 h11 h12
    dsimp only at h1 h2 h3 h4 h5 h6 h7 h8 h9 h10 h11 h12
    subst h1 h2 h3 h4 h5 h6 h7 h9 h10 h11 h12
    have st1 : Sre.M.step ⟨sreCode, text1, lim1, start1, lastStart1, false, false, 18, pos1, handed1, true, marks1, lastmark1, lastindex1, loops1, inner1, [{ wait := .nextStart, pc := 18, pos := pos1, outermost := true }], weight1, none, seen1, none⟩ =
        ⟨sreCode, text1, lim1, start1, lastStart1, false, false, 33, pos1 + 1, handed1, true, marks1, lastmark1, lastindex1, loops1, inner1, [{ wait := .nextStart, pc := 18, pos := pos1, outermost := true }], weight1, none, seen2, none⟩ := by
      show (if pos1 ≥ lim1 then _ else match Sre.inSet sreCode (text1.getD pos1 0) 34 20 true (seen1.add 13) with
        | .error why => _
        | .ok (false, seen) => _
        | .ok (true, seen) => _) = _
      rw [if_neg (by omega), e2]
      rfl
    show (Sre.M.runFor 3 (Sre.M.step _)).outcome = _
    rw [st1]
    rfl
  exact run _ rfl rfl rfl rfl rfl rfl rfl hs rfl rfl rfl rfl
theorem search_safe {text : Array Nat} (h0 : 0 < text.size) (h : ∀ i, i < text.size → safeC (text.getD i 0) = true) :
    ((Sre.forSearch sreCode text 0 0 text.size false).runFor 4).outcome = some .failed := by
  have e : ∀ n, 0 < n → ∃ m, Sre.forSearch sreCode text 0 0 n false = Sre.M.attemptFrom m 0 true ∧ m.code = sreCode ∧ m.outcome = none ∧ m.frames = [] ∧ m.text = text ∧ m.lim = n := by
    intro n hn
    unfold Sre.forSearch
    have hl : (Sre.header sreCode) = (1, 18) := rfl
    simp only [hl]
    rw [if_neg (by intro hh; simp only [Bool.or_eq_true, decide_eq_true_eq] at hh; omega)]
    exact ⟨_, rfl, rfl, rfl, rfl, rfl, rfl⟩
  obtain ⟨m, e1, a, b, c, d, f⟩ := e _ h0
  rw [e1]
  exact af_safe m a b c (by rw [d, f]; exact h)
theorem search_unsafe {text : Array Nat} {i : Nat} (hi : i < text.size) (h : safeC (text.getD i 0) = false) :
    ((Sre.forSearch sreCode text 0 0 text.size false).runFor 4).outcome = some .matched := by
  have e : ∀ n, 0 < n → ∃ m, Sre.forSearch sreCode text 0 0 n false = Sre.M.attemptFrom m 0 true ∧ m.code = sreCode ∧ m.outcome = none ∧ m.frames = [] ∧ m.text = text ∧ m.lim = n ∧ m.answer = none ∧ m.weight = 0 ∧ m.pc = 18 ∧ m.wholeText = false := by
    intro n hn
    unfold Sre.forSearch
    have hl : (Sre.header sreCode) = (1, 18) := rfl
    simp only [hl]
    rw [if_neg (by intro hh; simp only [Bool.or_eq_true, decide_eq_true_eq] at hh; omega)]
    exact ⟨_, rfl, rfl, rfl, rfl, rfl, rfl, rfl, rfl, rfl, rfl⟩
  obtain ⟨m, e1, a, b, c, d, f, g, j, k, l⟩ := e text.size (by omega)
  rw [e1]
  exact af_unsafe m a b g c j k l (i := i) (by rw [f]; exact hi) (by rw [d]; exact h)
end Mine
end

section -- Sre2
open PySem PySem.W PyProof.Rows PySem.Calls PySem.Spec
namespace Mine
section
variable {prog : Program} {w : World} {M : Model} {A : Around} {E : Value → Shared → Prop} {s : Shared} {x : Str} {t : Tok}
noncomputable def PatAt (h : Heap) : Prop := (∃ o p, h.get? 79 = some o ∧ o.data = .fields #[p, .int 256 414, .int 0 0, .none, .none, .ref 78, .int 0 0]) ∧ ∃ o n, h.get? 78 = some o ∧ o.data = .seq (sreCode.map fun k => .int (Int.ofNat k) 0) n
theorem target_ {Q : Builtin.Re.ReTarget → Shared → Prop} (hp : PatAt s.heap) (hx : x.length ≤ 100000)
    (h : Q ⟨.ref 79, .str x t, sreCode, x.cps, 0, 0, 0, x.cps.size⟩ s) : wpAny M A (Builtin.Re.reTarget "re.Pattern.search" "search" ⟨[.ref 79, .str x t], []⟩) Q E s := by
  obtain ⟨⟨o, p, ho, hd⟩, o2, n, ho2, hd2⟩ := hp
  have hx' : x.cps.size ≤ 100000 := hx
  unfold Builtin.Re.reTarget
  refine wpAny_bind (wpAny_of_eq (a := [some (.str x t), none, none]) (by kernel_rfl) ?_)
  refine wpAny_bind (wpAny_pure ?_)
  refine wpAny_bind (wpAny_pure ?_)
  refine wpAny_bind (wpAny_fieldsOf ho hd ?_)
  refine wpAny_bind (wpAny_of_eq (a := (x.cps, 0)) rfl ?_)
  refine wpAny_bind (wpAny_of_eq (a := ()) rfl ?_)
  refine wpAny_bind ?_
  unfold Builtin.Re.reRawItems
  refine wpAny_bind (wpAny_seqItems ho2 hd2 (wpAny_pure ?_))
  refine wpAny_pure ?_
  have e : min ((2 ^ 63 - 1 : Int)).toNat x.cps.size = x.cps.size := Nat.min_eq_right (by show _ ≤ 9223372036854775807; omega)
  have e2 : min ((0 : Int)).toNat x.cps.size = 0 := Nat.min_eq_left (Nat.zero_le _)
  have e3 : (((some (sreCode.map fun k => Value.int (Int.ofNat k) 0)).getD #[]).map Builtin.Re.reRawOf).map (·.toNat) = sreCode := by decide +kernel
  simp only [e, e2, e3]
  exact h
theorem rules_ {l : List Nat} {c : Nat → Bool} {g : Nat → String} {Q : PUnit → Shared → Prop} (h : Q PUnit.unit s) :
    wpAny M A (forIn l PUnit.unit fun i (_ : PUnit) => if c i = true then (do rule (g i); pure (ForInStep.yield PUnit.unit)) else pure (ForInStep.yield PUnit.unit)) Q E s := by
  induction l with
  | nil => exact wpAny_pure h
  | cons a r ih =>
    rw [List.forIn_cons]
    by_cases hc : c a = true
    · rw [if_pos hc]
      exact wpAny_bind (wpAny_bind (wpAny_rule (wpAny_pure ih)))
    · rw [if_neg hc]
      exact wpAny_bind (wpAny_pure ih)
theorem drive_ {m : Sre.M} {o : Sre.Outcome} {Q : Sre.M → Shared → Prop} (e : (m.runFor 4).outcome = some o) (h : Q (m.runFor 4) s) : wpAny M A (Builtin.Re.reDrive (2 ^ 64) m) Q E s := by
  have e1 : (2 ^ 64 : Nat) = 18446744073709551615 + 1 := by decide +kernel
  rw [e1]
  show wpAny M A (if (m.runFor 4).outcome.isSome = true then pure (m.runFor 4) else _) Q E s
  rw [e]
  exact wpAny_pure h
theorem toEnd_failed {m : Sre.M} {Q : Option Sre.M → Shared → Prop} (e : (m.runFor 4).outcome = some .failed) (h : Q none s) : wpAny M A (Builtin.Re.reRunToEnd m) Q E s := by
  unfold Builtin.Re.reRunToEnd
  refine wpAny_bind (drive_ e ?_)
  refine wpAny_bind (rules_ ?_)
  rw [e]
  exact wpAny_pure h
theorem toEnd_matched {m : Sre.M} {Q : Option Sre.M → Shared → Prop} (e : (m.runFor 4).outcome = some .matched) (h : Q (some (m.runFor 4)) s) : wpAny M A (Builtin.Re.reRunToEnd m) Q E s := by
  unfold Builtin.Re.reRunToEnd
  refine wpAny_bind (drive_ e ?_)
  refine wpAny_bind (rules_ ?_)
  rw [e]
  exact wpAny_pure h
theorem tree_safe {P : Fin → Shared → Prop} (hp : PatAt s.heap) (h0 : 0 < x.length) (hx : x.length ≤ 100000) (hs : ∀ i, i < x.cps.size → safeC (x.cps.getD i 0) = true)
    (h : P (.done (.ret .none)) s) : wpAny M A (Builtin.«re.Pattern.search» ⟨[.ref 79, .str x t], []⟩) P E s := by
  unfold Builtin.«re.Pattern.search»
  refine wpAny_bind (target_ hp hx ?_)
  unfold Builtin.Re.reAnswer
  exact wpAny_bind (toEnd_failed (search_safe h0 hs) (wpAny_pure h))
theorem tree_unsafe {P : Fin → Shared → Prop} (hp : PatAt s.heap) (hx : x.length ≤ 100000) {i : Nat} (hi : i < x.cps.size) (hs : safeC (x.cps.getD i 0) = false)
    (h : ∀ a h' tk, Ext s.heap h' → P (.done (.ret (.ref a))) { s with heap := h', toks := tk }) : wpAny M A (Builtin.«re.Pattern.search» ⟨[.ref 79, .str x t], []⟩) P E s := by
  unfold Builtin.«re.Pattern.search»
  refine wpAny_bind (target_ hp hx ?_)
  unfold Builtin.Re.reAnswer
  refine wpAny_bind (toEnd_matched (search_unsafe hi hs) ?_)
  refine wpAny_bind ?_
  show wpAny M A (newTuple [rawInt _, rawInt _] >>= fun tv => newFields "re.Match" [_, _, _, _, _, tv]) _ E s
  refine wpAny_bind (wpAny_newTuple ?_)
  refine wpAny_newObj_type (wpAny_pure ?_)
  exact h _ _ _ fun b o e => Heap.get?_push_of_some _ (Heap.get?_push_of_some _ e)
noncomputable def SearchAt (u : Addr) (h : Heap) : Prop := ∃ d sl, h.get? u = some ⟨.type "builtin_function_or_method", d, .fields #[.builtin "re.Pattern.search", .ref 79], sl⟩
theorem callWith_search {pos : Pos} {u : Addr} {first : List Value} {args : List (Bool × Sem Value)} {Q : Value → Shared → Prop} (hplain : args.any (·.1) = false)
    (h : wpAny M A (evalArgs (.ref u) true args []) (fun x s₁ => SearchAt u s₁.heap ∧ wpAny M A (call (.ref u) (first ++ x.pos) x.kw) Q E s₁) E s) : wpAny M A (callWith pos (.ref u) first args []) Q E s := by
  unfold callWith
  refine wpAny_bind (wpAny_holding (wpAny_mono h (fun x s₁ h₁ => wpAny_bind (wpAny_standAt ?_)) fun _ _ x => x))
  obtain ⟨⟨d, sl, ho⟩, hcall⟩ := h₁
  rw [hplain, List.any_nil, Bool.or_false]
  refine wpAny_bind (m := keeperOf (.ref u)) ?_
  unfold keeperOf
  refine wpAny_bind (wpAny_load ho ?_)
  rw [show (Value.type "builtin_function_or_method" != Value.type "method") = true by decide, show (Value.type "builtin_function_or_method" == Value.type "builtin_function_or_method" || Value.type "builtin_function_or_method" == Value.type "method-wrapper") = true by decide]
  dsimp only
  try rw [if_pos rfl]
  try dsimp only
  refine wpAny_pure ?_
  exact wpAny_bind (wpAny_mono hcall (fun r s₂ hr => wpAny_bind (wpAny_holding (wpAny_point (wpAny_pure hr)))) fun _ _ x => x)
theorem callWith_S {pos : Pos} {u : Addr} {first : List Value} {env : Env} {e : PySem.Expr} {rest : List PySem.Expr} {Q : Value → Shared → Prop}
    (h : wpAny M A (spliced (backTo pos (starEach (e :: rest) env))) (fun vs s₁ => SearchAt u s₁.heap ∧ wpAny M A (call (.ref u) (first ++ vs)) Q E s₁) E s)
    (he : starEach (e :: rest) env = (false, eval e env) :: starEach rest env := by rfl) (hplain : (backTo pos (starEach rest env)).any (·.1) = false := by rfl) :
    wpAny M A (callWith pos (.ref u) first (backTo pos (starEach (e :: rest) env)) []) Q E s := by
  rw [he] at h ⊢
  refine callWith_search (by show (false || (backTo pos (starEach rest env)).any (·.1)) = false; rw [hplain]; rfl) ?_
  exact evalArgs_plain h
theorem entry_search : entryFor table "re.Pattern.search" = some Builtin.«re.Pattern.search» := entryFor_of_tree (by kernel_rfl)
theorem quiet_search {as : Args} : (Code.builtin "re.Pattern.search" as).quiet = true := Code.quiet_builtin _ (by decide +kernel)
theorem kind_search : builtinKind "re.Pattern.search" = some .method := by decide +kernel
noncomputable def sigS : Manifest.Signature := { machinery := .keywords, full := "Pattern.search", short := "search", receiver := .self, params := [{ name := "string", kind := .posOrKw, required := true }, { name := "pos", kind := .posOrKw, required := false }, { name := "endpos", kind := .posOrKw, required := false }] }
theorem sig_search : Manifest.signature? "re.Pattern.search" = some sigS := by first | kernel_rfl | rfl
theorem args_search : Bind.checkArgs "re.Pattern.search" { sigS with full := s!"{Bind.lastOf "re.Pattern"}.{Bind.lastOf "re.Pattern.search"}" } ⟨[.ref 79, .str x t], []⟩ = pure () := by first | kernel_rfl | rfl
theorem check_search {o : Obj} {vs : Array Value} {Q : Unit → Shared → Prop} (ho : s.heap.get? 79 = some o) (hc : o.cls = .type "re.Pattern") (hd : o.data = .fields vs) (h : Q () s) : wpAny M A (checkBoundCall "re.Pattern.search" ⟨[.ref 79, .str x t], []⟩) Q E s := by
  unfold checkBoundCall
  rw [sig_search]
  rw [kind_search]
  have hT : s.TypeIs (.ref 79) "re.Pattern" := ⟨o, ho, hc⟩
  show wpAny M A (isInstance (.ref 79) (.type "module") >>= fun ofModule => _) Q E s
  refine wpAny_bind (wpAny_isInstance hT (b := false) (by rw [isSubtype_type]; kernel_rfl) ?_)
  rw [show Manifest.varargsMethods.contains "re.Pattern.search" = false by decide +kernel]
  refine wpAny_bind (wpAny_bind ?_)
  refine wpAny_loadPart ho ?_
  refine wpAny_pure ?_
  rw [hd]
  dsimp only
  rw [if_neg Bool.false_ne_true]
  refine wpAny_bind (wpAny_typeOf hT ?_)
  show wpAny M A (Bind.checkArgs "re.Pattern.search" { sigS with full := s!"{Bind.lastOf "re.Pattern"}.{Bind.lastOf "re.Pattern.search"}" } ⟨[.ref 79, .str x t], []⟩) Q E s
  rw [args_search]
  exact wpAny_pure h
theorem call_search {o79 : Obj} {vs : Array Value} (h79 : s.heap.get? 79 = some o79) (hc : o79.cls = .type "re.Pattern") (hd : o79.data = .fields vs) {u : Addr} {Q : Value → Shared → Prop} (ho : SearchAt u s.heap)
    (tree : ∀ {P : Fin → Shared → Prop} {E' : Value → Shared → Prop} {A' : Around}, (∀ v s', Q v s' → P (.done (.ret v)) s') → wpAny (model prog w) A' (Builtin.«re.Pattern.search» ⟨[.ref 79, .str x t], []⟩) P E' s) :
    wpAny (model prog w) A (call (.ref u) [.str x t]) Q E s := by
  obtain ⟨d, sl, ho⟩ := ho
  refine wpAny_call (codeAny_of_tree ?_)
  show wpAny _ A.in1 (callAny (.ref u) ⟨[.str x t], []⟩) _ _ s
  unfold callAny
  refine wpAny_bind (wpAny_load ho ?_)
  dsimp only
  rw [show (Value.type "builtin_function_or_method" == Value.type "method" || Value.type "builtin_function_or_method" == Value.type "builtin_function_or_method" || Value.type "builtin_function_or_method" == Value.type "method-wrapper") = true by decide, if_pos rfl]
  refine id ?_
  refine KFB.if_so (by decide) ?_
  refine wpAny_bind (check_search h79 hc hd ?_)
  refine wpAny_bind (wpAny_pure (wpAny_pure ?_))
  exact ⟨quiet_search, codeAny_builtin entry_search (tree fun v s' hq => hq)⟩
theorem call_safe {o79 : Obj} {vs : Array Value} (h79 : s.heap.get? 79 = some o79) (hc : o79.cls = .type "re.Pattern") (hd : o79.data = .fields vs) {u : Addr} {Q : Value → Shared → Prop} (ho : SearchAt u s.heap) (hp : PatAt s.heap) (h0 : 0 < x.length) (hx : x.length ≤ 100000)
    (hs : ∀ i, i < x.cps.size → safeC (x.cps.getD i 0) = true) (h : Q .none s) : wpAny (model prog w) A (call (.ref u) [.str x t]) Q E s :=
  call_search h79 hc hd ho fun hq => tree_safe hp h0 hx hs (hq _ _ h)
theorem call_unsafe {o79 : Obj} {vs : Array Value} (h79 : s.heap.get? 79 = some o79) (hc : o79.cls = .type "re.Pattern") (hd : o79.data = .fields vs) {u : Addr} {Q : Value → Shared → Prop} (ho : SearchAt u s.heap) (hp : PatAt s.heap) (hx : x.length ≤ 100000)
    {i : Nat} (hi : i < x.cps.size) (hs : safeC (x.cps.getD i 0) = false) (h : ∀ a h' tk, Ext s.heap h' → Q (.ref a) { s with heap := h', toks := tk }) : wpAny (model prog w) A (call (.ref u) [.str x t]) Q E s :=
  call_search h79 hc hd ho fun hq => tree_unsafe hp hx hi hs fun a h' tk e => hq _ _ (h a h' tk e)
end
end Mine
end

section -- E3
open PySem PySem.W PyProof.Rows PySem.Calls PySem.Spec
namespace Mine

theorem spec_b64 {w : World} {mean : ExcName → Option Value} {mg mb : Str → Option Value} {dp un : Nat} {gd : Option (List Code)} {cn : Str} {cs : Scope} {a : Addr} {ccd : Value} {cl : List (Str × Addr)} {outer : List Env} {A₀ : Around} {base h₀ : Heap} {L : Addr} {m : Str → Option Value} {s : Shared} {Q : Value → Shared → Prop} {E : Value → Shared → Prop} {b : Array UInt8} {x0 x1 x2 : Int} {t u : Tok}
    (B : Below A₀ base outer h₀) (F : Fr h₀ L s.heap m) (X : (K0 w.params).In h₀) (T : Top topProg lo2 mean mg mb h₀) (hk : cs.kind = .function) (hb : KBw.bInts b = [x0, x1, x2]) (h00 : 0 ≤ x0) (h01 : x0 < 256) (h10 : 0 ≤ x1) (h11 : x1 < 256) (h20 : 0 ≤ x2) (h21 : x2 < 256) (hd : dp + 6 < recursionLimit) (hu : un + 80 < cLine)
    (hret : ∀ tk' h', Ext s.heap h' → ∀ t', Q (.bytes (trans mkTab (byteArr (b64x x0 x1 x2))) t') { s with heap := h', toks := tk' }) :
    wpAny (model PySem.Challenge.rw_oy0371_01.row.prog w) (ktrTop dp un gd cn cs L a ccd cl outer) (call (.ref (nat_lit 74)) [.bytes b t, .bytes #[39, 32] u]) Q E s := by
  have N : News h₀ L s.heap [] := News.nil
  w_on
  w_strict (
    refine wpAny_call ?_
    k_dflt (refine' enterG [(Str.ofString "s", .bytes b t), (Str.ofString "altchars", .bytes #[39, 32] u)] ?k1 ?k2 ?k3 ?k4 ?k5 ?kA ?kF ?kK ?k6 ?k7 ?k8 ?k9 ?kB ?_ ?c2 ?c3 ?c4 ?c5; (case kA => exact rfl); (case kF => exact rfl); (case kK => assumption); (case k1 => k_asm); (case k2 => k_asm); (case k3 => k_asm); (case k4 => k_asm); (case k5 => k_asm); (case k6 => k_is); (case k7 => k_is); (case k8 => ktr_room); (case k9 => first | exact BindsTo.of_eq rfl | exact binds_K (by k_in) rfl (by k_is) rfl rfl rfl); (case c5 => decide); (case kB => exact locs rfl); (case c2 => exact rfl); (case c3 => exact rfl); (case c4 => exact rfl); k_whole; intro g' L' h' tk' FG' F' N' B' X' T' G'; (try dsimp only); (try (refine letA ?_; intro M' V' A')); (try k_fold))
    repeat' (first | (k_unfold; (try dsimp only)) | ((with_reducible show wpAny _ _ (getMethod (Value.bytes _ _) _ _) _ _ _); with_unfolding_all refine gm_translate ?_) | ((with_reducible show wpAny _ _ (call (Value.ref _) _ _) _ _ _); k_here; k_dflt (refine spec_b2a (by k_asm) (by k_asm) (by k_asm) (by k_asm) (by first | exact rfl | assumption) (by assumption) (by assumption) (by assumption) (by assumption) (by assumption) (by assumption) (by assumption) (by ktr_room) (by ktr_units) ?_; k_whole); intro tk9 h9 x9 t9; (have F9 := Fr.keeps (by assumption) x9); (have N9 := News.grown (by assumption) x9); (try dsimp only); (try k_fold)) | walk1 | (dsimp only; walk1))
    refine gm_maketrans (by assumption) (by assumption) (by first | rfl | k_is) ?_
    repeat' (first | (k_unfold; (try dsimp only)) | ((with_reducible show wpAny _ _ (getMethod (Value.bytes _ _) _ _) _ _ _); with_unfolding_all refine gm_translate ?_) | ((with_reducible show wpAny _ _ (call (Value.ref _) _ _) _ _ _); k_here; k_dflt (refine spec_b2a (by k_asm) (by k_asm) (by k_asm) (by k_asm) (by first | exact rfl | assumption) (by assumption) (by assumption) (by assumption) (by assumption) (by assumption) (by assumption) (by assumption) (by ktr_room) (by ktr_units) ?_; k_whole); intro tk9 h9 x9 t9; (have F9 := Fr.keeps (by assumption) x9); (have N9 := News.grown (by assumption) x9); (try dsimp only); (try k_fold)) | walk1 | (dsimp only; walk1))
    with_unfolding_all refine call_maketrans (fun t8 k8 => ?_)
    repeat' (first | (k_unfold; (try dsimp only)) | ((with_reducible show wpAny _ _ (getMethod (Value.bytes _ _) _ _) _ _ _); with_unfolding_all refine gm_translate ?_) | ((with_reducible show wpAny _ _ (call (Value.ref _) _ _) _ _ _); k_here; k_dflt (refine spec_b2a (by k_asm) (by k_asm) (by k_asm) (by k_asm) (by first | exact rfl | assumption) (by assumption) (by assumption) (by assumption) (by assumption) (by assumption) (by assumption) (by assumption) (by ktr_room) (by ktr_units) ?_; k_whole); intro tk9 h9 x9 t9; (have F9 := Fr.keeps (by assumption) x9); (have N9 := News.grown (by assumption) x9); (try dsimp only); (try k_fold)) | walk1 | (dsimp only; walk1))
    with_unfolding_all refine call_translate mkTab_size (by simp [byteArr, b64x]) (fun t9 k9 => ?_)
    repeat' (first | (k_unfold; (try dsimp only)) | ((with_reducible show wpAny _ _ (getMethod (Value.bytes _ _) _ _) _ _ _); with_unfolding_all refine gm_translate ?_) | ((with_reducible show wpAny _ _ (call (Value.ref _) _ _) _ _ _); k_here; k_dflt (refine spec_b2a (by k_asm) (by k_asm) (by k_asm) (by k_asm) (by first | exact rfl | assumption) (by assumption) (by assumption) (by assumption) (by assumption) (by assumption) (by assumption) (by assumption) (by ktr_room) (by ktr_units) ?_; k_whole); intro tk9 h9 x9 t9; (have F9 := Fr.keeps (by assumption) x9); (have N9 := News.grown (by assumption) x9); (try dsimp only); (try k_fold)) | walk1 | (dsimp only; walk1))
    exact hret _ _ (ext_of_sub G' (by assumption)) _)
end Mine
end

section -- E4
open PySem PySem.W PyProof.Rows PySem.Calls PySem.Spec
namespace Mine

theorem octs_in {n : Int} (hn0 : 0 ≤ n) (hn : n < 16777216) : KBa.In [n.fdiv 65536, (n.fdiv 256).fmod 256, n.fmod 256] := by
  have e1 : n.fdiv 65536 = n / 65536 := Int.fdiv_eq_ediv_of_nonneg _ (by decide)
  intro k hk
  simp only [List.mem_cons, List.not_mem_nil, or_false] at hk
  rcases hk with rfl | rfl | rfl
  · rw [e1]; omega
  · exact ⟨Int.fmod_nonneg_of_pos _ (by decide), Int.fmod_lt_of_pos _ (by decide)⟩
  · exact ⟨Int.fmod_nonneg_of_pos _ (by decide), Int.fmod_lt_of_pos _ (by decide)⟩
theorem octs_sum {n : Int} : n = n.fdiv 65536 * 65536 + (n.fdiv 256).fmod 256 * 256 + n.fmod 256 := by
  rw [Int.fdiv_eq_ediv_of_nonneg _ (by decide), Int.fdiv_eq_ediv_of_nonneg _ (by decide), Int.fmod_eq_emod_of_nonneg _ (by decide), Int.fmod_eq_emod_of_nonneg _ (by decide)]
  omega
theorem slice_signs {n k : Int} (hk0 : 0 ≤ k) (hk3 : k ≤ 3) : Txt.slice ⟨#[alphN (sgnI n 0), alphN (sgnI n 1), alphN (sgnI n 2), alphN (sgnI n 3)]⟩ none (some (4 - k)) = signsStr n (4 - k.toNat) := by
  rcases (by omega : k = 0 ∨ k = 1 ∨ k = 2 ∨ k = 3) with rfl | rfl | rfl | rfl <;> rfl
theorem oct0 {a b c : Int} (h : KBa.In [a, b, c]) : 0 ≤ a ∧ a < 256 := h _ (.head _)
theorem oct1 {a b c : Int} (h : KBa.In [a, b, c]) : 0 ≤ b ∧ b < 256 := h _ (.tail _ (.head _))
theorem oct2 {a b c : Int} (h : KBa.In [a, b, c]) : 0 ≤ c ∧ c < 256 := h _ (.tail _ (.tail _ (.head _)))
theorem spec_signs {w : World} {mean : ExcName → Option Value} {mg mb : Str → Option Value} {dp un : Nat} {gd : Option (List Code)} {cn : Str} {cs : Scope} {a : Addr} {ccd : Value} {cl : List (Str × Addr)} {outer : List Env} {A₀ : Around} {base h₀ : Heap} {L : Addr} {m : Str → Option Value} {s : Shared} {Q : Value → Shared → Prop} {E : Value → Shared → Prop} {n k : Int} {t u : Tok}
    (B : Below A₀ base outer h₀) (F : Fr h₀ L s.heap m) (X : (K0 w.params).In h₀) (T : Top topProg lo2 mean mg mb h₀) (hk : cs.kind = .function)
    (hn0 : 0 ≤ n) (hn : n < 16777216) (hk0 : 0 ≤ k) (hk3 : k ≤ 3) (hd : dp + 8 < recursionLimit) (hu : un + 100 < cLine)
    (hret : ∀ tk' h', Ext s.heap h' → ∀ t', Q (.str (signsStr n (4 - k.toNat)) t') { s with heap := h', toks := tk' }) :
    wpAny (model PySem.Challenge.rw_oy0371_01.row.prog w) (ktrTop dp un gd cn cs L a ccd cl outer) (call (.ref (nat_lit 856)) [.int n t, .int k u]) Q E s := by
  have N : News h₀ L s.heap [] := News.nil
  have hin := octs_in hn0 hn
  w_on
  w_strict (
    refine wpAny_call ?_
    k_dflt (refine' enterG [(Str.ofString "number", .int n t), (Str.ofString "k", .int k u)] ?k1 ?k2 ?k3 ?k4 ?k5 ?kA ?kF ?kK ?k6 ?k7 ?k8 ?k9 ?kB ?_ ?c2 ?c3 ?c4 ?c5; (case kA => exact rfl); (case kF => exact rfl); (case kK => assumption); (case k1 => k_asm); (case k2 => k_asm); (case k3 => k_asm); (case k4 => k_asm); (case k5 => k_asm); (case k6 => k_is); (case k7 => k_is); (case k8 => ktr_room); (case k9 => first | exact BindsTo.of_eq rfl | exact binds_K (by k_in) rfl (by k_is) rfl rfl rfl); (case c5 => decide); (case kB => exact locs rfl); (case c2 => exact rfl); (case c3 => exact rfl); (case c4 => exact rfl); k_whole; intro g' L' h' tk' FG' F' N' B' X' T' G'; (try dsimp only); (try (refine letA ?_; intro M' V' A')); (try k_fold))
    repeat' (first | (k_unfold; (try dsimp only)) | ((fail_if_success (with_reducible show wpAny _ _ (call (Value.type "bytes") _) _ _ _)); first | ((with_reducible show wpAny _ _ (call (Value.ref _) _ _) _ _ _); k_here; k_dflt (refine spec_b64 (by k_asm) (by k_asm) (by k_asm) (by k_asm) (by first | exact rfl | assumption) (by exact KBa.ints_make (by assumption)) (by exact (oct0 (by assumption)).1) (by exact (oct0 (by assumption)).2) (by exact (oct1 (by assumption)).1) (by exact (oct1 (by assumption)).2) (by exact (oct2 (by assumption)).1) (by exact (oct2 (by assumption)).2) (by ktr_room) (by ktr_units) ?_; k_whole); intro tk9 h9 x9 t9; (have F9 := Fr.keeps (by assumption) x9); (have N9 := News.grown (by assumption) x9); (try dsimp only); (try k_fold)) | walk1 | (dsimp only; walk1)))
    refine KBa.make_K (by assumption) (by assumption) rfl (News.isList (by assumption) (by k_mem)) (by l_ints) hin (by simp) ?_
    intro h6 t6 k6 F6 N6 _
    repeat' (first | (k_unfold; (try dsimp only)) | ((with_reducible show wpAny _ _ (call (Value.ref _) _ _) _ _ _); k_here; k_dflt (refine spec_b64 (by k_asm) (by k_asm) (by k_asm) (by k_asm) (by first | exact rfl | assumption) (by exact KBa.ints_make (by assumption)) (by exact (oct0 (by assumption)).1) (by exact (oct0 (by assumption)).2) (by exact (oct1 (by assumption)).1) (by exact (oct1 (by assumption)).2) (by exact (oct2 (by assumption)).1) (by exact (oct2 (by assumption)).2) (by ktr_room) (by ktr_units) ?_; k_whole); intro tk9 h9 x9 t9; (have F9 := Fr.keeps (by assumption) x9); (have N9 := News.grown (by assumption) x9); (try dsimp only); (try k_fold)) | walk1 | (dsimp only; walk1))
    have etr := trans_b64x (oct0 hin).1 (oct0 hin).2 (oct1 hin).1 (oct1 hin).2 (oct2 hin).1 (oct2 hin).2 (octs_sum (n := n))
    rw [etr]
    with_unfolding_all refine call_decode4 (alphN_lt _ (sgnI_lt n 0)) (alphN_lt _ (sgnI_lt n 1)) (alphN_lt _ (sgnI_lt n 2)) (alphN_lt _ (sgnI_lt n 3)) (fun t7 k7 => ?_)
    repeat' (first | (k_unfold; (try dsimp only)) | ((with_reducible show wpAny _ _ (call (Value.ref _) _ _) _ _ _); k_here; k_dflt (refine spec_b64 (by k_asm) (by k_asm) (by k_asm) (by k_asm) (by first | exact rfl | assumption) (by exact KBa.ints_make (by assumption)) (by exact (oct0 (by assumption)).1) (by exact (oct0 (by assumption)).2) (by exact (oct1 (by assumption)).1) (by exact (oct1 (by assumption)).2) (by exact (oct2 (by assumption)).1) (by exact (oct2 (by assumption)).2) (by ktr_room) (by ktr_units) ?_; k_whole); intro tk9 h9 x9 t9; (have F9 := Fr.keeps (by assumption) x9); (have N9 := News.grown (by assumption) x9); (try dsimp only); (try k_fold)) | walk1 | (dsimp only; walk1))
    have hsl := slice_signs hk0 hk3 (n := n)
    unfold alphN at hsl
    rw [hsl]
    exact hret _ _ (ext_of_sub G' (by assumption)) _)
end Mine
end

section -- E5
open PySem PySem.W PyProof.Rows PySem.Calls PySem.Spec
namespace Mine

local macro_rules | `(tactic| k_all) => `(tactic| assumption)
inductive BlkJ (lo hi : Int) (lD cH cL : Addr) (oH : Obj) (n : Nat) (news₁ : List (Addr × Obj)) : Prop
  | mk (dn : List (Int × Nat)) (vs : List Value) (cnt : Nat) (tups : List (Addr × Obj)) (lo' : Int) (tl : Tok) (oL' : Obj) (e : n = (hi - lo').toNat) (en : news₁ = (lD, listOf vs.toArray cnt) :: (cH, oH) :: (cL, oL') :: tups) (hd : oL'.data = .cell (some (.int lo' tl))) (hb : BlkAre tups vs dn) (hs : dn ++ blocksOf lo' hi = blocksOf lo hi) (hl : lo ≤ lo') (hz : (dn.length : Int) ≤ lo' - lo) (ht : ∀ p ∈ tups, lD < p.1)
theorem spec_blocks {w : World} {mean : ExcName → Option Value} {mg mb : Str → Option Value} {dp un : Nat} {gd : Option (List Code)} {cn : Str} {cs : Scope} {a : Addr} {ccd : Value} {cl : List (Str × Addr)} {outer : List Env} {A₀ : Around} {base h₀ : Heap} {L : Addr} {m : Str → Option Value} {s : Shared} {Q : Value → Shared → Prop} {E : Value → Shared → Prop} {lo hi : Int} {t u : Tok}
    (B : Below A₀ base outer h₀) (F : Fr h₀ L s.heap m) (X : (K0 w.params).In h₀) (T : Top topProg lo2 mean mg mb h₀) (hk : cs.kind = .function)
    (h1 : 0 ≤ lo) (h2 : hi ≤ lo + 1048576) (h3 : hi < 16777216) (hd : dp + 3 < recursionLimit) (hu : un + 30 < cLine)
    (hret : ∀ tk' h', Ext s.heap h' → ∀ l vs tups, h'.PlainList l (List.toArray vs) → s.heap.get? l = none → BlkAre tups vs (blocksOf lo hi) → (∀ p ∈ tups, h'.get? p.1 = some p.2 ∧ s.heap.get? p.1 = none ∧ p.1 ≠ l) → Q (.ref l) { s with heap := h', toks := tk' }) :
    wpAny (model PySem.Challenge.rw_oy0371_01.row.prog w) (ktrTop dp un gd cn cs L a ccd cl outer) (call (.ref (nat_lit 849)) [.int lo t, .int hi u]) Q E s := by
  have N : News h₀ L s.heap [] := News.nil
  w_on
  w_strict (
    refine wpAny_call ?_
    k_dflt (refine' enterCG (binds := [(Str.ofString "low", .int lo t), (Str.ofString "high", .int hi u)]) ?k1 ?k2 ?k3 ?k4 ?k5 ?kA ?kF ?kK ?k6 ?k7 ?k8 ?k9 ?kB ?kD ?_ ?c2 ?c3 ?c4; (case kA => exact rfl); (case kF => exact rfl); (case kK => assumption); (case k1 => k_asm); (case k2 => k_asm); (case k3 => k_asm); (case k4 => k_asm); (case k5 => k_asm); (case k6 => k_is); (case k7 => k_is); (case k8 => ktr_room); (case k9 => first | exact BindsTo.of_eq rfl | exact binds_K (by k_in) rfl (by k_is) rfl rfl rfl); (case kB => exact rfl); (case kD => decide +kernel); (case c2 => exact rfl); (case c3 => exact rfl); (case c4 => exact rfl); k_whole; intro g' L' h' tk' cells' FG' F' N' Y' B' X' T' l1 G'; (try k_lt l1); k_cells Y'; (try simp only [List.cons_append, List.nil_append] at N'); (try dsimp only); (try (refine letA ?_; intro M' V' A')); (try k_fold))
    repeat' (first | (k_unfold; (try dsimp only)) | ((fail_if_success (with_reducible show wpAny _ _ (exec (Stmt.While _ _ _ _) _) _ _ _)); first | ((with_reducible show wpAny _ _ (call (Value.builtin "list.append") _ _) _ _ _); k_here; (try dsimp only [List.cons_append, List.nil_append]); k_dflt (refine append_K (by k_asm) (by k_asm) (by k_upd) ?_ (by first | assumption | size_fits); k_whole); intro _ _ _; (try k_sweep)) | walk1 | (dsimp only; walk1)))
    rename_i oH oL dH dL lD hA lD1 hB mB9 F9 N9
    refine While_M (n₀ := (hi - lo).toNat) (BlkJ lo hi lD (L' + 1 + 1) (L' + 1) oH) F9 N9 ?_ ?_
    · exact ⟨[], [], 0, [], lo, t, oL, rfl, rfl, dL, .nil, rfl, Int.le_refl _, by simp, fun p hp => nomatch hp⟩
    · rintro n news₁ h₁ tk₁ F₁ N₁ ⟨dn, vs, cnt, tups, lo', tl, oL', hn, rfl, hdl, hb, hsum, hlo, hlen, htl⟩
      have cL : Heap.IsCell _ (L' + 1) (some (.int lo' tl)) := isCell_of N₁ (by k_mem) hdl
      have cH : Heap.IsCell _ (L' + 1 + 1) (some (.int hi u)) := isCell_of N₁ (by k_mem) dH
      repeat' (first | (k_unfold; (try dsimp only)) | ((fail_if_success (with_reducible show wpAny _ _ (eval (PySem.Expr.ListComp _ _ _ _) _) _ _ _)); first | ((with_reducible show wpAny _ _ (call (Value.builtin "list.append") _ _) _ _ _); k_here; (try dsimp only [List.cons_append, List.nil_append]); k_dflt (refine append_K (by k_asm) (by k_asm) (by k_upd) ?_ (by first | assumption | size_fits); k_whole); intro _ _ _; (try k_sweep)) | walk1 | (dsimp only; walk1)))
      · rename_i hlt
        refine' evalCompN (n := 4) rfl ?e1 ?e2 ?e3 ?hclos ?hcell ?hkind ?hnames (fun i ys more => more = [] ∧ IntsAre ys (kList lo' hi i)) ⟨rfl, .nil⟩ ?hlen ?hh ?hs
        case e1 => decide
        case e2 => decide
        case e3 => decide
        case hclos => with_unfolding_all rfl
        case hcell => decide
        case hkind => rfl
        case hnames => decide
        case hs => (intro _; rfl)
        case hlen =>
          intro i ys more hP
          rw [intsAre_len hP.2]
          exact kList_len _ _ _
        repeat' (first | (k_unfold; (try dsimp only)) | ((with_reducible show wpAny _ _ (call (Value.builtin "list.append") _ _) _ _ _); k_here; (try dsimp only [List.cons_append, List.nil_append]); k_dflt (refine append_K (by k_asm) (by k_asm) (by k_upd) ?_ (by first | assumption | size_fits); k_whole); intro _ _ _; (try k_sweep)) | walk1 | (dsimp only; walk1))
        rename_i hF8 hN8 hE8
        refine ⟨_, _, _, _, rfl, by assumption, ?turn, ?done⟩
        case turn =>
          intro C i t' ys more h₃ tk₃ m₃ E' hC hi4 hP hn3 hx3 hmore
          have cL3 := isCell_ext (isCell_ext cL hE8) hx3
          have cH3 := isCell_ext (isCell_ext cH hE8) hx3
          refine wpAny_assign_Name (wpAny_storeName_local (env := compEnvC _ _ C _) (by exact rfl) hn3 (fun h₄ hn₄ hs₄ => ?_) (by exact rfl))
          have hne : L' + 1 + 1 ≠ C := by
            obtain ⟨o, ho, -⟩ := isCell_ext cH hE8
            exact Nat.ne_of_lt (Nat.lt_of_lt_of_le (Heap.lt_size ho) hC)
          have hne2 : L' + 1 ≠ C := by
            obtain ⟨o, ho, -⟩ := isCell_ext cL hE8
            exact Nat.ne_of_lt (Nat.lt_of_lt_of_le (Heap.lt_size ho) hC)
          have cH4 := isCell_but cH3 hs₄.extBut hne
          have cL4 := isCell_but cL3 hs₄.extBut hne2
          refine wpAny_tests_one ?_
          refine BVal.use (x := kGood lo' hi i) ?_ ?_
          · refine BVal.and2 (BVal.eq (IVal.mod ?_ (IVal.pow IVal.const ?_ ?_ ?_ ?_) ?_) IVal.const) (BVal.le (IVal.add ?_ (IVal.pow IVal.const ?_ ?_ ?_ ?_)) ?_)
            · exact IVal.nmC (c := L' + 1) (by rfl) cL4 (by rfl) (by rfl) (by decide)
            · exact IVal.nmL hn₄ (by rfl) (by rfl) (by rfl) (by decide)
            · omega
            · omega
            · decide
            · exact Int.ne_of_gt (Int.pow_pos (by decide))
            · exact IVal.nmC (c := L' + 1) (by rfl) cL4 (by rfl) (by rfl) (by decide)
            · exact IVal.nmL hn₄ (by rfl) (by rfl) (by rfl) (by decide)
            · omega
            · omega
            · decide
            · exact IVal.nmC (c := L' + 1 + 1) (by rfl) cH4 (by rfl) (by rfl) (by decide)
          · intro tk5
            have hks := kList_succ lo' hi i
            by_cases hg : kGood lo' hi i = true
            · rw [if_pos hg]
              rw [if_pos hg] at hks
              refine IVal.use (v := (i : Int)) (IVal.nmL hn₄ (by rfl) (by rfl) (by rfl) (by decide)) (fun t6 tk6 => ?_)
              refine ⟨h₄, _, _, [], rfl, hn₄, fun b o hb ho => hs₄.extBut b o hb ho, (fun p hp => nomatch hp), by simp [hP.1], ?_⟩
              rw [hks]
              exact intsAre_append hP.2 (.cons _ _ .nil)
            · rw [if_neg hg]
              rw [if_neg hg] at hks
              refine ⟨h₄, _, _, [], rfl, hn₄, fun b o hb ho => hs₄.extBut b o hb ho, (fun p hp => nomatch hp), by simp [hP.1], ?_⟩
              rw [hks, List.append_nil]
              show IntsAre (ys ++ []) _
              rw [List.append_nil]
              exact hP.2
        case done =>
          intro D ys more h6 tk6 hx hDn hpl hP hmore
          have F6 := hF8.keeps hx
          have N6 := News.grown hN8 hx
          obtain ⟨ks, hks⟩ := kList_last hlt
          obtain ⟨us, tz, rfl⟩ := intsAre_last (hks ▸ hP.2)
          have hli := hpl.isList
          repeat' (first | (k_unfold; (try dsimp only)) | ((fail_if_success (with_reducible show wpAny _ _ (subscriptTail _ _ _ _) _ _ _)); first | ((with_reducible show wpAny _ _ (call (Value.builtin "list.append") _ _) _ _ _); k_here; (try dsimp only [List.cons_append, List.nil_append]); k_dflt (refine append_K (by k_asm) (by k_asm) (by k_upd) ?_ (by first | assumption | size_fits); k_whole); intro _ _ _; (try k_sweep)) | walk1 | (dsimp only; walk1)))
          refine item_lastL hli ?_
          have htl' : ∀ p ∈ tups, p.1 ≠ lD := fun p hp => Nat.ne_of_gt (htl p hp)
          have hz : vs.toArray.size ≤ sizeLine := by
            have := hb.len
            rw [sizeLine_eq]
            show vs.toArray.size ≤ _
            simp only [List.size_toArray]
            omega
          have hk3 := kOf_le lo' hi
          have hkf := kOf_fits hlt
          have hkp := pw_pos (kOf lo' hi)
          repeat' (first | (k_unfold; (try dsimp only)) | ((fail_if_success (with_reducible show wpAny _ _ (subscriptTail _ _ _ _) _ _ _)); first | ((with_reducible show wpAny _ _ (call (Value.builtin "list.append") _ _) _ _ _); k_here; (try dsimp only [List.cons_append, List.nil_append]); k_dflt (refine append_K (by k_asm) (by k_asm) (by k_upd) ?_ (by first | assumption | size_fits); k_whole); intro _ _ _; (try k_sweep)) | walk1 | (dsimp only; walk1)))
          refine item_lastL (isList_push (by assumption) (by k_mem)) ?_
          have htc : ∀ p ∈ tups, p.1 ≠ L' + 1 := fun p hp => Nat.ne_of_gt (Nat.lt_trans lD1.2 (htl p hp))
          repeat' (first | (k_unfold; (try dsimp only)) | ((with_reducible show wpAny _ _ (call (Value.builtin "list.append") _ _) _ _ _); k_here; (try dsimp only [List.cons_append, List.nil_append]); k_dflt (refine append_K (by k_asm) (by k_asm) (by k_upd) ?_ (by first | assumption | size_fits); k_whole); intro _ _ _; (try k_sweep)) | walk1 | (dsimp only; walk1))
          rename_i hZ oZ FZ NZ dZ
          have hl' := hb.len
          refine WhileStep.intro (n' := (hi - (lo' + 64 ^ kOf lo' hi)).toNat) FZ (fun p hp => NZ p (perm4 hp)) (by omega) ⟨rfl, dn ++ [(lo', kOf lo' hi)], _, _, _, lo' + 64 ^ kOf lo' hi, _, _, rfl, rfl, dZ, (hb.mono fun p hp => List.mem_cons_of_mem _ hp).snoc (.head _) ⟨rfl, rfl⟩, ?_, by omega, ?_, ?_⟩
          · rw [List.append_assoc, List.singleton_append, ← blocksOf_step hlt]; exact hsum
          · rw [List.length_append, List.length_singleton]; omega
          · intro p hp
            rcases List.mem_cons.mp hp with rfl | hp
            · show lD < _
              exact And.left (by assumption)
            · exact htl p hp
      · rename_i hnlt kF kN Tc kX
        rw [blocksOf_end hnlt, List.append_nil] at hsum
        subst hsum
        exact hret _ _ (ext_of_sub G' F₁) lD vs tups ⟨_, (N₁ _ (.head _)).1⟩ (none_base G' (N₁ _ (.head _)).2.2) hb (fun p hp =>
          have hp' := List.mem_cons_of_mem (lD, listOf vs.toArray cnt) (List.mem_cons_of_mem (L' + 1 + 1, oH) (List.mem_cons_of_mem (L' + 1, oL') hp))
          ⟨(N₁ p hp').1, none_base G' (N₁ p hp').2.2, Nat.ne_of_gt (htl p hp)⟩))
end Mine
end

section -- E6
open PySem PySem.W PyProof.Rows PySem.Calls PySem.Spec
namespace Mine

noncomputable def qm : Str := Str.ofString "'"
noncomputable def qmid (x : Str) : Str := Txt.replace x (Str.ofString "'") (Str.ofString "'\"'\"'")
open Classical in
noncomputable def quoteS (x : Str) : Str := if ∀ i, i < x.cps.size → safeC (x.cps.getD i 0) = true then x else (qm ++ qmid x) ++ qm
theorem o78_data (P : Params) : (o78 P).data = .seq (sreCode.map fun k => .int (Int.ofNat k) 0) 0 := by
  have e : sreCode.map (fun k => Value.int (Int.ofNat k) 0) = (sreCode.toList.map fun k => Value.int (Int.ofNat k) 0).toArray := Array.ext' (by rw [Array.toList_map])
  rw [e]
  rfl
theorem spec_quote {w : World} {mean : ExcName → Option Value} {mg mb : Str → Option Value} {dp un : Nat} {fr : Option (List Env)} {gd : Option (List Code)} {s : Shared} {Q : Value → Shared → Prop} {E : Value → Shared → Prop} {x : Str} {t : Tok}
    (X : (K0 w.params).In s.heap) (T : Top topProg lo2 mean mg mb s.heap) (hx : 0 < x.length) (hsz : x.length ≤ 100000) (hrl : (qmid x).length ≤ 1000000) (hd : dp + 3 < recursionLimit) (hu : un + 30 < cLine)
    (hret : ∀ tk' h', Ext s.heap h' → ∀ t', Q (.str (quoteS x) t') { s with heap := h', toks := tk' }) :
    wpAny (model PySem.Challenge.rw_oy0371_01.row.prog w) (anyTop dp un fr gd) (call (.ref (nat_lit 817)) [.str x t]) Q E s := by
  have X' := X
  have T' := T
  w_on
  w_strict (
    refine wpAny_call ?_
    k_dflt (refine' enterA [(Str.ofString "s", .str x t)] ?k3 ?k5 ?k6 ?k7 ?k8 ?k9 ?kB ?_ ?c2 ?c3 ?c4 ?c5; (case k3 => k_asm); (case k5 => k_asm); (case k6 => k_is); (case k7 => k_is); (case k8 => ktr_room); (case k9 => first | exact BindsTo.of_eq rfl | exact binds_K (by k_in) rfl (by k_is) rfl rfl rfl); (case c5 => decide); (case kB => exact locs rfl); (case c2 => exact rfl); (case c3 => exact rfl); (case c4 => exact rfl); k_whole; intro L' h' tk' F' eL; (have N' := (News.nil : News s.heap L' h' [])); (try dsimp only); (try (refine letA ?_; intro M' V' A')); (try k_fold))
    repeat' (first | (k_unfold; (try dsimp only)) | walk1 | (dsimp only; walk1))
    · refine callWith_S ?_
      repeat' (first | (k_unfold; (try dsimp only)) | walk1 | (dsimp only; walk1))
      · exact ⟨_, _, (Frag.In.keeps X' (Fr.keep F')) (nat_lit 810) _ (by k_is)⟩
      · have h79 := (Frag.In.keeps X' (Fr.keep F')) (nat_lit 79) (o79 w.params) (by k_is)
        have h78 := (Frag.In.keeps X' (Fr.keep F')) (nat_lit 78) (o78 w.params) (by k_is)
        have ho : SearchAt 810 _ := ⟨_, _, (Frag.In.keeps X' (Fr.keep F')) (nat_lit 810) _ (by k_is)⟩
        have hp : PatAt _ := ⟨⟨_, _, h79, rfl⟩, ⟨_, _, h78, o78_data _⟩⟩
        by_cases hall : ∀ i, i < x.cps.size → safeC (x.cps.getD i 0) = true
        · refine call_safe h79 rfl rfl ho hp hx hsz hall ?_
          repeat' (first | (k_unfold; (try dsimp only)) | walk1 | (dsimp only; walk1))
          have e := fun tk9 => hret tk9 h' (Fr.keep F') t
          unfold quoteS at e
          rw [if_pos hall] at e
          exact e _
        · obtain ⟨i, hi, hu9⟩ : ∃ i, i < x.cps.size ∧ safeC (x.cps.getD i 0) = false := by
            apply Classical.byContradiction
            intro hno
            exact hall fun i hi => by
              cases hc : safeC (x.cps.getD i 0) with
              | true => rfl
              | false => exact absurd ⟨i, hi, hc⟩ hno
          refine call_unsafe h79 rfl rfl ho hp hsz hi hu9 ?_
          intro a9 h9 tk9 x9
          have F9 := Fr.keeps F' x9
          have N9 := News.grown N' x9
          repeat' (first | (k_unfold; (try dsimp only)) | ((fail_if_success (with_reducible show wpAny _ _ (binaryOp _ _ _) _ _ _)); first | walk1 | (dsimp only; walk1)))
          refine PyProof.Rows.add_str (fun t7 tk7 => ?_) (by rw [sizeLine_eq]; show 1 + (qmid x).length ≤ _; omega)
          repeat' (first | (k_unfold; (try dsimp only)) | ((fail_if_success (with_reducible show wpAny _ _ (binaryOp _ _ _) _ _ _)); first | walk1 | (dsimp only; walk1)))
          refine PyProof.Rows.add_str (fun t8 tk8 => ?_) (by rw [sizeLine_eq, Str.length_append]; show (1 + (qmid x).length) + 1 ≤ _; omega)
          repeat' (first | (k_unfold; (try dsimp only)) | walk1 | (dsimp only; walk1))
          have e := fun tk9 => hret tk9 _ (Fr.keep (by assumption)) t8
          unfold quoteS at e
          rw [if_neg hall] at e
          exact e _
    · omega)
end Mine
end

section -- Plain5
open PySem PySem.W PyProof.Rows PySem.Calls PySem.Spec PyProof PySem.StrLaws
namespace Mine
theorem inQ_append (a b : List Nat) : inQ (a ++ b) = inQ a ++ inQ b := by simp [inQ]
theorem inQ_free : ∀ l : List Nat, 39 ∉ l → inQ l = l
  | [], _ => rfl
  | c :: l, h => by
    have hc : c ≠ 39 := fun e => h (by rw [e]; exact List.mem_cons_self)
    rw [inQ_cons, inQ_free l (fun hm => h (.tail _ hm)), if_neg hc]
    rfl
theorem inQ_join : ∀ ps : List Str, (∀ p ∈ ps, 39 ∉ p.cps.toList) → inQ (Str.join ⟨#[39]⟩ ps).cps.toList = (Str.join (Str.ofString "'\"'\"'") ps).cps.toList
  | [], _ => rfl
  | [p], h => inQ_free _ (h p (.head _))
  | p :: q :: r, h => by
    have ih := inQ_join (q :: r) fun p hp => h p (.tail _ hp)
    show inQ ((p ++ (⟨#[39]⟩ : Str) ++ Str.join ⟨#[39]⟩ (q :: r)).cps.toList) = (p ++ Str.ofString "'\"'\"'" ++ Str.join (Str.ofString "'\"'\"'") (q :: r)).cps.toList
    show inQ (((p.cps ++ #[39]) ++ (Str.join ⟨#[39]⟩ (q :: r)).cps).toList) = ((p.cps ++ (Str.ofString "'\"'\"'").cps) ++ (Str.join (Str.ofString "'\"'\"'") (q :: r)).cps).toList
    rw [Array.toList_append, Array.toList_append, inQ_append, inQ_append, inQ_free _ (h p (.head _)), ih, Array.toList_append, Array.toList_append]
    rfl
theorem qmid_text (x : Str) : (qmid x).cps.toList = inQ x.cps.toList := by
  have h := inQ_join (Txt.split x ⟨#[39]⟩) fun p hp => split_free x 39 p hp
  rw [join_split] at h
  rw [h]
  unfold qmid
  rw [show Str.ofString "'" = ⟨#[39]⟩ from rfl, replace_one]
theorem quoteS_text (x : Str) : (quoteS x).cps.toList = quoteL safeC x.cps.toList := by
  have hiff : (∀ i, i < x.cps.size → safeC (x.cps.getD i 0) = true) ↔ x.cps.toList.all safeC = true := by
    rw [List.all_eq_true]
    constructor
    · intro h c hc
      obtain ⟨i, hi, e⟩ := List.getElem_of_mem hc
      have hi' : i < x.cps.size := by simpa using hi
      have := h i hi'
      rw [Array.getD_eq_getD_getElem?, Array.getElem?_eq_getElem hi'] at this
      rw [← e, Array.getElem_toList]
      exact this
    · intro h i hi
      rw [Array.getD_eq_getD_getElem?, Array.getElem?_eq_getElem hi]
      exact h _ (by simp)
  unfold quoteS quoteL
  by_cases hc : x.cps.toList.all safeC = true
  · rw [if_pos hc, if_pos (hiff.mpr hc)]
  · rw [if_neg hc, if_neg (fun h => hc (hiff.mp h))]
    show ((qm.cps ++ (qmid x).cps) ++ qm.cps).toList = _
    rw [Array.toList_append, Array.toList_append, qmid_text]
    rfl
theorem joinL_jn (p : Nat → Bool) : ∀ ws : List (List Nat), joinL p ws = jn 32 (ws.map (quoteL p))
  | [] => rfl
  | [x] => rfl
  | x :: y :: ws => by
    show quoteL p x ++ 32 :: joinL p (y :: ws) = quoteL p x ++ 32 :: jn 32 (quoteL p y :: ws.map (quoteL p))
    rw [joinL_jn p (y :: ws)]
    rfl
theorem joined_text (xs : List Str) : (Txt.join (Str.ofString " ") (xs.map quoteS)).cps.toList = joinL safeC (xs.map (·.cps.toList)) := by
  rw [txt_join, joinL_jn, show Str.ofString " " = ⟨#[32]⟩ from rfl, jn_join, List.map_map, List.map_map]
  congr 1
  exact List.map_congr_left fun x _ => quoteS_text x
theorem safe_plain : ∀ c : Nat, safeC c = true → lexBad c = false ∧ c ≠ 32 ∧ c ≠ 39 ∧ c ≠ 34 := by
  have key : ∀ c ∈ [92, 9, 10, 13, 32, 39, 34], safeC c = false := by decide +kernel
  intro c h
  have hn : ∀ d ∈ [92, 9, 10, 13, 32, 39, 34], c ≠ d := fun d hd e => by rw [e, key d hd] at h; cases h
  refine ⟨?_, hn 32 (by decide), hn 39 (by decide), hn 34 (by decide)⟩
  unfold lexBad
  have h1 := hn 92 (by decide)
  have h2 := hn 9 (by decide)
  have h3 := hn 10 (by decide)
  have h4 := hn 13 (by decide)
  simp [h1, h2, h3, h4]
theorem reads_back {xs : List Str} (h : ∀ x ∈ xs, x.cps.toList ≠ [] ∧ ∀ c ∈ x.cps.toList, lexBad c = false) :
    LexTo (some .sp) (Txt.join (Str.ofString " ") (xs.map quoteS)).cps.toList (xs.map (·.cps.toList)) := by
  rw [joined_text]
  refine lex_join safe_plain fun x hx => ?_
  obtain ⟨y, hy, rfl⟩ := List.mem_map.mp hx
  exact h y hy
theorem mkS_map (xs : List Str) : (xs.map (·.cps.toList)).map mkS = xs := by
  rw [List.map_map]
  conv => rhs; rw [← List.map_id xs]
  exact List.map_congr_left fun x _ => (str_eta x).symm
end Mine
end

section -- Plain6
open PySem PySem.W PyProof.Rows PySem.Calls PySem.Spec PyProof PySem.StrLaws
namespace Mine
noncomputable def jnT (c : Nat) : List (List Nat) → List Nat
  | [] => []
  | p :: r => p ++ c :: jnT c r
theorem jn_T (c : Nat) : ∀ A : List (List Nat), A ≠ [] → jn c A ++ [c] = jnT c A
  | [], h => absurd rfl h
  | [p], _ => rfl
  | p :: q :: r, _ => by
    show (p ++ c :: jn c (q :: r)) ++ [c] = p ++ c :: jnT c (q :: r)
    rw [← jn_T c (q :: r) (by simp), List.append_assoc]
    rfl
theorem jnT_pre {c : Nat} {t : List Nat} (ht : c ∉ t) : ∀ A B : List (List Nat), (∀ p ∈ A, c ∉ p) → (∀ p ∈ B, c ∉ p) → (jnT c A <+: jnT c B ++ t ↔ A <+: B)
  | [], B, _, _ => ⟨fun _ => List.nil_prefix, fun _ => List.nil_prefix⟩
  | a :: A, [], hA, _ => by
    constructor
    · rintro ⟨z, hz⟩
      refine absurd ?_ ht
      have : c ∈ (jnT c (a :: A) ++ z) := by
        show c ∈ (a ++ c :: jnT c A) ++ z
        simp
      rw [hz] at this
      exact this
    · rintro ⟨z, hz⟩
      cases hz
  | a :: A, b :: B, hA, hB => by
    have ih := jnT_pre ht A B (fun p hp => hA p (.tail _ hp)) fun p hp => hB p (.tail _ hp)
    constructor
    · rintro ⟨z, hz⟩
      have e : a ++ c :: (jnT c A ++ z) = b ++ c :: (jnT c B ++ t) := by
        have h2 : (a ++ c :: jnT c A) ++ z = (b ++ c :: jnT c B) ++ t := hz
        simpa using h2
      obtain ⟨e1, e2⟩ := cut_one (hA a (.head _)) (hB b (.head _)) e
      obtain ⟨y, hy⟩ := ih.mp ⟨z, e2⟩
      exact ⟨y, by rw [e1, ← hy]; rfl⟩
    · rintro ⟨z, hz⟩
      simp only [List.cons_append, List.cons.injEq] at hz
      obtain ⟨y, hy⟩ := ih.mpr ⟨z, hz.2⟩
      refine ⟨y, ?_⟩
      show (a ++ c :: jnT c A) ++ y = (b ++ c :: jnT c B) ++ t
      rw [hz.1]
      simp [hy]
theorem pre_snoc {c : Nat} {X Y : List Nat} : (X ++ [c] <+: Y ++ [c]) ↔ (X = Y ∨ X ++ [c] <+: Y) := by
  constructor
  · intro h
    obtain ⟨z, hz⟩ := h
    rcases List.eq_nil_or_concat z with rfl | ⟨z', d, rfl⟩
    · left
      simpa using hz
    · right
      rw [List.concat_eq_append, ← List.append_assoc] at hz
      exact ⟨z', (List.append_inj' hz rfl).1⟩
  · rintro (rfl | ⟨z, hz⟩)
    · exact List.prefix_refl _
    · exact ⟨z ++ [c], by rw [← List.append_assoc, hz]⟩
theorem starts_iff (x y : Str) : Txt.startswith x y = true ↔ y.cps.toList <+: x.cps.toList := by
  unfold Txt.startswith
  rw [Bool.and_eq_true, decide_eq_true_iff, subAt_eq, beq_iff_eq, List.drop_zero]
  have ly : y.cps.toList.length = y.length := Array.length_toList
  have lx : x.cps.toList.length = x.length := Array.length_toList
  constructor
  · rintro ⟨_, h⟩
    rw [List.prefix_iff_eq_take, ly]
    exact h.symm
  · intro h
    refine ⟨by have := h.length_le; omega, ?_⟩
    rw [List.prefix_iff_eq_take, ly] at h
    exact h.symm
noncomputable abbrev sg (p : List Nat) : List (List Nat) := p.map fun y => [y]
theorem pthL_T (p : List Nat) : pthL p ++ [47] = 47 :: jnT 47 (sg p) := by
  induction p with
  | nil => rfl
  | cons y r ih =>
    show 47 :: y :: (pthL r ++ [47]) = 47 :: ([y] ++ 47 :: jnT 47 (sg r))
    rw [ih]
    rfl
noncomputable abbrev dotS (p : List Nat) : Str := mkS (jn 46 (sg p))
noncomputable abbrev dirS (p : List Nat) : Str := mkS (pthL p)
theorem mkS_list (l : List Nat) : (mkS l).cps.toList = l := by simp [mkS]
theorem mod_iff {p : List Nat} {cs : List (List Nat)} {m : Str} (hp : p ≠ []) (hg : ∀ y ∈ p, y ≠ 46) (hc : cs ≠ []) (hcs : ∀ q ∈ cs, 46 ∉ q) (hm : m.cps.toList = jn 46 cs) :
    (m = dotS p ∨ Txt.startswith m (dotS p ++ Str.ofString ".") = true) ↔ sg p <+: cs := by
  have hA : ∀ q ∈ sg p, 46 ∉ q := fun q hq => by
    obtain ⟨y, hy, rfl⟩ := List.mem_map.mp hq
    simpa using fun e => hg y hy e.symm
  have hn : sg p ≠ [] := by simpa [sg] using hp
  rw [starts_iff, hm]
  have e1 : (dotS p ++ Str.ofString ".").cps.toList = jn 46 (sg p) ++ [46] := by
    show ((mkS (jn 46 (sg p))).cps ++ #[46]).toList = _
    rw [Array.toList_append, mkS_list]
  have e2 : m = dotS p ↔ jn 46 (sg p) = jn 46 cs := by
    constructor
    · intro e
      rw [e, mkS_list] at hm
      exact hm
    · intro e
      refine str_ext ?_
      rw [hm, mkS_list, e]
  have key := jnT_pre (t := []) (c := 46) (by simp) (sg p) cs hA hcs
  rw [e1, e2, ← pre_snoc, jn_T 46 _ hn, jn_T 46 _ hc, ← key, List.append_nil]
theorem dir_iff {p : List Nat} {cs : List (List Nat)} {f : Str} (hg : ∀ y ∈ p, y ≠ 47) (hc : cs ≠ []) (hcs : ∀ q ∈ cs, 47 ∉ q) (hf : f.cps.toList = 47 :: (jn 47 cs ++ [47, 109, 46, 112, 121])) :
    Txt.startswith f (dirS p ++ Str.ofString "/") = true ↔ sg p <+: cs := by
  have hA : ∀ q ∈ sg p, 47 ∉ q := fun q hq => by
    obtain ⟨y, hy, rfl⟩ := List.mem_map.mp hq
    simpa using fun e => hg y hy e.symm
  rw [starts_iff, hf]
  have e1 : (dirS p ++ Str.ofString "/").cps.toList = 47 :: jnT 47 (sg p) := by
    show ((mkS (pthL p)).cps ++ #[47]).toList = _
    rw [Array.toList_append, mkS_list, ← pthL_T]
  have e2 : 47 :: (jn 47 cs ++ [47, 109, 46, 112, 121]) = 47 :: (jnT 47 cs ++ [109, 46, 112, 121]) := by
    rw [← jn_T 47 _ hc]
    simp
  rw [e1, e2, List.cons_prefix_cons]
  simp only [true_and]
  exact jnT_pre (by decide) _ _ hA hcs
end Mine
end

section -- Plain7
open PySem PySem.W PyProof.Rows PySem.Calls PySem.Spec
namespace Mine
theorem alphN_inj : ∀ i < 64, ∀ j < 64, alphN i = alphN j → i = j := by decide +kernel
theorem alphN_ok : ∀ i < 64, alphN i ≠ 46 ∧ alphN i ≠ 47 ∧ alphN i ≠ 45 ∧ alphN i ≠ 60 ∧ alphN i ≠ 92 ∧ alphN i ≠ 9 ∧ alphN i ≠ 10 ∧ alphN i ≠ 13 := by decide +kernel
theorem fdiv_pos (n d : Int) (hd : 0 < d) : n.fdiv d = n / d := Int.fdiv_eq_ediv_of_nonneg _ (Int.le_of_lt hd)
theorem sgn_at {n : Int} (j : Nat) (hj : j ≤ 3) : ((sgnI n j : Nat) : Int) = n / 64 ^ (3 - j) % 64 := by
  unfold sgnI
  rw [Int.fmod_eq_emod_of_nonneg _ (by decide), fdiv_pos _ _ (Int.pow_pos (by decide)), Int.toNat_of_nonneg (Int.emod_nonneg _ (by decide))]
  congr 3
  omega
theorem codes_take (n : Int) {c d : Nat} (h : c ≤ d) : codes n c = (codes n d).take c := by
  unfold codes
  rw [← List.map_take, List.take_range, Nat.min_eq_left h]
theorem codes_len (n : Int) (c : Nat) : (codes n c).length = c := by simp [codes]
theorem codes_get (n : Int) {c j : Nat} (h : j < c) : (codes n c)[j]? = some (alphN (sgnI n j)) := by simp [codes, h]
theorem codes_pre {b n : Int} {c : Nat} (hc : c ≤ 4) : codes b c <+: codes n 4 ↔ ∀ j < c, sgnI b j = sgnI n j := by
  rw [List.prefix_iff_eq_take, codes_len, ← codes_take n hc]
  constructor
  · intro h j hj
    have h1 := codes_get b hj
    rw [h, codes_get n hj] at h1
    exact (alphN_inj _ (sgnI_lt n j) _ (sgnI_lt b j) (Option.some.inj h1)).symm
  · intro h
    unfold codes
    refine List.map_congr_left fun j hj => ?_
    rw [h j (List.mem_range.mp hj)]
theorem eq64 {x y : Int} (h : x % 64 = y % 64) (h' : x / 64 = y / 64) : x = y := by omega
theorem top64 {b : Int} (h0 : 0 ≤ b) (h : b < 16777216) : b / 64 / 64 / 64 % 64 = b / 64 / 64 / 64 := by
  have a1 : 0 ≤ b / 64 ∧ b / 64 < 262144 := by omega
  have a2 : 0 ≤ b / 64 / 64 ∧ b / 64 / 64 < 4096 := by generalize b / 64 = c at *; omega
  generalize b / 64 / 64 = c at *
  omega
theorem dvd2 (z : Int) {a b : Int} (ha : 0 ≤ a) : z / (a * b) = z / a / b := by rw [Int.ediv_ediv, if_neg fun h => absurd h.1 (Int.not_lt.mpr ha), Int.sub_zero]
theorem dv2 (z : Int) : z / 4096 = z / 64 / 64 := dvd2 z (a := 64) (b := 64) (by decide)
theorem dv3 (z : Int) : z / 262144 = z / 64 / 64 / 64 := by
  rw [← dv2]
  exact dvd2 z (a := 64) (b := 4096) (by decide)
theorem sgn_fs (z : Int) : ((sgnI z 0 : Nat) : Int) = z / 64 / 64 / 64 % 64 ∧ ((sgnI z 1 : Nat) : Int) = z / 64 / 64 % 64 ∧ ((sgnI z 2 : Nat) : Int) = z / 64 % 64 ∧ ((sgnI z 3 : Nat) : Int) = z % 64 := by
  have a0 := sgn_at (n := z) 0 (by decide)
  have a1 := sgn_at (n := z) 1 (by decide)
  have a2 := sgn_at (n := z) 2 (by decide)
  have a3 := sgn_at (n := z) 3 (by decide)
  rw [show 3 - 0 = 3 from rfl, show (64 : Int) ^ 3 = 262144 by decide, dv3] at a0
  rw [show 3 - 1 = 2 from rfl, show (64 : Int) ^ 2 = 4096 by decide, dv2] at a1
  rw [show 3 - 2 = 1 from rfl, show (64 : Int) ^ 1 = 64 by decide] at a2
  rw [show 3 - 3 = 0 from rfl, show (64 : Int) ^ 0 = 1 by decide, Int.ediv_one] at a3
  exact ⟨a0, a1, a2, a3⟩
theorem figs {b n : Int} {k : Nat} (hk : k ≤ 3) (hb0 : 0 ≤ b) (hb : b < 16777216) (hn0 : 0 ≤ n) (hn : n < 16777216) : (∀ j < 4 - k, sgnI b j = sgnI n j) ↔ b / 64 ^ k = n / 64 ^ k := by
  obtain ⟨a0, a1, a2, a3⟩ := sgn_fs b
  obtain ⟨c0, c1, c2, c3⟩ := sgn_fs n
  have tb := top64 hb0 hb
  have tn := top64 hn0 hn
  have p0 : (64 : Int) ^ 0 = 1 := by decide
  have p1 : (64 : Int) ^ 1 = 64 := by decide
  have p2 : (64 : Int) ^ 2 = 4096 := by decide
  have p3 : (64 : Int) ^ 3 = 262144 := by decide
  have key : ∀ j, sgnI b j = sgnI n j ↔ ((sgnI b j : Nat) : Int) = ((sgnI n j : Nat) : Int) := fun j => Int.ofNat_inj.symm
  have k0 : sgnI b 0 = sgnI n 0 ↔ b / 64 / 64 / 64 = n / 64 / 64 / 64 := by rw [key, a0, c0, tb, tn]
  have k1 : sgnI b 1 = sgnI n 1 ↔ b / 64 / 64 % 64 = n / 64 / 64 % 64 := by rw [key, a1, c1]
  have k2 : sgnI b 2 = sgnI n 2 ↔ b / 64 % 64 = n / 64 % 64 := by rw [key, a2, c2]
  have k3 : sgnI b 3 = sgnI n 3 ↔ b % 64 = n % 64 := by rw [key, a3, c3]
  clear a0 a1 a2 a3 c0 c1 c2 c3 tb tn key
  have i3 : b / 64 / 64 / 64 = n / 64 / 64 / 64 ↔ ∀ j < 1, sgnI b j = sgnI n j :=
    ⟨fun h j hj => by obtain rfl : j = 0 := Nat.lt_one_iff.mp hj; exact k0.mpr h, fun h => k0.mp (h 0 (by decide))⟩
  have i2 : b / 64 / 64 = n / 64 / 64 ↔ ∀ j < 2, sgnI b j = sgnI n j := by
    constructor
    · intro h j hj
      match j, hj with
      | 0, _ => exact k0.mpr (congrArg (· / 64) h)
      | 1, _ => exact k1.mpr (congrArg (· % 64) h)
    · exact fun h => eq64 (k1.mp (h 1 (by decide))) (k0.mp (h 0 (by decide)))
  have i1 : b / 64 = n / 64 ↔ ∀ j < 3, sgnI b j = sgnI n j := by
    constructor
    · intro h j hj
      match j, hj with
      | 0, _ => exact i2.mp (congrArg (· / 64) h) 0 (by decide)
      | 1, _ => exact i2.mp (congrArg (· / 64) h) 1 (by decide)
      | 2, _ => exact k2.mpr (congrArg (· % 64) h)
    · exact fun h => eq64 (k2.mp (h 2 (by decide))) (i2.mpr fun j hj => h j (Nat.lt_succ_of_lt hj))
  have i0 : b = n ↔ ∀ j < 4, sgnI b j = sgnI n j := by
    constructor
    · intro h j hj
      rw [h]
    · exact fun h => eq64 (k3.mp (h 3 (by decide))) (i1.mpr fun j hj => h j (Nat.lt_succ_of_lt hj))
  match k, hk with
  | 0, _ => rw [p0, Int.ediv_one, Int.ediv_one]; exact i0.symm
  | 1, _ => rw [p1]; exact i1.symm
  | 2, _ => rw [p2, dv2, dv2]; exact i2.symm
  | 3, _ => rw [p3, dv3, dv3]; exact i3.symm
theorem pw0 : (64 : Int) ^ 0 = 1 := by decide
theorem pw1 : (64 : Int) ^ 1 = 64 := by decide
theorem pw2 : (64 : Int) ^ 2 = 4096 := by decide
theorem pw3 : (64 : Int) ^ 3 = 262144 := by decide
theorem kOf_cases (lo hi : Int) : (kOf lo hi = 3 ∧ lo % 262144 = 0 ∧ lo + 262144 ≤ hi) ∨ (kOf lo hi = 2 ∧ lo % 4096 = 0 ∧ lo + 4096 ≤ hi ∧ ¬(lo % 262144 = 0 ∧ lo + 262144 ≤ hi)) ∨
    (kOf lo hi = 1 ∧ lo % 64 = 0 ∧ lo + 64 ≤ hi ∧ ¬(lo % 4096 = 0 ∧ lo + 4096 ≤ hi) ∧ ¬(lo % 262144 = 0 ∧ lo + 262144 ≤ hi)) ∨
    (kOf lo hi = 0 ∧ ¬(lo % 64 = 0 ∧ lo + 64 ≤ hi) ∧ ¬(lo % 4096 = 0 ∧ lo + 4096 ≤ hi) ∧ ¬(lo % 262144 = 0 ∧ lo + 262144 ≤ hi)) := by
  unfold kOf
  rw [Int.fmod_eq_emod_of_nonneg _ (by decide), Int.fmod_eq_emod_of_nonneg _ (by decide), Int.fmod_eq_emod_of_nonneg _ (by decide)]
  by_cases h3 : lo % 262144 = 0 ∧ lo + 262144 ≤ hi
  · rw [if_pos h3]; exact .inl ⟨rfl, h3⟩
  · rw [if_neg h3]
    by_cases h2 : lo % 4096 = 0 ∧ lo + 4096 ≤ hi
    · rw [if_pos h2]; exact .inr (.inl ⟨rfl, h2.1, h2.2, h3⟩)
    · rw [if_neg h2]
      by_cases h1 : lo % 64 = 0 ∧ lo + 64 ≤ hi
      · rw [if_pos h1]; exact .inr (.inr (.inl ⟨rfl, h1.1, h1.2, h2, h3⟩))
      · rw [if_neg h1]; exact .inr (.inr (.inr ⟨rfl, h1, h2, h3⟩))
theorem kOf_dvd (lo hi : Int) : lo % 64 ^ kOf lo hi = 0 := by
  rcases kOf_cases lo hi with ⟨e, h, _⟩ | ⟨e, h, _⟩ | ⟨e, h, _⟩ | ⟨e, _⟩ <;> rw [e]
  · rw [pw3]; exact h
  · rw [pw2]; exact h
  · rw [pw1]; exact h
  · rw [pw0]; omega
theorem blk_facts {hi : Int} : ∀ (N : Nat) (lo : Int), (hi - lo).toNat ≤ N → ∀ q ∈ blocksOf lo hi, lo ≤ q.1 ∧ q.1 + 64 ^ q.2 ≤ hi ∧ q.1 % 64 ^ q.2 = 0 ∧ q.2 ≤ 3 := by
  intro N
  induction N with
  | zero =>
    intro lo hN q hq
    rw [blocksOf_end (by omega)] at hq
    cases hq
  | succ N ih =>
    intro lo hN q hq
    by_cases hlt : lo < hi
    · rw [blocksOf_step hlt] at hq
      have hp := pw_pos (kOf lo hi)
      rcases List.mem_cons.mp hq with rfl | hq
      · exact ⟨Int.le_refl _, kOf_fits hlt, kOf_dvd lo hi, kOf_le lo hi⟩
      · obtain ⟨h1, h2⟩ := ih (lo + 64 ^ kOf lo hi) (by omega) q hq
        exact ⟨by omega, h2⟩
    · rw [blocksOf_end hlt] at hq
      cases hq
theorem blk_cover {hi n : Int} : ∀ (N : Nat) (lo : Int), (hi - lo).toNat ≤ N → lo ≤ n → n < hi → ∃ q ∈ blocksOf lo hi, q.1 ≤ n ∧ n < q.1 + 64 ^ q.2 := by
  intro N
  induction N with
  | zero => intro lo hN h1 h2; omega
  | succ N ih =>
    intro lo hN h1 h2
    have hlt : lo < hi := by omega
    rw [blocksOf_step hlt]
    have hp := pw_pos (kOf lo hi)
    by_cases hn : n < lo + 64 ^ kOf lo hi
    · exact ⟨_, .head _, h1, hn⟩
    · obtain ⟨q, hq, r⟩ := ih (lo + 64 ^ kOf lo hi) (by omega) (by omega) h2
      exact ⟨q, .tail _ hq, r⟩
theorem blk_uniq {hi n : Int} : ∀ (N : Nat) (lo : Int), (hi - lo).toNat ≤ N → ∀ q ∈ blocksOf lo hi, ∀ q' ∈ blocksOf lo hi, q.1 ≤ n → n < q.1 + 64 ^ q.2 → q'.1 ≤ n → n < q'.1 + 64 ^ q'.2 → q = q' := by
  intro N
  induction N with
  | zero =>
    intro lo hN q hq
    rw [blocksOf_end (by omega)] at hq
    cases hq
  | succ N ih =>
    intro lo hN q hq q' hq' h1 h2 h3 h4
    by_cases hlt : lo < hi
    · rw [blocksOf_step hlt] at hq hq'
      have hp := pw_pos (kOf lo hi)
      have later : ∀ z ∈ blocksOf (lo + 64 ^ kOf lo hi) hi, lo + 64 ^ kOf lo hi ≤ z.1 := fun z hz => (blk_facts _ _ (Nat.le_refl _) z hz).1
      rcases List.mem_cons.mp hq with rfl | hq <;> rcases List.mem_cons.mp hq' with rfl | hq'
      · rfl
      · have := later q' hq'
        dsimp only at h2
        omega
      · have := later q hq
        dsimp only at h4
        omega
      · exact ih (lo + 64 ^ kOf lo hi) (by omega) q hq q' hq' h1 h2 h3 h4
    · rw [blocksOf_end hlt] at hq
      cases hq
end Mine
end

section -- Comp7
open PySem PySem.W PyProof.Rows PySem.Calls PySem.Spec
namespace Mine
section
variable {prog : Program} {w : World} {A : Around} {E : Value → Shared → Prop} {s : Shared}
theorem item_natL {value slice : PySem.Expr} {l : Addr} {vi : List Value} {v : Value} {i : Nat} {u : Tok} {Q : Value → Shared → Prop} (hl : s.heap.IsList l vi.toArray) (hv : vi[i]? = some v) (hi : i < 100000) (h : Q v s)
    (hs : subscripted slice false (.ref l) (.int (i : Int) u) = operate [.ref l, .int (i : Int) u] (getItem (.ref l) (.int (i : Int) u)) := by with_unfolding_all rfl) :
    wpAny (model prog w) A (subscriptTail value slice (.ref l) (.int (i : Int) u)) Q E s :=
  tail_any hl.typeIs slot_list_getitem.lookup (wpAny_getItem_list hl (by omega) (by omega) (by simpa using hv) h) hs
theorem BVal.ne {env : Env} {l r : PySem.Expr} {a b : Int} {pos : Pos} (hl : IVal prog w A env s l a) (hr : IVal prog w A env s r b) (hm : behindInMarks .NotEq r = false := by with_unfolding_all rfl) : BVal prog w A env s (.Compare l [.NotEq] [r] pos) (a != b) := fun tk Q E h =>
  wpAny_isTrue_Compare1 (hl tk _ E fun t tk' => hr tk' _ E fun u tk'' => PyProof.Rows.ne_int (wpAny_truthy_bool (h _))) hm
theorem allNe_all {d : Nat} {l : List (Addr × Obj)} (h : ∀ p ∈ l, p.1 ≠ d) : AllNe d l := by
  induction l with
  | nil => trivial
  | cons p q ih => exact ⟨h p (.head _), ih fun z hz => h z (.tail _ hz)⟩
theorem news_in {h₀ h h' : Heap} {L D : Addr} {m : Str → Option Value} {led' : List (Addr × Obj)} {o : Obj} (F : Fr h₀ L h m) (N' : News h₀ L h' led') (f : h.get? D = none) (q : h'.get? D = some o) : News h₀ L h' ((D, o) :: led') := fun p hp => by
  rcases List.mem_cons.mp hp with rfl | hp
  · refine ⟨q, fun (z : D = L) => ?_, ?_⟩
    · obtain ⟨o', es, ep, ho, _⟩ := F.ns
      rw [z, ho] at f; cases f
    · cases z : h₀.get? D with
      | none => rfl
      | some o' => have := F.keep _ _ z; rw [f] at this; cases this
  · exact N' p hp
theorem signs_codes (n : Int) (c : Nat) : PyProof.Rows.signs (signsStr n c) = (codes n c).map sgl := rfl
theorem join_codes {sep c : Nat} {sepS : Str} {n : Int} {t u : Tok} {Q : Value → Shared → Prop} (hsep : sepS = ⟨#[sep]⟩) (hh : A.handled = none) (hc : c ≤ 4)
    (hq : ∀ h' k t', Ext s.heap h' → Q (.str (mkS (jn sep (sg (codes n c)))) t') { s with heap := h', toks := k }) :
    wpAny (model prog w) A (call (.builtin "str.join") [.str sepS t, .str (signsStr n c) u]) Q E s := by
  subst hsep
  have hsum : ∀ l : List Nat, ((l.map sgl).map (·.length)).sum = l.length := fun l => by
    induction l with
    | nil => rfl
    | cons a r ih => rw [List.map_cons, List.map_cons, List.sum_cons, ih]; show 1 + r.length = r.length + 1; omega
  refine SC.joinStr hh (PyProof.Rows.joinOk_of_weight (by rw [signs_codes, hsum, List.length_map, codes_len]; omega) (by show 1 ≤ 16; decide)) fun h' k t' x => ?_
  have e : Txt.join ⟨#[sep]⟩ (PyProof.Rows.signs (signsStr n c)) = mkS (jn sep (sg (codes n c))) := by
    refine str_ext ?_
    rw [txt_join, jn_join, mkS_list, signs_codes, List.map_map]
    rfl
  rw [e]
  exact hq h' k t' x
theorem frontOf_at {bs : List (Int × Nat)} {i : Nat} {b : Int × Nat} (h : bs[i]? = some b) : bs.getD i (0, 0) = b := by
  rw [List.getD_eq_getElem?_getD, h]; rfl
theorem slash_dir {p : List Nat} (hp : p ≠ []) : Str.ofString "/" ++ mkS (jn 47 (sg p)) = dirS p := by
  cases p with
  | nil => exact absurd rfl hp
  | cons a r =>
    refine str_ext ?_
    show (#[47] ++ (mkS (jn 47 (sg (a :: r)))).cps).toList = (mkS (pthL (a :: r))).cps.toList
    rw [Array.toList_append, mkS_list, mkS_list, pthL_jn]
    rfl
theorem jn_len (c : Nat) : ∀ A : List (List Nat), (jn c A).length ≤ (A.map (·.length)).sum + A.length
  | [] => Nat.le_refl _
  | [p] => by simp [jn]
  | p :: q :: r => by
    have ih := jn_len c (q :: r)
    show (p ++ c :: jn c (q :: r)).length ≤ _
    simp only [List.length_append, List.length_cons, List.map_cons, List.sum_cons] at *
    omega
theorem sg_sum : ∀ p : List Nat, ((sg p).map (·.length)).sum = p.length
  | [] => rfl
  | a :: r => by
    show 1 + ((sg r).map (·.length)).sum = r.length + 1
    rw [sg_sum r]; omega
theorem dot_len (p : List Nat) : (mkS (jn c (sg p))).length ≤ 2 * p.length := by
  have h := jn_len c (sg p)
  rw [sg_sum] at h
  simp only [List.length_map] at h
  show (jn c (sg p)).toArray.size ≤ _
  simp only [List.size_toArray]
  omega
end
end Mine
end

section -- Plain9
open PySem PySem.W PyProof.Rows PySem.Calls PySem.Spec
namespace Mine
noncomputable def Good8 (x : Str) : Prop := 0 < x.length ∧ x.length ≤ 8 ∧ ∀ c ∈ x.cps.toList, lexBad c = false
noncomputable def OkC (y : Nat) : Prop := y ≠ 46 ∧ y ≠ 47 ∧ y ≠ 45 ∧ y ≠ 60 ∧ lexBad y = false
theorem codes_ok (n : Int) (c : Nat) : ∀ y ∈ codes n c, OkC y := by
  intro y hy
  unfold codes at hy
  obtain ⟨j, _, rfl⟩ := List.mem_map.mp hy
  obtain ⟨h1, h2, h3, h4, h5, h6, h7, h8⟩ := alphN_ok _ (sgnI_lt n j)
  refine ⟨h1, h2, h3, h4, ?_⟩
  unfold lexBad
  simp [h5, h6, h7, h8]
theorem str_len (x : Str) : x.length = x.cps.toList.length := Array.length_toList.symm
theorem mem_jn {c y : Nat} : ∀ {p : List Nat}, y ∈ jn c (sg p) → y = c ∨ y ∈ p
  | [], h => by simp [jn] at h
  | [a], h => by simp [jn] at h; exact .inr (by simp [h])
  | a :: b :: r, h => by
    have h : y ∈ [a] ++ c :: jn c (sg (b :: r)) := h
    rcases List.mem_append.mp h with h | h
    · exact .inr (by simp at h; simp [h])
    · rcases List.mem_cons.mp h with h | h
      · exact .inl h
      · exact (mem_jn h).imp id (.tail _)
theorem jn_pos {c : Nat} {p : List Nat} (hp : p ≠ []) : 0 < (jn c (sg p)).length := by
  cases p with
  | nil => exact absurd rfl hp
  | cons a r =>
    cases r with
    | nil => exact Nat.one_pos
    | cons b r => show 0 < ([a] ++ c :: jn c (sg (b :: r))).length; simp
theorem good_dot {p : List Nat} (hp : p ≠ []) (hl : p.length ≤ 4) (hy : ∀ y ∈ p, OkC y) : Good8 (dotS p) := by
  refine ⟨?_, ?_, ?_⟩
  · rw [str_len, mkS_list]
    exact jn_pos hp
  · have : (dotS p).length ≤ 2 * p.length := dot_len (c := 46) p
    omega
  · rw [mkS_list]
    intro c hc
    rcases mem_jn hc with rfl | hc
    · decide
    · exact (hy c hc).2.2.2.2
theorem mem_pthL {y : Nat} : ∀ {p : List Nat}, y ∈ pthL p → y = 47 ∨ y ∈ p
  | [], h => by simp [pthL] at h
  | a :: r, h => by
    have h : y ∈ 47 :: a :: pthL r := h
    rcases List.mem_cons.mp h with h | h
    · exact .inl h
    · rcases List.mem_cons.mp h with h | h
      · exact .inr (h ▸ List.mem_cons_self)
      · exact (mem_pthL h).imp id (.tail _)
theorem good_dir {p : List Nat} (hp : p ≠ []) (hl : p.length ≤ 4) (hy : ∀ y ∈ p, OkC y) : Good8 (dirS p) := by
  have e := pthL_len p
  have hpos : 0 < p.length := List.length_pos_iff.mpr hp
  refine ⟨?_, ?_, ?_⟩
  · rw [str_len, mkS_list]; omega
  · rw [str_len, mkS_list]; omega
  · rw [mkS_list]
    intro c hc
    rcases mem_pthL hc with rfl | hc
    · decide
    · exact (hy c hc).2.2.2.2
theorem inQ_len : ∀ l : List Nat, (inQ l).length ≤ 5 * l.length
  | [] => Nat.le_refl _
  | c :: r => by
    have ih := inQ_len r
    rw [inQ_cons, List.length_append, List.length_cons]
    split <;> simp only [List.length_cons, List.length_nil] <;> omega
theorem quoteL_len (p : Nat → Bool) (l : List Nat) : (quoteL p l).length ≤ 5 * l.length + 2 := by
  have := inQ_len l
  unfold quoteL
  split
  · omega
  · simp only [List.length_cons, List.length_append, List.length_nil]; omega
theorem sum_le {α : Type} {f : α → Nat} {B : Nat} : ∀ {l : List α}, (∀ x ∈ l, f x ≤ B) → (l.map f).sum ≤ B * l.length
  | [], _ => Nat.zero_le _
  | a :: r, h => by
    have ih := sum_le (l := r) fun x hx => h x (.tail _ hx)
    have := h a (.head _)
    rw [List.map_cons, List.sum_cons, List.length_cons, Nat.mul_succ]
    omega
structure JoinFacts (xs : List Str) : Prop where
  hs : ∀ x ∈ xs, 0 < x.length ∧ x.length ≤ 100000 ∧ (qmid x).length ≤ 1000000
  hn : xs.length ≤ 1000
  hw : ((xs.map quoteS).map (·.length)).sum + xs.length ≤ 1048576
  hx : (Txt.join (Str.ofString " ") (xs.map quoteS)).length ≤ 1000000
  hl : LexTo (some .sp) (Txt.join (Str.ofString " ") (xs.map quoteS)).cps.toList (xs.map (·.cps.toList))
theorem join_facts {xs : List Str} (hn : xs.length ≤ 400) (hg : ∀ x ∈ xs, Good8 x) : JoinFacts xs := by
  have hq : ∀ x ∈ xs, (quoteS x).length ≤ 42 := fun x hx => by
    rw [str_len, quoteS_text]
    have := quoteL_len safeC x.cps.toList
    have h2 := (hg x hx).2.1
    rw [str_len] at h2
    omega
  have hsum : ((xs.map quoteS).map (·.length)).sum ≤ 42 * xs.length := by
    rw [List.map_map]
    exact sum_le fun x hx => hq x hx
  refine ⟨fun x hx => ⟨(hg x hx).1, by have := (hg x hx).2.1; omega, ?_⟩, by omega, by omega, ?_, ?_⟩
  · rw [str_len, qmid_text]
    have := inQ_len x.cps.toList
    have h2 := (hg x hx).2.1
    rw [str_len] at h2
    omega
  · rw [str_len, txt_join, show Str.ofString " " = ⟨#[32]⟩ from rfl, jn_join]
    have := jn_len 32 ((xs.map quoteS).map (·.cps.toList))
    have e : (((xs.map quoteS).map (·.cps.toList)).map (·.length)) = (xs.map quoteS).map (·.length) := by
      rw [List.map_map]
      exact List.map_congr_left fun x _ => (str_len x).symm
    rw [e] at this
    simp only [List.length_map] at this
    omega
  · refine reads_back fun x hx => ⟨fun e => ?_, (hg x hx).2.2⟩
    have := (hg x hx).1
    rw [str_len, e] at this
    exact absurd this (by decide)
end Mine
end

section -- Plain10
open PySem PySem.W PyProof.Rows PySem.Calls PySem.Spec
namespace Mine
noncomputable def frontOf (bs : List (Int × Nat)) (j : Nat) : List Nat := codes (bs.getD j (0, 0)).1 (4 - (bs.getD j (0, 0)).2)
noncomputable def modP (bs : List (Int × Nat)) (tn i : Nat) : List (List Nat) := ((List.range i).filter (fun (j : Nat) => (j : Int).fmod 2 == (tn : Int))).map (frontOf bs)
noncomputable def dirP (bs : List (Int × Nat)) (tn i : Nat) : List (List Nat) := ((List.range i).filter (fun (j : Nat) => (j : Int).fmod 2 != (tn : Int))).map (frontOf bs)
theorem modP_succ (bs : List (Int × Nat)) (tn i : Nat) : modP bs tn (i + 1) = modP bs tn i ++ (if ((i : Int).fmod 2 == (tn : Int)) = true then [frontOf bs i] else []) := by
  unfold modP
  rw [List.range_succ, List.filter_append, List.map_append]
  congr 1
  by_cases h : ((i : Int).fmod 2 == (tn : Int)) = true
  · simp [List.filter_cons, h]
  · simp [List.filter_cons, h]
theorem dirP_succ (bs : List (Int × Nat)) (tn i : Nat) : dirP bs tn (i + 1) = dirP bs tn i ++ (if ((i : Int).fmod 2 != (tn : Int)) = true then [frontOf bs i] else []) := by
  unfold dirP
  rw [List.range_succ, List.filter_append, List.map_append]
  congr 1
  by_cases h : ((i : Int).fmod 2 != (tn : Int)) = true
  · simp [List.filter_cons, h]
  · simp [List.filter_cons, h]
theorem modP_len (bs : List (Int × Nat)) (tn i : Nat) : (modP bs tn i).length ≤ i := by
  unfold modP
  rw [List.length_map]
  exact Nat.le_trans (List.length_filter_le _ _) (by simp)
theorem dirP_len (bs : List (Int × Nat)) (tn i : Nat) : (dirP bs tn i).length ≤ i := by
  unfold dirP
  rw [List.length_map]
  exact Nat.le_trans (List.length_filter_le _ _) (by simp)
theorem front_ok {bs : List (Int × Nat)} (hbk : ∀ b ∈ bs, 0 ≤ b.1 ∧ b.1 < 16777216 ∧ b.2 ≤ 3) {j : Nat} (hj : j < bs.length) : frontOf bs j ≠ [] ∧ (frontOf bs j).length ≤ 4 ∧ ∀ y ∈ frontOf bs j, OkC y := by
  have hb := hbk _ (List.getElem_mem hj)
  unfold frontOf
  rw [frontOf_at (List.getElem?_eq_getElem hj)]
  refine ⟨fun e => ?_, ?_, codes_ok _ _⟩
  · have := codes_len bs[j].1 (4 - bs[j].2)
    rw [e] at this
    simp only [List.length_nil] at this
    omega
  · rw [codes_len]; omega
theorem mods_good {bs : List (Int × Nat)} (hbk : ∀ b ∈ bs, 0 ≤ b.1 ∧ b.1 < 16777216 ∧ b.2 ≤ 3) {tn i : Nat} (hi : i ≤ bs.length) : ∀ x ∈ (modP bs tn i).map dotS, Good8 x := by
  intro x hx
  obtain ⟨p, hp, rfl⟩ := List.mem_map.mp hx
  unfold modP at hp
  obtain ⟨j, hj, rfl⟩ := List.mem_map.mp hp
  have := List.mem_range.mp (List.mem_filter.mp hj).1
  obtain ⟨h1, h2, h3⟩ := front_ok hbk (j := j) (by omega)
  exact good_dot h1 h2 h3
theorem dirs_ok {bs : List (Int × Nat)} (hbk : ∀ b ∈ bs, 0 ≤ b.1 ∧ b.1 < 16777216 ∧ b.2 ≤ 3) {tn i : Nat} (hi : i ≤ bs.length) : ∀ p ∈ dirP bs tn i, p ≠ [] ∧ p.length ≤ 4 ∧ ∀ y ∈ p, OkC y := by
  intro p hp
  unfold dirP at hp
  obtain ⟨j, hj, rfl⟩ := List.mem_map.mp hp
  have := List.mem_range.mp (List.mem_filter.mp hj).1
  exact front_ok hbk (j := j) (by omega)
theorem dirs_good {bs : List (Int × Nat)} (hbk : ∀ b ∈ bs, 0 ≤ b.1 ∧ b.1 < 16777216 ∧ b.2 ≤ 3) {tn i : Nat} (hi : i ≤ bs.length) : ∀ x ∈ (dirP bs tn i).map dirS, Good8 x := by
  intro x hx
  obtain ⟨p, hp, rfl⟩ := List.mem_map.mp hx
  obtain ⟨h1, h2, h3⟩ := dirs_ok hbk hi p hp
  exact good_dir h1 h2 h3
end Mine
end

section -- Regrow
open PySem PySem.W PyProof.Rows PySem.Calls PySem.Spec
namespace Mine
theorem ns_slots {h h' : Heap} {a : Addr} {m : Str → Option Value} (n : h.Ns a m) (k : ∀ o, h.get? a = some o → (∀ vs, o.data ≠ .fields vs) → ∃ sl, h'.get? a = some { o with slots := sl }) : h'.Ns a m := by
  obtain ⟨o, es, ep, ho, hd, r⟩ := n
  obtain ⟨sl, e⟩ := k o ho (fun vs q => by rw [hd] at q; cases q)
  exact ⟨_, es, ep, e, hd, r⟩
inductive Regrown (A : Around) (base h₀ g h' : Heap) (L L' : Addr) (m m' : Str → Option Value) (news : List (Addr × Obj)) (env : Env) (D : Addr) (o : Obj) : Prop
  | mk (g' : Heap) (FG : Fr h₀ L g' m) (F : Fr g' L' h' m') (N : News g' L' h' ((D, o) :: news)) (ne : AllNe D news) (B : Below A base [env] g') (st : h₀.StaysIn g') (up : ∀ b o, b ≠ L → g.get? b = some o → g'.get? b = some o)
theorem regrow {A₀ A : Around} {base h₀ g h h' : Heap} {L L' : Addr} {m m' : Str → Option Value} {news : List (Addr × Obj)} {env : Env} (B : Below A₀ base [] h₀) (hf : env.frame = some L) (hke : env.scope.kind = .function) (B' : Below A base [env] g)
    (FG : Fr h₀ L g m) (F : Fr g L' h m') (N : News g L' h news) (K : KeepZ [L', L] h h') {D : Addr} {o : Obj} (f : h.get? D = none) (q : h'.get? D = some o) :
    Regrown A base h₀ g h' L L' m m' news env D o := by
  obtain ⟨oL, es, ep, gL, dL, rL⟩ := FG.ns
  have hL := F.keep _ _ gL
  obtain ⟨sl, hL'⟩ := K.2 L oL (by simp) hL (fun vs q => by rw [dL] at q; cases q)
  have nL : ∀ b o, g.get? b = some o → b ≠ L' := fun b o e z => Nat.lt_irrefl _ (Nat.lt_of_lt_of_le (z ▸ Heap.lt_size e) F.above)
  have n0 : ∀ b o, h₀.get? b = some o → b ≠ L := fun b o e z => Nat.lt_irrefl _ (Nat.lt_of_lt_of_le (z ▸ Heap.lt_size e) FG.above)
  let g' := g.update L fun o => { o with slots := sl }
  have up : g'.get? L = some { oL with slots := sl } := Heap.get?_update_self _ gL (Obj.isFreed_of_dict dL)
  have ot : ∀ b, b ≠ L → g'.get? b = g.get? b := fun b hb => Heap.get?_update_other _ _ (Ne.symm hb)
  have FG' : Fr h₀ L g' m := ⟨⟨_, es, ep, up, dL, rL⟩, fun b o e => (ot b (n0 b o e)).trans (FG.keep b o e), FG.above⟩
  have st : h₀.StaysIn g' := fun b o e => FG'.keep b o e
  have P := pushX B FG' hf hke
  refine ⟨g', FG', ⟨ns_slots F.ns fun o e hd => K.2 L' o (by simp) e hd, fun b o e => ?_, ?_⟩, ?_, allNe_of N f, ⟨B'.stack, fun b o e => st b o (B.stays b o e), P.frames⟩, st, fun b o hb e => (ot b hb).trans e⟩
  · by_cases hb : b = L
    · subst hb
      rw [up] at e
      cases e
      exact hL'
    · rw [ot b hb] at e
      exact K.1 b o (by simp [hb, nL b o e]) (F.keep b o e)
  · rw [show g'.objs.size = g.objs.size from Heap.size_update _ _ _]
    exact F.above
  · intro p hp
    rcases List.mem_cons.mp hp with rfl | hp
    · refine ⟨q, fun (z : D = L') => ?_, ?_⟩
      · obtain ⟨o', es', ep', ho', _⟩ := F.ns
        rw [z, ho'] at f; cases f
      · have h2 : D ≠ L := fun z => by rw [z, hL] at f; cases f
        rw [ot _ h2]
        cases z : g.get? D with
        | none => rfl
        | some o' => have := F.keep _ _ z; rw [f] at this; cases this
    · refine ⟨?_, (N p hp).2.1, ?_⟩
      · refine K.1 _ _ ?_ (N p hp).1
        have h1 := (N p hp).2.1
        have h2 : p.1 ≠ L := fun q => by have := (N p hp).2.2; rw [q, gL] at this; cases this
        simp [h1, h2]
      · have h2 : p.1 ≠ L := fun q => by have := (N p hp).2.2; rw [q, gL] at this; cases this
        rw [ot _ h2]
        exact (N p hp).2.2
end Mine
end

section -- For4
open PySem PySem.W PyProof.Rows PySem.Calls PySem.Spec
namespace Mine
section
variable {prog : Program} {w : World} {A : Around} {env : Env} {h₀ : Heap} {x : Str} {body : List Stmt} {s : Shared} {m : Str → Option Value} {news : List (Addr × Obj)} {l L I : Addr} {vs : List Value} {lo : Obj}
inductive TurnDI (h₀ : Heap) (L I : Addr) (io : Obj) (gn : Array GenState) (os : OsState) (Jn : (Str → Option Value) → List (Addr × Obj) → Prop) (s' : Shared) : Prop
  | mk (h' : Heap) (tk : Nat) (dr : Drawn) (m₂ : Str → Option Value) (news₂ : List (Addr × Obj)) (e : s' = ⟨h', gn, dr, tk, os⟩) (F : Fr h₀ L h' m₂) (N : News h₀ L h' ((I, io) :: news₂)) (ne : ∀ p ∈ news₂, p.1 ≠ I) (J : Jn m₂ news₂)
noncomputable def TurnD (h₀ : Heap) (L I : Addr) (io : Obj) (s : Shared) (Jn : (Str → Option Value) → List (Addr × Obj) → Prop) (Q : Flow → Shared → Prop) (f : Flow) (s' : Shared) : Prop :=
  match f with
  | .ret v => Q (.ret v) s'
  | .brk => Q .next s'
  | _ => (f = .next ∨ f = .cont) ∧ TurnDI h₀ L I io s.gens s.os Jn s'
inductive DInv (h₀ : Heap) (L I l : Addr) (J : Nat → (Str → Option Value) → List (Addr × Obj) → Prop) (n : Nat) (s : Shared) (k : Nat) (s' : Shared) : Prop
  | mk (h' : Heap) (tk : Nat) (dr : Drawn) (m' : Str → Option Value) (news' : List (Addr × Obj)) (i : Nat) (e : s' = { s with heap := h', toks := tk, drawn := dr }) (it : h'.IsListIter I l i) (F : Fr h₀ L h' m') (N : News h₀ L h' news') (ne : ∀ p ∈ news', p.1 ≠ I) (hJ : J i m' news') (le : i ≤ n) (ke : k = n + 1 - i)
theorem codeAny_loopD {R : Result → Shared → Prop} {px : Pos} (hx : env.kindOf x = some .local) (hp : (env.scope.kind == .class || (env.scope.kind == .module && env.locals != env.globals)) = false) (hh : A.handled = none)
    (hl : h₀.get? l = some lo) (hlc : lo.cls = .type "list") (hld : ∃ n, lo.data = .seq vs.toArray n) (fI : h₀.get? I = none) (hIL : I ≠ env.locals) (hit : s.heap.IsListIter I l 0)
    (F : Fr h₀ env.locals s.heap m) (N : News h₀ env.locals s.heap news) (hn : ∀ p ∈ news, p.1 ≠ I) (J : Nat → (Str → Option Value) → List (Addr × Obj) → Prop) (h0 : J 0 m news)
    (step : ∀ i v m₁ news₁ h₁ tk dr io, vs[i]? = some v → J i m₁ news₁ → (∀ p ∈ news₁, p.1 ≠ I) → Fr h₀ env.locals h₁ (fun y => if y = x then some v else m₁ y) → News h₀ env.locals h₁ ((I, io) :: news₁) →
      wpAny (model prog w) A (execs body env) (TurnD h₀ env.locals I io s (J (i + 1)) fun f s' => R (.ok f) s') (notedBy (model prog w) A env fun e s' => R (.error e) s') { s with heap := h₁, toks := tk, drawn := dr })
    (hR : ∀ h' tk dr m' news', Fr h₀ env.locals h' m' → News h₀ env.locals h' news' → J vs.length m' news' → R (.ok .next) { s with heap := h', toks := tk, drawn := dr }) :
    codeAny (model prog w) A (.forLoop (.Name x px) (.ref I) body [] env) R s := by
  have hlI : l ≠ I := fun q => by rw [q, fI] at hl; cases hl
  have W := Walks.list (prog := prog) (w := w) (A := A) hh I l hlI vs.toArray
  have old : ∀ b o, h₀.get? b = some o → b ≠ I := fun b o e q => by rw [q, fI] at e; cases e
  refine codeAny_forLoop
    (DInv h₀ env.locals I l J vs.length s) ?_ (vs.length + 1)
    ⟨s.heap, s.toks, s.drawn, m, news, 0, rfl, hit, F, N, hn, h0, Nat.zero_le _, rfl⟩
  rintro k s' ⟨h', tk, dr, m', news', i, rfl, hst', F', N', hnw', hJ, hi, rfl⟩
  have next : ∀ h₁ : Heap, (∀ b o, b ∉ [I] → h'.get? b = some o → h₁.get? b = some o) → Fr h₀ env.locals h₁ m' ∧ News h₀ env.locals h₁ news' := fun h₁ hk₁ =>
    ⟨⟨F'.ns.at fun o e => hk₁ _ o (by simpa using Ne.symm hIL) e, fun b o e => hk₁ b o (by simpa using old b o e) (F'.keep b o e), F'.above⟩, fun p hp => ⟨hk₁ _ _ (by simpa using hnw' p hp) (N' p hp).1, (N' p hp).2⟩⟩
  have hli : h'.IsList l vs.toArray := ⟨lo, F'.keep _ _ hl, hlc, hld⟩
  have hsz : vs.toArray.size = vs.length := List.size_toArray ..
  by_cases hlt : i < vs.length
  · refine W.item i _ _ _ (by rw [hsz]; exact hlt) ⟨hst', hli⟩ fun v h₁ tk₁ hP hst₁ hk₁ => ?_
    obtain ⟨F₁, N₁⟩ := next h₁ hk₁
    refine wpAny_assign_Name (wpAny_storeName_local hx F₁.ns (fun h₂ hn₂ hs₂ => ?_) hp)
    have F₂ := F₁.set hn₂ hs₂
    obtain ⟨⟨io, hio, hioc, hiod⟩, _⟩ := hst₁
    have hio2 : h₂.get? I = some io := (hs₂.2 I hIL).trans hio
    have N₂ : News h₀ env.locals h₂ ((I, io) :: news') := fun p hp => by
      rcases List.mem_cons.mp hp with rfl | hp
      · exact ⟨hio2, hIL, fI⟩
      · exact ⟨(hs₂.2 _ (N₁ p hp).2.1).trans (N₁ p hp).1, (N₁ p hp).2⟩
    refine wpAny_mono (step i v m' news' h₂ _ dr io (by simpa using hP) hJ hnw' F₂ N₂) (fun f s₃ h₃ => ?_) fun _ _ e => e
    have fin : ∀ h₃' tk₃ dr₃ m₂ news₂, s₃ = { s with heap := h₃', toks := tk₃, drawn := dr₃ } → Fr h₀ env.locals h₃' m₂ → News h₀ env.locals h₃' ((I, io) :: news₂) → (∀ p ∈ news₂, p.1 ≠ I) → J (i + 1) m₂ news₂ →
        ∃ k, k < vs.length + 1 - i ∧ DInv h₀ env.locals I l J vs.length s k s₃ :=
      fun h₃' tk₃ dr₃ m₂ news₂ e F₃ N₃ ha hJ₃ => ⟨vs.length + 1 - (i + 1), n_dec1 (by assumption), h₃', tk₃, dr₃, m₂, news₂, i + 1, e, ⟨io, (N₃ _ (.head _)).1, hioc, hiod⟩, F₃, fun p hp => N₃ p (.tail _ hp), ha, hJ₃, hlt, rfl⟩
    cases f with
    | ret v => exact h₃
    | brk => exact h₃
    | cont =>
      obtain ⟨_, h₃', tk₃, dr₃, m₂, news₂, e, F₃, N₃, ha, hJ₃⟩ := h₃
      exact fin h₃' tk₃ dr₃ m₂ news₂ e F₃ N₃ ha hJ₃
    | next =>
      obtain ⟨_, h₃', tk₃, dr₃, m₂, news₂, e, F₃, N₃, ha, hJ₃⟩ := h₃
      exact fin h₃' tk₃ dr₃ m₂ news₂ e F₃ N₃ ha hJ₃
  · have hin : i = vs.length := n_eq (by assumption) (by assumption)
    subst hin
    refine W.done _ _ _ ⟨by rw [hsz]; exact hst', hli⟩ fun h₁ tk₁ hk₁ => wpAny_execs_nil ?_
    obtain ⟨F₁, N₁⟩ := next h₁ hk₁
    exact hR h₁ tk₁ dr m' news' F₁ N₁ hJ
inductive ForD (prog : Program) (w : World) (A : Around) (h₀ : Heap) (env : Env) (x : Str) (body : List Stmt) (J : Nat → (Str → Option Value) → List (Addr × Obj) → Prop) (Q : Flow → Shared → Prop) (E : Value → Shared → Prop) (vs : List Value) (xv : Value) (s : Shared) : Prop
  | mk (l : Addr) (lo : Obj) (m : Str → Option Value) (news : List (Addr × Obj)) (hE0 : xv = .ref l) (hE1 : h₀.get? l = some lo) (hE2 : lo.cls = .type "list") (hE3 : (∃ n, lo.data = .seq vs.toArray n)) (hE4 : Fr h₀ env.locals s.heap m) (hE5 : News h₀ env.locals s.heap news) (hE6 : J 0 m news) (hE7 : (∀ i v m₁ news₁ h₁ tk dr I io, vs[i]? = some v → J i m₁ news₁ → s.heap.objs.size = I → (∀ p ∈ news₁, p.1 ≠ I) → Fr h₀ env.locals h₁ (fun y => if y = x then some v else m₁ y) → News h₀ env.locals h₁ ((I, io) :: news₁) → wpAny (model prog w) A (execs body env) (TurnD h₀ env.locals I io s (J (i + 1)) Q) E { s with heap := h₁, toks := tk, drawn := dr })) (hE8 : ∀ h' tk dr m' news', Fr h₀ env.locals h' m' → News h₀ env.locals h' news' → J vs.length m' news' → Q .next { s with heap := h', toks := tk, drawn := dr })
theorem for_drawn {E : Value → Shared → Prop} {Q : Flow → Shared → Prop} {px pos : Pos} {iter : PySem.Expr} (J : Nat → (Str → Option Value) → List (Addr × Obj) → Prop) (hx : env.kindOf x = some .local)
    (hp : (env.scope.kind == .class || (env.scope.kind == .module && env.locals != env.globals)) = false) (hh : A.handled = none)
    (h : wpAny (model prog w) A (eval iter env) (ForD prog w A h₀ env x body J Q E vs) E s)
    (hs : ∀ x, foldedSetIterable iter env x = pure x := by intro _; rfl)
    (hE : PassesOwn (model prog w) A env E := by passes_own) :
    wpAny (model prog w) A (exec (.For (.Name x px) iter body [] pos) env) Q E s := by
  refine wpAny_For (wpAny_mono h (fun xv s₁ h₁ => ?_) fun _ _ e => e) hs
  obtain ⟨l, lo, m, news, rfl, hl, hlc, hld, F, N, h0, step, hQ⟩ := h₁
  have hisl : s₁.heap.IsList l vs.toArray := ⟨lo, F.keep _ _ hl, hlc, hld⟩
  refine wpAny_pyIter_list hisl ?_
  have hLs : env.locals < s₁.heap.objs.size := F.ns.lt
  have push : ∀ b o, s₁.heap.get? b = some o → (s₁.heap.push { cls := .type "list_iterator", data := .fields #[.ref l, .int 0 0] }).get? b = some o := fun b o e => Heap.get?_push_of_some _ e
  have fI : h₀.get? s₁.heap.objs.size = none := by
    cases e : h₀.get? s₁.heap.objs.size with
    | none => rfl
    | some o => exact absurd (Heap.lt_size (F.keep _ o e)) (Nat.lt_irrefl _)
  refine codeAny_loopD (R := fun r s' => match r with | .ok f => Q f s' | .error e => cameBackBy (model prog w) A env E e s') (vs := vs) hx hp hh hl hlc hld fI (Nat.ne_of_gt hLs) ⟨_, Heap.get?_push_size _ rfl, rfl, rfl⟩
    ⟨F.ns.at fun o e => push _ _ e, fun b o e => push _ _ (F.keep b o e), F.above⟩ (fun p hp => ⟨push _ _ (N p hp).1, (N p hp).2⟩) (fun p hp => Nat.ne_of_lt (Heap.lt_size (N p hp).1)) J h0 ?_ ?_
  · intro i v m₁ news₁ h₁ tk dr io hv hJ hne F₁ N₁
    exact wpAny_passesOwn hE (step i v m₁ news₁ h₁ tk dr _ io hv hJ rfl hne F₁ N₁)
  · intro h' tk dr m' news' F' N' hJ
    exact hQ h' tk dr m' news' F' N' hJ
end
end Mine
end

section -- For5
open PySem PySem.W PyProof.Rows PySem.Calls PySem.Spec
namespace Mine
section
variable {prog : Program} {w : World} {A : Around} {env : Env} {h₀ : Heap} {x : Str} {body : List Stmt} {s : Shared} {m : Str → Option Value} {news : List (Addr × Obj)} {l L I : Addr} {vs : List Value} {lo : Obj}
inductive TurnEI (h₀ : Heap) (L I : Addr) (io : Obj) (x : Str) (m : Str → Option Value) (s : Shared) (Jn : List (Addr × Obj) → Prop) (s' : Shared) : Prop
  | mk (h' : Heap) (tk : Nat) (dr : Drawn) (o : Option Value) (news₂ : List (Addr × Obj)) (e : s' = { s with heap := h', toks := tk, drawn := dr }) (F : Fr h₀ L h' (fun y => if y = x then o else m y)) (N : News h₀ L h' ((I, io) :: news₂)) (ne : ∀ p ∈ news₂, p.1 ≠ I) (J : Jn news₂)
noncomputable def TurnE (h₀ : Heap) (L I : Addr) (io : Obj) (x : Str) (m : Str → Option Value) (s : Shared) (Jn : List (Addr × Obj) → Prop) (Q : Flow → Shared → Prop) (f : Flow) (s' : Shared) : Prop :=
  match f with
  | .ret v => Q (.ret v) s'
  | .brk => Q .next s'
  | _ => (f = .next ∨ f = .cont) ∧ TurnEI h₀ L I io x m s Jn s'
theorem for_same {E : Value → Shared → Prop} {Q : Flow → Shared → Prop} {px pos : Pos} {iter : PySem.Expr} (J : Nat → List (Addr × Obj) → Prop) (hL : env.locals = L) (F : Fr h₀ L s.heap m) (N : News h₀ L s.heap news) (hl : h₀.get? l = some lo) (hlc : lo.cls = .type "list") (hld : ∃ n, lo.data = .seq vs.toArray n) (h0 : J 0 news)
    (hx : env.kindOf x = some .local) (hp : (env.scope.kind == .class || (env.scope.kind == .module && env.locals != env.globals)) = false) (hh : A.handled = none)
    (h : wpAny (model prog w) A (eval iter env) (fun xv s₁ => xv = .ref l ∧ ∃ tk, s₁ = { s with toks := tk }) E s)
    (turn : ∀ i v news₁ h₁ tk dr I io, vs[i]? = some v → J i news₁ → s.heap.objs.size = I → (∀ p ∈ news₁, p.1 ≠ I) → Fr h₀ L h₁ (fun y => if y = x then some v else m y) → News h₀ L h₁ ((I, io) :: news₁) →
      wpAny (model prog w) A (execs body env) (TurnE h₀ L I io x m s (J (i + 1)) Q) E { s with heap := h₁, toks := tk, drawn := dr })
    (done : ∀ h' tk dr o news', Fr h₀ L h' (fun y => if y = x then o else m y) → News h₀ L h' news' → J vs.length news' → Q .next { s with heap := h', toks := tk, drawn := dr })
    (hs : ∀ x, foldedSetIterable iter env x = pure x := by intro _; rfl)
    (hE : PassesOwn (model prog w) A env E := by passes_own) :
    wpAny (model prog w) A (exec (.For (.Name x px) iter body [] pos) env) Q E s := by
  subst hL
  refine for_drawn (h₀ := h₀) (vs := vs) (fun i m₁ news₁ => Same x m m₁ ∧ J i news₁) hx hp hh (wpAny_mono h (fun xv s₁ hq => ?_) fun _ _ e => e) hs hE
  obtain ⟨rfl, tk0, rfl⟩ := hq
  refine ⟨l, lo, m, news, rfl, hl, hlc, hld, F, N, ⟨Same.rfl, h0⟩, ?_, ?_⟩
  · rintro i v m₁ news₁ h₁ tk dr I io hv ⟨hS, hJ⟩ hI hne F₁ N₁
    rw [hS.put] at F₁
    refine wpAny_mono (turn i v news₁ h₁ tk dr I io hv hJ hI hne F₁ N₁) (fun f s' hq => ?_) fun _ _ e => e
    cases f with
    | ret v => exact hq
    | brk => exact hq
    | next =>
      obtain ⟨hf, h', tk', dr', o, news₂, es, F2, N2, ha, hJ2⟩ := hq
      exact ⟨hf, h', tk', dr', _, news₂, es, F2, N2, ha, Same.self, hJ2⟩
    | cont =>
      obtain ⟨hf, h', tk', dr', o, news₂, es, F2, N2, ha, hJ2⟩ := hq
      exact ⟨hf, h', tk', dr', _, news₂, es, F2, N2, ha, Same.self, hJ2⟩
  · rintro h' tk dr m' news' F' N' ⟨hS, hJ⟩
    rw [hS.out] at F'
    exact done h' tk dr _ news' F' N' hJ
end
end Mine
end

section -- Plain11
open PySem PySem.W PyProof.Rows PySem.Calls PySem.Spec
namespace Mine
structure RowOk (r : List Str) : Prop where
  ne : r ≠ []
  le : r.length ≤ 4
  sg : ∀ z ∈ r, z.cps.toList ≠ [] ∧ z.length ≤ 2 ∧ ∀ y ∈ z.cps.toList, OkC y
noncomputable abbrev cpsR (r : List Str) : List (List Nat) := r.map (·.cps.toList)
noncomputable def dotR (r : List Str) : Str := Txt.join (Str.ofString ".") r
noncomputable def fileR (r : List Str) : Str := Str.ofString "/" ++ Txt.join (Str.ofString "/") r ++ Str.ofString "/m.py"
theorem dotR_cps (r : List Str) : (dotR r).cps.toList = jn 46 (cpsR r) := by
  unfold dotR
  rw [txt_join, show Str.ofString "." = ⟨#[46]⟩ from rfl, jn_join]
theorem fileR_cps (r : List Str) : (fileR r).cps.toList = 47 :: (jn 47 (cpsR r) ++ [47, 109, 46, 112, 121]) := by
  unfold fileR
  show ((#[47] ++ (Txt.join (Str.ofString "/") r).cps) ++ #[47, 109, 46, 112, 121]).toList = _
  rw [Array.toList_append, Array.toList_append, txt_join, show Str.ofString "/" = ⟨#[47]⟩ from rfl, jn_join]
  rfl
noncomputable def CovR (bs : List (Int × Nat)) (r : List Str) : Prop := ∃ q ∈ bs, sg (codes q.1 (4 - q.2)) <+: cpsR r
open Classical in
noncomputable def cB (bs : List (Int × Nat)) (r : List Str) : Bool := decide (CovR bs r)
theorem cB_t {bs : List (Int × Nat)} {r : List Str} (h : CovR bs r) : cB bs r = true := by unfold cB; exact @decide_eq_true _ (Classical.propDecidable _) h
theorem cB_f {bs : List (Int × Nat)} {r : List Str} (h : ¬CovR bs r) : cB bs r = false := by unfold cB; exact @decide_eq_false _ (Classical.propDecidable _) h
theorem row_free {r : List Str} (h : RowOk r) {c : Nat} (hc : c = 46 ∨ c = 47) : ∀ q ∈ cpsR r, c ∉ q := by
  intro q hq hm
  obtain ⟨z, hz, rfl⟩ := List.mem_map.mp hq
  have := (h.sg z hz).2.2 c hm
  rcases hc with rfl | rfl
  · exact this.1 rfl
  · exact this.2.1 rfl
theorem row_cps_ne {r : List Str} (h : RowOk r) : cpsR r ≠ [] := by simpa [cpsR] using h.ne
theorem ans_row {bs : List (Int × Nat)} (hbk : ∀ b ∈ bs, 0 ≤ b.1 ∧ b.1 < 16777216 ∧ b.2 ≤ 3) {tn : Nat} {acc : List Str} (hacc : ∀ x, x ∈ acc ↔ x ∈ (modP bs tn bs.length).map dotS) {r : List Str} (h : RowOk r) (t : Tok) :
    ansB acc ((dirP bs tn bs.length).map dirS) (some (fileR r, t)) (dotR r) = cB bs r := by
  have hm : ∀ j, j < bs.length → ((dotR r = dotS (frontOf bs j) ∨ Txt.startswith (dotR r) (dotS (frontOf bs j) ++ Str.ofString ".") = true) ↔ sg (frontOf bs j) <+: cpsR r) := fun j hj => by
    obtain ⟨h1, _, h3⟩ := front_ok hbk hj
    exact mod_iff h1 (fun y hy => (h3 y hy).1) (row_cps_ne h) (row_free h (.inl rfl)) (dotR_cps r)
  have hd : ∀ j, j < bs.length → (Txt.startswith (fileR r) (dirS (frontOf bs j) ++ Str.ofString "/") = true ↔ sg (frontOf bs j) <+: cpsR r) := fun j hj => by
    obtain ⟨h1, _, h3⟩ := front_ok hbk hj
    exact dir_iff (fun y hy => (h3 y hy).2.1) (row_cps_ne h) (row_free h (.inr rfl)) (fileR_cps r)
  have key : ansB acc ((dirP bs tn bs.length).map dirS) (some (fileR r, t)) (dotR r) = true ↔ CovR bs r := by
    unfold ansB
    dsimp only
    rw [Bool.or_eq_true, Bool.or_eq_true, decide_eq_true_iff, List.any_eq_true, List.any_eq_true]
    constructor
    · have fin : ∀ j, j < bs.length → sg (frontOf bs j) <+: cpsR r → CovR bs r := fun j hj hp => by
        refine ⟨bs[j], List.getElem_mem hj, ?_⟩
        unfold frontOf at hp
        rw [frontOf_at (List.getElem?_eq_getElem hj)] at hp
        exact hp
      rintro ((hx | ⟨y, hy, hs⟩) | ⟨d, hd', hs⟩)
      · obtain ⟨p, hp, e⟩ := List.mem_map.mp ((hacc _).mp hx)
        unfold modP at hp
        obtain ⟨j, hj, rfl⟩ := List.mem_map.mp hp
        have hj' := List.mem_range.mp (List.mem_filter.mp hj).1
        exact fin j hj' ((hm j hj').mp (.inl e.symm))
      · obtain ⟨p, hp, rfl⟩ := List.mem_map.mp ((hacc _).mp hy)
        unfold modP at hp
        obtain ⟨j, hj, rfl⟩ := List.mem_map.mp hp
        have hj' := List.mem_range.mp (List.mem_filter.mp hj).1
        exact fin j hj' ((hm j hj').mp (.inr hs))
      · obtain ⟨p, hp, rfl⟩ := List.mem_map.mp hd'
        unfold dirP at hp
        obtain ⟨j, hj, rfl⟩ := List.mem_map.mp hp
        have hj' := List.mem_range.mp (List.mem_filter.mp hj).1
        exact fin j hj' ((hd j hj').mp hs)
    · rintro ⟨q, hq, hp⟩
      obtain ⟨j, hj, rfl⟩ := List.getElem_of_mem hq
      have hp' : sg (frontOf bs j) <+: cpsR r := by
        unfold frontOf
        rw [frontOf_at (List.getElem?_eq_getElem hj)]
        exact hp
      by_cases hpar : ((j : Int).fmod 2 == (tn : Int)) = true
      · left
        have hmem : frontOf bs j ∈ modP bs tn bs.length := by
          unfold modP
          exact List.mem_map_of_mem (List.mem_filter.mpr ⟨List.mem_range.mpr hj, hpar⟩)
        have hma : dotS (frontOf bs j) ∈ acc := (hacc _).mpr (List.mem_map_of_mem hmem)
        rcases (hm j hj).mpr hp' with e | e
        · left; rw [e]; exact hma
        · right; exact ⟨_, hma, e⟩
      · right
        have hmem : frontOf bs j ∈ dirP bs tn bs.length := by
          unfold dirP
          refine List.mem_map_of_mem (List.mem_filter.mpr ⟨List.mem_range.mpr hj, ?_⟩)
          rw [bne, Bool.eq_false_iff.mpr hpar]
          rfl
        exact ⟨_, List.mem_map_of_mem hmem, (hd j hj).mpr hp'⟩
  by_cases hc : CovR bs r
  · rw [key.mpr hc, cB_t hc]
  · rw [Bool.eq_false_iff.mpr (fun e => hc (key.mp e)), cB_f hc]
theorem dotR_inj {r r' : List Str} (h : RowOk r) (h' : RowOk r') (e : dotR r = dotR r') : r = r' := by
  have e2 : jn 46 (cpsR r) = jn 46 (cpsR r') := by rw [← dotR_cps, ← dotR_cps, e]
  exact map_cps_inj (jn_inj (row_cps_ne h) (row_cps_ne h') (row_free h (.inl rfl)) (row_free h' (.inl rfl)) e2)
theorem mem_jnC {c y : Nat} : ∀ {A : List (List Nat)}, y ∈ jn c A → y = c ∨ ∃ p ∈ A, y ∈ p
  | [], h => by simp [jn] at h
  | [a], h => .inr ⟨a, .head _, h⟩
  | a :: b :: r, h => by
    have h : y ∈ a ++ c :: jn c (b :: r) := h
    rcases List.mem_append.mp h with h | h
    · exact .inr ⟨a, .head _, h⟩
    · rcases List.mem_cons.mp h with h | h
      · exact .inl h
      · exact (mem_jnC h).imp id fun ⟨p, hp, q⟩ => ⟨p, .tail _ hp, q⟩
theorem dotR_ok {r : List Str} (h : RowOk r) : ∀ y ∈ (dotR r).cps.toList, y ≠ 60 ∧ y ≠ 45 := by
  intro y hy
  rw [dotR_cps] at hy
  rcases mem_jnC hy with rfl | ⟨p, hp, hy⟩
  · decide
  · obtain ⟨z, hz, rfl⟩ := List.mem_map.mp hp
    have := (h.sg z hz).2.2 y hy
    exact ⟨this.2.2.2.1, this.2.2.1⟩
theorem dotR_ne {r : List Str} (h : RowOk r) : dotR r ≠ Str.ofString "<string>" ∧ dotR r ≠ Str.ofString "-" := by
  constructor
  · intro e
    exact (dotR_ok h 60 (by rw [e]; decide)).1 rfl
  · intro e
    exact (dotR_ok h 45 (by rw [e]; decide)).2 rfl
theorem rows_sum {r : List Str} (h : RowOk r) : (r.map (·.length)).sum ≤ 8 := by
  have := sum_le (l := r) (f := (·.length)) (B := 2) fun z hz => (h.sg z hz).2.1
  have := h.le
  omega
theorem join_len {r : List Str} (h : RowOk r) (c : Nat) : (Txt.join ⟨#[c]⟩ r).length ≤ 12 := by
  have h1 := jn_len c (cpsR r)
  have e : (cpsR r).map (·.length) = r.map (·.length) := by
    unfold cpsR
    rw [List.map_map]
    exact List.map_congr_left fun x _ => (str_len x).symm
  have h2 := rows_sum h
  have h3 := h.le
  rw [e] at h1
  rw [str_len, txt_join, jn_join]
  simp only [cpsR, List.length_map] at *
  omega
theorem dotR_len {r : List Str} (h : RowOk r) : (dotR r).length ≤ 12 := by
  have h1 := jn_len 46 (cpsR r)
  have e : (cpsR r).map (·.length) = r.map (·.length) := by
    unfold cpsR
    rw [List.map_map]
    exact List.map_congr_left fun x _ => (str_len x).symm
  have h2 := rows_sum h
  have h3 := h.le
  rw [e] at h1
  rw [str_len, dotR_cps]
  simp only [cpsR, List.length_map] at *
  omega
noncomputable def KvsOk (bs : List (Int × Nat)) (rows : List (List Str)) (kvs : List (Str × Value)) : Prop :=
  ∀ k v, valueAt kvs k = some v → k = Str.ofString "<string>" ∨ ∃ r ∈ rows, ∃ t, k = dotR r ∧ v = .int (bitI (cB bs r)) t
theorem kvs_get {bs : List (Int × Nat)} {rows : List (List Str)} {kvs : List (Str × Value)} (hk : KvsOk bs rows kvs) (hr : ∀ r ∈ rows, RowOk r) {r : List Str} (h : RowOk r) {v : Value} (hv : valueAt kvs (dotR r) = some v) : ∃ t, v = .int (bitI (cB bs r)) t := by
  rcases hk _ _ hv with e | ⟨r', hr', t, e, rfl⟩
  · exact absurd e (dotR_ne h).1
  · rw [dotR_inj h (hr r' hr') e]
    exact ⟨t, rfl⟩
theorem valueAt_app {kvs : List (Str × Value)} {k x : Str} {v u : Value} (h : valueAt (kvs ++ [(k, u)]) x = some v) : valueAt kvs x = some v ∨ (x = k ∧ v = u) := by
  unfold valueAt at *
  rw [List.find?_append] at h
  cases e : kvs.find? (fun kv => decide (kv.1 = x)) with
  | some y => rw [e] at h; exact .inl (by simpa using h)
  | none =>
    rw [e] at h
    by_cases hk : k = x
    · subst hk
      right
      simp at h
      exact ⟨rfl, h.symm⟩
    · simp [hk] at h
theorem kvs_app {bs : List (Int × Nat)} {rows : List (List Str)} {kvs : List (Str × Value)} (hk : KvsOk bs rows kvs) {r : List Str} (hr : r ∈ rows) (t : Tok) : KvsOk bs rows (kvs ++ [(dotR r, .int (bitI (cB bs r)) t)]) := by
  intro k v hv
  rcases valueAt_app hv with h | ⟨rfl, rfl⟩
  · exact hk k v h
  · exact .inr ⟨r, hr, t, rfl, rfl⟩
inductive PairsAre : List (Addr × Obj) → List Value → List Bool → Prop
  | nil {ps} : PairsAre ps [] []
  | cons {ps a o b t u n vs bs} : (a, o) ∈ ps → (o.cls = .type "list" ∧ o.data = .seq #[.int (bitI b) t, .int (bitI b) u] n) → PairsAre ps vs bs → PairsAre ps (.ref a :: vs) (b :: bs)
theorem PairsAre.len {ps : List (Addr × Obj)} {vs : List Value} {bs : List Bool} (h : PairsAre ps vs bs) : vs.length = bs.length := by
  induction h with
  | nil => rfl
  | cons _ _ _ ih => simp [ih]
theorem PairsAre.mono {ps ps' : List (Addr × Obj)} {vs : List Value} {bs : List Bool} (h : PairsAre ps vs bs) (hs : ∀ p ∈ ps, p ∈ ps') : PairsAre ps' vs bs := by
  induction h with
  | nil => exact .nil
  | cons hm ho _ ih => exact .cons (hs _ hm) ho ih
theorem PairsAre.snoc {ps : List (Addr × Obj)} {vs : List Value} {bs : List Bool} {a : Addr} {o : Obj} {b : Bool} {t u : Tok} {n : Nat} (h : PairsAre ps vs bs) (hm : (a, o) ∈ ps) (ho : o.cls = .type "list" ∧ o.data = .seq #[.int (bitI b) t, .int (bitI b) u] n) : PairsAre ps (vs ++ [.ref a]) (bs ++ [b]) := by
  induction h with
  | nil => exact .cons hm ho .nil
  | cons hm' ho' _ ih => exact .cons hm' ho' ih
end Mine
end

section -- E21
open PySem PySem.W PyProof.Rows PySem.Calls PySem.Spec
namespace Mine
theorem names_row {w : World} {mean : ExcName → Option Value} {mg mb : Str → Option Value} {dp un : Nat} {gd : Option (List Code)} {cn : Str} {cs : Scope} {a : Addr} {ccd : Value} {cl : List (Str × Addr)} {outer : List Env} {A₀ : Around} {base h₀ : Heap} {L : Addr} {m : Str → Option Value} {s : Shared} {Q : Value → Shared → Prop} {E : Value → Shared → Prop} {x d S D G : Addr} {oS oG : Obj} {acc : List Str} {vs : List Value} {c tn : Nat} {k1 k2 k3 t : Tok} {fo : Option (Str × Tok)} {kvs : List (Str × Value)} {bs : List (Int × Nat)} {rows : List (List Str)} {r : List Str}
    (B : Below A₀ base outer h₀) (F : Fr h₀ L s.heap m) (X : (K0 w.params).In h₀) (T : Top topProg lo2 mean mg mb h₀) (hk : cs.kind = .function) (N : News h₀ L s.heap [(G, oG), (x, instObj 840 d), (d, dictOf (ignD w k1 k2 k3 S D G) (nat_lit 3)), (S, oS), (D, W.listOf vs.toArray c)]) (n1 : x ≠ G) (n2 : d ≠ G) (n3 : S ≠ G) (n4 : D ≠ G)
    (hS : SetObj PySem.Challenge.rw_oy0371_01.row.prog w oS (ledW w) acc) (ha : acc.length ≤ 900) (hacc : ∀ x, x ∈ acc ↔ x ∈ (modP bs tn bs.length).map dotS) (hbk : ∀ b ∈ bs, 0 ≤ b.1 ∧ b.1 < 16777216 ∧ b.2 ≤ 3) (hbn : bs.length ≤ 400)
    (hvs : StrsAre vs ((dirP bs tn bs.length).map dirS)) (hG : oG.IsDictOf (PySem.strKind PySem.Challenge.rw_oy0371_01.row.prog w) kvs) (hk9 : kvs.length ≤ 5000) (hsm : (G == sysModules) = false)
    (hKv : KvsOk bs rows kvs) (hro : ∀ r ∈ rows, RowOk r) (hr : r ∈ rows) (hfo : (∃ tf, fo = some (fileR r, tf)) ∨ (valueAt kvs (dotR r)).isSome = true) (hd : dp + 10 < recursionLimit) (hu : un + 100 < cLine)
    (hret : ∀ tk' h' dr' oG' kvs' u, (∀ b o, b ≠ G → s.heap.get? b = some o → h'.get? b = some o) → h'.get? G = some oG' → oG'.IsDictOf (PySem.strKind PySem.Challenge.rw_oy0371_01.row.prog w) kvs' → KvsOk bs rows kvs' → kvs'.length ≤ kvs.length + 1 →
      (valueAt kvs' (dotR r)).isSome = true → Q (.int (bitI (cB bs r)) u) { s with heap := h', toks := tk', drawn := dr' }) :
    wpAny (model PySem.Challenge.rw_oy0371_01.row.prog w) (ktrTop dp un gd cn cs L a ccd cl outer) (call (.ref (nat_lit 837)) [.ref x, fileV fo, .str (dotR r) t]) Q E s := by
  have hrO := hro r hr
  have hml : ∀ z ∈ acc, z.length ≤ 1000 := fun z hz => by
    have := (mods_good hbk (Nat.le_refl _) z ((hacc z).mp hz)).2.1
    omega
  have hdl : ∀ z ∈ (dirP bs tn bs.length).map dirS, z.length ≤ 1000 := fun z hz => by
    have := (dirs_good hbk (Nat.le_refl _) z hz).2.1
    omega
  refine spec_names (mean := mean) (mg := mg) (mb := mb) B F X T hk N n1 n2 n3 n4 hS ha hml hvs (by rw [List.length_map]; exact Nat.le_trans (dirP_len ..) (by omega)) hdl hG (by rw [sizeLine_eq]; omega) hsm (by have := dotR_len hrO; omega) hd hu ?_ ?_
  · intro v tk' h' hv hx
    obtain ⟨u, rfl⟩ := kvs_get hKv hro hrO hv
    exact hret tk' h' s.drawn oG kvs u (fun b o _ e => hx b o e) (hx _ _ (N _ (.head _)).1) hG hKv (Nat.le_succ _) (by rw [hv]; rfl)
  · intro tk' h' dr' oG' t' hv hkp hq hG' u
    rcases hfo with ⟨tf, rfl⟩ | hfo
    · rw [ans_row hbk hacc hrO tf] at hG' ⊢
      refine hret tk' h' dr' oG' _ u hkp hq hG' (kvs_app hKv hr t') (by rw [List.length_append]; exact Nat.le_refl _) ?_
      unfold valueAt
      rw [List.find?_append]
      cases e : kvs.find? (fun kv => decide (kv.1 = dotR r)) with
      | some y => rfl
      | none => simp
    · rw [hv] at hfo; cases hfo
end Mine
end

section -- Gen1
open PySem PySem.W PyProof.Rows PySem.Calls PySem.Spec
namespace Mine
noncomputable def JTab (ps : Array Value) : Prop := TriplesOk ps.toList ∧ ∀ pos, codeAmong pos ps.toList = none ∨ ∃ c, codeAmong pos ps.toList = some (.ref c)
theorem jTab_nil : JTab #[] := ⟨trivial, fun _ => .inl rfl⟩
theorem codeAmong_app {pos : Pos} {a b : Int} {c : Value} (l : List Value) (h : TriplesOk l) : codeAmong pos (l ++ [rawInt a, rawInt b, c]) = (codeAmong pos l).or (if a == pos.line && b == pos.col then some c else none) := by
  fun_induction TriplesOk l with
  | case1 => simp [codeAmong, rawInt]
  | case2 a' t b' u x rest ih =>
    simp only [List.cons_append, codeAmong]
    split
    · rfl
    · exact ih h
  | case3 l h1 h2 => exact h.elim
theorem JTab.snoc {ps : Array Value} (J : JTab ps) (a b : Int) (c : Addr) : JTab (ps ++ #[rawInt a, rawInt b, .ref c]) := by
  have hl : (ps ++ #[rawInt a, rawInt b, Value.ref c]).toList = ps.toList ++ [rawInt a, rawInt b, .ref c] := by simp
  refine ⟨by rw [hl]; exact TriplesOk_snoc _ _ _ _ J.1, fun pos => ?_⟩
  rw [hl, codeAmong_app _ J.1]
  rcases J.2 pos with h | ⟨c', h⟩
  · rw [h]
    by_cases hb : (a == pos.line && b == pos.col) = true
    · rw [if_pos hb]; exact .inr ⟨c, rfl⟩
    · rw [if_neg hb]; exact .inl rfl
  · rw [h]; exact .inr ⟨c', rfl⟩

section
variable {h h' : Heap} {P : Addr} {ps : Array Value} {loose : List Str} {mean : ExcName → Option Value} {mg mb : Str → Option Value}
theorem ns_but {a : Addr} {mm : Str → Option Value} (hP : h.get? P = some (tabObj ps)) (hx : Heap.ExtBut P h h') (x : h.Ns a mm) : h'.Ns a mm := by
  obtain ⟨o, es, ep, e, hd, r⟩ := x
  refine ⟨o, es, ep, hx _ _ (fun q => ?_) e, hd, r⟩
  rw [q, hP] at e; cases e; cases hd
theorem top_but (hP : h.get? P = some (tabObj ps)) (hx : Heap.ExtBut P h h') (T : Top topProg loose mean mg mb h) : Top topProg loose mean mg mb h' where
  g := ns_but hP hx T.g
  b := ns_but hP hx T.b
  nolimit := let ⟨mc, a, r⟩ := T.nolimit; ⟨mc, ns_but hP hx a, r⟩
  nodigits := let ⟨mc, a, r⟩ := T.nodigits; ⟨mc, ns_but hP hx a, r⟩
  fn := fun d hd => absurd (show d ∈ ([] : List DefRec) from hd) List.not_mem_nil
  own := fun o ho => absurd (show o ∈ ([] : List OwnSpec) from ho) List.not_mem_nil
  const := T.const
  free := T.free
  builtins := T.builtins
  tab := fun d hd => absurd (show d ∈ ([] : List DefRec) from hd) List.not_mem_nil
  bmain := let ⟨bm, ob, a1, a2, a3, a4, r⟩ := T.bmain; ⟨bm, ob, a1, a2, hx _ _ (fun q => by rw [q, hP] at a3; cases a3; cases a4) a3, a4, r⟩
  seer := fun e => absurd (show false = true from e) Bool.false_ne_true
theorem kin_but {K : Frag} (hx : Heap.ExtBut P h h') (hK : K.lookup P = none) (X : K.In h) : K.In h' := fun a o e => hx a o (fun q => by rw [q, hK] at e; cases e) (X a o e)
theorem extBut_trans {h₁ h₂ h₃ : Heap} (x : Heap.ExtBut P h₁ h₂) (y : Heap.ExtBut P h₂ h₃) : Heap.ExtBut P h₁ h₃ := fun b o hb e => y b o hb (x b o hb e)
end

noncomputable def GenW (prog : Program) (w : World) (A : Around) (N a : Addr) (n : Nat) (F : Nat → Value → Prop) (s : Shared) : Prop :=
  ∃ fp wr g St, WalksS prog w A.in4 a fp wr (GenOnlyQ g) n F St ∧ St 0 s ∧ (∀ i s', St i s' → s'.TypeIs (.ref a) "generator") ∧ a ∈ fp ∧ (∀ b ∈ fp, b < s.heap.objs.size) ∧ ∀ b ∈ wr, N ≤ b

section
variable {prog : Program} {w : World} {A : Around} {E : Value → Shared → Prop} {s : Shared} {c P : Addr} {loose : List Str} {mean : ExcName → Option Value} {mg mb : Str → Option Value}
theorem genCode {env : Env} {pos : Pos} {qualname : Str} {scope : Scope} {ps : Array Value} {Q : Value → Shared → Prop} (hc : env.code = .ref c) (C : CodeHd s.heap c P) (hP : s.heap.get? P = some (tabObj ps)) (J : JTab ps)
    (hQ : ∀ c' h' tk ps', Heap.ExtBut P s.heap h' → s.heap.objs.size ≤ h'.objs.size → h'.get? P = some (tabObj ps') → JTab ps' → Q (.ref c') { s with heap := h', toks := tk }) :
    wpAny (model prog w) A (genexprCode env pos qualname scope) Q E s := by
  rcases J.2 pos with hn | ⟨c', hf⟩
  · refine wpAny_genexprCodeX hc (C.code hP J.1) (C.tab hP) hn fun c' h' tk hx hge hlt _ _ htab _ => ?_
    exact hQ c' h' tk _ hx (Nat.le_trans hge (Nat.le_of_lt hlt)) htab.2 (J.snoc _ _ _)
  · exact wpAny_genexprCode_hit hc (C.code hP J.1) hf (hQ c' s.heap s.toks ps (fun _ _ _ e => e) (Nat.le_refl _) hP J)

theorem genexp_lst {env : Env} {elt iter : PySem.Expr} {x : Str} {px : Pos} {scope : Scope} {cl : List (Str × Addr)} {pos : Pos} {Q : Value → Shared → Prop}
    (hh : A.handled = none) (hge : env.globals = mainGlobals) (hcode : env.code = .ref c) (hco : scope.isCoroutine = false) (hclos : closureFor scope env = pure cl) (hcell : ∀ y ∈ scope.names, y.2 ≠ .cell) (h0 : scope.names.lookup (".0" : Str) = some NameKind.local)
    (hx : scope.names.lookup x = some .local) (hkind : scope.kind = .function) (hroom : A.depth < recursionLimit)
    (h : wpAny (model prog w) A (eval iter env) (fun xv s₁ => ∃ l items ps, xv = .ref l ∧ s₁.heap.IsList l items ∧ CodeHd s₁.heap c P ∧ s₁.heap.get? P = some (tabObj ps) ∧ JTab ps ∧ Top topProg loose mean mg mb s₁.heap ∧ AllBare s₁.gens ∧
      ∃ F : Nat → Value → Prop,
        (∀ (C : Addr) (code : Value) (A' : Around) E' i v (t : Shared) m₂, A'.handled = none → A'.depth ≤ A.depth + 1 → A'.units ≤ A.units + 8 → items[i]? = some v → t.heap.Ns C m₂ → m₂ x = some v → Heap.ExtBut P s₁.heap t.heap →
          wpAny (model prog w) A' (eval elt (genEnv scope cl C code builtinsNs env)) (fun y s₃ => F i y ∧ Keeps t s₃) E' t) ∧
        (∀ (a : Addr) (s₅ : Shared) ps', Heap.ExtBut P s₁.heap s₅.heap → s₅.heap.get? P = some (tabObj ps') → JTab ps' → AllBare s₅.gens → s₅.os = s₁.os → s₅.drawn = s₁.drawn →
          GenW prog w A s₁.heap.objs.size a items.size F s₅ → Q (.ref a) s₅)) E s)
    (hs : ∀ x, genFold iter env x = pure x) :
    wpAny (model prog w) A (eval (.GeneratorExp elt [⟨.Name x px, iter, [], 0⟩] scope pos) env) Q E s := by
  refine wpAny_GeneratorExp_walksQD hh hco hclos hcell h0 hx hkind hroom (wpAny_mono h (fun xv s₁ h₁ => ?_) fun _ _ e => e) hs
  obtain ⟨l, items, ps, rfl, hl, C, hP, J, T, G, F, hq, hQ⟩ := h₁
  have hlt : l < s₁.heap.objs.size := by obtain ⟨_, e, _⟩ := hl; exact Heap.lt_size e
  have hlP : l ≠ P := fun e => by
    obtain ⟨o, ho, hc, _⟩ := hl
    rw [e, hP] at ho; cases ho; exact absurd hc (by simp)
  have hPlt := Heap.lt_size hP
  refine wpAny_pyIter_list hl ⟨T.nolimit.keeps fun b o e => Heap.get?_push_of_some _ e, genCode hcode (C.keeps fun b o e => Heap.get?_push_of_some _ e) (Heap.get?_push_of_some _ hP) J fun c' h₃ tk₃ ps' hx₃ hsz hP' J' => ?_⟩
  have hx₁ : Heap.ExtBut P s₁.heap h₃ := fun b o hb e => hx₃ b o hb (Heap.get?_push_of_some _ e)
  have T₃ := top_but hP hx₁ T
  obtain ⟨bm, ob, b1, b2, b3, b4, b5, b6⟩ := T₃.bmain
  have hsz' : s₁.heap.objs.size < h₃.objs.size := by rw [Heap.size_push] at hsz; exact hsz
  have hst : h₃.IsListIter s₁.heap.objs.size l 0 ∧ h₃.IsList l items := by
    refine ⟨?_, ?_⟩
    · exact ⟨_, hx₃ _ _ (Nat.ne_of_gt hPlt) (Heap.get?_push_size _ rfl), rfl, rfl⟩
    · exact hl.at fun o e => hx₁ l o hlP e
  refine wpAny_builtinsFor (hge ▸ T₃.g) b1 b2 b3 b4 b5 b6 ?_
  refine ⟨s₁.heap.objs.size, [s₁.heap.objs.size, l], [s₁.heap.objs.size], items.size, _, _, fun _ => true, F, rfl, (fun A' hA => Walks.list hA _ _ (Nat.ne_of_lt hlt) items), hst, ?_, T₃.nolimit, ?_, ?_, ?_⟩
  · intro b hb
    rcases List.mem_cons.mp hb with rfl | hb
    · exact hsz'
    · rcases List.mem_cons.mp hb with rfl | hb
      · exact Nat.lt_trans hlt hsz'
      · cases hb
  · intro hm
    have hc : cStatics < s₁.heap.objs.size := let ⟨_, hn, _⟩ := T.nolimit; hn.lt
    rcases List.mem_cons.mp hm with e | hb
    · exact absurd (e ▸ hc) (Nat.lt_irrefl _)
    · cases hb
  · intro href hhref
    refine ⟨fun A' E' i v s₂ m₂ _ _ _ _ _ _ _ => wpAny_pure ⟨rfl, ⟨s₂.heap, s₂.toks, rfl, fun _ _ e => e⟩⟩, fun A' E' i v s₂ m₂ hA hD hU hi _ hn hm hkp => ?_⟩
    refine hq _ _ A' E' i v s₂ m₂ hA hD hU hi hn hm fun b o hb e => ?_
    have e3 := hx₁ b o hb e
    refine hkp b (List.mem_range.mpr (Heap.lt_size e3)) (fun hm => ?_) o (hhref b o e3)
    rcases List.mem_cons.mp hm with rfl | hm
    · exact Nat.lt_irrefl _ (Heap.lt_size e)
    · cases hm
  · intro a h₅ tk gs hgb hag hsz₅ hk₅ W hat
    have hpass : passing (fun _ => true) items.size 0 = List.range items.size := by simp [passing]
    refine hQ a _ ps' (fun b o hb e => hk₅ b o (hx₁ b o hb e)) (hk₅ _ _ hP') J' (G.push hgb) rfl rfl ⟨a :: h₃.objs.size :: List.range h₃.objs.size, h₃.objs.size :: [s₁.heap.objs.size], s₁.gens.size, GenAt prog w A.in4 a s₁.gens.size h₃.objs.size (List.range h₃.objs.size) [s₁.heap.objs.size] (fun _ => true) items.size F, ?_, ?_, ?_, List.mem_cons_self, ?_, ?_⟩
    · have e1 : (passing (fun _ => true) items.size 0).length = items.size := by rw [hpass, List.length_range]
      have W' := e1 ▸ W
      refine { W' with item := fun i s Q E hi st hQ => W'.item i s Q E hi st fun v s' hv => ?_ }
      obtain ⟨i', hi', hF⟩ := hv
      rw [hpass, List.getElem?_range hi] at hi'
      cases hi'
      exact hQ v s' hF
    · exact hat
    · exact fun i s' st => st.1.typeIs
    · intro b hb
      show b < h₅.objs.size
      rw [hsz₅]
      rcases List.mem_cons.mp hb with rfl | hb
      · exact Nat.lt_succ_self _
      · rcases List.mem_cons.mp hb with rfl | hb
        · exact Nat.lt_succ_of_lt hag
        · exact Nat.lt_succ_of_lt (Nat.lt_trans (List.mem_range.mp hb) hag)
    · intro b hb
      rcases List.mem_cons.mp hb with rfl | hb
      · exact Nat.le_of_lt hsz'
      · rcases List.mem_cons.mp hb with rfl | hb
        · exact Nat.le_refl _
        · cases hb

theorem join_W {sep : Str} {t : Tok} {N a : Addr} {n : Nat} {F : Nat → Value → Prop} {Q : Value → Shared → Prop} (G : AllBare s.gens) (X : GenW prog w A N a n F s) (tx : Nat → Str) (htx : ∀ j v, F j v → ∃ u, v = .str (tx j) u)
    (hok : JoinOk sep ((List.range n).map tx) = true)
    (hQ : ∀ (s' : Shared) t', (∀ b o, b < N → s.heap.get? b = some o → s'.heap.get? b = some o) → AllBare s'.gens → s'.os = s.os → s'.drawn = s.drawn → ∀ k, Q (.str (Txt.join sep ((List.range n).map tx)) t') { s' with toks := k })
    (hsz : n ≤ sizeLine) : wpAny (model prog w) A (call (.builtin "str.join") [.str sep t, .ref a]) Q E s := by
  obtain ⟨fp, wr, g, St, W, hst, hT, ha, hfp, hwr⟩ := X
  have W := W.in4_2
  refine SC.joinGen W hT hst hfp ha (fun j v hv => let ⟨u, e⟩ := htx j v hv; ⟨_, u, e⟩) (fun s' lt hm hacc => ?_) hsz
  have hl : lt.map (·.1) = (List.range n).map tx := by
    apply List.ext_getElem?
    intro j
    have hsz : lt.length = n := by simpa [strValues] using hacc.1
    by_cases hj : j < n
    · have hj' : j < lt.length := hsz ▸ hj
      obtain ⟨u, hv⟩ := htx j _ (hacc.2 j (.str lt[j].1 lt[j].2) (by simp [strValues, List.getElem?_eq_getElem hj']))
      injection hv with h1 _
      simp [List.getElem?_eq_getElem hj', hj, h1]
    · rw [List.getElem?_eq_none (by simpa [hsz] using Nat.le_of_not_lt hj), List.getElem?_eq_none (by simpa using Nat.le_of_not_lt hj)]
  rw [hl]
  exact ⟨hok, fun t' k => hQ s' t' (fun b o hb e => hm.heap b o (fun hmem => Nat.lt_irrefl _ (Nat.lt_of_lt_of_le hb (hwr b hmem))) e) (G.movedS hm) hm.os hm.drawn k⟩
end
end Mine
end

section -- E7
open PySem PySem.W PyProof.Rows PySem.Calls PySem.Spec
namespace Mine

section
variable {M : Model} {A : Around} {E : Value → Shared → Prop} {s : Shared} {K : Frag} {mg : Str → Option Value} {scope : Scope} {cl : List (Str × Addr)} {C : Addr} {code : Value} {bi : Addr} {env : Env} {x : Str} {pos : Pos} {v : Value} {Q : Value → Shared → Prop} {m : Str → Option Value}
theorem nmG_K (g : s.heap.Ns mainGlobals mg) (X : K.In s.heap) (e : nsIn K mainGlobals x = some (some v)) (h : Q v s) (hge : env.globals = mainGlobals) (hk : scope.kind = .function) (hx : (genEnv scope cl C code bi env).kindOf x = some .globalImplicit) (hd : (x == ("__debug__" : Str)) = false) :
    wpAny M A (eval (.Name x pos) (genEnv scope cl C code bi env)) Q E s := Name_function_global hk hx (loadGlobal_global (env := genEnv scope cl C code bi env) (show s.heap.Ns env.globals mg from hge ▸ g) (mg_of X g e) h) hd
theorem nmG_L (hn : s.heap.Ns C m) (hv : m x = some v) (h : Q v s) (hk : scope.kind = .function) (hx : (genEnv scope cl C code bi env).kindOf x = some .local) (hd : (x == ("__debug__" : Str)) = false) :
    wpAny M A (eval (.Name x pos) (genEnv scope cl C code bi env)) Q E s := wpAny_Name (wpAny_loadName_local hk hx hn hv h) hd
end
theorem spec_join {w : World} {mean : ExcName → Option Value} {mg mb : Str → Option Value} {dp un : Nat} {fr : Option (List Env)} {gd : Option (List Code)} {s : Shared} {Q : Value → Shared → Prop} {E : Value → Shared → Prop} {l : Addr} {vs : List Value} {xs : List Str} {ps : Array Value}
    (X : (K0 w.params).In s.heap) (T : Top topProg lo2 mean mg mb s.heap) (hP : s.heap.get? 804 = some (tabObj ps)) (J : JTab ps) (G : AllBare s.gens) (hl : s.heap.IsList l vs.toArray) (hx : StrsAre vs xs)
    (hs : ∀ x ∈ xs, 0 < x.length ∧ x.length ≤ 100000 ∧ (qmid x).length ≤ 1000000) (hn : xs.length ≤ 1000) (hw : ((xs.map quoteS).map (·.length)).sum + xs.length ≤ 1048576) (hd : dp + 8 < recursionLimit) (hu : un + 100 < cLine)
    (hret : ∀ tk' h' gens' ps' t', Heap.ExtBut 804 s.heap h' → h'.get? 804 = some (tabObj ps') → JTab ps' → AllBare gens' → Q (.str (Txt.join (Str.ofString " ") (xs.map quoteS)) t') { s with heap := h', gens := gens', toks := tk' }) :
    wpAny (model PySem.Challenge.rw_oy0371_01.row.prog w) (anyTop dp un fr gd) (call (.ref (nat_lit 809)) [.ref l]) Q E s := by
  have X' := X
  have T' := T
  w_on
  w_strict (
    refine wpAny_call ?_
    k_dflt (refine' enterA [(Str.ofString "split_command", .ref l)] ?k3 ?k5 ?k6 ?k7 ?k8 ?k9 ?kB ?_ ?c2 ?c3 ?c4 ?c5; (case k3 => k_asm); (case k5 => k_asm); (case k6 => k_is); (case k7 => k_is); (case k8 => ktr_room); (case k9 => first | exact BindsTo.of_eq rfl | exact binds_K (by k_in) rfl (by k_is) rfl rfl rfl); (case c5 => decide); (case kB => exact locs rfl); (case c2 => exact rfl); (case c3 => exact rfl); (case c4 => exact rfl); k_whole; intro L' h' tk' F' eL; (have N' := (News.nil : News s.heap L' h' [])); (try dsimp only); (try (refine letA ?_; intro M' V' A')); (try k_fold))
    repeat' (first | (k_unfold; (try dsimp only)) | ((fail_if_success (with_reducible show wpAny _ _ (eval (PySem.Expr.GeneratorExp _ _ _ _) _) _ _ _)); first | ((with_reducible show wpAny _ _ (eval (Expr.Name _ _) (genEnv _ _ _ _ _ _)) _ _ _); first | (with_unfolding_all refine nmG_K (Top.g (by assumption)) (by assumption) (by k_is) ?k4 (by exact rfl) (by exact rfl) (by exact rfl) (by decide)) | (with_unfolding_all refine nmG_L (by assumption) (by assumption) ?k4 (by exact rfl) (by exact rfl) (by decide))) | walk1 | (dsimp only; walk1)))
    refine genexp_lst (c := 808) (P := 804) (mean := mean) (mg := mg) (mb := mb) (loose := lo2) (cl := []) rfl rfl rfl rfl ?hclos ?hcell ?h0 ?hx rfl ?hroom ?main ?hs
    case hclos => with_unfolding_all rfl
    case hcell => decide
    case h0 => rfl
    case hx => rfl
    case hroom => ktr_room
    case hs => (intro _; rfl)
    case main =>
      walk1
      refine ⟨l, vs.toArray, ps, rfl, hl.at fun o e => F'.keep l o e, CodeHd.keeps (codeHd_of_K X (by kernel_rfl)) F'.keep, F'.keep _ _ hP, J, T.keeps F'.keep, G, fun i y => ∃ u, y = .str (quoteS (xs.getD i "")) u, ?elt, ?fin⟩
      case elt =>
        intro C code A' E' i v t m₂ hA hD hU hi hns hm hx2
        obtain ⟨ha, da, fa, ga, ua⟩ := A'
        dsimp only at hA
        subst hA
        have hD' : da ≤ dp + 1 + 1 := hD
        have hU' : ua ≤ un + 3 + 8 := hU
        have hx3 : Heap.ExtBut 804 s.heap t.heap := fun b o hb e => hx2 b o hb (F'.keep b o e)
        have X2 : (K0 w.params).In t.heap := kin_but hx3 (by kernel_rfl) X
        have T2 : Top topProg lo2 mean mg mb t.heap := top_but hP hx3 T
        have hi' : vs[i]? = some v := by simpa using hi
        obtain ⟨u, hv, hin⟩ : ∃ u, v = .str (xs.getD i "") u ∧ xs.getD i "" ∈ xs := by
          have hlt : i < xs.length := by rw [← hx.length]; exact (List.getElem?_eq_some_iff.mp hi').1
          obtain ⟨u, hu⟩ := hx.get i xs[i] (List.getElem?_eq_getElem hlt)
          rw [hi'] at hu
          have e : xs.getD i "" = xs[i] := by simp [List.getD_eq_getElem?_getD, hlt]
          exact ⟨u, by rw [e]; exact Option.some.inj hu, by rw [e]; exact List.getElem_mem hlt⟩
        subst hv
        obtain ⟨q1, q2, q3⟩ := hs _ hin
        refine Call_ ?_
        refine nmG_K (v := .ref 817) T2.g X2 (by kernel_rfl) ?_ rfl rfl rfl (by decide)
        refine callWith_K (K := K0 w.params) X (by kernel_rfl) ?_
        refine args_cons ?_
        refine nmG_L hns hm ?_ rfl rfl (by decide)
        refine args_nil ⟨X2, ?_⟩
        refine spec_quote (mean := mean) (mg := mg) (mb := mb) (dp := da) (un := ua) (fr := fa) (gd := ga) X2 T2 q1 q2 q3 (by omega) (by have hcL9 := cLine_is; omega) ?_
        intro tk2 h2 x2 t2
        exact ⟨⟨t2, rfl⟩, h2, tk2, rfl, x2⟩
      case fin =>
        intro a s₅ ps' hk5 hP5 J5 G5 ho5 hd5 W5
        obtain ⟨h5, g5, d5, t5, o5⟩ := s₅
        dsimp only at hk5 hP5 J5 G5 ho5 hd5
        subst ho5 hd5
        have hlen : vs.toArray.size = xs.length := by rw [List.size_toArray]; exact hx.length
        have emap : (List.range vs.toArray.size).map (fun j => quoteS (xs.getD j "")) = xs.map quoteS := by
          rw [hlen]
          apply List.ext_getElem?
          intro j
          by_cases hj : j < xs.length
          · simp [hj, List.getD_eq_getElem?_getD]
          · rw [List.getElem?_eq_none (by simpa using Nat.le_of_not_lt hj), List.getElem?_eq_none (by simpa using Nat.le_of_not_lt hj)]
        have hw' : ((xs.map quoteS).map (·.length)).sum + (xs.map quoteS).length ≤ 1048576 := by rw [List.length_map]; exact hw
        refine args_nil ?_
        try dsimp only
        refine join_W G5 W5 (fun j => quoteS (xs.getD j "")) (fun j v hv => hv) (by rw [emap]; exact PyProof.Rows.joinOk_of_weight hw' (by decide)) ?_ (by rw [hlen, sizeLine_eq]; omega)
        intro s' t' hk6 G6 ho6 hd6 k
        obtain ⟨h6, g6, d6, t6, o6⟩ := s'
        dsimp only at hk6 G6 ho6 hd6
        subst ho6 hd6
        rw [emap]
        have hlt : ∀ b o, s.heap.get? b = some o → b < h'.objs.size := fun b o e => Heap.lt_size (F'.keep b o e)
        exact hret k h6 g6 ps' t' (fun b o hb e => hk6 b o (hlt b o e) (hk5 b o hb (F'.keep b o e))) (hk6 _ _ (hlt _ _ hP) hP5) J5 G6)
end Mine
end

section -- E16
open PySem PySem.W PyProof.Rows PySem.Calls PySem.Spec
namespace Mine

theorem keepZ_of {H g h h' : Heap} {L dx d D : Addr} {m : Str → Option Value} {news : List (Addr × Obj)} {env : Env} {l : List Env} {o1 o2 : Obj} (G : GSub H g []) (F : Fr g L h m) (N : News g L h news) (hL : env.frame = some L) (h1 : (dx, o1) ∈ news) (h2 : (d, o2) ∈ news)
    (hD : h.get? D = none) (hf : KeepS (frs (env :: l)) dx d D h h') : H.get? D = none ∧ KeepZ (frs l) H h' := by
  have up : ∀ b o, H.get? b = some o → g.get? b = some o := fun b o e => G b o e (fun hm => nomatch hm)
  have nL : ∀ b o, g.get? b = some o → b ≠ L := fun b o e z => Nat.lt_irrefl _ (Nat.lt_of_lt_of_le (z ▸ get_lt e) F.above)
  have n1 : ∀ b o, g.get? b = some o → b ≠ dx := fun b o e z => by rw [z, (N _ h1).2.2] at e; cases e
  have n2 : ∀ b o, g.get? b = some o → b ≠ d := fun b o e z => by rw [z, (N _ h2).2.2] at e; cases e
  have n3 : ∀ b o, g.get? b = some o → b ≠ D := fun b o e z => by have := F.keep b o e; rw [z, hD] at this; cases this
  have hfr : frs (env :: l) = L :: frs l := by simp [frs, hL]
  rw [hfr] at hf
  refine ⟨?_, fun b o hb e => ?_, fun b o hb e hdt => ?_⟩
  · cases e : H.get? D with
    | none => rfl
    | some o => exact absurd rfl (n3 D o (up D o e))
  · have eg := up b o e
    exact hf.1 b o (fun hm => (List.mem_cons.mp hm).elim (nL b o eg) hb) (n1 b o eg) (n2 b o eg) (n3 b o eg) (F.keep b o eg)
  · have eg := up b o e
    exact hf.2 b o (.tail _ hb) (n1 b o eg) (n2 b o eg) (n3 b o eg) (F.keep b o eg) hdt
theorem wchars : Str.ofString "abcdfeghijklmnopqrstuvwxyzABCDEFGHIJKLMNOPQRSTUVWXYZ0123456789_" ++ Str.ofString "ßàáâãäåæçèéêëìíîïðñòóôõöøùúûüýþÿÀÁÂÃÄÅÆÇÈÉÊËÌÍÎÏÐÑÒÓÔÕÖØÙÚÛÜÝÞ" =
  Str.ofString "abcdfeghijklmnopqrstuvwxyzABCDEFGHIJKLMNOPQRSTUVWXYZ0123456789_ßàáâãäåæçèéêëìíîïðñòóôõöøùúûüýþÿÀÁÂÃÄÅÆÇÈÉÊËÌÍÎÏÐÑÒÓÔÕÖØÙÚÛÜÝÞ" := by decide +kernel
theorem spec_split {w : World} {mean : ExcName → Option Value} {mg mb : Str → Option Value} {dp un : Nat} {gd : Option (List Code)} {cn : Str} {cs : Scope} {a : Addr} {ccd : Value} {cl : List (Str × Addr)} {outer : List Env} {A₀ : Around} {base h₀ : Heap} {L : Addr} {m : Str → Option Value} {s : Shared} {Q : Value → Shared → Prop} {E : Value → Shared → Prop} {x : Str} {t : Tok} {ws : List (List Nat)}
    (B : Below A₀ base outer h₀) (F : Fr h₀ L s.heap m) (X : (K0 w.params).In h₀) (T : Top topProg lo2 mean mg mb h₀) (hk : cs.kind = .function) (hl : LexTo (some .sp) x.cps.toList ws) (hw : ws.length ≤ 100000) (hx : x.length ≤ 1000000) (hd : dp + 30 < recursionLimit) (hu : un + 500 < cLine)
    (hret : ∀ tk' h' D vs c', s.heap.get? D = none → h'.get? D = some (lstObj vs c') → StrsAre vs (ws.map mkS) → KeepZ (frs (envX cn cs L a ccd cl :: outer)) s.heap h' → Q (.ref D) { s with heap := h', toks := tk' }) :
    wpAny (model PySem.Challenge.rw_oy0371_01.row.prog w) (ktrTop dp un gd cn cs L a ccd cl outer) (call (.ref (nat_lit 802)) [.str x t]) Q E s := by
  w_on
  w_strict (
    refine wpAny_call ?_
    k_dflt (refine' enterS [(Str.ofString "s", .str x t), (Str.ofString "comments", .bool false), (Str.ofString "posix", .bool true)] ?k1 ?k2 ?k3 ?k5 ?kA ?kF ?kK ?k6 ?k7 ?k8 ?k9 ?kB ?_ ?c2 ?c3 ?c4 ?c5; (case kA => exact rfl); (case kF => exact rfl); (case kK => assumption); (case k1 => k_asm); (case k2 => k_asm); (case k3 => k_asm); (case k5 => k_asm); (case k6 => k_is); (case k7 => k_is); (case k8 => ktr_room); (case k9 => first | exact BindsTo.of_eq rfl | exact binds_K (by k_in) rfl (by k_is) rfl rfl rfl); (case c5 => decide); (case kB => exact locs rfl); (case c2 => exact rfl); (case c3 => exact rfl); (case c4 => exact rfl); k_whole; intro g' L' h' tk' FG' F' N' B' X' T' G'; (try dsimp only); (try (refine letA ?_; intro M' V' A')); (try k_fold))
    repeat' (first | (k_unfold; (try dsimp only)) | ((fail_if_success (with_reducible show wpAny _ _ (call (Value.type "list") _) _ _ _)); first | ((with_reducible show wpAny _ _ (call (Value.type "collections.deque") _ _) _ _ _); k_here; k_dflt (refine dq_K (by k_asm) (by k_asm) ?_; k_whole); intro _ _ _ _ l7; (try k_lt l7)) | ((with_reducible show wpAny _ _ (call (Value.ref _) _ _) _ _ _); k_here; k_dflt (refine spec_io (by k_asm) (by k_asm) (by k_asm) (by k_asm) (by first | exact rfl | assumption) (by ktr_room) (by ktr_units) ?_; k_whole); intro tk9 h9 i9 d9 k91 k92 k93 tp9 x9 q91 q92 f91 f92 l91 l92; (have l93 := news_below (by assumption) l91); (have N9 := news_add2 (by assumption) (by assumption) x9 q91 q92 f91 f92); (have F9 := Fr.keeps (by assumption) x9); (try k_lt l93); (try k_lt2 l92); clear q91 q92 f91 f92 l91; (try dsimp only); (try k_fold)) | walk1 | (dsimp only; walk1)))
    rename News g' L' _ _ => NZ
    rename Fr g' L' _ _ => FZ
    try rw [wchars] at NZ
    refine' spec_list (LT := ⟨_, _, _, _, _, _, _, _, _, _, _, _, _, _, _, _, _, _, _, _, _, _, _, _, _, _, _, _⟩) (st := some .sp) (p := 0) B' FZ X' T' rfl (fun q hq => NZ q ((List.forall_mem_cons.mpr ⟨.tail _ (.tail _ (.tail _ (.tail _ (.head _)))), List.forall_mem_cons.mpr ⟨.tail _ (.tail _ (.tail _ (.tail _ (.tail _ (.head _))))), List.forall_mem_cons.mpr ⟨.tail _ (.tail _ (.head _)), List.forall_mem_cons.mpr ⟨.tail _ (.tail _ (.tail _ (.head _))), List.forall_mem_cons.mpr ⟨.tail _ (.head _), List.forall_mem_cons.mpr ⟨.head _, fun p hp => nomatch hp⟩⟩⟩⟩⟩⟩) q hq)) ?o1 ?o2 ?o3 ?o4 ?o5 (Nat.zero_le _) hx (fun e => nomatch e) hl hw ?kd ?ku ?_
    case o1 => first | assumption | (apply And.left; assumption)
    case o2 => first | assumption | (apply And.left; assumption)
    case o3 => first | assumption | (apply And.left; assumption)
    case o4 => first | assumption | (apply And.left; assumption)
    case o5 => first | assumption | (apply And.left; assumption)
    case kd => ktr_room
    case ku => ktr_units
    intro tk9 h9 D9 vs9 c9 f1 f2 f3 f4
    have hz := keepZ_of G' FZ NZ rfl (.tail _ (.tail _ (.tail _ (.tail _ (.tail _ (.head _)))))) (.tail _ (.tail _ (.tail _ (.head _)))) f1 f4
    exact hret _ _ _ _ _ hz.1 f2 f3 hz.2)
end Mine
end

section -- E20
open PySem PySem.W PyProof.Rows PySem.Calls PySem.Spec
namespace Mine

local macro_rules | `(tactic| walk_at "eval Name") => `(tactic| ((with_reducible show wpAny _ _ (eval (Expr.Name _ _) (compEnvC _ _ _ _)) _ _ _); (with_unfolding_all refine nmL (by assumption) (by exact rfl) ?k3 (by exact rfl) (by exact rfl) (by decide))))
local macro_rules | `(tactic| walk_at "eval Name") => `(tactic| ((with_reducible show wpAny _ _ (eval (Expr.Name _ _) (compEnvC _ _ _ _)) _ _ _); (with_unfolding_all refine nmC (by exact rfl) (by assumption) ?k3 (by exact rfl) (by exact rfl) (by decide))))
local macro_rules | `(tactic| walk_at "call builtin:len") => `(tactic| (k_here; k_dflt (refine call_len_list (by exact News.isList (by k_asm) (by k_mem)) (by (simp only [List.size_toArray]; omega)) ?_; k_whole)))
local macro_rules | `(tactic| k_all) => `(tactic| assumption)
local macro_rules | `(tactic| walk_at "call builtin:list.append") => `(tactic| (k_here; (try dsimp only [List.cons_append, List.nil_append]); k_dflt (refine append_K (by k_asm) (by k_asm) (by k_upd) ?_ (by first | assumption | size_fits); k_whole); intro h' F' N'; (try k_sweep)))
theorem mem_front {α : Type} {p z : α} {l r : List α} (h : p ∈ l ++ z :: r) : p ∈ z :: (l ++ r) := (List.mem_append.mp h).elim (fun h => .tail _ (List.mem_append_left _ h)) fun h => (List.mem_cons.mp h).elim (fun e => e ▸ .head _) fun h => .tail _ (List.mem_append_right _ h)
theorem perm10 {α : Type} {p z i t g x d s e q : α} {r : List α} (h : p ∈ i :: t :: g :: x :: d :: s :: e :: q :: z :: r) : p ∈ z :: i :: t :: g :: x :: d :: s :: e :: q :: r := by
  exact mem_front (l := [i, t, g, x, d, s, e, q]) h
inductive ToldJ (w : World) (bs : List (Int × Nat)) (rows : List (List Str)) (TL G9 x9 d9 S9 D8 : Addr) (k91 k92 k93 : Tok) (vs16 : List Value) (c16 : Nat) (oS9 : Obj) (ps13 : Array Value) (i : Nat) (news₁ : List (Addr × Obj)) : Prop
  | mk (acc : List Value) (n : Nat) (oG : Obj) (kvs : List (Str × Value)) (pairs : List (Addr × Obj)) (e : news₁ = (TL, W.listOf (List.toArray acc) n) :: (G9, oG) :: (x9, instObj 840 d9) :: (d9, dictOf (ignD w k91 k92 k93 S9 D8 G9) (nat_lit 3)) :: (S9, oS9) :: (D8, W.listOf vs16.toArray c16) :: (804, tabObj ps13) :: pairs)
    (hG : oG.IsDictOf (PySem.strKind PySem.Challenge.rw_oy0371_01.row.prog w) kvs) (hKv : KvsOk bs rows kvs) (hkl : kvs.length ≤ 1 + 2 * i) (hP : PairsAre pairs acc ((rows.take i).map (cB bs))) (hpn : ∀ p ∈ pairs, @Ne Nat p.1 TL ∧ @Ne Nat p.1 G9 ∧ @Ne Nat p.1 804)
theorem spec_told {w : World} {mean : ExcName → Option Value} {mg mb : Str → Option Value} {dp un : Nat} {gd : Option (List Code)} {cn : Str} {cs : Scope} {a : Addr} {ccd : Value} {cl : List (Str × Addr)} {A₀ : Around} {base h₀ : Heap} {L : Addr} {m : Str → Option Value} {s : Shared} {Q : Value → Shared → Prop} {E : Value → Shared → Prop}
    {ps : Array Value} {lb la : Addr} {vsB vsA : List Value} {tups : List (Addr × Obj)} {bs : List (Int × Nat)} {tn : Nat} {tt : Tok}
    (B : Below A₀ base [] h₀) (F : Fr h₀ L s.heap m) (X : (K0 w.params).In h₀) (T : Top topProg lo2 mean mg mb h₀) (hk : cs.kind = .function)
    (N : News h₀ L s.heap [(804, tabObj ps)]) (hd : dp + 60 < recursionLimit) (hu : un + 1500 < cLine)
    (hlb : s.heap.IsList lb vsB.toArray) (hbs : BlkAre tups vsB bs) (hbn : bs.length ≤ 400) (hbk : ∀ b ∈ bs, 0 ≤ b.1 ∧ b.1 < 16777216 ∧ b.2 ≤ 3) (htu : ∀ p ∈ tups, s.heap.get? p.1 = some p.2) {rows : List (List Str)} (hla : s.heap.IsList la vsA.toArray) (hro : ∀ r ∈ rows, RowOk r) (hrn : rows.length ≤ 1000)
    (hrv : ∀ (i : Nat) (v : Value), vsA[i]? = some v → ∃ l vs r, v = Value.ref l ∧ s.heap.IsList l (List.toArray vs) ∧ StrsAre vs r ∧ rows[i]? = some r) (hva : vsA.length = rows.length)
    (J : JTab ps) (G : AllBare s.gens) (hret : ∀ tk' h' dr' g' ps' R vals pairs c, Fr h₀ L h' m → (∀ b o, b ≠ 804 → b ≠ L → s.heap.get? b = some o → h'.get? b = some o) → h'.get? 804 = some (tabObj ps') → JTab ps' → AllBare g' → h'.get? R = some (W.listOf (List.toArray vals) c) → s.heap.get? R = none →
      PairsAre pairs vals (rows.map (cB bs) ++ [true]) → (∀ p ∈ pairs, h'.get? p.1 = some p.2 ∧ s.heap.get? p.1 = none) → Q (.ref R) { s with heap := h', gens := g', drawn := dr', toks := tk' }) :
    wpAny (model PySem.Challenge.rw_oy0371_01.row.prog w) (ktrTop dp un gd cn cs L a ccd cl []) (call (.ref (nat_lit 866)) [.ref lb, .int (tn : Int) tt, .ref la]) Q E s := by
  w_on
  w_strict (
    refine wpAny_call ?_
    k_dflt (refine' enterCZ (binds := [(Str.ofString "blocks", .ref lb), (Str.ofString "turn", .int (tn : Int) tt), (Str.ofString "asked", .ref la)]) ?k1 ?k2 ?k3 ?k4 ?k5 ?kA ?kF ?kK ?k6 ?k7 ?k8 ?k9 ?kB ?kD ?_ ?c2 ?c3 ?c4; (case kA => exact rfl); (case kF => exact rfl); (case kK => assumption); (case k1 => k_asm); (case k2 => k_asm); (case k3 => k_asm); (case k4 => k_asm); (case k5 => k_asm); (case k6 => k_is); (case k7 => k_is); (case k8 => ktr_room); (case k9 => first | exact BindsTo.of_eq rfl | exact binds_K (by k_in) rfl (by k_is) rfl rfl rfl); (case kB => exact rfl); (case kD => decide +kernel); (case c2 => exact rfl); (case c3 => exact rfl); (case c4 => exact rfl); k_whole; intro g' L' h' tk' cells' FG' F' N' Y' B' X' T' l1 G' K' eL; (try k_lt l1); k_cells Y'; (try simp only [List.cons_append, List.nil_append] at N'); (try dsimp only); (try (refine letA ?_; intro M' V' A')); (try k_fold))
    repeat' (first | (k_unfold; (try dsimp only)) | ((fail_if_success (with_reducible show wpAny _ _ (exec (Stmt.Assign _ _ _) _) _ _ _)); first | walk1 | (dsimp only; walk1)))
    have hz : vsB.length ≤ sizeLine := by rw [hbs.len]; exact s_le 400 hbn (by decide)
    refine' assign_eval ?sw ?_
    case sw => with_unfolding_all rfl
    rename Fr _ _ _ _ => FZ
    rename News _ _ _ _ => NZ
    refine' evalCompL rfl ?hclos ?hcell ?hkind ?hnames (fun i ys more => more = [] ∧ StrsAre ys ((bs.take i).map fun b => signsStr b.1 (4 - b.2))) ⟨rfl, by simpa using StrsAre.nil⟩ ?hlen ?hh ?hs
    case hclos => with_unfolding_all rfl
    case hcell => decide
    case hkind => rfl
    case hnames => decide
    case hs => (intro _; rfl)
    case hlen =>
      intro i ys more hP
      rw [StrsAre.length hP.2, List.length_map, List.length_take]
      exact Nat.min_le_left _ _
    walk1
    refine ⟨lb, vsB, rfl, hlb.at fun o e => K' _ o e, hz, ?turn, ?done⟩
    case turn =>
      intro C i v ys more h₃ tk₃ m₃ E' hC hv hP hn3 hx3 hmore
      obtain ⟨a9, o9, b9, k9, t9, u9, rfl, hm9, hc9, hd9, hb9⟩ := hbs.get hv
      obtain ⟨q1, q2, q3⟩ := hbk _ (List.mem_of_getElem? hb9)
      have ht9 : IsTup h₃ a9 #[.int b9 t9, .int (k9 : Nat) u9] := ⟨o9, hx3 _ _ (K' _ _ (htu _ hm9)), hc9, _, hd9⟩
      have hkC : ∀ b o, g'.get? b = some o → b ≠ C := fun b o e z => by
        have := Heap.lt_size (FZ.keep b o e)
        rw [z] at this
        exact Nat.lt_irrefl _ (Nat.lt_of_lt_of_le this hC)
      refine assign_Tuple_tuple rfl ht9 rfl rfl (fun h₄ hs₄ => ?_)
      have hCs : C ≠ h₃.objs.size := by
        obtain ⟨o, es, ep, e, _⟩ := hn3
        exact Nat.ne_of_lt (Heap.lt_size e)
      have hn4 := hn3.at fun o e => hs₄ _ o hCs e
      refine assignInOrder_cons ?_
      refine wpAny_assign_Name (wpAny_storeName_local (env := compEnvC _ _ C _) (by exact rfl) hn4 (fun h₅ hn₅ hs₅ => ?_) (by exact rfl))
      refine assignInOrder_cons ?_
      refine wpAny_assign_Name (wpAny_storeName_local (env := compEnvC _ _ C _) (by exact rfl) hn₅ (fun h₆ hn₆ hs₆ => ?_) (by exact rfl))
      refine assignInOrder_nil ?_
      refine wpAny_tests_nil ?_
      rw [if_pos rfl]
      have k6 : ∀ b o, b ≠ C → h₃.get? b = some o → h₆.get? b = some o := fun b o hb e => (hs₆.2 b hb).trans ((hs₅.2 b hb).trans (hs₄ b o (fun z => Nat.lt_irrefl _ (z ▸ Heap.lt_size e)) e))
      have F3 := FZ.keeps hx3
      have k7 : ∀ b o, g'.get? b = some o → h₆.get? b = some o := fun b o e => k6 b o (hkC b o e) (F3.keep b o e)
      have F6 : Fr g' L' h₆ _ := ⟨F3.ns.at (fun o e => k6 _ o (fun z => by
        have h2 := FZ.ns.lt
        rw [z] at h2
        exact Nat.lt_irrefl _ (Nat.lt_of_lt_of_le h2 hC)) e), k7, F3.above⟩
      refine Call_ ?_
      refine nmCG (K := K0 w.params) (mg := mg) (v := .ref 856) (T'.g.keeps k7) (X'.keeps k7) (by kernel_rfl) ?_ rfl rfl rfl (by decide)
      refine callWith_K (K := K0 w.params) X' (by kernel_rfl) ?_
      refine args_cons ?_
      refine nmL hn₆ (by rfl) ?_ rfl rfl (by decide)
      refine args_cons ?_
      refine nmL hn₆ (by rfl) ?_ rfl rfl (by decide)
      refine args_nil ⟨X'.keeps k7, ?_⟩
      refine spec_signs (mean := mean) (mg := mg) (mb := mb) B' F6 X' T' rfl q1 q2 (Int.natCast_nonneg _) (by omega) ?kd ?ku ?_
      case kd => ktr_room
      case ku => ktr_units
      intro tk6 h7 x7 t7
      refine ⟨h7, _, _, [], rfl, hn₆.keeps x7, fun b o hb ho => x7 b o (k6 b o hb ho), (fun p hp => nomatch hp), by simp [hP.1], ?_⟩
      rw [List.take_add_one, hb9]
      show StrsAre _ (List.map _ (List.take i bs ++ [(b9, k9)]))
      rw [List.map_append]
      exact StrsAre.append' hP.2 (.cons _ _ .nil)
    case done =>
      intro D9 ys more h9' tk9' hx hDn hpl hP hmore
      rw [hbs.len, List.take_length] at hP
      obtain ⟨rfl, hP⟩ := hP
      have F7 := FZ.keeps hx
      obtain ⟨c7, N7, n7⟩ := news_more (more := []) FZ NZ hx hDn hpl fun p hp => nomatch hp
      simp only [List.nil_append, List.cons_append] at N7 n7
      have l7 := allNe_of NZ hDn
      simp only [AllNe, and_true] at l7
      repeat (have := And.left l7; replace l7 := And.right l7)
      repeat' (first | (k_unfold; (try dsimp only)) | ((fail_if_success (with_reducible show wpAny _ _ (exec (Stmt.Assign _ _ _) _) _ _ _)); first | walk1 | (dsimp only; walk1)))
      rename Fr g' _ _ _ => FZ
      rename News g' _ _ _ => NZ
      have hys : ys.length = bs.length := by rw [StrsAre.length hP, List.length_map]
      have hyn : ys.length ≤ 400 := by rw [hys]; exact hbn
      have hfr : Heap.IsList _ D9 ys.toArray := News.isList NZ (.head _)
      have cF : Heap.IsCell _ (L' + 1 + 1) (some (.ref D9)) := isCell_of NZ (.tail _ (.head _)) (by assumption)
      have cT : Heap.IsCell _ (L' + 1) (some (.int (tn : Int) tt)) := isCell_of NZ (.tail _ (.tail _ (.head _))) (by assumption)
      refine' assignCompN (n := ys.length) (h₀ := g') rfl ?me1 ?me2 ?me3 ?mhsw ?mhx ?mhp ?mhclos ?mhcell ?mhkind ?mhnames (fun i zs more => more = [] ∧ StrsAre zs ((modP bs tn i).map dotS)) ⟨rfl, by simpa [modP] using StrsAre.nil⟩ ?mhlen ?mhh ?mhs
      case me1 => exact s_le 400 hyn (by decide)
      case me2 => exact small_n (Nat.le_trans hyn (by decide))
      case me3 => exact size_n _
      case mhsw => with_unfolding_all rfl
      case mhx => with_unfolding_all rfl
      case mhp => with_unfolding_all rfl
      case mhclos => with_unfolding_all rfl
      case mhcell => decide
      case mhkind => rfl
      case mhnames => decide
      case mhs => (intro _; rfl)
      case mhlen =>
        intro i zs more hP2
        rw [StrsAre.length hP2.2, List.length_map]
        exact modP_len ..
      repeat' (first | (k_unfold; (try dsimp only)) | ((fail_if_success (with_reducible show SrcAN _ _ _ _ _ _ _ _ _ _ _ _ _ _ _ _)); first | walk1 | (dsimp only; walk1)))
      rename Fr g' _ _ _ => FW
      rename News g' _ _ _ => NW
      refine ⟨_, _, _, _, _, _, rfl, by assumption, FW, NW, ?mturn, ?mdone⟩
      case mturn =>
        intro C i t' zs more h₃ tk₃ m₃ E' hC hi hP2 hn3 hx3 hmore
        have cF3 := isCell_ext (isCell_of NW (.tail _ (.head _)) (by assumption)) hx3
        have cT3 := isCell_ext (isCell_of NW (.tail _ (.tail _ (.head _))) (by assumption)) hx3
        have lF3 := (News.isList NW (.head _)).at fun o e => hx3 _ o e
        refine wpAny_assign_Name (wpAny_storeName_local (env := compEnvC _ _ C _) (by exact rfl) hn3 (fun h₄ hn₄ hs₄ => ?_) (by exact rfl))
        have ltC : ∀ p ∈ [(D9, W.listOf ys.toArray c7), (L' + 1 + 1, _), (L' + 1, _), (804, tabObj ps)], p.1 ≠ C := fun p hp e => by
          have := Heap.lt_size (NW p hp).1
          rw [e] at this
          exact Nat.lt_irrefl _ (Nat.lt_of_lt_of_le this hC)
        have cF4 := isCell_but cF3 hs₄.extBut (ltC _ (.tail _ (.head _)))
        have cT4 := isCell_but cT3 hs₄.extBut (ltC _ (.tail _ (.tail _ (.head _))))
        have lF4 := lF3.at fun o e => hs₄.extBut _ o (ltC _ (.head _)) e
        refine wpAny_tests_one ?_
        refine BVal.use (x := (i : Int).fmod 2 == (tn : Int)) ?_ ?_
        · refine BVal.eq (IVal.mod ?_ IVal.const ?_) ?_
          · exact IVal.nmL hn₄ (by rfl) (by rfl) (by rfl) (by decide)
          · decide
          · exact IVal.nmC (c := L' + 1) (by rfl) cT4 (by rfl) (by rfl) (by decide)
        · intro tk5
          have hms := modP_succ bs tn i
          by_cases hg : ((i : Int).fmod 2 == (tn : Int)) = true
          · rw [if_pos hg]
            rw [if_pos hg] at hms
            have hib : i < bs.length := hys ▸ hi
            have hbi : bs[i]? = some bs[i] := List.getElem?_eq_getElem hib
            obtain ⟨u9, hu9⟩ := StrsAre.get hP i (signsStr bs[i].1 (4 - bs[i].2)) (by rw [List.getElem?_map, hbi]; rfl)
            repeat' (first | (k_unfold; (try dsimp only)) | ((fail_if_success (with_reducible show wpAny _ _ (eval (PySem.Expr.Name _ _) _) _ _ _)); first | walk1 | (dsimp only; walk1)))
            refine nmC (c := L' + 1 + 1) (by rfl) cF4 ?_ (by rfl) (by rfl) (by decide)
            try dsimp only
            repeat' (first | (k_unfold; (try dsimp only)) | ((fail_if_success (with_reducible show wpAny _ _ (eval (PySem.Expr.Name _ _) _) _ _ _)); first | walk1 | (dsimp only; walk1)))
            refine nmL hn₄ (by rfl) ?_ rfl rfl (by decide)
            try dsimp only
            repeat' (first | (k_unfold; (try dsimp only)) | ((fail_if_success (with_reducible show wpAny _ _ (subscriptTail _ _ _ _) _ _ _)); first | walk1 | (dsimp only; walk1)))
            refine item_natL lF4 hu9 (n_lt hib hbn (by decide)) ?_
            repeat' (first | (k_unfold; (try dsimp only)) | ((fail_if_success (with_reducible show wpAny _ _ (call (Value.builtin "str.join") _) _ _ _)); first | walk1 | (dsimp only; walk1)))
            refine join_codes (sep := 46) rfl rfl (Nat.sub_le _ _) fun h5 tk5 t5 x5 => ?_
            refine ⟨h5, _, _, [], rfl, hn₄.keeps x5, fun b o hb ho => x5 b o (hs₄.extBut b o hb ho), (fun p hp => nomatch hp), by simp [hP2.1], ?_⟩
            rw [hms, List.map_append]
            refine StrsAre.append' hP2.2 ?_
            rw [show frontOf bs i = codes bs[i].1 (4 - bs[i].2) from by unfold frontOf; rw [frontOf_at hbi]]
            exact .cons _ _ .nil
          · rw [if_neg hg]
            rw [if_neg hg] at hms
            refine ⟨h₄, _, _, [], rfl, hn₄, fun b o hb ho => hs₄.extBut b o hb ho, (fun p hp => nomatch hp), by simp [hP2.1], ?_⟩
            rw [hms, List.append_nil]
            show StrsAre (zs ++ []) _
            rw [List.append_nil]
            exact hP2.2
      case mdone =>
        intro DM ms more h8 tk8 c8 F8 N8 n8 hP8
        obtain ⟨rfl, hP8⟩ := hP8
        simp only [List.nil_append] at N8 n8
        have l8 := allNe_all n8
        simp only [AllNe, and_true] at l8
        repeat (have := And.left l8; replace l8 := And.right l8)
        repeat' (first | (k_unfold; (try dsimp only)) | ((fail_if_success (with_reducible show wpAny _ _ (exec (Stmt.Assign _ _ _) _) _ _ _)); first | walk1 | (dsimp only; walk1)))
        refine' assignCompN (n := ys.length) (h₀ := g') rfl ?ne1 ?ne2 ?ne3 ?nhsw ?nhx ?nhp ?nhclos ?nhcell ?nhkind ?nhnames (fun i zs more => more = [] ∧ StrsAre zs ((dirP bs tn i).map dirS)) ⟨rfl, by simpa [dirP] using StrsAre.nil⟩ ?nhlen ?nhh ?nhs
        case ne1 => exact s_le 400 hyn (by decide)
        case ne2 => exact small_n (Nat.le_trans hyn (by decide))
        case ne3 => exact size_n _
        case nhsw => with_unfolding_all rfl
        case nhx => with_unfolding_all rfl
        case nhp => with_unfolding_all rfl
        case nhclos => with_unfolding_all rfl
        case nhcell => decide
        case nhkind => rfl
        case nhnames => decide
        case nhs => (intro _; rfl)
        case nhlen =>
          intro i zs more hP2
          rw [StrsAre.length hP2.2, List.length_map]
          exact dirP_len ..
        repeat' (first | (k_unfold; (try dsimp only)) | ((fail_if_success (with_reducible show SrcAN _ _ _ _ _ _ _ _ _ _ _ _ _ _ _ _)); first | walk1 | (dsimp only; walk1)))
        rename Fr g' _ _ _ => FV
        rename News g' _ _ _ => NV
        refine ⟨_, _, _, _, _, _, rfl, by assumption, FV, NV, ?nturn, ?ndone⟩
        case nturn =>
          intro C i t' zs more h₃ tk₃ m₃ E' hC hi hP2 hn3 hx3 hmore
          have cF3 := isCell_ext (isCell_of NV (.tail _ (.tail _ (.head _))) (by assumption)) hx3
          have cT3 := isCell_ext (isCell_of NV (.tail _ (.tail _ (.tail _ (.head _)))) (by assumption)) hx3
          have lF3 := (News.isList NV (.tail _ (.head _))).at fun o e => hx3 _ o e
          refine wpAny_assign_Name (wpAny_storeName_local (env := compEnvC _ _ C _) (by exact rfl) hn3 (fun h₄ hn₄ hs₄ => ?_) (by exact rfl))
          have ltC : ∀ p ∈ [(DM, W.listOf ms.toArray c8), (D9, W.listOf ys.toArray c7), (L' + 1 + 1, _), (L' + 1, _), (804, tabObj ps)], p.1 ≠ C := fun p hp e => by
            have := Heap.lt_size (NV p hp).1
            rw [e] at this
            exact Nat.lt_irrefl _ (Nat.lt_of_lt_of_le this hC)
          have cF4 := isCell_but cF3 hs₄.extBut (ltC _ (.tail _ (.tail _ (.head _))))
          have cT4 := isCell_but cT3 hs₄.extBut (ltC _ (.tail _ (.tail _ (.tail _ (.head _)))))
          have lF4 := lF3.at fun o e => hs₄.extBut _ o (ltC _ (.tail _ (.head _))) e
          refine wpAny_tests_one ?_
          refine BVal.use (x := (i : Int).fmod 2 != (tn : Int)) ?_ ?_
          · refine BVal.ne (IVal.mod ?_ IVal.const ?_) ?_
            · exact IVal.nmL hn₄ (by rfl) (by rfl) (by rfl) (by decide)
            · decide
            · exact IVal.nmC (c := L' + 1) (by rfl) cT4 (by rfl) (by rfl) (by decide)
          · intro tk5
            have hms := dirP_succ bs tn i
            by_cases hg : ((i : Int).fmod 2 != (tn : Int)) = true
            · rw [if_pos hg]
              rw [if_pos hg] at hms
              have hib : i < bs.length := hys ▸ hi
              have hbi : bs[i]? = some bs[i] := List.getElem?_eq_getElem hib
              obtain ⟨u9, hu9⟩ := StrsAre.get hP i (signsStr bs[i].1 (4 - bs[i].2)) (by rw [List.getElem?_map, hbi]; rfl)
              repeat' (first | (k_unfold; (try dsimp only)) | ((fail_if_success (with_reducible show wpAny _ _ (eval (PySem.Expr.Name _ _) _) _ _ _)); first | walk1 | (dsimp only; walk1)))
              refine nmC (c := L' + 1 + 1) (by rfl) cF4 ?_ (by rfl) (by rfl) (by decide)
              try dsimp only
              repeat' (first | (k_unfold; (try dsimp only)) | ((fail_if_success (with_reducible show wpAny _ _ (eval (PySem.Expr.Name _ _) _) _ _ _)); first | walk1 | (dsimp only; walk1)))
              refine nmL hn₄ (by rfl) ?_ rfl rfl (by decide)
              try dsimp only
              repeat' (first | (k_unfold; (try dsimp only)) | ((fail_if_success (with_reducible show wpAny _ _ (subscriptTail _ _ _ _) _ _ _)); first | walk1 | (dsimp only; walk1)))
              refine item_natL lF4 hu9 (n_lt hib hbn (by decide)) ?_
              repeat' (first | (k_unfold; (try dsimp only)) | ((fail_if_success (with_reducible show wpAny _ _ (call (Value.builtin "str.join") _) _ _ _)); first | walk1 | (dsimp only; walk1)))
              refine join_codes (sep := 47) rfl rfl (Nat.sub_le _ _) fun h5 tk5 t5 x5 => ?_
              repeat' (first | (k_unfold; (try dsimp only)) | ((fail_if_success (with_reducible show wpAny _ _ (binaryOp _ _ _) _ _ _)); first | walk1 | (dsimp only; walk1)))
              have hpn : codes bs[i].1 (4 - bs[i].2) ≠ [] := by
                have := (hbk _ (List.getElem_mem hib)).2.2
                intro e
                have e2 := codes_len bs[i].1 (4 - bs[i].2)
                rw [e] at e2
                exact Nat.ne_of_lt (n_sub4 this) e2
              refine PyProof.Rows.add_str (fun t7 tk7 => ?_) (by have := dot_len (c := 47) (codes bs[i].1 (4 - bs[i].2)); rw [codes_len] at this; exact s_slash this)
              rw [slash_dir hpn]
              refine ⟨h5, _, _, [], rfl, hn₄.keeps x5, fun b o hb ho => x5 b o (hs₄.extBut b o hb ho), (fun p hp => nomatch hp), by simp [hP2.1], ?_⟩
              rw [hms, List.map_append]
              refine StrsAre.append' hP2.2 ?_
              rw [show frontOf bs i = codes bs[i].1 (4 - bs[i].2) from by unfold frontOf; rw [frontOf_at hbi]]
              exact .cons _ _ .nil
            · rw [if_neg hg]
              rw [if_neg hg] at hms
              refine ⟨h₄, _, _, [], rfl, hn₄, fun b o hb ho => hs₄.extBut b o hb ho, (fun p hp => nomatch hp), by simp [hP2.1], ?_⟩
              rw [hms, List.append_nil]
              show StrsAre (zs ++ []) _
              rw [List.append_nil]
              exact hP2.2
        case ndone =>
          intro DD ds more h10 tk10 c10 F10 N10 n10 hP10
          obtain ⟨rfl, hP10⟩ := hP10
          simp only [List.nil_append] at N10 n10
          have l10 := allNe_all n10
          simp only [AllNe, and_true] at l10
          repeat (have := And.left l10; replace l10 := And.right l10)
          repeat' (first | (k_unfold; (try dsimp only)) | ((fail_if_success (with_reducible show wpAny _ _ (exec (Stmt.Assign _ _ _) _) _ _ _)); first | walk1 | (dsimp only; walk1)))
          have hile : ys.length ≤ bs.length := Nat.le_of_eq hys
          have jm := join_facts (by rw [List.length_map]; exact Nat.le_trans (modP_len bs tn ys.length) hyn) (mods_good (tn := tn) hbk hile)
          have jd := join_facts (by rw [List.length_map]; exact Nat.le_trans (dirP_len bs tn ys.length) hyn) (dirs_good (tn := tn) hbk hile)
          repeat' (first | (k_unfold; (try dsimp only)) | ((fail_if_success (with_reducible show wpAny _ _ (call (Value.ref 809) _) _ _ _)); first | walk1 | (dsimp only; walk1)))
          refine spec_join (mean := mean) (mg := mg) (mb := mb) (l := DM) (vs := ms) (ps := ps) (X'.keeps F10.keep) (T'.keeps F10.keep) (N10 _ (.tail _ (.tail _ (.tail _ (.tail _ (.tail _ (.head _))))))).1 J G (News.isList N10 (.tail _ (.head _))) hP8 jm.hs jm.hn jm.hw ?jd1 ?ju1 ?_
          case jd1 => ktr_room
          case ju1 => ktr_units
          intro tk11 h11 g11 ps11 t11 x11 q11 J11 G11
          have hput := call_put F10 N10 (by k_updF) x11 q11
          clear x11 q11
          have F11 := hput.1
          have N11 := hput.2
          try dsimp only at N11
          try dsimp only
          repeat' (first | (k_unfold; (try dsimp only)) | ((fail_if_success (with_reducible show wpAny _ _ (call (Value.ref 802) _) _ _ _)); first | walk1 | (dsimp only; walk1)))
          refine spec_split (mean := mean) (mg := mg) (mb := mb) (ws := ((modP bs tn ys.length).map dotS).map (·.cps.toList)) B' F11 X' T' rfl jm.hl (by rw [List.length_map]; have := jm.hn; omega) jm.hx ?jd2 ?ju2 ?_
          case jd2 => ktr_room
          case ju2 => ktr_units
          intro tk12 h12 DS vs12 c12 f12 q12 hv12 K12
          rw [mkS_map] at hv12
          obtain ⟨g2, FG2, F12, N12, l12, B2, st2, up2⟩ := regrow B rfl hk B' FG' F11 N11 (show KeepZ [L', L] _ _ from K12) f12 q12
          simp only [AllNe, and_true] at l12
          repeat (have := And.left l12; replace l12 := And.right l12)
          have X2 := X.keeps st2
          have T2 := T.keeps st2
          clear K12 f12 q12 F11 N11
          have G2 : ∀ b o, b ∉ [804] → b ≠ L → s.heap.get? b = some o → g2.get? b = some o := fun b o h1 h2 e => up2 b o h2 (G' b o e h1)
          clear X' T' B' G' up2 st2
          try dsimp only
          repeat' (first | (k_unfold; (try dsimp only)) | ((fail_if_success (with_reducible show wpAny _ _ (call (Value.ref 809) _) _ _ _)); first | walk1 | (dsimp only; walk1)))
          refine spec_join (mean := mean) (mg := mg) (mb := mb) (l := DD) (vs := ds) (ps := ps11) (X2.keeps F12.keep) (T2.keeps F12.keep) (N12 _ (.tail _ (.tail _ (.tail _ (.tail _ (.tail _ (.tail _ (.head _)))))))).1 J11 G11 (News.isList N12 (.tail _ (.head _))) hP10 jd.hs jd.hn jd.hw ?jd3 ?ju3 ?_
          case jd3 => ktr_room
          case ju3 => ktr_units
          intro tk13 h13 g13 ps13 t13 x13 q13 J13 G13
          have hput := call_put F12 N12 (by k_updF) x13 q13
          clear x13 q13
          have F13 := hput.1
          have N13 := hput.2
          try dsimp only at N13
          try dsimp only
          repeat' (first | (k_unfold; (try dsimp only)) | ((fail_if_success (with_reducible show wpAny _ _ (call (Value.ref 802) _) _ _ _)); first | walk1 | (dsimp only; walk1)))
          refine spec_split (mean := mean) (mg := mg) (mb := mb) (ws := ((dirP bs tn ys.length).map dirS).map (·.cps.toList)) B2 F13 X2 T2 rfl jd.hl (by rw [List.length_map]; have := jd.hn; omega) jd.hx ?jd4 ?ju4 ?_
          case jd4 => ktr_room
          case ju4 => ktr_units
          intro tk14 h14 DT vs14 c14 f14 q14 hv14 K14
          rw [mkS_map] at hv14
          obtain ⟨g3, FG3, F14, N14, l14, B3, st3, up3⟩ := regrow B rfl hk B2 FG2 F13 N13 (show KeepZ [L', L] _ _ from K14) f14 q14
          simp only [AllNe, and_true] at l14
          have l14x := l14.1
          repeat (have := And.left l14; replace l14 := And.right l14)
          have X3 := X.keeps st3
          have T3 := T.keeps st3
          have G3 : ∀ b o, b ∉ [804] → b ≠ L → s.heap.get? b = some o → g3.get? b = some o := fun b o h1 h2 e => up3 b o h2 (G2 b o h1 h2 e)
          clear K14 f14 q14 F13 N13 F12 N12 X2 T2 B2 G2 up3 st3 FG2
          try dsimp only
          repeat' (first | (k_unfold; (try dsimp only)) | ((fail_if_success (with_reducible show wpAny _ _ (call (Value.ref 840) _) _ _ _)); first | walk1 | (dsimp only; walk1)))
          refine call_cls (fI := 830) F14 X3 N14 (by kernel_rfl) (by kernel_rfl) (by kernel_rfl) ?_
          intro x9 d9 h15 F15 N15 l15 l15b
          have ltT : DT < d9 := l15 _ (.head _)
          have ltS : DS < d9 := l15 _ (.tail _ (.head _))
          have l15n := allNe_lt l15
          simp only [AllNe, and_true] at l15n
          repeat (have := And.left l15n; replace l15n := And.right l15n)
          k_lt l15
          k_lt2 l15b
          refine spec_ignore (Q := fun _ _ => True) (E := fun _ _ => True) (mean := mean) (mg := mg) (mb := mb) (cs' := dirP bs tn ys.length) B3 F15 X3 T3 rfl (fun q hq => N15 q ((List.forall_mem_cons.mpr ⟨.head _, List.forall_mem_cons.mpr ⟨.tail _ (.head _), List.forall_mem_cons.mpr ⟨.tail _ (.tail _ (.tail _ (.head _))), List.forall_mem_cons.mpr ⟨.tail _ (.tail _ (.head _)), fun p hp => nomatch hp⟩⟩⟩⟩) q hq)) ⟨ltS, ltT⟩ l15b ?ih1 ?ih2 ?ih3 rfl rfl hv12 ?ih4 hv14 ?ih5 ?ih6 ?_
          case ih1 => exact l14x
          case ih2 => rw [StrsAre.length hv12, List.length_map]; exact Nat.le_trans (modP_len ..) (Nat.le_trans hyn (by decide))
          case ih3 => rw [StrsAre.length hv14, List.length_map]; exact Nat.le_trans (dirP_len ..) (Nat.le_trans hyn (by decide))
          case ih4 =>
            intro p hp
            obtain ⟨q1, q2, q3⟩ := dirs_ok hbk hile p hp
            exact ⟨q1, Nat.le_trans q2 (by decide), fun y hy => ⟨(q3 y hy).2.1, (q3 y hy).1⟩⟩
          case ih5 => ktr_room
          case ih6 => ktr_units
          intro tk16 h16 S9 D8 G9 oS9 acc9 vs16 c16 oG9 k90 k91 k92 k93 kp16 qd16 qS qD qG fS fD fG nSD nSG nDG hsm9 hSet hacc hal hv16 hG9
          have hput := call_put F15 N15 (by k_updF) kp16 qd16
          have F16 := hput.1
          have N16 := hput.2
          try dsimp only at N16
          have a1 := news_in F15 N16 fS qS
          have a2 := news_in F15 a1 fD qD
          have a3 := news_in F15 a2 fG qG
          have l16a := allNe_of N15 fS
          have l16b := allNe_of N15 fD
          have l16c := allNe_of N15 fG
          simp only [AllNe, and_true] at l16a l16b l16c
          repeat (have := And.left l16a; replace l16a := And.right l16a)
          repeat (have := And.left l16b; replace l16b := And.right l16b)
          have N17 : News g3 L' h16 [(G9, oG9), (x9, instObj 840 d9), (d9, dictOf (ignD w k91 k92 k93 S9 D8 G9) (nat_lit 3)), (S9, oS9), (D8, W.listOf vs16.toArray c16), (804, tabObj ps13)] :=
            fun q hq => a3 q ((List.forall_mem_cons.mpr ⟨.head _, List.forall_mem_cons.mpr ⟨.tail _ (.tail _ (.tail _ (.head _))), List.forall_mem_cons.mpr ⟨.tail _ (.tail _ (.tail _ (.tail _ (.head _)))), List.forall_mem_cons.mpr ⟨.tail _ (.tail _ (.head _)), List.forall_mem_cons.mpr ⟨.tail _ (.head _), List.forall_mem_cons.mpr ⟨by k_mem, fun p hp => nomatch hp⟩⟩⟩⟩⟩⟩) q hq)
          have n1 := l16c.1
          have n2 := l16c.2.1
          have n804 := l16c.2.2.2.2.2.2.2.2.2
          repeat (have := And.left l16c; replace l16c := And.right l16c)
          have l804 : @Ne Nat 804 S9 := by first | assumption | omega
          have l804' : @Ne Nat 804 D8 := by first | assumption | omega
          clear F15 N15 N16 a1 a2 a3 kp16 qd16 F14 N14
          refine ⟨rfl, ?_⟩
          try dsimp only
          repeat' (first | (k_unfold; (try dsimp only)) | ((fail_if_success (with_reducible show wpAny _ _ (exec (Stmt.For _ _ _ _ _) _) _ _ _)); first | walk1 | (dsimp only; walk1)))
          rename Fr g3 _ _ _ => FB
          rename News g3 _ _ _ => NB
          rename_i TL ha0 l1a DX hb0 l1b hc0 hF0 hN0 hd0 md0 he0 me0
          have lTL := ltNe6 l1a
          repeat (have := And.left lTL; replace lTL := And.right lTL)
          have hal9 : acc9.length ≤ 900 := by rw [List.length_map] at hal; exact Nat.le_trans hal (Nat.le_trans (modP_len bs tn ys.length) (Nat.le_trans hyn (by decide)))
          have l804e : ∀ l its, s.heap.IsList l its → l ∉ [804] ∧ l ≠ L := fun l its hi => by
            obtain ⟨o, ho, hoc, n, hod⟩ := hi
            constructor
            · intro hm
              have := (N _ (.head _)).1
              rw [List.mem_singleton.mp hm] at ho
              rw [ho] at this
              cases this
              cases hoc
            · intro e
              obtain ⟨o', es, ep, ho', hd', _⟩ := F.ns
              rw [e, ho'] at ho
              cases ho
              rw [hod] at hd'
              cases hd'
          have g3l : ∀ l its, s.heap.IsList l its → g3.IsList l its := fun l its hi => hi.at fun o e => G3 l o (l804e l its hi).1 (l804e l its hi).2 e
          obtain ⟨loA, hloA, hloc, hlod⟩ := g3l _ _ hla
          refine for_same (l := la) (vs := vsA) (ToldJ w bs rows TL G9 x9 d9 S9 D8 k91 k92 k93 vs16 c16 oS9 ps13) rfl FB (fun q hq => NB q (.tail _ hq)) hloA hloc hlod ?f0 ?fx ?fp ?fh ?fit ?fturn ?fdone ?fs ?fE
          case f0 =>
            refine ⟨[], _, _, _, [], rfl, hG9, ?_, Nat.le_refl _, .nil, fun p hp => nomatch hp⟩
            intro k v hv
            left
            unfold valueAt at hv
            by_cases hk : Str.ofString "<string>" = k
            · exact hk.symm
            · simp [hk] at hv
          case fx => with_unfolding_all rfl
          case fp => with_unfolding_all rfl
          case fh => rfl
          case fs => (intro _; rfl)
          case fE => passes_own
          case fit =>
            repeat' (first | (k_unfold; (try dsimp only)) | walk1 | (dsimp only; walk1))
          case fturn =>
            intro i v news₁ h₁ tk20 dr20 I20 io20 hv hJ hI hne F20 N20
            obtain ⟨acc, n, oG, kvs, pairs, rfl, hG, hKv, hkl, hPa, hpn⟩ := hJ
            obtain ⟨lr, vr, r, rfl, hlr, hvr, hrr⟩ := hrv i v hv
            have hrm : r ∈ rows := List.mem_of_getElem? hrr
            have hr := hro r hrm
            have hlr3 := g3l _ _ hlr
            repeat' (first | (k_unfold; (try dsimp only)) | ((fail_if_success (with_reducible show wpAny _ _ (call (Value.builtin "str.join") _) _ _ _)); first | walk1 | (dsimp only; walk1)))
            have hpT : ∀ p ∈ pairs, @Ne Nat p.1 TL := fun p hp => (hpn p hp).1
            have hpG : ∀ p ∈ pairs, @Ne Nat p.1 G9 := fun p hp => (hpn p hp).2.1
            have hjs : (Txt.join (Str.ofString "/") r).length ≤ 12 := join_len hr 47
            refine join_listW (ys := r) (hlr3.at fun o e => F20.keep _ o e) hvr (by decide) (n_add (rows_sum hr) hr.le (by decide)) ?_
            intro t22 k22
            repeat' (first | (k_unfold; (try dsimp only)) | ((fail_if_success (with_reducible show wpAny _ _ (binaryOp _ _ _) _ _ _)); first | walk1 | (dsimp only; walk1)))
            refine PyProof.Rows.add_str (fun t23 k23 => ?_) (s_add 1 12 (Nat.le_refl 1) hjs (by decide))
            repeat' (first | (k_unfold; (try dsimp only)) | ((fail_if_success (with_reducible show wpAny _ _ (binaryOp _ _ _) _ _ _)); first | walk1 | (dsimp only; walk1)))
            refine PyProof.Rows.add_str (fun t24 k24 => ?_) (by rw [Str.length_append]; exact s_add 13 5 (n_add (Nat.le_refl 1) hjs (by decide)) (Nat.le_refl 5) (by decide))
            repeat' (first | (k_unfold; (try dsimp only)) | ((fail_if_success (with_reducible show wpAny _ _ (call (Value.builtin "str.join") _) _ _ _)); first | walk1 | (dsimp only; walk1)))
            refine join_listW (ys := r) (hlr3.at fun o e => F20.keep _ o e) hvr (by decide) (n_add (rows_sum hr) hr.le (by decide)) ?_
            intro t25 k25
            repeat' (first | (k_unfold; (try dsimp only)) | ((fail_if_success (with_reducible show wpAny _ _ (call (Value.ref 837) _) _ _ _)); first | walk1 | (dsimp only; walk1)))
            refine names_row (mean := mean) (mg := mg) (mb := mb) (fo := some (fileR r, _)) (tn := tn) (bs := bs) (rows := rows) (r := r) B3 F20 X3 T3 rfl (fun q hq => N20 q ((List.forall_mem_cons.mpr ⟨.tail _ (.tail _ (.head _)), List.forall_mem_cons.mpr ⟨.tail _ (.tail _ (.tail _ (.head _))), List.forall_mem_cons.mpr ⟨.tail _ (.tail _ (.tail _ (.tail _ (.head _)))), List.forall_mem_cons.mpr ⟨.tail _ (.tail _ (.tail _ (.tail _ (.tail _ (.head _))))), List.forall_mem_cons.mpr ⟨.tail _ (.tail _ (.tail _ (.tail _ (.tail _ (.tail _ (.head _)))))), fun p hp => nomatch hp⟩⟩⟩⟩⟩) q hq)) n1 n2 nSG nDG hSet ?w1 ?w2 hbk hbn ?w3 hG ?w4 hsm9 hKv hro hrm (.inl ⟨_, rfl⟩) ?wd ?wu ?_
            case w1 => exact hal9
            case w2 => rw [← hys]; exact hacc
            case w3 => rw [← hys]; exact hv16
            case w4 => exact Nat.le_trans (kv_le hkl (List.getElem?_eq_some_iff.mp hrr).1 hrn) (by decide)
            case wd => ktr_room
            case wu => ktr_units
            intro tk26 h26 dr26 oG26 kvs26 u26 kp26 q26 hG26 hKv26 hkl26 hin26
            have lI := allNe_all hne
            simp only [AllNe, and_true] at lI
            repeat (have := And.left lI; replace lI := And.right lI)
            have nSG' := neN nSG
            have nDG' := neN nDG
            have hput := call_put F20 N20 (by k_updF) kp26 q26
            have F26 := hput.1
            have N26 := hput.2
            try dsimp only at N26
            try dsimp only
            repeat' (first | (k_unfold; (try dsimp only)) | ((fail_if_success (with_reducible show wpAny _ _ (call (Value.builtin "str.join") _) _ _ _)); first | walk1 | (dsimp only; walk1)))
            refine join_listW (ys := r) (hlr3.at fun o e => F26.keep _ o e) hvr (by decide) (n_add (rows_sum hr) hr.le (by decide)) ?_
            intro t27 k27
            repeat' (first | (k_unfold; (try dsimp only)) | ((fail_if_success (with_reducible show wpAny _ _ (call (Value.ref 837) _) _ _ _)); first | walk1 | (dsimp only; walk1)))
            refine names_row (mean := mean) (mg := mg) (mb := mb) (fo := none) (tn := tn) (bs := bs) (rows := rows) (r := r) B3 F26 X3 T3 rfl (fun q hq => N26 q ((List.forall_mem_cons.mpr ⟨.tail _ (.tail _ (.head _)), List.forall_mem_cons.mpr ⟨.tail _ (.tail _ (.tail _ (.head _))), List.forall_mem_cons.mpr ⟨.tail _ (.tail _ (.tail _ (.tail _ (.head _)))), List.forall_mem_cons.mpr ⟨.tail _ (.tail _ (.tail _ (.tail _ (.tail _ (.head _))))), List.forall_mem_cons.mpr ⟨.tail _ (.tail _ (.tail _ (.tail _ (.tail _ (.tail _ (.head _)))))), fun p hp => nomatch hp⟩⟩⟩⟩⟩) q hq)) n1 n2 nSG nDG hSet ?v1 ?v2 hbk hbn ?v3 hG26 ?v4 hsm9 hKv26 hro hrm (.inr hin26) ?vd ?vu ?_
            case v1 => exact hal9
            case v2 => rw [← hys]; exact hacc
            case v3 => rw [← hys]; exact hv16
            case v4 => exact Nat.le_trans hkl26 (Nat.le_trans (Nat.succ_le_succ (kv_le hkl (List.getElem?_eq_some_iff.mp hrr).1 hrn)) (by decide))
            case vd => ktr_room
            case vu => ktr_units
            intro tk28 h28 dr28 oG28 kvs28 u28 kp28 q28 hG28 hKv28 hkl28 hin28
            have hput := call_put F26 N26 (by k_updF) kp28 q28
            have F28 := hput.1
            have N28 := hput.2
            try dsimp only at N28
            try dsimp only
            repeat' (first | (k_unfold; (try dsimp only)) | ((fail_if_success (with_reducible show wpAny _ _ (call (Value.builtin "list.append") _) _ _ _)); first | walk1 | (dsimp only; walk1)))
            have hlt := (List.getElem?_eq_some_iff.mp hrr).1
            have hz9 : acc.toArray.size ≤ sizeLine := by
              have := hPa.len
              rw [List.length_map, List.length_take] at this
              rw [List.size_toArray, this]
              exact s_le 1000 (Nat.le_trans (Nat.min_le_right _ _) hrn) (by decide)
            repeat' (first | (k_unfold; (try dsimp only)) | walk1 | (dsimp only; walk1))
            rename Fr g3 _ _ _ => FY
            rename News g3 _ _ _ => NY
            have epush : ∀ v : Value, acc.toArray.push v = (acc ++ [v]).toArray := fun v => by simp
            rw [epush] at NY
            rename (I20 < _ ∧ _) => lZ
            refine ⟨.inl rfl, _, _, _, _, _, rfl, FY, fun q hq => NY q (perm10 hq), ?ta, _, _, _, _, _, rfl, hG28, hKv28, ?tb, ?tc, ?td⟩
            case ta => exact List.forall_mem_cons.mpr ⟨(by assumption), List.forall_mem_cons.mpr ⟨(by assumption), List.forall_mem_cons.mpr ⟨(by assumption), List.forall_mem_cons.mpr ⟨(by assumption), List.forall_mem_cons.mpr ⟨(by assumption), List.forall_mem_cons.mpr ⟨(by assumption), List.forall_mem_cons.mpr ⟨(by assumption), List.forall_mem_cons.mpr ⟨Nat.ne_of_gt lZ.1, fun p hp => hne p (.tail _ (.tail _ (.tail _ (.tail _ (.tail _ (.tail _ (.tail _ hp)))))))⟩⟩⟩⟩⟩⟩⟩⟩
            case tb => exact kv_tb hkl hkl26 hkl28
            case tc =>
              rw [List.take_add_one, hrr]
              show PairsAre _ _ (List.map _ (List.take i rows ++ [r]))
              rw [List.map_append]
              exact (hPa.mono fun p hp => List.mem_cons_of_mem _ hp).snoc (.head _) ⟨rfl, rfl⟩
            case td => exact List.forall_mem_cons.mpr ⟨⟨Nat.ne_of_gt lZ.2.1, Nat.ne_of_gt lZ.2.2.1, Nat.ne_of_gt lZ.2.2.2.2.2.2.2.1⟩, hpn⟩
          case fdone =>
            intro h21 tk21 dr21 o21 news21 F21 N21 hJ21
            obtain ⟨acc, n, oG, kvs, pairs, rfl, hG, hKv, hkl, hPa, hpn⟩ := hJ21
            rw [hva, List.take_length] at hPa
            rw [hva] at hkl
            have hpT : ∀ p ∈ pairs, @Ne Nat p.1 TL := fun p hp => (hpn p hp).1
            have hpG : ∀ p ∈ pairs, @Ne Nat p.1 G9 := fun p hp => (hpn p hp).2.1
            have nSG' := neN nSG
            have nDG' := neN nDG
            have hml : ∀ z ∈ acc9, z.length ≤ 1000 := fun z hz => by
              exact Nat.le_trans (mods_good hbk hile z ((hacc z).mp hz)).2.1 (by decide)
            have hdl : ∀ z ∈ (dirP bs tn ys.length).map dirS, z.length ≤ 1000 := fun z hz => by
              exact Nat.le_trans (dirs_good hbk hile z hz).2.1 (by decide)
            have hdl9 : ((dirP bs tn ys.length).map dirS).length ≤ 900 := by rw [List.length_map]; exact Nat.le_trans (dirP_len ..) (Nat.le_trans hyn (by decide))
            have hdash : valueAt kvs (Str.ofString "-") = none := by
              cases e : valueAt kvs (Str.ofString "-") with
              | none => rfl
              | some v =>
                rcases hKv _ _ e with h | ⟨r, hr, t, h, _⟩
                · exact absurd h (by decide)
                · exact absurd h.symm (dotR_ne (hro r hr)).2
            repeat' (first | (k_unfold; (try dsimp only)) | ((fail_if_success (with_reducible show wpAny _ _ (call (Value.ref 837) _) _ _ _)); first | walk1 | (dsimp only; walk1)))
            refine spec_names (mean := mean) (mg := mg) (mb := mb) (fo := none) B3 F21 X3 T3 rfl (fun q hq => N21 q ((List.forall_mem_cons.mpr ⟨.tail _ (.head _), List.forall_mem_cons.mpr ⟨.tail _ (.tail _ (.head _)), List.forall_mem_cons.mpr ⟨.tail _ (.tail _ (.tail _ (.head _))), List.forall_mem_cons.mpr ⟨.tail _ (.tail _ (.tail _ (.tail _ (.head _)))), List.forall_mem_cons.mpr ⟨.tail _ (.tail _ (.tail _ (.tail _ (.tail _ (.head _))))), fun p hp => nomatch hp⟩⟩⟩⟩⟩) q hq)) n1 n2 nSG nDG hSet hal9 hml hv16 hdl9 hdl hG (s_le 2001 (kv_sz hkl hrn) (by decide)) hsm9 (by decide) ?xd ?xu ?xold ?xnew
            case xd => ktr_room
            case xu => ktr_units
            case xold =>
              intro v tk' h' hv
              rw [hdash] at hv
              cases hv
            case xnew =>
              intro tk30 h30 dr30 oG30 t30 _ kp30 q30 hG30 u30
              have ht : ansB acc9 ((dirP bs tn ys.length).map dirS) none (Str.ofString "-") = true := by unfold ansB; rw [Bool.or_true]
              rw [ht] at hG30 ⊢
              have hput := call_put F21 N21 (by k_updF) kp30 q30
              have F30 := hput.1
              have N30 := hput.2
              try dsimp only at N30
              try dsimp only
              repeat' (first | (k_unfold; (try dsimp only)) | ((fail_if_success (with_reducible show wpAny _ _ (call (Value.ref 837) _) _ _ _)); first | walk1 | (dsimp only; walk1)))
              refine spec_names (mean := mean) (mg := mg) (mb := mb) (fo := some (Str.ofString "/m.py", _)) B3 F30 X3 T3 rfl (fun q hq => N30 q ((List.forall_mem_cons.mpr ⟨.tail _ (.head _), List.forall_mem_cons.mpr ⟨.tail _ (.tail _ (.head _)), List.forall_mem_cons.mpr ⟨.tail _ (.tail _ (.tail _ (.head _))), List.forall_mem_cons.mpr ⟨.tail _ (.tail _ (.tail _ (.tail _ (.head _)))), List.forall_mem_cons.mpr ⟨.tail _ (.tail _ (.tail _ (.tail _ (.tail _ (.head _))))), fun p hp => nomatch hp⟩⟩⟩⟩⟩) q hq)) n1 n2 nSG nDG hSet hal9 hml hv16 hdl9 hdl hG30 (by rw [List.length_append]; exact s_add 2001 1 (kv_sz hkl hrn) (Nat.le_refl 1) (by decide)) hsm9 (by decide) ?yd ?yu ?yold ?ynew
              case yd => ktr_room
              case yu => ktr_units
              case ynew =>
                intro tk' h' dr' oG' t' hv
                exfalso
                unfold valueAt at hv
                rw [List.find?_append] at hv
                simp at hv
              case yold =>
                intro v tk31 h31 hv x31
                have hv1 : v = .int 1 t30 := by
                  rcases valueAt_app hv with h | ⟨_, h⟩
                  · rw [hdash] at h; cases h
                  · exact h
                subst hv1
                have F31 := Fr.keeps F30 x31
                have N31 := News.grown N30 x31
                clear F30 N30 F21 N21
                try dsimp only
                repeat' (first | (k_unfold; (try dsimp only)) | ((fail_if_success (with_reducible show wpAny _ _ (binaryOp _ _ _) _ _ _)); first | walk1 | (dsimp only; walk1)))
                rename Fr g3 _ _ _ => FE
                rename News g3 _ _ _ => NE
                have hacl := hPa.len
                rw [List.length_map] at hacl
                refine kmk_add_lit FE NE (News.isList NE (.tail _ (.tail _ (.head _)))) (News.isList NE (.head _)) rfl ?_ (s_add 1000 1 (by rw [hacl]; exact hrn) (Nat.le_refl 1) (by decide))
                intro R h32 F32 N32 l32
                have fresh : ∀ b, b ≠ 804 → g3.get? b = none → s.heap.get? b = none := by
                  intro b h1 h2
                  cases e : s.heap.get? b with
                  | none => rfl
                  | some o =>
                    by_cases hb : b = L
                    · subst hb
                      obtain ⟨o', es, ep, ho', _⟩ := FG3.ns
                      rw [h2] at ho'
                      cases ho'
                    · have := G3 b o (by simpa using h1) hb e
                      rw [h2] at this
                      cases this
                have l8R : (804 : Nat) < R := l32 _ (.tail _ (.tail _ (.tail _ (.tail _ (.tail _ (.tail _ (.tail _ (.tail _ (.head _)))))))))
                rename_i Z1 hZ1 lZ1 Z2 hZ2 lZ2
                have hZx : ∃ o t u n, h32.get? Z1 = some o ∧ g3.get? Z1 = none ∧ o.cls = .type "list" ∧ o.data = .seq #[.int (bitI true) t, .int (bitI true) u] n := ⟨_, _, _, _, (N32 _ (.tail _ (.tail _ (.head _)))).1, (N32 _ (.tail _ (.tail _ (.head _)))).2.2, rfl, rfl⟩
                obtain ⟨oZ, tZ, uZ, nZ, gZ, fZ, cZ, dZ⟩ := hZx
                refine hret _ h32 _ _ ps13 R _ ((Z1, oZ) :: pairs) 0 (FG3.keeps F32.keep) (fun b o h1 h2 e => F32.keep b o (G3 b o (by simpa using h1) h2 e)) (N32 _ (.tail _ (.tail _ (.tail _ (.tail _ (.tail _ (.tail _ (.tail _ (.tail _ (.tail _ (.head _))))))))))).1 J13 G13 (N32 _ (.head _)).1 (fresh _ (Nat.ne_of_gt l8R) (N32 _ (.head _)).2.2)
                  (PairsAre.snoc (b := true) (hPa.mono fun p hp => List.mem_cons_of_mem _ hp) (.head _) ⟨cZ, dZ⟩) ?zz
                case zz =>
                  refine List.forall_mem_cons.mpr ⟨⟨gZ, fresh _ ?_ fZ⟩, fun p hp => ?_⟩
                  · refine Nat.ne_of_gt ?_
                    exact lZ1.2.2.2.2.2.2.1
                  · have hq := N32 p (.tail _ (.tail _ (.tail _ (.tail _ (.tail _ (.tail _ (.tail _ (.tail _ (.tail _ (.tail _ hp))))))))))
                    exact ⟨hq.1, fresh _ (hpn p hp).2.2 hq.2.2⟩)
end Mine
end

section -- LawPost
open PySem PySem.W PyProof.Rows PySem.Calls PySem.Spec
namespace Mine
theorem own_post {M : Model} {A : Around} {cd : Code} {s s₁ : Shared} {cw : ClaimW} {cl : Str → Option Addr} {mean : ExcName → Option Value} {args : List WData} {c P : Addr} (d : WData) (hT : TabsAt [(c, P)] s₁.heap) (hr : ∀ a x, cw.raises a x = false)
    (hd : ∀ h, ReadsW cw.records cl h (.bool true) d []) (hpost : cw.post args d args = true)
    (h : codeAny M A cd (fun r s' => r = .ok (.ret (.bool true)) ∧ (∀ b o, b ≠ P → s₁.heap.get? b = some o → s'.heap.get? b = some o) ∧ (∃ ps, s'.heap.get? P = some (tabObj ps)) ∧ s'.os = s₁.os ∧ AllBare s'.gens) s) : codeAny M A cd (GoodWG cw cl mean args s₁) s :=
  codeAny_mono h fun r s' ⟨e, keep, ⟨ps, hP⟩, hos, hg⟩ => by
    subst e
    have hT1 := hT _ (.head _)
    refine ⟨.inl ⟨_, d, [], rfl, fun cls => hr args cls, hd _, hpost, fun _ => ⟨List.nodup_nil, fun a ha => nomatch ha⟩⟩, ⟨fun b o e => ?_, fun b o e => ?_⟩, hos, hg⟩
    · by_cases hb : b = P
      · subst hb
        have e2 := hT1.2
        rw [e] at e2
        cases e2
        exact .inr (.inl ⟨(hT1.1.tab hT1.2).isCodeTable, rfl, #[], ps, rfl, by rw [Array.empty_append]; exact hP⟩)
      · exact .inl (keep b o hb e)
    · by_cases hb : b = P
      · subst hb; exact ⟨_, hP⟩
      · exact ⟨o, keep b o hb e⟩
end Mine
end

section -- Plain12
open PySem PySem.W PyProof.Rows PySem.Calls PySem.Spec
namespace Mine
noncomputable def xz (zs : List Int) : Int := (zs.take 2 ++ [2534, 16]).getD 0 0
noncomputable def yz (zs : List Int) : Int := (zs.take 2 ++ [2534, 16]).getD 1 0
theorem two_of (zs : List Int) : (zs.take 2 ++ [2534, 16]).take 2 = [xz zs, yz zs] := by
  unfold xz yz
  match zs with
  | [] => rfl
  | [a] => rfl
  | a :: b :: r => rfl
theorem ints_two {vs : List Value} {a b : Int} (h : IntsAre vs [a, b]) : ∃ t u, vs = [.int a t, .int b u] := by
  cases h with
  | cons _ t h =>
    cases h with
    | cons _ u h =>
      cases h
      exact ⟨t, u, rfl⟩
theorem ints_get {vs : List Value} {zs : List Int} (h : IntsAre vs zs) : ∀ {i : Nat} {v : Value}, vs[i]? = some v → ∃ z t, v = .int z t ∧ zs[i]? = some z := by
  induction h with
  | nil => intro i v hv; simp at hv
  | @cons z t vs zs h ih =>
    intro i v hv
    cases i with
    | zero => simp at hv; exact ⟨z, t, hv.symm, rfl⟩
    | succ i => simpa using ih (by simpa using hv)
end Mine
end

section -- Comp8
open PySem PySem.W PyProof.Rows PySem.Calls PySem.Spec
namespace Mine
section
variable {prog : Program} {w : World} {A : Around} {R : Result → Shared → Prop} {s : Shared}
theorem ct_inner (elt : PySem.Expr) (g0 : Comprehension) (target iter : PySem.Expr) (ifs : List PySem.Expr) (scope : Scope) (pos : Pos) (it acc : Value) (env : Env) :
    compTurn (.ListComp elt [g0, ⟨target, iter, ifs, 0⟩] scope pos) 1 it acc env = (do
      standAt iter.pos
      match ← pyNext it with
      | none => pure (.done .next)
      | some v =>
        letOwnedTupleGo target it v
        assign target env v
        let mut ok := true
        for c in ifs do
          if ok then ok ← isTrue c env (eval c env)
        if ok then
          (do let _ ← call (.builtin "list.append") [acc, ← eval elt env])
        again (.compLoop (.ListComp elt [g0, ⟨target, iter, ifs, 0⟩] scope pos) 1 it acc env)) := by rfl
theorem ct_outer (elt t0 i0 t1 i1 : PySem.Expr) (ifs : List PySem.Expr) (scope : Scope) (pos : Pos) (it acc : Value) (env : Env) :
    compTurn (.ListComp elt [⟨t0, i0, [], 0⟩, ⟨t1, i1, ifs, 0⟩] scope pos) 0 it acc env = (do
      standAt i0.pos
      match ← pyNext it with
      | none => pure (.done .next)
      | some v =>
        letOwnedTupleGo t0 it v
        assign t0 env v
        let mut ok := true
        for c in ([] : List PySem.Expr) do
          if ok then ok ← isTrue c env (eval c env)
        if ok then
          let x ← eval i1 env
          standAt i1.pos
          let x ← foldedSetIterable i1 env x
          let _ ← runOwn (.compStart (.ListComp elt [⟨t0, i0, [], 0⟩, ⟨t1, i1, ifs, 0⟩] scope pos) 1 (← holding [x] (pyIter x)) acc env) env
        again (.compLoop (.ListComp elt [⟨t0, i0, [], 0⟩, ⟨t1, i1, ifs, 0⟩] scope pos) 0 it acc env)) := by rfl
theorem cg_inner {elt target iter : PySem.Expr} {g0 : Comprehension} {ifs : List PySem.Expr} {scope : Scope} {pos : Pos} {it acc : Value} {env : Env} (I : Nat → Shared → Prop)
    (turn : ∀ n s, I n s → wpAny (model prog w) A (pyNext it) (fun r s₁ => match r with
      | none => R (.ok .next) s₁
      | some v => wpAny (model prog w) A (letOwnedTupleGo target it v) (fun _ s₀ => wpAny (model prog w) A (assign target env v) (fun _ s₂ =>
          wpAny (model prog w) A (Tests ifs env) (fun ok s₃ =>
            if ok = true then wpAny (model prog w) A (eval elt env) (fun x s₄ =>
              wpAny (model prog w) A (call (.builtin "list.append") [acc, x]) (fun _ s₅ => ∃ m, m < n ∧ I m s₅) (notedBy (model prog w) A env fun e s' => R (.error e) s') s₄) (notedBy (model prog w) A env fun e s' => R (.error e) s') s₃
            else ∃ m, m < n ∧ I m s₃) (notedBy (model prog w) A env fun e s' => R (.error e) s') s₂) (notedBy (model prog w) A env fun e s' => R (.error e) s') s₀) (notedBy (model prog w) A env fun e s' => R (.error e) s') s₁) (notedBy (model prog w) A env fun e s' => R (.error e) s') s)
    (n : Nat) (h : I n s) : codeAny (model prog w) A (.compLoop (.ListComp elt [g0, ⟨target, iter, ifs, 0⟩] scope pos) 1 it acc env) R s := by
  refine codeAny_loop rfl I (fun n s hI => ?_) n h
  show wpAny _ A ((compTurn (.ListComp elt [g0, ⟨target, iter, ifs, 0⟩] scope pos) 1 it acc env).onRaise (fun x => do noteFrame x env; theTreesLotGoes x)) _ _ s
  refine wpAny_noted ?_
  rw [ct_inner]
  refine wpAny_bind (wpAny_standAt (wpAny_bind (wpAny_mono (turn n s hI) (fun r s₁ h₁ => ?_) fun _ _ h' => h')))
  cases r with
  | none => exact wpAny_pure h₁
  | some v =>
    refine wpAny_bind (wpAny_mono h₁ (fun _ s₀ h₀' => ?_) fun _ _ h' => h')
    refine wpAny_bind (wpAny_mono h₀' (fun _ s₂ h₂ => wpAny_bind (wpAny_mono h₂ (fun ok s₃ h₃ => ?_) fun _ _ h' => h')) fun _ _ h' => h')
    cases ok with
    | false => exact wpAny_pure ⟨rfl, h₃⟩
    | true => exact wpAny_bind (wpAny_bind (wpAny_mono h₃ (fun x s₄ h₄ => wpAny_bind (wpAny_mono h₄ (fun _ s₅ h₅ => wpAny_pure (wpAny_pure ⟨rfl, h₅⟩)) fun _ _ h' => h')) fun _ _ h' => h'))
theorem cg_outer {elt t0 i0 t1 i1 : PySem.Expr} {ifs : List PySem.Expr} {scope : Scope} {pos : Pos} {it acc : Value} {env : Env} (hs : ∀ x, foldedSetIterable i1 env x = pure x) (I : Nat → Shared → Prop)
    (turn : ∀ n s, I n s → wpAny (model prog w) A (pyNext it) (fun r s₁ => match r with
      | none => R (.ok .next) s₁
      | some v => wpAny (model prog w) A (letOwnedTupleGo t0 it v) (fun _ s₀ => wpAny (model prog w) A (assign t0 env v) (fun _ s₂ =>
          wpAny (model prog w) A (eval i1 env) (fun x s₃ => wpAny (model prog w) A (pyIter x) (fun I1 s₄ =>
            codeAny (model prog w) A (.compStart (.ListComp elt [⟨t0, i0, [], 0⟩, ⟨t1, i1, ifs, 0⟩] scope pos) 1 I1 acc env) (fun r s' => match r with
              | .ok _ => ∃ m, m < n ∧ I m s'
              | .error e => cameBackBy (model prog w) A env (notedBy (model prog w) A env fun e s' => R (.error e) s') e s') s₄)
            (notedBy (model prog w) A env fun e s' => R (.error e) s') s₃) (notedBy (model prog w) A env fun e s' => R (.error e) s') s₂) (notedBy (model prog w) A env fun e s' => R (.error e) s') s₀) (notedBy (model prog w) A env fun e s' => R (.error e) s') s₁) (notedBy (model prog w) A env fun e s' => R (.error e) s') s)
    (n : Nat) (h : I n s) : codeAny (model prog w) A (.compLoop (.ListComp elt [⟨t0, i0, [], 0⟩, ⟨t1, i1, ifs, 0⟩] scope pos) 0 it acc env) R s := by
  refine codeAny_loop rfl I (fun n s hI => ?_) n h
  show wpAny _ A ((compTurn (.ListComp elt [⟨t0, i0, [], 0⟩, ⟨t1, i1, ifs, 0⟩] scope pos) 0 it acc env).onRaise (fun x => do noteFrame x env; theTreesLotGoes x)) _ _ s
  refine wpAny_noted ?_
  rw [ct_outer]
  refine wpAny_bind (wpAny_standAt (wpAny_bind (wpAny_mono (turn n s hI) (fun r s₁ h₁ => ?_) fun _ _ h' => h')))
  cases r with
  | none => exact wpAny_pure h₁
  | some v =>
    refine wpAny_bind (wpAny_mono h₁ (fun _ s₀ h₀' => ?_) fun _ _ h' => h')
    refine wpAny_bind (wpAny_mono h₀' (fun _ s₂ h₂ => wpAny_bind (wpAny_pure ?_)) fun _ _ h' => h')
    refine wpAny_bind (wpAny_mono h₂ (fun x s₃ h₃ => ?_) fun _ _ h' => h')
    rw [hs]
    refine wpAny_bind (wpAny_standAt (wpAny_bind (wpAny_pure (wpAny_bind (wpAny_holding (wpAny_mono h₃ (fun I1 s₄ h₄ => ?_) fun _ _ h' => h'))))))
    refine wpAny_bind (wpAny_runOwn (codeAny_mono h₄ (fun r s' hr => ?_)))
    cases r with
    | error e => exact hr
    | ok f => exact wpAny_pure ⟨rfl, hr⟩
theorem cs_inner {elt : PySem.Expr} {g0 : Comprehension} {target iter : PySem.Expr} {ifs : List PySem.Expr} {scope : Scope} {pos : Pos} {it acc : Value} {env : Env}
    (h0 : codeAny (model prog w) A (.compLoop (.ListComp elt [g0, ⟨target, iter, ifs, 0⟩] scope pos) 1 it acc env) R s)
    (h : wpAny (model prog w) A (pyIter it) (fun it' s' => codeAny (model prog w) A (.compLoop (.ListComp elt [g0, ⟨target, iter, ifs, 0⟩] scope pos) 1 it' acc env) R s')
      (notedBy (model prog w) A env fun x s' => R (.error x) s') s) :
    codeAny (model prog w) A (.compStart (.ListComp elt [g0, ⟨target, iter, ifs, 0⟩] scope pos) 1 it acc env) R s := by
  refine codeAny_of_tree ?_
  show wpAny _ _ ((compStart (.ListComp elt [g0, ⟨target, iter, ifs, 0⟩] scope pos) 1 it acc env).onRaise (fun x => do noteFrame x env; standAt theWindowsPlace)) _ _ s
  refine wpAny_notedAt ?_
  unfold compStart
  show wpAny _ _ (ask >>= _) _ _ s
  refine wpAny_bind (wpAny_askSetting (wpAny_ite ?_))
  split
  · first
      | exact wpAny_bind (wpAny_pure (wpAny_pure (And.intro rfl h0)))
      | exact wpAny_pure (And.intro rfl h0)
  · refine wpAny_bind (wpAny_rule ?_)
    show wpAny _ _ (standAt iter.pos >>= _) _ _ s
    exact wpAny_bind (wpAny_standAt (wpAny_bind (wpAny_mono h (fun it' s' h' => wpAny_pure (And.intro rfl h')) fun _ _ x => x)))
end
end Mine
end

section -- Comp9
open PySem PySem.W PyProof.Rows PySem.Calls PySem.Spec
namespace Mine
section
variable {prog : Program} {w : World} {A : Around} {R : Result → Shared → Prop} {s : Shared}
inductive CE2 (C : Addr) (s₂ : Shared) (P' : List Value → Prop) (ys : List Value) (sc : Shared) : Prop
  | mk (h' : Heap) (tk' : Nat) (m' : Str → Option Value) (e : sc = { s₂ with heap := h', toks := tk' }) (ns : h'.Ns C m') (kp : ∀ b o, b ≠ C → s₂.heap.get? b = some o → h'.get? b = some o) (hP : P' ys)
inductive OutE (C D : Addr) (s₁ : Shared) (h₃ : Heap) (n : Nat) (T : List Value → Prop) (xv : Value) (sb : Shared) : Prop
  | mk (l2 : Addr) (vs2 : List Value) (h' : Heap) (tk' : Nat) (m' : Str → Option Value) (e1 : xv = .ref l2) (e2 : sb = { s₁ with heap := h', toks := tk' }) (ns : h'.Ns C m') (kp : ∀ b o, b ≠ C → h₃.get? b = some o → h'.get? b = some o)
    (hl : h'.IsList l2 (List.toArray vs2)) (nc : l2 ≠ C) (nd : l2 ≠ D) (hz : vs2.length = n) (t : T vs2)
inductive OInv (P : Nat → List Value → Prop) (C D I ax : Addr) (xs : List Value) (s : Shared) (k : Nat) (s' : Shared) : Prop
  | mk (h' : Heap) (tk : Nat) (m' : Str → Option Value) (ys : List Value) (i : Nat) (e : s' = { s with heap := h', toks := tk }) (st : h'.IsListIter I ax i ∧ h'.IsList ax xs.toArray) (pl : h'.PlainList D (List.toArray ys)) (ns : h'.Ns C m') (hP : P i ys) (le : i ≤ xs.length) (ke : k = xs.length + 1 - i)
    (kp : ∀ b o, b ≠ C → b ≠ I → b ≠ D → s.heap.get? b = some o → h'.get? b = some o)
inductive IInv (P : Nat → List Value → Prop) (C D I ax J l2 : Addr) (i : Nat) (xs vs2 : List Value) (s : Shared) (k : Nat) (s' : Shared) : Prop
  | mk (h' : Heap) (tk : Nat) (m' : Str → Option Value) (ys : List Value) (j : Nat) (e : s' = { s with heap := h', toks := tk }) (st : h'.IsListIter J l2 j ∧ h'.IsList l2 vs2.toArray) (pl : h'.PlainList D (List.toArray ys)) (ns : h'.Ns C m') (hP : P j ys) (le : j ≤ vs2.length) (ke : k = vs2.length + 1 - j)
    (st1 : h'.IsListIter I ax (i + 1) ∧ h'.IsList ax xs.toArray) (kp : ∀ b o, b ≠ C → b ≠ I → b ≠ D → s.heap.get? b = some o → h'.get? b = some o)
inductive IFin (P : List Value → Prop) (C D I ax J l2 : Addr) (i j : Nat) (xs vs2 ys : List Value) (s : Shared) (zs : List Value) (sc : Shared) : Prop
  | mk (h₆ : Heap) (tk₆ : Nat) (m₆ : Str → Option Value) (e : sc = { s with heap := h₆, toks := tk₆ }) (ns : h₆.Ns C m₆) (st : h₆.IsListIter J l2 (j + 1) ∧ h₆.IsList l2 vs2.toArray) (pl : h₆.PlainList D ys.toArray) (hP : P zs)
    (st1 : h₆.IsListIter I ax (i + 1) ∧ h₆.IsList ax xs.toArray) (kp : ∀ b o, b ≠ C → b ≠ I → b ≠ D → s.heap.get? b = some o → h₆.get? b = some o)
noncomputable def InnerT (prog : Program) (w : World) (A : Around) (cenv : Env) (t1 : PySem.Expr) (ifs : List PySem.Expr) (elt : PySem.Expr) (vs2 : List Value) (P : Nat → List Value → Prop) (K : Heap → Prop) (s₁ : Shared) : Prop :=
  ∀ j v2 ys h₄ tk₄ m₄ E'', vs2[j]? = some v2 → P j ys → h₄.Ns cenv.locals m₄ → K h₄ →
    wpAny (model prog w) A (assign t1 cenv v2) (fun _ sa => wpAny (model prog w) A (Tests ifs cenv) (fun ok sb => if ok = true then wpAny (model prog w) A (eval elt cenv) (fun y sc => CE2 cenv.locals { s₁ with heap := h₄, toks := tk₄ } (P (j + 1)) (ys ++ [y]) sc) E'' sb
      else CE2 cenv.locals { s₁ with heap := h₄, toks := tk₄ } (P (j + 1)) ys sb) E'' sa) E'' { s₁ with heap := h₄, toks := tk₄ }
noncomputable def OuterT (prog : Program) (w : World) (A : Around) (cenv : Env) (t0 i1 t1 : PySem.Expr) (ifs : List PySem.Expr) (elt : PySem.Expr) (xs : List Value) (n2 : Nat → Nat) (P : Nat → Nat → List Value → Prop) (K : Heap → Prop) (D : Addr) (s₁ : Shared) : Prop :=
  ∀ i v ys h₃ tk₃ m₃ E', xs[i]? = some v → P i 0 ys → h₃.Ns cenv.locals m₃ → K h₃ → (∃ o, h₃.get? D = some o) →
    wpAny (model prog w) A (assign t0 cenv v) (fun _ sa => wpAny (model prog w) A (eval i1 cenv) (OutE cenv.locals D s₁ h₃ (n2 i) fun vs2 => InnerT prog w A cenv t1 ifs elt vs2 (P i) K s₁) E' sa) E' { s₁ with heap := h₃, toks := tk₃ }
theorem comp2R {elt t0 i0 t1 i1 : PySem.Expr} {ifs : List PySem.Expr} {scope : Scope} {pos : Pos} {I D ax : Addr} {cenv : Env} {m : Str → Option Value} {xs : List Value} (hh : A.handled = none) (hs : ∀ x, foldedSetIterable i1 cenv x = pure x) (n2 : Nat → Nat) (P : Nat → Nat → List Value → Prop)
    (hax : s.heap.IsList ax xs.toArray) (hit : s.heap.IsListIter I ax 0) (hDC : D ≠ cenv.locals) (hDI : D ≠ I) (hDa : D ≠ ax) (hCI : cenv.locals ≠ I) (hCa : cenv.locals ≠ ax) (haI : ax ≠ I)
    (hacc : s.heap.PlainList D #[]) (hn : s.heap.Ns cenv.locals m) (h0 : P 0 0 []) (hlen : ∀ i j ys, P i j ys → ys.length ≤ sizeLine) (hnext : ∀ i ys, P i (n2 i) ys → P (i + 1) 0 ys)
    (turn : OuterT prog w A cenv t0 i1 t1 ifs elt xs n2 P (fun h => ∀ b o, b ≠ cenv.locals → b ≠ I → b ≠ D → s.heap.get? b = some o → h.get? b = some o) D s)
    (hR : ∀ h' tk m' ys, h'.Ns cenv.locals m' → h'.PlainList D (List.toArray ys) → P xs.length 0 ys → (∀ b o, b ≠ cenv.locals → b ≠ I → b ≠ D → s.heap.get? b = some o → h'.get? b = some o) → R (.ok .next) { s with heap := h', toks := tk }) :
    codeAny (model prog w) A (.compLoop (.ListComp elt [⟨t0, i0, [], 0⟩, ⟨t1, i1, ifs, 0⟩] scope pos) 0 (.ref I) (.ref D) cenv) R s := by
  have W := Walks.list (prog := prog) (w := w) (A := A) hh I ax haI xs.toArray
  have hsz : xs.toArray.size = xs.length := List.size_toArray ..
  refine cg_outer hs
    (OInv (fun i ys => P i 0 ys) cenv.locals D I ax xs s) ?_ (xs.length + 1)
    ⟨s.heap, s.toks, m, [], 0, rfl, ⟨hit, hax⟩, hacc, hn, h0, Nat.zero_le _, rfl, fun _ _ _ _ _ e => e⟩
  rintro k s' ⟨H, tk, m', ys, i, rfl, hst', hacc', hn', hP, hi, rfl, hk⟩
  by_cases hlt : i < xs.length
  · refine W.item i _ _ _ (by rw [hsz]; exact hlt) hst' fun v h₁ tk₁ hPv hst₁ hk₁ => ?_
    refine list_let hst₁.1 ?_
    have k1 : ∀ b o, b ≠ I → H.get? b = some o → h₁.get? b = some o := fun b o hb e => hk₁ b o (by simpa using hb) e
    refine wpAny_mono (turn i v ys h₁ tk₁ m' _ (by simpa using hPv) hP (hn'.at fun o e => k1 _ o hCI e) (fun b o hC hI hD e => k1 b o hI (hk b o hC hI hD e)) (let ⟨n, e⟩ := hacc'; ⟨_, k1 _ _ hDI e⟩)) (fun _ sa ha => wpAny_mono ha (fun xv sb hb => ?_) fun _ _ e => e) fun _ _ e => e
    obtain ⟨l2, vs2, h2, tk2, m2, rfl, rfl, hn2, hk2, hl2, hl2C, hl2D, hlen2, inner⟩ := hb
    refine wpAny_pyIter_list hl2 ?_
    have hl2I : l2 ≠ I := fun q => by
      obtain ⟨o, ho, hc, _⟩ := hst₁.1
      obtain ⟨o', ho', hc', _⟩ := hl2
      have := hk2 I o (Ne.symm hCI) ho
      rw [q, this] at ho'
      cases ho'
      rw [hc] at hc'
      exact absurd hc' (by decide)
    have acc2 : h2.PlainList D ys.toArray := let ⟨n, e⟩ := hacc'; ⟨n, hk2 _ _ hDC (k1 _ _ hDI e)⟩
    have push : ∀ b o, h2.get? b = some o → (h2.push { cls := .type "list_iterator", data := .fields #[.ref l2, .int 0 0] }).get? b = some o := fun b o e => Heap.get?_push_of_some _ e
    have hlt2 : ∀ b o, h2.get? b = some o → b ≠ h2.objs.size := fun b o e q => Nat.lt_irrefl _ (q ▸ Heap.lt_size e)
    have l2lt : l2 ≠ h2.objs.size := let ⟨o, ho, _⟩ := hl2; hlt2 _ o ho
    have Clt : cenv.locals ≠ h2.objs.size := let ⟨o, _, _, ho, _⟩ := hn2; hlt2 _ o ho
    have Dlt : D ≠ h2.objs.size := let ⟨n, e⟩ := acc2; hlt2 _ _ e
    have I2 : h2.IsListIter I ax (i + 1) := hst₁.1.at fun o e => hk2 _ o (Ne.symm hCI) e
    have ax2 : h2.IsList ax xs.toArray := hst₁.2.at fun o e => hk2 _ o (Ne.symm hCa) e
    have Ilt : I ≠ h2.objs.size := let ⟨o, ho, _⟩ := I2; hlt2 _ o ho
    have axlt : ax ≠ h2.objs.size := let ⟨o, ho, _⟩ := ax2; hlt2 _ o ho
    have old2 : ∀ b o, b ≠ cenv.locals → b ≠ I → b ≠ D → s.heap.get? b = some o → h2.get? b = some o := fun b o hC hI hD e => hk2 b o hC (k1 b o hI (hk b o hC hI hD e))
    have W2 := Walks.list (prog := prog) (w := w) (A := A) hh h2.objs.size l2 l2lt vs2.toArray
    have hsz2 : vs2.toArray.size = vs2.length := List.size_toArray ..
    have hst2 : (h2.push { cls := .type "list_iterator", data := .fields #[.ref l2, .int 0 0] }).IsListIter h2.objs.size l2 0 ∧ (h2.push { cls := .type "list_iterator", data := .fields #[.ref l2, .int 0 0] }).IsList l2 vs2.toArray := ⟨⟨_, Heap.get?_push_size _ rfl, rfl, rfl⟩, hl2.push _⟩
    have loop : ∀ (R' : Result → Shared → Prop), (∀ h' tk m' ys, h'.Ns cenv.locals m' → h'.PlainList D (List.toArray ys) → P i vs2.length ys → (h'.IsListIter I ax (i + 1) ∧ h'.IsList ax xs.toArray) → (∀ b o, b ≠ cenv.locals → b ≠ I → b ≠ D → s.heap.get? b = some o → h'.get? b = some o) → R' (.ok .next) { s with heap := h', toks := tk }) →
        codeAny (model prog w) A (.compLoop (.ListComp elt [⟨t0, i0, [], 0⟩, ⟨t1, i1, ifs, 0⟩] scope pos) 1 (.ref h2.objs.size) (.ref D) cenv) R' { s with heap := h2.push { cls := .type "list_iterator", data := .fields #[.ref l2, .int 0 0] }, toks := tk2 } := by
      intro R' hR'
      refine cg_inner
        (IInv (P i) cenv.locals D I ax h2.objs.size l2 i xs vs2 s) ?_ (vs2.length + 1)
        ⟨_, tk2, m2, ys, 0, rfl, hst2, (let ⟨n, e⟩ := acc2; ⟨n, push _ _ e⟩), hn2.at fun o e => push _ _ e, hP, Nat.zero_le _, rfl, ⟨I2.at fun o e => push _ _ e, ax2.push _⟩, fun b o hC hI hD e => push _ _ (old2 b o hC hI hD e)⟩
      rintro k s' ⟨G, tk4, m4, ys4, j, rfl, hst4, hacc4, hn4, hP4, hj, rfl, hI4, hk4⟩
      by_cases hjl : j < vs2.length
      · refine W2.item j _ _ _ (by rw [hsz2]; exact hjl) hst4 fun v2 h₅ tk₅ hPv2 hst₅ hk₅ => ?_
        have k5 : ∀ b o, b ≠ h2.objs.size → G.get? b = some o → h₅.get? b = some o := fun b o hb e => hk₅ b o (by simpa using hb) e
        refine list_let hst₅.1 ?_
        have keep5 : ∀ b o, b ≠ cenv.locals → b ≠ I → b ≠ D → s.heap.get? b = some o → h₅.get? b = some o := fun b o hC hI hD e => k5 b o (hlt2 b o (old2 b o hC hI hD e)) (hk4 b o hC hI hD e)
        refine wpAny_mono (inner j v2 ys4 h₅ tk₅ m4 _ (by simpa using hPv2) hP4 (hn4.at fun o e => k5 _ o Clt e) keep5) (fun _ sa ha => wpAny_mono ha (fun ok sb hb => ?_) fun _ _ e => e) fun _ _ e => e
        have fin : ∀ (zs : List Value) (sc : Shared), CE2 cenv.locals { s with heap := h₅, toks := tk₅ } (P i (j + 1)) zs sc →
            IFin (P i (j + 1)) cenv.locals D I ax h2.objs.size l2 i j xs vs2 ys4 s zs sc := by
          rintro zs sc ⟨h₆, tk₆, m₆, rfl, hn₆, hk₆, hP₆⟩
          refine ⟨h₆, tk₆, m₆, rfl, hn₆, ⟨hst₅.1.at fun o e => hk₆ _ o (Ne.symm Clt) e, hst₅.2.at fun o e => hk₆ _ o hl2C e⟩, ?_, hP₆, ⟨hI4.1.at fun o e => hk₆ _ o (Ne.symm hCI) (k5 _ o Ilt e), hI4.2.at fun o e => hk₆ _ o (Ne.symm hCa) (k5 _ o axlt e)⟩, fun b o hC hI hD e => hk₆ b o hC (keep5 b o hC hI hD e)⟩
          obtain ⟨n, e⟩ := hacc4
          exact ⟨n, hk₆ _ _ hDC (k5 _ _ Dlt e)⟩
        cases ok with
        | false =>
          simp only [Bool.false_eq_true, if_false] at hb ⊢
          obtain ⟨h₆, tk₆, m₆, rfl, hn₆, hst₆, hacc₆, hP₆, hI₆, hk₆⟩ := fin ys4 sb hb
          exact ⟨vs2.length + 1 - (j + 1), n_dec1 hjl, h₆, tk₆, m₆, ys4, j + 1, rfl, hst₆, hacc₆, hn₆, hP₆, hjl, rfl, hI₆, hk₆⟩
        | true =>
          simp only [if_true] at hb ⊢
          refine wpAny_mono hb (fun y sc hc => ?_) fun _ _ e => e
          obtain ⟨h₆, tk₆, m₆, rfl, hn₆, hst₆, hacc₆, hP₆, hI₆, hk₆⟩ := fin (ys4 ++ [y]) sc hc
          have hys : ys4.toArray.size ≤ sizeLine := by have := hlen _ _ _ hP4; simpa using this
          refine wpAny_list_append_plain (hsz := hys) hacc₆ fun h₇ hl₇ hs₇ => ?_
          refine ⟨vs2.length + 1 - (j + 1), n_dec1 hjl, h₇, tk₆, m₆, ys4 ++ [y], j + 1, rfl, ⟨hst₆.1.at fun o e => hs₇.extBut _ o (Ne.symm Dlt) e, hst₆.2.at fun o e => hs₇.extBut _ o hl2D e⟩, by simpa using hl₇, hn₆.sameBut hs₇ (Ne.symm hDC), hP₆, hjl, rfl,
            ⟨hI₆.1.at fun o e => hs₇.extBut _ o (Ne.symm hDI) e, hI₆.2.at fun o e => hs₇.extBut _ o (Ne.symm hDa) e⟩, fun b o hC hI hD e => hs₇.extBut b o hD (hk₆ b o hC hI hD e)⟩
      · have hjn : j = vs2.length := n_eq (by assumption) (by assumption)
        subst hjn
        refine W2.done _ _ _ ⟨by rw [hsz2]; exact hst4.1, hst4.2⟩ fun h₁' tk₁' hk₁' => ?_
        have k5 : ∀ b o, b ≠ h2.objs.size → G.get? b = some o → h₁'.get? b = some o := fun b o hb e => hk₁' b o (by simpa using hb) e
        exact hR' h₁' tk₁' m4 ys4 (hn4.at fun o e => k5 _ o Clt e) (let ⟨n, e⟩ := hacc4; ⟨n, k5 _ _ Dlt e⟩) hP4 ⟨hI4.1.at fun o e => k5 _ o Ilt e, hI4.2.at fun o e => k5 _ o axlt e⟩ fun b o hC hI hD e => k5 b o (hlt2 b o (old2 b o hC hI hD e)) (hk4 b o hC hI hD e)
    refine cs_inner (loop _ ?_) (W2.self 0 _ _ _ hst2 (loop _ ?_))
    all_goals
      intro h' tk' m' ys' hn5 hacc5 hP5 hI5 hk5
      exact ⟨xs.length + 1 - (i + 1), n_dec1 hlt, h', tk', m', ys', i + 1, rfl, hI5, hacc5, hn5, hnext i ys' (hlen2 ▸ hP5), hlt, rfl, hk5⟩
  · have hin : i = xs.length := n_eq (by assumption) (by assumption)
    subst hin
    refine W.done _ _ _ ⟨by rw [hsz]; exact hst'.1, hst'.2⟩ fun h₁ tk₁ hk₁ => ?_
    have k1 : ∀ b o, b ≠ I → H.get? b = some o → h₁.get? b = some o := fun b o hb e => hk₁ b o (by simpa using hb) e
    exact hR h₁ tk₁ m' ys (hn'.at fun o e => k1 _ o hCI e) (let ⟨n, e⟩ := hacc'; ⟨n, k1 _ _ hDI e⟩) hP fun b o hC hI hD e => k1 b o hI (hk b o hC hI hD e)
end
end Mine
end

section -- Comp10
open PySem PySem.W PyProof.Rows PySem.Calls PySem.Spec
namespace Mine
section
variable {prog : Program} {w : World} {A : Around} {E : Value → Shared → Prop} {env : Env}
inductive Src2 (prog : Program) (w : World) (A : Around) (env : Env) (scope : Scope) (cl : List (Str × Addr)) (t0 i1 t1 : PySem.Expr) (ifs : List PySem.Expr) (elt : PySem.Expr) (n2 : Nat → Nat) (P : Nat → Nat → List Value → Prop) (Q : Value → Shared → Prop) (xv : Value) (s₁ : Shared) : Prop
  | mk (ax : Addr) (vs : List Value) (hE0 : xv = .ref ax) (hE1 : s₁.heap.IsList ax (List.toArray vs)) (hE2 : (∀ C D, s₁.heap.objs.size ≤ C → s₁.heap.get? D = none → OuterT prog w A (compEnvC scope cl C env) t0 i1 t1 ifs elt vs n2 P (Ext s₁.heap) D s₁)) (hE3 : (∀ D ys h' tk, Ext s₁.heap h' → s₁.heap.get? D = none → h'.PlainList D (List.toArray ys) → P vs.length 0 ys → Q (.ref D) { s₁ with heap := h', toks := tk }))
theorem evalComp2 {s : Shared} {elt t0 i0 t1 i1 : PySem.Expr} {ifs : List PySem.Expr} {scope : Scope} {cl : List (Str × Addr)} {pos : Pos} {Q : Value → Shared → Prop} (hh : A.handled = none)
    (hclos : closureFor scope env = pure cl) (hcell : ∀ y ∈ scope.names, y.2 ≠ .cell) (hkind : scope.kind = .function)
    (hnames : ∀ y ∈ scope.names, y.2 = .local → scope.names.lookup y.1 = some .local)
    (n2 : Nat → Nat) (P : Nat → Nat → List Value → Prop) (h0 : P 0 0 []) (hlen : ∀ i j ys, P i j ys → ys.length ≤ sizeLine) (hnext : ∀ i ys, P i (n2 i) ys → P (i + 1) 0 ys)
    (h : wpAny (model prog w) A (eval i0 env) (Src2 prog w A env scope cl t0 i1 t1 ifs elt n2 P Q) E s)
    (hs : ∀ x, foldedSetIterable i0 env x = pure x := by intro _; rfl) (hs1 : ∀ C x, foldedSetIterable i1 (compEnvC scope cl C env) x = pure x := by intro _ _; rfl) :
    wpAny (model prog w) A (eval (.ListComp elt [⟨t0, i0, [], 0⟩, ⟨t1, i1, ifs, 0⟩] scope pos) env) Q E s := by
  rw [eval_ListComp]
  refine wpAny_comprehension_free (use := none) rfl hs hclos hkind hnames (wpAny_mono h (fun xv s₁ h₁ => ?_) fun _ _ e => e)
  obtain ⟨ax, vs, rfl, hl, turn, hQ⟩ := h₁
  have hlt : ax < s₁.heap.objs.size := by obtain ⟨_, e, _⟩ := hl; exact Heap.lt_size e
  refine wpAny_iter_list' hl ?_
  have old0 : Ext s₁.heap (s₁.heap.push { cls := .type "list_iterator", data := .fields #[.ref ax, .int 0 0] }) := fun b o e => Heap.get?_push_of_some _ e
  have hitI : (s₁.heap.push { cls := .type "list_iterator", data := .fields #[.ref ax, .int 0 0] }).IsListIter s₁.heap.objs.size ax 0 := ⟨_, Heap.get?_push_size _ rfl, rfl, rfl⟩
  have hlI := hl.push { cls := .type "list_iterator", data := .fields #[.ref ax, .int 0 0] }
  have sz0 : (s₁.heap.push { cls := .type "list_iterator", data := .fields #[.ref ax, .int 0 0] }).objs.size = s₁.heap.objs.size + 1 := Heap.size_push ..
  generalize (s₁.heap.push { cls := .type "list_iterator", data := .fields #[.ref ax, .int 0 0] }) = H1 at *
  refine wpAny_newObj_type (wpAny_newFunctionEnv hcell (by intro y hy; simp at hy) (fun h₁ hns₁ hsb₁ => ?_) hkind)
  dsimp only at hns₁ hsb₁ ⊢
  have old1 : Ext H1 (H1.push { cls := .type "list", dict := none, data := .seq ([] : List Value).toArray }) := fun b o e => Heap.get?_push_of_some _ e
  have hD1 : (H1.push { cls := .type "list", dict := none, data := .seq ([] : List Value).toArray }).get? H1.objs.size = some { cls := .type "list", dict := none, data := .seq ([] : List Value).toArray } := Heap.get?_push_size _ rfl
  have sz1 : (H1.push { cls := .type "list", dict := none, data := .seq ([] : List Value).toArray }).objs.size = H1.objs.size + 1 := Heap.size_push ..
  generalize (H1.push { cls := .type "list", dict := none, data := .seq ([] : List Value).toArray }) = H2 at *
  have hltN : @LT.lt Nat _ ax s₁.heap.objs.size := hlt
  have eC : @Eq Nat H2.objs.size (s₁.heap.objs.size + 2) := by rw [sz1, sz0]
  have eD : @Eq Nat H1.objs.size (s₁.heap.objs.size + 1) := sz0
  have k1 : ∀ b o, @Ne Nat b H2.objs.size → H2.get? b = some o → h₁.get? b = some o := fun b o hb e => hsb₁.extBut b o hb (Heap.get?_push_of_some _ e)
  have ltS : ∀ b o, s₁.heap.get? b = some o → @LT.lt Nat _ b s₁.heap.objs.size := fun b o e => Heap.lt_size e
  have old : ∀ b o, s₁.heap.get? b = some o → h₁.get? b = some o := fun b o e => k1 b o (by have := ltS b o e; omega) (old1 _ _ (old0 _ _ e))
  have freshD : s₁.heap.get? H1.objs.size = none := by
    cases e : s₁.heap.get? H1.objs.size with
    | none => rfl
    | some o => have := ltS _ o e; omega
  have loop : ∀ s₃ : Shared, s₃ = { s₁ with heap := h₁, toks := s₁.toks + ([] : List (Str × Value)).length } →
      codeAny (model prog w) A (.compLoop (.ListComp elt [⟨t0, i0, [], 0⟩, ⟨t1, i1, ifs, 0⟩] scope pos) 0 (.ref s₁.heap.objs.size) (.ref H1.objs.size) (compEnvC scope cl H2.objs.size env))
        (compPost (model prog w) A E none Q (.ref H1.objs.size) H2.objs.size) s₃ := by
    rintro s₃ rfl
    refine comp2R (cenv := compEnvC scope cl H2.objs.size env) (xs := vs) (ax := ax) hh (hs1 _) n2 P ?_ ?_ ?_ ?_ ?_ ?_ ?_ ?_ ?_ hns₁ h0 hlen hnext ?_ ?_
    · exact hlI.at fun o e => k1 _ o (neN (by omega)) (old1 _ _ e)
    · exact hitI.at fun o e => k1 _ o (neN (by omega)) (old1 _ _ e)
    · exact neN (show @Ne Nat H1.objs.size H2.objs.size by omega)
    · exact neN (show @Ne Nat H1.objs.size s₁.heap.objs.size by omega)
    · exact neN (show @Ne Nat H1.objs.size ax by omega)
    · exact neN (show @Ne Nat H2.objs.size s₁.heap.objs.size by omega)
    · exact neN (show @Ne Nat H2.objs.size ax by omega)
    · exact neN (show @Ne Nat ax s₁.heap.objs.size by omega)
    · exact ⟨_, k1 _ _ (by omega) hD1⟩
    · have key := turn H2.objs.size H1.objs.size (show @LE.le Nat _ s₁.heap.objs.size H2.objs.size by omega) freshD
      intro i v ys h₃ tk₃ m₃ E' hv hP hn hk hDo
      have kk : ∀ h : Heap, (∀ b o, b ≠ H2.objs.size → b ≠ s₁.heap.objs.size → b ≠ H1.objs.size → h₁.get? b = some o → h.get? b = some o) → Ext s₁.heap h := fun h hk b o e => by
        have := ltS b o e
        exact hk b o (show @Ne Nat b H2.objs.size by omega) (show @Ne Nat b s₁.heap.objs.size by omega) (show @Ne Nat b H1.objs.size by omega) (old b o e)
      refine wpAny_mono (key i v ys h₃ tk₃ m₃ E' hv hP hn (kk _ hk) hDo) (fun _ sa ha => wpAny_mono ha (fun xv sb hb => ?_) fun _ _ e => e) fun _ _ e => e
      obtain ⟨l2, vs2, h', tk', m', e1, e2, c1, c2, c3, c4, c5, c6, inner⟩ := hb
      exact ⟨l2, vs2, h', tk', m', e1, e2, c1, c2, c3, c4, c5, c6, fun j v2 ys h₄ tk₄ m₄ E'' a b c d => inner j v2 ys h₄ tk₄ m₄ E'' a b c (kk _ d)⟩
    · intro h' tk m' ys hn hpl hP hk
      have keep : Ext s₁.heap h' := fun b o e => by
        have := ltS b o e
        exact hk b o (show @Ne Nat b H2.objs.size by omega) (show @Ne Nat b s₁.heap.objs.size by omega) (show @Ne Nat b H1.objs.size by omega) (old b o e)
      refine ⟨m', hn, fun h'' hs'' => hQ H1.objs.size ys h'' tk (fun b o e => hs''.extBut b o (by have := ltS b o e; show @Ne Nat b H2.objs.size; omega) (keep b o e)) freshD (hpl.extBut hs''.extBut (show @Ne Nat H1.objs.size H2.objs.size by omega)) hP⟩
  refine codeAny_compStart_list (loop _ rfl) ((Walks.list (prog := prog) (w := w) (A := A) hh s₁.heap.objs.size ax (Nat.ne_of_lt hlt) vs.toArray).self 0 _ _ _ ⟨?_, ?_⟩ (loop _ rfl))
  · exact hitI.at fun o e => k1 _ o (neN (by omega)) (old1 _ _ e)
  · exact hlI.at fun o e => k1 _ o (neN (by omega)) (old1 _ _ e)
end
end Mine
end

section -- Comp11
open PySem PySem.W PyProof.Rows PySem.Calls PySem.Spec
namespace Mine
section
variable {prog : Program} {w : World} {A : Around} {E : Value → Shared → Prop} {env : Env}
inductive SrcALF (prog : Program) (w : World) (A : Around) (env : Env) (scope : Scope) (cl : List (Str × Addr)) (target : PySem.Expr) (ifs : List PySem.Expr) (elt : PySem.Expr) (y : Str) (h₀ : Heap) (P : Nat → List Value → List (Addr × Obj) → Prop) (Q : Flow → Shared → Prop) (xv : Value) (s₁ : Shared) : Prop
  | mk (ax : Addr) (vs : List Value) (m : Str → Option Value) (news : List (Addr × Obj)) (hE0 : xv = .ref ax) (hE1 : s₁.heap.IsList ax (List.toArray vs)) (hE2 : vs.length ≤ sizeLine) (hE3 : Fr h₀ env.locals s₁.heap m) (hE4 : News h₀ env.locals s₁.heap news) (hE5 : TurnsL prog w A env scope cl target ifs elt vs P s₁) (hE6 : (∀ D ys more h' tk c, Fr h₀ env.locals h' (fun z => if z = y then some (.ref D) else m z) → News h₀ env.locals h' ((D, W.listOf (List.toArray ys) c) :: (more ++ news)) → (∀ p ∈ more ++ news, p.1 ≠ D) → (∀ p ∈ more, s₁.heap.get? p.1 = none) → P vs.length ys more → Q .next { s₁ with heap := h', toks := tk }))
theorem assignCompLF {s : Shared} {elt target iter : PySem.Expr} {ifs : List PySem.Expr} {scope : Scope} {cl : List (Str × Addr)} {pos spos : Pos} {y : Str} {py : Pos} {h₀ : Heap} {Q : Flow → Shared → Prop} (hh : A.handled = none)
    (hsw : swapsWith (.ListComp elt [⟨target, iter, ifs, 0⟩] scope pos) (some (.Name y py)) spos.line env = pure true)
    (hx : env.kindOf y = some .local) (hp : (env.scope.kind == .class || (env.scope.kind == .module && env.locals != env.globals)) = false)
    (hclos : closureFor scope env = pure cl) (hcell : ∀ y ∈ scope.names, y.2 ≠ .cell) (hkind : scope.kind = .function)
    (hnames : ∀ y ∈ scope.names, y.2 = .local → scope.names.lookup y.1 = some .local)
    (P : Nat → List Value → List (Addr × Obj) → Prop) (h0 : P 0 [] []) (hlen : ∀ i ys more, P i ys more → ys.length ≤ i)
    (h : wpAny (model prog w) A (eval iter env) (SrcALF prog w A env scope cl target ifs elt y h₀ P Q) E s)
    (hs : ∀ x, foldedSetIterable iter env x = pure x := by intro _; rfl) :
    wpAny (model prog w) A (exec (.Assign [.Name y py] (.ListComp elt [⟨target, iter, ifs, 0⟩] scope pos) spos) env) Q E s := by
  refine assignCompL hh hsw hclos hcell hkind hnames P h0 hlen (wpAny_mono h (fun xv s₁ hq => ?_) fun _ _ e => e) hs
  obtain ⟨ax, vs, m, news, rfl, hl, hsz, F, N, T, hQ⟩ := hq
  refine ⟨ax, vs, rfl, hl, hsz, T, fun D C ys more h' tk old fD fC hpl hP hmore hDC hns => ?_⟩
  have CL : C ≠ env.locals := fun q => by
    obtain ⟨o, es, ep, ho, _⟩ := F.ns
    rw [q, ho] at fC; cases fC
  have F1 := F.keeps old
  obtain ⟨c, N1, hne⟩ := news_more (D := D) (ys := ys) (more := more) F N old fD hpl fun p hp => ⟨(hmore p hp).1, (hmore p hp).2.1, (hmore p hp).2.2.1⟩
  refine wpAny_assign_Name (wpAny_storeName_local hx F1.ns (fun h₂ hn₂ hs₂ => ?_) hp)
  obtain ⟨mC, hnC⟩ := hns
  refine ⟨⟨mC, hnC.at fun o e => (hs₂.2 C CL).trans e⟩, fun h'' hs'' => ?_⟩
  have F2 := F1.set hn₂ hs₂
  have N2 := N1.set hs₂
  have C0 : h₀.get? C = none := by
    cases q : h₀.get? C with
    | none => rfl
    | some o => rw [F.keep _ _ q] at fC; cases fC
  have nC : ∀ p ∈ (D, W.listOf ys.toArray c) :: (more ++ news), p.1 ≠ C := fun p hp => by
    rcases List.mem_cons.mp hp with rfl | hp
    · exact hDC
    · rcases List.mem_append.mp hp with hp | hp
      · exact (hmore p hp).2.2.2
      · intro q
        have := (N p hp).1
        rw [q, fC] at this; cases this
  exact hQ D ys more h'' _ c ⟨F2.ns.at (fun o e => (hs''.2 _ (Ne.symm CL)).trans e), fun b o e => (hs''.2 b (fun q => by rw [q, C0] at e; cases e)).trans (F2.keep b o e), F2.above⟩ (fun p hp => ⟨(hs''.2 _ (nC p hp)).trans (N2 p hp).1, (N2 p hp).2⟩) hne (fun p hp => (hmore p hp).2.1) hP
end
section
variable {prog : Program} {w : World} {A : Around} {E : Value → Shared → Prop} {s : Shared}
theorem add_listsP {l b : Addr} {vs ws : List Value} {Q : Value → Shared → Prop} (hl : s.heap.IsList l vs.toArray) (hb : s.heap.IsList b ws.toArray) (hsz : vs.length + ws.length ≤ sizeLine)
    (h : Q (.ref s.heap.objs.size) { s with heap := s.heap.push { cls := .type "list", data := .seq (vs ++ ws).toArray } }) : wpAny (model prog w) A (binaryOp .Add (.ref l) (.ref b)) Q E s := by
  obtain ⟨⟨c1, x1, y1, z1⟩, e1, hc1, n1, hd1⟩ := id hl
  obtain ⟨⟨c2, x2, y2, z2⟩, e2, hc2, n2, hd2⟩ := id hb
  dsimp only at hc1 hd1 hc2 hd2
  subst hc1; subst hd1; subst hc2; subst hd2
  refine concat_meets ⟨_, e1, rfl⟩ ⟨_, e2, rfl⟩ noFill_list_add seq_list_add PySem.F.slot_list_add PySem.F.entry_list_add (PySem.F.args_list_add_2 _ _) (list_addW l b vs.toArray ws.toArray n1 n2 x1 x2 z1 z2 (by simpa using hsz)) ⟨e1, e2, ?_⟩
  rw [show vs.toArray ++ ws.toArray = (vs ++ ws).toArray from by simp]
  exact h
theorem slice_listP {value slice : PySem.Expr} {l : Addr} {items : Array Value} {vl vu : Value} {lo hi : Option Int} {Q : Value → Shared → Prop} (hl : s.heap.IsList l items) (pl : IsPart vl lo) (pu : IsPart vu hi)
    (h : Q (.ref (s.heap.objs.size + 1)) { s with heap := (s.heap.push { cls := .type "slice", data := .fields #[vl, vu, .none] }).push { cls := .type "list", data := .seq (slicePick items lo hi none) } }) (hsz : items.size ≤ sizeLine)
    (hs : subscripted slice false (.ref l) (.ref s.heap.objs.size) = operate [.ref s.heap.objs.size, .ref l] (getItem (.ref l) (.ref s.heap.objs.size)) := by with_unfolding_all rfl)
    (ht : ∀ r, letTemporaryGo value (.ref l) r = pure () := by intro _; with_unfolding_all rfl) :
    wpAny (model prog w) A (subscriptTail value slice (.ref l) (.ref s.heap.objs.size)) Q E { s with heap := s.heap.push { cls := .type "slice", data := .fields #[vl, vu, .none] } } := by
  refine subscriptTail_ops (Heap.IsList.typeIs (s := { s with heap := s.heap.push { cls := .type "slice", data := .fields #[vl, vu, .none] } }) (hl.push _)) list_getitem_lookup (wpAny_getItem_list_slice (hl.push _) (Heap.IsSliceOf.new ..) pl pu .none (by simp) ?_ hsz) hs ht
  show Q (.ref (s.heap.push _).objs.size) _
  rw [Heap.size_push]
  exact h
theorem slice_listT {value slice : PySem.Expr} {l : Addr} {items : Array Value} {vl vu : Value} {lo hi : Option Int} {Q : Value → Shared → Prop} (hl : s.heap.IsList l items) (pl : IsPart vl lo) (pu : IsPart vu hi)
    (h : Q (.ref (s.heap.objs.size + 1)) { s with heap := (s.heap.push { cls := .type "slice", data := .fields #[vl, vu, .none] }).push { cls := .type "list", data := .seq (slicePick items lo hi none) } }) (hsz : items.size ≤ sizeLine)
    (hs : subscripted slice false (.ref l) (.ref s.heap.objs.size) = operate [.ref s.heap.objs.size, .ref l] (getItem (.ref l) (.ref s.heap.objs.size)) := by with_unfolding_all rfl) :
    wpAny (model prog w) A (subscriptTail value slice (.ref l) (.ref s.heap.objs.size)) Q E { s with heap := s.heap.push { cls := .type "slice", data := .fields #[vl, vu, .none] } } := by
  unfold subscriptTail
  have hT : Shared.TypeIs { s with heap := s.heap.push { cls := .type "slice", data := .fields #[vl, vu, .none] } } (.ref l) "list" := Heap.IsList.typeIs (s := { s with heap := s.heap.push { cls := .type "slice", data := .fields #[vl, vu, .none] } }) (hl.push _)
  refine wpAny_bind ?_
  rw [getitemInPython_of_ne hT.not_modules]
  refine wpAny_bind (wpAny_specialOf hT slot_list_getitem.lookup ?_)
  have fin : wpAny (model prog w) A (subscripted slice false (.ref l) (.ref s.heap.objs.size)) (fun r s₃ => wpAny (model prog w) A (letTemporaryGo value (.ref l) r >>= fun _ => pure r) Q E s₃) E { s with heap := s.heap.push { cls := .type "slice", data := .fields #[vl, vu, .none] } } := by
    rw [hs]
    refine wpAny_operating (wpAny_getItem_list_slice (hl.push _) (Heap.IsSliceOf.new ..) pl pu .none (by simp) ?_ hsz)
    refine wpAny_bind (wpAny_letTemporaryGo (wpAny_pure ?_))
    show Q (.ref (s.heap.push _).objs.size) _
    rw [Heap.size_push]
    exact h
  first
    | exact wpAny_pure (wpAny_bind fin)
    | exact wpAny_bind (wpAny_pure (wpAny_bind fin))
    | exact wpAny_bind fin
theorem upto_list (h : Heap) (A : Obj) (us : List Value) {k : Nat} (hk : k ≤ 3) : ((h.push A).push { cls := .type "list", data := .seq (slicePick us.toArray none (some (3 - (k : Int))) none) }).IsList (h.objs.size + 1) (us.take (3 - k)).toArray := by
  have e : (3 : Int) - (k : Int) = ((3 - k : Nat) : Int) := by omega
  rw [e, slicePick_upto']
  have hs : (h.push A).objs.size = h.objs.size + 1 := Heap.size_push ..
  rw [← hs]
  exact ⟨_, Heap.get?_push_size _ rfl, rfl, _, rfl⟩
theorem cend_list {C : Addr} {s₂ : Shared} {P' : List Value → List (Addr × Obj) → Prop} {ys vs : List Value} {more : List (Addr × Obj)} {h9 : Heap} {A : Obj} {tk : Nat} {m' : Str → Option Value} (hn9 : h9.Ns C m') (keep : ∀ b o, b ≠ C → s₂.heap.get? b = some o → h9.get? b = some o)
    (hP : P' (ys ++ [.ref (h9.push A).objs.size]) (((h9.push A).objs.size, { cls := .type "list", data := .seq vs.toArray }) :: more)) :
    CEnd C s₂ P' ys more (some (.ref (h9.push A).objs.size)) { s₂ with heap := (h9.push A).push { cls := .type "list", data := .seq vs.toArray }, toks := tk } := by
  have pu : Ext h9 ((h9.push A).push { cls := .type "list", data := .seq vs.toArray }) := fun b o e => Heap.get?_push_of_some _ (Heap.get?_push_of_some _ e)
  refine ⟨_, _, _, [((h9.push A).objs.size, { cls := .type "list", data := .seq vs.toArray })], rfl, hn9.keeps pu, fun b o hb e => pu b o (keep b o hb e), fun p hp => ?_, hP⟩
  rw [List.mem_singleton.mp hp]
  refine ⟨?_, Heap.get?_push_size _ rfl⟩
  cases q : s₂.heap.get? (h9.push A).objs.size with
  | none => rfl
  | some o =>
    have hne : (h9.push A).objs.size ≠ C := fun z => by
      obtain ⟨o', es, ep, e, _⟩ := hn9
      have := Heap.lt_size (Heap.get?_push_of_some A e)
      rw [z] at this
      exact Nat.lt_irrefl _ this
    exact absurd (Heap.lt_size (Heap.get?_push_of_some A (keep _ o hne q))) (Nat.lt_irrefl _)
end
end Mine
end

section -- Plain13
open PySem PySem.W PyProof.Rows PySem.Calls PySem.Spec
namespace Mine
inductive RowsAre : List (Addr × Obj) → List Value → List (List Str) → Prop
  | nil {ps} : RowsAre ps [] []
  | cons {ps a o us n r vs rs} : (a, o) ∈ ps → (o.cls = .type "list" ∧ o.data = .seq (List.toArray us) n ∧ StrsAre us r) → RowsAre ps vs rs → RowsAre ps (.ref a :: vs) (r :: rs)
theorem RowsAre.len {ps : List (Addr × Obj)} {vs : List Value} {rs : List (List Str)} (h : RowsAre ps vs rs) : vs.length = rs.length := by
  induction h with
  | nil => rfl
  | cons _ _ _ ih => simp [ih]
theorem RowsAre.mono {ps ps' : List (Addr × Obj)} {vs : List Value} {rs : List (List Str)} (h : RowsAre ps vs rs) (hs : ∀ p ∈ ps, p ∈ ps') : RowsAre ps' vs rs := by
  induction h with
  | nil => exact .nil
  | cons hm ho _ ih => exact .cons (hs _ hm) ho ih
theorem RowsAre.append {ps : List (Addr × Obj)} {vs ws : List Value} {rs ts : List (List Str)} (h : RowsAre ps vs rs) (h' : RowsAre ps ws ts) : RowsAre ps (vs ++ ws) (rs ++ ts) := by
  induction h with
  | nil => exact h'
  | cons hm ho _ ih => exact .cons hm ho ih
theorem RowsAre.snoc {ps : List (Addr × Obj)} {vs : List Value} {rs : List (List Str)} {a : Addr} {o : Obj} {us : List Value} {n : Nat} {r : List Str} (h : RowsAre ps vs rs) (hm : (a, o) ∈ ps) (ho : o.cls = .type "list" ∧ o.data = .seq (List.toArray us) n ∧ StrsAre us r) : RowsAre ps (vs ++ [.ref a]) (rs ++ [r]) :=
  h.append (.cons hm ho .nil)
theorem RowsAre.get {ps : List (Addr × Obj)} {vs : List Value} {rs : List (List Str)} (h : RowsAre ps vs rs) : ∀ {i : Nat} {v : Value}, vs[i]? = some v → ∃ a o us n r, v = .ref a ∧ (a, o) ∈ ps ∧ o.cls = .type "list" ∧ o.data = .seq (List.toArray us) n ∧ StrsAre us r ∧ rs[i]? = some r := by
  induction h with
  | nil => intro i v hv; simp at hv
  | @cons a o us n r vs rs hm ho h ih =>
    intro i v hv
    cases i with
    | zero => simp at hv; exact ⟨a, o, us, n, r, hv.symm, hm, ho.1, ho.2.1, ho.2.2, rfl⟩
    | succ i => simpa using ih (by simpa using hv)
theorem strsAre_take {vs : List Value} {xs : List Str} (h : StrsAre vs xs) : ∀ k : Nat, StrsAre (vs.take k) (xs.take k) := by
  induction h with
  | nil => intro k; simp; exact .nil
  | @cons n t vs xs h ih =>
    intro k
    cases k with
    | zero => exact .nil
    | succ k => exact .cons n t (ih k)
noncomputable def longRow (b : Int × Nat) : List Str := (signs b.1 4).take (3 - b.2) ++ [Txt.mul (sign b.1 (3 - b.2)) 2]
theorem signs_len (n : Int) (c : Nat) : (signs n c).length = c := by simp [signs]
theorem signs_get (n : Int) {c j : Nat} (h : j < c) : (signs n c)[j]? = some (sign n j) := by simp [signs, h]
theorem mulOk_sgl (c : Nat) : MulOk (sgl c) 2 := by
  refine ⟨by decide, fun _ _ => ?_, fun _ _ => ?_⟩
  · show ¬ ((1 : Int) > (2 ^ 63 - 1) / 2)
    decide
  · show Builtin.Str.tooLong (1 * 2) = false
    decide +kernel
theorem mul_sgl (c : Nat) : Txt.mul (sgl c) 2 = ⟨#[c, c]⟩ := by
  unfold Txt.mul
  rfl
end Mine
end

section -- Plain14
open PySem PySem.W PyProof.Rows PySem.Calls PySem.Spec
namespace Mine
theorem sign_ok (n : Int) (j : Nat) : OkC (alphN (sgnI n j)) := by
  obtain ⟨h1, h2, h3, h4, h5, h6, h7, h8⟩ := alphN_ok _ (sgnI_lt n j)
  refine ⟨h1, h2, h3, h4, ?_⟩
  unfold lexBad
  simp [h5, h6, h7, h8]
theorem sign_row (n : Int) (j : Nat) : (sign n j).cps.toList ≠ [] ∧ (sign n j).length ≤ 2 ∧ ∀ y ∈ (sign n j).cps.toList, OkC y := by
  rw [sign_eq]
  refine ⟨by simp, by show 1 ≤ 2; decide, fun y hy => ?_⟩
  have e : y = alphN (sgnI n j) := by simpa using hy
  rw [e]
  exact sign_ok n j
theorem rowOk_signs (n : Int) : RowOk (signs n 4) := by
  refine ⟨fun e => ?_, by rw [signs_len]; decide, fun z hz => ?_⟩
  · have := signs_len n 4
    rw [e] at this
    cases this
  · unfold signs at hz
    obtain ⟨j, _, rfl⟩ := List.mem_map.mp hz
    exact sign_row n j
theorem rowOk_long (b : Int × Nat) (hb : b.2 ≤ 3) : RowOk (longRow b) := by
  unfold longRow
  refine ⟨by simp, ?_, fun z hz => ?_⟩
  · rw [List.length_append, List.length_take, signs_len, List.length_singleton]
    omega
  · rcases List.mem_append.mp hz with hz | hz
    · have := List.mem_of_mem_take hz
      unfold signs at this
      obtain ⟨j, _, rfl⟩ := List.mem_map.mp this
      exact sign_row _ j
    · rw [List.mem_singleton.mp hz, sign_eq, mul_sgl]
      refine ⟨by simp, by show 2 ≤ 2; decide, fun y hy => ?_⟩
      have e : y = alphN (sgnI b.1 (3 - b.2)) := by simpa using hy
      rw [e]
      exact sign_ok _ _
theorem cps_signs (n : Int) (c : Nat) : cpsR (signs n c) = sg (codes n c) := by
  unfold cpsR signs codes sg
  rw [List.map_map, List.map_map]
  refine List.map_congr_left fun j _ => ?_
  show (sign n j).cps.toList = [alphN (sgnI n j)]
  rw [sign_eq]
theorem sg_pre {p q : List Nat} : sg p <+: sg q ↔ p <+: q := by
  constructor
  · intro h
    obtain ⟨z, hz⟩ := h
    have : (sg p ++ z).map (fun l => l.getD 0 0) = (sg q).map (fun l => l.getD 0 0) := by rw [hz]
    rw [List.map_append, List.map_map, List.map_map] at this
    have e : ∀ l : List Nat, l.map ((fun l : List Nat => l.getD 0 0) ∘ fun y => [y]) = l := fun l => by
      conv => rhs; rw [← List.map_id l]
      exact List.map_congr_left fun y _ => rfl
    rw [e, e] at this
    exact ⟨_, this⟩
  · rintro ⟨z, hz⟩
    exact ⟨sg z, by rw [← hz]; simp [sg]⟩
theorem blk_iff {b n p : Int} (hp : 0 < p) (hb : b % p = 0) : b / p = n / p ↔ b ≤ n ∧ n < b + p := by
  have e := Int.emod_add_mul_ediv n p
  have eb := Int.emod_add_mul_ediv b p
  have r0 := Int.emod_nonneg n (Int.ne_of_gt hp)
  have r1 := Int.emod_lt_of_pos n hp
  rw [hb, Int.zero_add] at eb
  constructor
  · intro h
    rw [h] at eb
    generalize p * (n / p) = z at *
    omega
  · rintro ⟨h1, h2⟩
    refine Int.le_antisymm (Int.ediv_le_ediv hp h1) (Int.le_of_lt_add_one (Int.ediv_lt_of_lt_mul hp ?_))
    rw [Int.add_mul, Int.one_mul, Int.mul_comm (b / p) p, eb]
    exact h2
theorem cov_own {lo hi n : Int} (h0 : 0 ≤ lo) (h1 : hi ≤ 16777216) (hn0 : 0 ≤ n) (hn : n < 16777216) : cB (blocksOf lo hi) (signs n 4) = (decide (lo ≤ n) && decide (n < hi)) := by
  have key : CovR (blocksOf lo hi) (signs n 4) ↔ lo ≤ n ∧ n < hi := by
    have one : ∀ q ∈ blocksOf lo hi, (sg (codes q.1 (4 - q.2)) <+: cpsR (signs n 4) ↔ q.1 ≤ n ∧ n < q.1 + 64 ^ q.2) := fun q hq => by
      obtain ⟨f1, f2, f3, f4⟩ := blk_facts _ lo (Nat.le_refl _) q hq
      have hp := pw_pos q.2
      rw [cps_signs, sg_pre, codes_pre (by omega), figs f4 (by omega) (by omega) hn0 hn]
      exact blk_iff hp f3
    constructor
    · rintro ⟨q, hq, hp⟩
      obtain ⟨f1, f2, f3, f4⟩ := blk_facts _ lo (Nat.le_refl _) q hq
      have := (one q hq).mp hp
      omega
    · rintro ⟨a, b⟩
      obtain ⟨q, hq, c1, c2⟩ := blk_cover _ lo (Nat.le_refl _) a b
      exact ⟨q, hq, (one q hq).mpr ⟨c1, c2⟩⟩
  by_cases hc : CovR (blocksOf lo hi) (signs n 4)
  · rw [cB_t hc]
    obtain ⟨a, b⟩ := key.mp hc
    simp [a, b]
  · rw [cB_f hc]
    by_cases a : lo ≤ n
    · by_cases b : n < hi
      · exact absurd (key.mpr ⟨a, b⟩) hc
      · simp [b]
    · simp [a]
theorem cov_long {lo hi : Int} (h0 : 0 ≤ lo) (h1 : hi ≤ 16777216) {b : Int × Nat} (hb : b ∈ blocksOf lo hi) : cB (blocksOf lo hi) (longRow b) = false := by
  refine cB_f ?_
  rintro ⟨q, hq, hp⟩
  obtain ⟨f1, f2, f3, f4⟩ := blk_facts _ lo (Nat.le_refl _) b hb
  obtain ⟨g1, g2, g3, g4⟩ := blk_facts _ lo (Nat.le_refl _) q hq
  have hpb := pw_pos b.2
  have hpq := pw_pos q.2
  have e : cpsR (longRow b) = sg (codes b.1 (3 - b.2)) ++ [[alphN (sgnI b.1 (3 - b.2)), alphN (sgnI b.1 (3 - b.2))]] := by
    unfold longRow cpsR
    rw [List.map_append, List.map_take]
    have := cps_signs b.1 4
    unfold cpsR at this
    rw [this, sign_eq, mul_sgl, codes_take b.1 (show 3 - b.2 ≤ 4 by omega)]
    simp [sg, List.map_take]
  rw [e] at hp
  have hpre : sg (codes q.1 (4 - q.2)) <+: sg (codes b.1 (3 - b.2)) := by
    obtain ⟨z, hz⟩ := hp
    rcases List.eq_nil_or_concat z with rfl | ⟨z', d, rfl⟩
    · exfalso
      rw [List.append_nil] at hz
      have hm : [alphN (sgnI b.1 (3 - b.2)), alphN (sgnI b.1 (3 - b.2))] ∈ sg (codes q.1 (4 - q.2)) := by
        rw [hz]; simp
      obtain ⟨y, _, hy⟩ := List.mem_map.mp hm
      cases hy
    · rw [List.concat_eq_append, ← List.append_assoc] at hz
      exact ⟨z', (List.append_inj' hz rfl).1⟩
  rw [sg_pre] at hpre
  have hlen := hpre.length_le
  rw [codes_len, codes_len] at hlen
  have h4 : codes q.1 (4 - q.2) <+: codes b.1 4 := hpre.trans (by rw [codes_take b.1 (show 3 - b.2 ≤ 4 by omega)]; exact List.take_prefix _ _)
  rw [codes_pre (by omega), figs g4 (by omega) (by omega) (by omega) (by omega)] at h4
  have hin : q.1 ≤ b.1 ∧ b.1 < q.1 + 64 ^ q.2 := by
    exact (blk_iff hpq g3).mp h4
  have heq := blk_uniq (n := b.1) _ lo (Nat.le_refl _) q hq b hb hin.1 hin.2 (Int.le_refl _) (by omega)
  rw [heq] at hlen
  omega
end Mine
end

section -- Comp12
open PySem PySem.W PyProof.Rows PySem.Calls PySem.Spec
namespace Mine
section
variable {prog : Program} {w : World} {A : Around} {E : Value → Shared → Prop} {s : Shared} {env : Env}
theorem BVal.le_lt {l r1 r2 : PySem.Expr} {a b c : Int} {pos : Pos} (hl : IVal prog w A env s l a) (h1 : IVal prog w A env s r1 b) (h2 : IVal prog w A env s r2 c) (hm : lastMarks [CmpOp.LtE, CmpOp.Lt] [r1, r2] = false := by with_unfolding_all rfl) :
    BVal prog w A env s (.Compare l [.LtE, .Lt] [r1, r2] pos) (decide (a ≤ b) && decide (b < c)) := fun tk Q E h =>
  isTrue_chain (hl tk _ E fun t tk' => test_link (h1 tk' _ E fun u tk'' => PyProof.Rows.le_int (wpAny_truthy_bool (by
    cases e : decide (a ≤ b) with
    | false => rw [e] at h; exact h _
    | true =>
      rw [e] at h
      exact test_last (h2 tk'' _ E fun v tk3 => PyProof.Rows.lt_int (wpAny_truthy_bool (h _))))))) hm
theorem cend_push {C : Addr} {s₂ : Shared} {P' : List Value → List (Addr × Obj) → Prop} {ys vs : List Value} {more : List (Addr × Obj)} {h4 : Heap} {tk : Nat} {m' : Str → Option Value} (hn : h4.Ns C m') (keep : ∀ b o, b ≠ C → s₂.heap.get? b = some o → h4.get? b = some o)
    (hP : P' (ys ++ [.ref h4.objs.size]) ((h4.objs.size, { cls := .type "list", data := .seq vs.toArray }) :: more)) :
    CEnd C s₂ P' ys more (some (.ref h4.objs.size)) { s₂ with heap := h4.push { cls := .type "list", data := .seq vs.toArray }, toks := tk } := by
  have pu : Ext h4 (h4.push { cls := .type "list", data := .seq vs.toArray }) := fun b o e => Heap.get?_push_of_some _ e
  refine ⟨_, _, _, [(h4.objs.size, { cls := .type "list", data := .seq vs.toArray })], rfl, hn.keeps pu, fun b o hb e => pu b o (keep b o hb e), fun p hp => ?_, hP⟩
  rw [List.mem_singleton.mp hp]
  refine ⟨?_, Heap.get?_push_size _ rfl⟩
  cases q : s₂.heap.get? h4.objs.size with
  | none => rfl
  | some o =>
    have hne : h4.objs.size ≠ C := fun z => by
      obtain ⟨o', es, ep, e, _⟩ := hn
      have := Heap.lt_size e
      rw [z] at this
      exact Nat.lt_irrefl _ this
    exact absurd (Heap.lt_size (keep _ o hne q)) (Nat.lt_irrefl _)
theorem PairsAre.append {ps : List (Addr × Obj)} {vs ws : List Value} {bs cs : List Bool} (h : PairsAre ps vs bs) (h' : PairsAre ps ws cs) : PairsAre ps (vs ++ ws) (bs ++ cs) := by
  induction h with
  | nil => exact h'
  | cons hm ho _ ih => exact .cons hm ho ih
end
section
variable {M : Model} {A : Around} {E : Value → Shared → Prop} {s : Shared} {K : Frag} {mg mb : Str → Option Value} {scope : Scope} {cl : List (Str × Addr)} {C : Addr} {env : Env} {x : Str} {pos : Pos} {v : Value} {Q : Value → Shared → Prop} {p : Program} {loose : List Str} {mean : ExcName → Option Value}
theorem nmCB (T : Top p loose mean mg mb s.heap) (X : K.In s.heap) (e : nsIn K mainGlobals x = some none) (hv : bootBuiltins x = some v) (hn : x ≠ "__name__") (h : Q v s) (hge : env.globals = mainGlobals) (hbe : env.builtins = builtinsNs) (hk : scope.kind = .function) (hx : (compEnvC scope cl C env).kindOf x = some .globalImplicit) (hd : (x == ("__debug__" : Str)) = false) :
    wpAny M A (eval (.Name x pos) (compEnvC scope cl C env)) Q E s :=
  Name_function_global hk hx (loadGlobal_builtin (env := compEnvC scope cl C env) (show s.heap.Ns env.globals mg from hge ▸ T.g) (mg_none_of X T.g e) (show s.heap.Ns env.builtins mb from hbe ▸ T.b) ((T.builtins x hn).trans hv) h) hd
end
end Mine
end

section -- Plain15
open PySem PySem.W PyProof.Rows PySem.Calls PySem.Spec
namespace Mine
noncomputable abbrev pairD (b : Bool) : PyData := .list [.int (bitI b), .int (bitI b)]
theorem reads_pairs {h : Heap} {ps : List (Addr × Obj)} {vs : List Value} {bits : List Bool} (hp : PairsAre ps vs bits) (hg : ∀ p ∈ ps, h.get? p.1 = some p.2) : ∃ as, ReadsAll h vs (bits.map pairD) as := by
  induction hp with
  | nil => exact ⟨_, .nil⟩
  | @cons a o b t u n vs bs hm ho _ ih =>
    obtain ⟨as, r⟩ := ih
    exact ⟨_, .cons (.list (hg _ hm) ho.1 ho.2 (.cons (.int _ _) (.cons (.int _ _) .nil))) r⟩
theorem eqv_pairs : ∀ bits : List Bool, PyData.eqvAll (bits.map pairD) (bits.map pairD) = true
  | [] => by simp [PyData.eqvAll]
  | b :: r => by
    simp only [List.map_cons, PyData.eqvAll, PyData.eqv, eqv_pairs r, beq_self_eq_true, Bool.and_self]
theorem canLay_pairs : ∀ bits : List Bool, PyData.canLayAll0 (bits.map pairD) = true
  | [] => by simp [PyData.canLayAll0]
  | b :: r => by simp only [List.map_cons, PyData.canLayAll0, PyData.canLay0, canLay_pairs r, Bool.and_self]
theorem depth_pairs : ∀ bits : List Bool, PyData.depthAll (bits.map pairD) ≤ 1
  | [] => by simp [PyData.depthAll]
  | b :: r => by
    have ih := depth_pairs r
    simp only [List.map_cons, PyData.depthAll, PyData.depth]
    omega
theorem shaped_pairs (bits : List Bool) : SeqAt.shaped (.list (bits.map pairD)) = true := by
  unfold SeqAt.shaped
  rw [Bool.and_eq_true, decide_eq_true_iff]
  have := depth_pairs bits
  refine ⟨canLay_pairs bits, ?_⟩
  simp only [PyData.depth]
  omega
theorem eq_pairs {prog : Program} {w : World} {A : Around} {E : Value → Shared → Prop} {s : Shared} {a b : Addr} {ps qs : List (Addr × Obj)} {vs ws : List Value} {bits : List Bool} {c d : Nat} {Q : Value → Shared → Prop}
    (ha : s.heap.get? a = some (W.listOf vs.toArray c)) (hb : s.heap.get? b = some (W.listOf ws.toArray d)) (hp : PairsAre ps vs bits) (hq : PairsAre qs ws bits) (gp : ∀ p ∈ ps, s.heap.get? p.1 = some p.2) (gq : ∀ p ∈ qs, s.heap.get? p.1 = some p.2)
    (hu : A.units + 64 < cLine) (h : Q (.bool true) s) : wpAny (model prog w) A (compareOp .Eq (.ref a) (.ref b)) Q E s := by
  obtain ⟨as, ra⟩ := reads_pairs hp gp
  obtain ⟨bs, rb⟩ := reads_pairs hq gq
  refine eq_dataH (Reads.list ha rfl rfl ra) (Reads.list hb rfl rfl rb) (shaped_pairs bits) (shaped_pairs bits) hu ?_
  rw [show PyData.eqv (.list (bits.map pairD)) (.list (bits.map pairD)) = true from by simp only [PyData.eqv, eqv_pairs]]
  exact h
theorem PairsAre.get {ps : List (Addr × Obj)} {vs : List Value} {bits : List Bool} (h : PairsAre ps vs bits) : ∀ {i : Nat} {v : Value}, vs[i]? = some v → ∃ a o b t u n, v = .ref a ∧ (a, o) ∈ ps ∧ o.cls = .type "list" ∧ o.data = .seq #[.int (bitI b) t, .int (bitI b) u] n := by
  induction h with
  | nil => intro i v hv; simp at hv
  | @cons a o b t u n vs bs hm ho h ih =>
    intro i v hv
    cases i with
    | zero => simp at hv; exact ⟨a, o, b, t, u, n, hv.symm, hm, ho.1, ho.2⟩
    | succ i => exact ih (by simpa using hv)
end Mine
end

section -- L5
open PySem PySem.W PyProof.Rows PySem.Calls PySem.Spec
namespace Mine

local macro_rules | `(tactic| k_all) => `(tactic| assumption)
theorem law_fin {w : World} {mean : ExcName → Option Value} {mg mb : Str → Option Value} {h₀ : Heap} {L fa ls lG lM lN lb R : Addr} {cd : Value} {s : Shared} {Q : Flow → Shared → Prop} {E : Value → Shared → Prop} {o3 o4 : Obj} {lo hi : Int} {t3 t4 : Tok} {vG vM vals : List Value} {cG cR : Nat} {pairs : List (Addr × Obj)} {nums : List Int} {bs : List (Int × Nat)} {ps : Array Value}
    (B : Below callerA h₀ [] h₀) (F : Fr h₀ L s.heap (fun z => if z = Str.ofString "told" then some (.ref R) else if z = Str.ofString "longer" then some (.ref lG) else if z = Str.ofString "numbers" then some (.ref lM) else if z = Str.ofString "near" then some (.ref lN) else if z = Str.ofString "blocks" then some (.ref lb) else bindL (envOfC dLaw.name dLaw.scope L fa cd).kindOf [(Str.ofString "script", .ref ls)] (fun _ => none) z))
    (X : (K0 w.params).In h₀) (T : Top topProg lo2 mean mg mb h₀)
    (N : News h₀ L s.heap ((R, W.listOf vals.toArray cR) :: (lG, W.listOf vG.toArray cG) :: (lM, W.listOf vM.toArray 0) :: (L + 1 + 1 + 1 + 1, o4) :: (L + 1 + 1 + 1, o3) :: (804, tabObj ps) :: pairs))
    (G0 : AllBare s.gens) (d3 : o3.data = .cell (some (.int lo t3))) (d4 : o4.data = .cell (some (.int hi t4)))
    (hIM : IntsAre vM nums) (hvG : vG.length = bs.length) (hbn : bs.length ≤ 400) (hnn : nums.length ≤ 550)
    (hPr : PairsAre pairs vals (nums.map (fun n => decide (lo ≤ n) && decide (n < hi)) ++ bs.map (fun _ => false) ++ [true]))
    (hret : ∀ tk' h' dr' g' ps', (∀ b o, h₀.get? b = some o → h'.get? b = some o) → h'.get? 804 = some (tabObj ps') → AllBare g' → Q (.ret (.bool true)) { s with heap := h', gens := g', drawn := dr', toks := tk' }) :
    wpAny (model PySem.Challenge.rw_oy0371_01.row.prog w) (callerA.deeper (envOfC dLaw.name dLaw.scope L fa cd)) (execs (dLaw.body.drop 8) (envOfC dLaw.name dLaw.scope L fa cd)) Q E s := by
  w_on
  w_strict (
    repeat' (first | (k_unfold; (try dsimp only)) | ((fail_if_success (with_reducible show wpAny _ _ (eval (PySem.Expr.ListComp _ _ _ _) _) _ _ _)); first | walk1 | (dsimp only; walk1)))
    rename Fr h₀ L _ _ => FZ
    rename News h₀ L _ _ => NZ
    refine' evalCompL rfl ?hclos ?hcell ?hkind ?hnames (fun i ys more => PairsAre more ys ((nums.take i).map fun n => decide (lo ≤ n) && decide (n < hi))) .nil ?hlen ?hh ?hs
    case hclos => with_unfolding_all rfl
    case hcell => decide
    case hkind => rfl
    case hnames => decide
    case hs => (intro _; rfl)
    case hlen =>
      intro i ys more hP
      rw [hP.len, List.length_map, List.length_take]
      omega
    walk1
    have cL : Heap.IsCell _ (L + 1 + 1 + 1) (some (.int lo t3)) := isCell_of NZ (.tail _ (.tail _ (.tail _ (.tail _ (.head _))))) d3
    have cH : Heap.IsCell _ (L + 1 + 1 + 1 + 1) (some (.int hi t4)) := isCell_of NZ (.tail _ (.tail _ (.tail _ (.head _)))) d4
    refine ⟨lM, vM, rfl, News.isList NZ (.tail _ (.tail _ (.head _))), by rw [intsAre_len hIM, sizeLine_eq]; omega, ?turn, ?done⟩
    case turn =>
      intro C i v ys more h₃ tk₃ m₃ E' hC hv hP hn3 hx3 hmore
      have h9 := ints_get hIM hv
      obtain ⟨z9, t9, ev, hz9⟩ := h9
      subst ev
      refine wpAny_assign_Name (wpAny_storeName_local (env := compEnvC _ _ C _) (by exact rfl) hn3 (fun h₄ hn₄ hs₄ => ?_) (by exact rfl))
      refine wpAny_tests_nil ?_
      rw [if_pos rfl]
      have ltC : ∀ b o, Heap.get? _ b = some o → b ≠ C := fun b o e q => Nat.lt_irrefl _ (Nat.lt_of_lt_of_le (q ▸ Heap.lt_size e) hC)
      have cL4 : h₄.IsCell (L + 1 + 1 + 1) (some (.int lo t3)) := isCell_but (isCell_ext cL hx3) hs₄.extBut (let ⟨o, ho, _⟩ := cL; ltC _ o ho)
      have cH4 : h₄.IsCell (L + 1 + 1 + 1 + 1) (some (.int hi t4)) := isCell_but (isCell_ext cH hx3) hs₄.extBut (let ⟨o, ho, _⟩ := cH; ltC _ o ho)
      refine IfExp_ ?_
      refine BVal.use (x := decide (lo ≤ z9) && decide (z9 < hi)) (BVal.le_lt (IVal.nmC (c := L + 1 + 1 + 1) (by rfl) cL4 (by rfl) (by rfl) (by decide)) (IVal.nmL hn₄ (by rfl) (by rfl) (by rfl) (by decide)) (IVal.nmC (c := L + 1 + 1 + 1 + 1) (by rfl) cH4 (by rfl) (by rfl) (by decide))) ?_
      intro tk5
      have fin : ∀ (b : Bool) (n : Int) (t u : Tok) (tk : Nat), n = bitI b → (decide (lo ≤ z9) && decide (z9 < hi)) = b → CEnd C _ (fun ys more => PairsAre more ys ((nums.take (i + 1)).map fun n => decide (lo ≤ n) && decide (n < hi))) ys more (some (.ref h₄.objs.size)) { s with heap := h₄.push { cls := .type "list", data := .seq [Value.int n t, Value.int n u].toArray }, toks := tk } := fun b n t u tk e1 e2 => by
        refine cend_push (s₂ := { s with heap := h₃, toks := tk₃ }) hn₄ (fun b o hb e => hs₄.extBut b o hb e) ?_
        rw [List.take_add_one, hz9]
        show PairsAre _ _ (List.map _ (List.take i nums ++ [z9]))
        rw [List.map_append]
        show PairsAre _ _ (List.map _ (List.take i nums) ++ [decide (lo ≤ z9) && decide (z9 < hi)])
        rw [e2]
        subst e1
        exact (hP.mono fun p hp => List.mem_cons_of_mem _ hp).snoc (.head _) ⟨rfl, rfl⟩
      cases hb : (decide (lo ≤ z9) && decide (z9 < hi))
      · rw [if_neg Bool.false_ne_true]
        repeat' (first | (k_unfold; (try dsimp only)) | ((fail_if_success (with_reducible show wpAny _ _ (newList _) _ _ _)); first | walk1 | (dsimp only; walk1)))
        refine wpAny_newObj_type ?_
        exact fin false 0 _ _ _ rfl hb
      · rw [if_pos rfl]
        repeat' (first | (k_unfold; (try dsimp only)) | ((fail_if_success (with_reducible show wpAny _ _ (newList _) _ _ _)); first | walk1 | (dsimp only; walk1)))
        refine wpAny_newObj_type ?_
        exact fin true 1 _ _ _ rfl hb
    case done =>
      intro D2 ys2 more2 h2 tk2 x2 f2 pl2 hP2 hmore2
      rw [intsAre_len hIM, List.take_length] at hP2
      have F2 := Fr.keeps FZ x2
      obtain ⟨c2, N2', n2⟩ := news_more FZ NZ x2 f2 pl2 hmore2
      have N2 : News h₀ L h2 ((D2, W.listOf ys2.toArray c2) :: (R, W.listOf vals.toArray cR) :: (lG, W.listOf vG.toArray cG) :: (lM, W.listOf vM.toArray 0) :: (L + 1 + 1 + 1 + 1, o4) :: (L + 1 + 1 + 1, o3) :: (804, tabObj ps) :: (pairs ++ more2)) := fun q hq => N2' q (mem_swap hq)
      clear N2'
      refine' evalCompL rfl ?bclos ?bcell ?bkind ?bnames (fun i ys more => PairsAre more ys (List.replicate i false)) .nil ?blen ?bh ?bs
      case bclos => with_unfolding_all rfl
      case bcell => decide
      case bkind => rfl
      case bnames => decide
      case bs => (intro _; rfl)
      case blen =>
        intro i ys more hP
        rw [hP.len, List.length_replicate]
        exact Nat.le_refl _
      walk1
      refine ⟨lG, vG, rfl, News.isList N2 (.tail _ (.tail _ (.head _))), by rw [hvG, sizeLine_eq]; omega, ?bturn, ?bdone⟩
      case bturn =>
        intro C i v ys more h₃ tk₃ m₃ E' hC hv hP hn3 hx3 hmore
        refine wpAny_assign_Name (wpAny_storeName_local (env := compEnvC _ _ C _) (by exact rfl) hn3 (fun h₄ hn₄ hs₄ => ?_) (by exact rfl))
        refine wpAny_tests_nil ?_
        rw [if_pos rfl]
        repeat' (first | (k_unfold; (try dsimp only)) | ((fail_if_success (with_reducible show wpAny _ _ (newList _) _ _ _)); first | walk1 | (dsimp only; walk1)))
        refine wpAny_newObj_type ?_
        refine cend_push hn₄ (fun b o hb e => hs₄.extBut b o hb e) ?_
        show PairsAre _ _ (List.replicate (i + 1) false)
        rw [List.replicate_succ']
        exact (hP.mono fun p hp => List.mem_cons_of_mem _ hp).snoc (b := false) (.head _) ⟨rfl, rfl⟩
      case bdone =>
        intro D3 ys3 more3 h3 tk3 x3 f3 pl3 hP3 hmore3
        rw [hvG] at hP3
        have F3 := Fr.keeps F2 x3
        obtain ⟨c3, N3', n3⟩ := news_more F2 N2 x3 f3 pl3 hmore3
        have N3 : News h₀ L h3 ((D3, W.listOf ys3.toArray c3) :: (D2, W.listOf ys2.toArray c2) :: (R, W.listOf vals.toArray cR) :: (lG, W.listOf vG.toArray cG) :: (lM, W.listOf vM.toArray 0) :: (L + 1 + 1 + 1 + 1, o4) :: (L + 1 + 1 + 1, o3) :: (804, tabObj ps) :: (pairs ++ more2 ++ more3)) := fun q hq => N3' q (mem_swap hq)
        clear N3' F2 N2
        repeat' (first | (k_unfold; (try dsimp only)) | ((fail_if_success (with_reducible show wpAny _ _ (binaryOp _ _ _) _ _ _)); first | walk1 | (dsimp only; walk1)))
        have hl2 : ys2.length = nums.length := by rw [hP2.len, List.length_map]
        have hl3 : ys3.length = bs.length := by rw [hP3.len, List.length_replicate]
        refine kmk_add_lit F3 N3 (News.isList N3 (.tail _ (.head _))) (News.isList N3 (.head _)) rfl ?_ (by rw [sizeLine_eq]; show ys2.length + ys3.length ≤ _; omega)
        intro D4 h4 F4 N4 l4
        clear F3 N3
        have hP4 : PairsAre (pairs ++ more2 ++ more3) (ys2 ++ ys3) (nums.map (fun n => decide (lo ≤ n) && decide (n < hi)) ++ List.replicate bs.length false) :=
          (hP2.mono fun p hp => List.mem_append_left _ (List.mem_append_right _ hp)).append (hP3.mono fun p hp => List.mem_append_right _ hp)
        repeat' (first | (k_unfold; (try dsimp only)) | ((fail_if_success (with_reducible show wpAny _ _ (binaryOp _ _ _) _ _ _)); first | walk1 | (dsimp only; walk1)))
        rename Fr h₀ L _ _ => F5
        rename News h₀ L _ _ => N5
        rename_i Z1 hZ1 lZ1 Z2 hZ2 lZ2
        refine kmk_add_lit F5 N5 (News.isList N5 (.tail _ (.tail _ (.head _)))) (News.isList N5 (.head _)) rfl ?_ (by rw [sizeLine_eq]; show (ys2 ++ ys3).length + 1 ≤ _; rw [List.length_append]; omega)
        intro D6 h6 F6 N6 l6
        clear F5 N5
        repeat' (first | (k_unfold; (try dsimp only)) | ((fail_if_success (with_reducible show wpAny _ _ (compareOp _ _ _) _ _ _)); first | walk1 | (dsimp only; walk1)))
        rename Fr h₀ L _ _ => F7
        rename News h₀ L _ _ => N7
        have hZx : ∃ o t u n, Heap.get? _ Z1 = some o ∧ o.cls = .type "list" ∧ o.data = .seq #[.int (bitI true) t, .int (bitI true) u] n := ⟨_, _, _, _, (N7 _ (.tail _ (.tail _ (.head _)))).1, rfl, rfl⟩
        obtain ⟨oZ, tZ, uZ, nZ, gZ, cZ, dZ⟩ := hZx
        have hmap : bs.map (fun _ => false) = List.replicate bs.length false := List.map_const' ..
        rw [hmap] at hPr
        have gpr : ∀ p ∈ pairs, Heap.get? _ p.1 = some p.2 := fun p hp => (N7 p (.tail _ (.tail _ (.tail _ (.tail _ (.tail _ (.tail _ (.tail _ (.tail _ (.tail _ (.tail _ (.tail _ (.tail _ (List.mem_append_left _ (List.mem_append_left _ hp))))))))))))))).1
        have gall : ∀ p ∈ pairs ++ more2 ++ more3, Heap.get? _ p.1 = some p.2 := fun p hp => (N7 p (.tail _ (.tail _ (.tail _ (.tail _ (.tail _ (.tail _ (.tail _ (.tail _ (.tail _ (.tail _ (.tail _ (.tail _ hp))))))))))))).1
        refine eq_pairs (N7 _ (.tail _ (.tail _ (.tail _ (.tail _ (.tail _ (.tail _ (.head _)))))))).1 (N7 _ (.head _)).1 hPr (PairsAre.snoc (b := true) (hP4.mono fun p hp => List.mem_cons_of_mem (Z1, oZ) hp) (.head _) ⟨cZ, dZ⟩) gpr (List.forall_mem_cons.mpr ⟨gZ, gall⟩) (by show callerA.units + 3 + 64 < cLine; rw [cLine_is]; decide) ?_
        repeat' (first | (k_unfold; (try dsimp only)) | ((fail_if_success (with_reducible show wpAny _ _ (eval (PySem.Expr.ListComp _ _ _ _) _) _ _ _)); first | walk1 | (dsimp only; walk1)))
        refine' evalComp2 rfl ?cclos ?ccell ?ckind ?cnames (fun _ => 2) (fun i j ys => ys = []) rfl (fun i j ys h => by rw [h]; exact Nat.zero_le _) (fun i ys h => h) ?cmain ?chs ?chs1
        case cclos => with_unfolding_all rfl
        case ccell => decide
        case ckind => rfl
        case cnames => decide
        case chs => (intro _; rfl)
        case chs1 => (intro _ _; rfl)
        repeat' (first | (k_unfold; (try dsimp only)) | ((fail_if_success (with_reducible show Src2 _ _ _ _ _ _ _ _ _ _ _ _ _ _ _ _)); first | walk1 | (dsimp only; walk1)))
        refine ⟨R, vals, rfl, News.isList N7 (.tail _ (.tail _ (.tail _ (.tail _ (.tail _ (.tail _ (.head _))))))), ?cturn, ?cdone⟩
        case cturn =>
          intro C D hC hDn i v ys h₃ tk₃ m₃ E' hv hP hn3 hx3 hDo
          have h9 := hPr.get hv
          obtain ⟨a9, o9, b9, t9, u9, n9, ev, hm9, hc9, hd9⟩ := h9
          subst ev
          have g9 := gpr _ hm9
          refine wpAny_assign_Name (wpAny_storeName_local (env := compEnvC _ _ C _) (by exact rfl) hn3 (fun h₄ hn₄ hs₄ => ?_) (by exact rfl))
          refine nmL hn₄ (by rfl) ?_ rfl rfl (by decide)
          have aC : a9 ≠ C := fun z => Nat.lt_irrefl _ (Nat.lt_of_lt_of_le (z ▸ Heap.lt_size g9) hC)
          refine ⟨a9, [.int (bitI b9) t9, .int (bitI b9) u9], _, _, _, rfl, rfl, hn₄, fun b o hb e => hs₄.extBut b o hb e, ⟨o9, hs₄.extBut _ _ aC (hx3 _ _ g9), hc9, n9, hd9⟩, aC, fun z => ?_, rfl, ?_⟩
          · rw [z, hDn] at g9
            cases g9
          · intro j v2 ys2 h₇ tk₇ m₇ E'' hv2 hP2 hn7 hK
            have hz2 : ∃ z t, v2 = .int z t := by
              match j, hv2 with
              | 0, hv2 => simp at hv2; exact ⟨_, _, hv2.symm⟩
              | 1, hv2 => simp at hv2; exact ⟨_, _, hv2.symm⟩
            obtain ⟨z2, tz, e2⟩ := hz2
            subst e2
            refine wpAny_assign_Name (wpAny_storeName_local (env := compEnvC _ _ C _) (by exact rfl) hn7 (fun h₈ hn₈ hs₈ => ?_) (by exact rfl))
            refine wpAny_tests_one ?_
            repeat' (first | (k_unfold; (try dsimp only)) | ((fail_if_success (with_reducible show wpAny _ _ (eval _ _) _ _ _)); first | walk1 | (dsimp only; walk1)))
            have ltC : ∀ b o, Heap.get? _ b = some o → b ≠ C := fun b o e q => Nat.lt_irrefl _ (Nat.lt_of_lt_of_le (q ▸ Heap.lt_size e) hC)
            have k8 : ∀ b o, h₀.get? b = some o → h₈.get? b = some o := fun b o e => hs₈.extBut b o (ltC b o (F7.keep b o e)) (hK b o (F7.keep b o e))
            refine Call_ ?_
            refine nmCB (K := K0 w.params) (T.keeps k8) (X.keeps k8) (by kernel_rfl) (v := .type "type") (by decide +kernel) (by decide) ?_ rfl rfl rfl rfl (by decide)
            repeat' (first | (k_unfold; (try dsimp only)) | ((fail_if_success (with_reducible show wpAny _ _ (eval (PySem.Expr.Name _ _) _) _ _ _)); first | walk1 | (dsimp only; walk1)))
            refine nmL hn₈ (by rfl) ?_ rfl rfl (by decide)
            repeat' (first | (k_unfold; (try dsimp only)) | ((fail_if_success (with_reducible show wpAny _ _ (call _ _) _ _ _)); first | walk1 | (dsimp only; walk1)))
            refine call_type_of (Tx := "int") rfl (by decide +kernel) ?_
            repeat' (first | (k_unfold; (try dsimp only)) | ((fail_if_success (with_reducible show wpAny _ _ (eval (PySem.Expr.Name _ _) _) _ _ _)); first | walk1 | (dsimp only; walk1)))
            refine nmCB (K := K0 w.params) (T.keeps k8) (X.keeps k8) (by kernel_rfl) (v := .type "int") (by decide +kernel) (by decide) ?_ rfl rfl rfl rfl (by decide)
            repeat' (first | (k_unfold; (try dsimp only)) | ((fail_if_success (with_reducible show wpAny _ _ (compareOp _ _ _) _ _ _)); first | walk1 | (dsimp only; walk1)))
            refine PyProof.Rows.isnot_type_same ?_
            repeat' (first | (k_unfold; (try dsimp only)) | walk1 | (dsimp only; walk1))
            exact ⟨h₈, _, _, rfl, hn₈, fun b o hb e => hs₈.extBut b o hb e, hP2⟩
        case cdone =>
          intro D8 ys8 h8 tk8 x8 f8 pl8 hP8
          subst hP8
          have F8 := Fr.keeps F7 x8
          obtain ⟨n8, pl8⟩ := pl8
          have N8 := news_add1 F7 N7 x8 pl8 f8
          repeat' (first | (k_unfold; (try dsimp only)) | ((fail_if_success (with_reducible show wpAny _ _ (compareOp _ _ _) _ _ _)); first | walk1 | (dsimp only; walk1)))
          rename Fr h₀ L _ _ => F9
          rename News h₀ L _ _ => N9
          refine ke_eq_ints (xs := []) (ys := []) (News.isList N9 (.tail _ (.head _))) (News.isList N9 (.head _)) .nil .nil (by show callerA.units + 3 + 64 < cLine; rw [cLine_is]; decide) ?_
          repeat' (first | (k_unfold; (try dsimp only)) | walk1 | (dsimp only; walk1))
          exact hret _ _ _ _ ps (fun b o e => F9.keep b o e) (N9 _ (.tail _ (.tail _ (.tail _ (.tail _ (.tail _ (.tail _ (.tail _ (.tail _ (.tail _ (.tail _ (.tail _ (.tail _ (.tail _ (.head _))))))))))))))).1 G0)
end Mine
end

section -- Plain8
open PySem PySem.W PyProof.Rows PySem.Calls PySem.Spec
namespace Mine
noncomputable def d1 (q : Int) : Int := q % 64 + q / 64
noncomputable def d2 (q : Int) : Int := q % 64 + d1 (q / 64)
noncomputable def d3 (m : Int) : Int := m % 64 + d2 (m / 64)
theorem sm (q k c : Int) (hc : c ≠ 0) : (q - k * c) / c = q / c - k ∧ (q - k * c) % c = q % c := by
  have h : q - k * c = q + -k * c := by rw [Int.neg_mul, Int.sub_eq_add_neg]
  rw [h, Int.add_mul_ediv_right _ _ hc, Int.add_mul_emod_self_right]
  exact ⟨(Int.sub_eq_add_neg ..).symm, rfl⟩
theorem dn64 (q : Int) : (q - 64) / 64 = q / 64 - 1 ∧ (q - 64) % 64 = q % 64 := sm q 1 64 (by decide)
theorem dn1 {q : Int} (h : 1 ≤ q % 64) : (q - 1) / 64 = q / 64 ∧ (q - 1) % 64 = q % 64 - 1 := by omega
theorem dn4096 (q : Int) : (q - 4096) / 64 = q / 64 - 64 ∧ (q - 4096) % 64 = q % 64 := sm q 64 64 (by decide)
theorem dn262144 (q : Int) : (q - 262144) / 64 = q / 64 - 4096 ∧ (q - 262144) % 64 = q % 64 := sm q 4096 64 (by decide)
theorem d1_1 {q : Int} (h : 1 ≤ q % 64) : d1 (q - 1) = d1 q - 1 := by unfold d1; rw [(dn1 h).1, (dn1 h).2]; omega
theorem d1_64 (q : Int) : d1 (q - 64) = d1 q - 1 := by unfold d1; rw [(dn64 q).1, (dn64 q).2]; omega
theorem d2_1 {q : Int} (h : 1 ≤ q % 64) : d2 (q - 1) = d2 q - 1 := by unfold d2; rw [(dn1 h).1, (dn1 h).2]; omega
theorem d2_64 {q : Int} (h : 1 ≤ q / 64 % 64) : d2 (q - 64) = d2 q - 1 := by unfold d2; rw [(dn64 q).1, (dn64 q).2, d1_1 h]; omega
theorem d2_4096 (q : Int) : d2 (q - 4096) = d2 q - 1 := by unfold d2; rw [(dn4096 q).1, (dn4096 q).2, d1_64]; omega
theorem d3_1 {q : Int} (h : 1 ≤ q % 64) : d3 (q - 1) = d3 q - 1 := by unfold d3; rw [(dn1 h).1, (dn1 h).2]; omega
theorem d3_64 {q : Int} (h : 1 ≤ q / 64 % 64) : d3 (q - 64) = d3 q - 1 := by unfold d3; rw [(dn64 q).1, (dn64 q).2, d2_1 h]; omega
theorem d3_4096 {q : Int} (h : 1 ≤ q / 64 / 64 % 64) : d3 (q - 4096) = d3 q - 1 := by unfold d3; rw [(dn4096 q).1, (dn4096 q).2, d2_64 h]; omega
theorem d3_262144 (q : Int) : d3 (q - 262144) = d3 q - 1 := by unfold d3; rw [(dn262144 q).1, (dn262144 q).2, d2_4096]; omega
theorem d3_le (m : Int) : d3 m ≤ 189 + m / 262144 := by
  rw [dv3]
  unfold d3 d2 d1
  have h1 := Int.emod_lt_of_pos m (by decide : (0 : Int) < 64)
  have h2 := Int.emod_lt_of_pos (m / 64) (by decide : (0 : Int) < 64)
  have h3 := Int.emod_lt_of_pos (m / 64 / 64) (by decide : (0 : Int) < 64)
  generalize m % 64 = x1 at *
  generalize m / 64 % 64 = x2 at *
  generalize m / 64 / 64 % 64 = x3 at *
  generalize m / 64 / 64 / 64 = x4 at *
  omega
theorem d3_nn {m : Int} (h : 0 ≤ m) : 0 ≤ d3 m := by
  have e : 0 ≤ m / 64 / 64 / 64 := by rw [← dv3]; omega
  unfold d3 d2 d1
  have h1 := Int.emod_nonneg m (by decide : (64 : Int) ≠ 0)
  have h2 := Int.emod_nonneg (m / 64) (by decide : (64 : Int) ≠ 0)
  have h3 := Int.emod_nonneg (m / 64 / 64) (by decide : (64 : Int) ≠ 0)
  generalize m % 64 = x1 at *
  generalize m / 64 % 64 = x2 at *
  generalize m / 64 / 64 % 64 = x3 at *
  generalize m / 64 / 64 / 64 = x4 at *
  omega
theorem one2 {m : Int} (h : 4096 ≤ m) (h' : m < 262144) : 1 ≤ m / 64 / 64 % 64 := by rw [← dv2]; omega
theorem one1 {m : Int} (h : 64 ≤ m) (h' : m < 4096) : 1 ≤ m / 64 % 64 := by omega
theorem one0 {m : Int} (h : 1 ≤ m) (h' : m < 64) : 1 ≤ m % 64 := by omega
theorem toN {hi lo p : Int} {N : Nat} (hp : 1 ≤ p) (hN : (hi - lo).toNat ≤ N + 1) (hlt : lo < hi) : (hi - (lo + p)).toNat ≤ N := by omega
theorem shp (hi lo p : Int) : hi - (lo + p) = hi - lo - p := by omega
theorem al3 {lo : Int} (h : lo % 262144 = 0) : (lo + 262144) % 262144 = 0 := by omega
theorem al2 {lo : Int} (h : lo % 4096 = 0) : (lo + 4096) % 4096 = 0 := by omega
theorem al1 {lo : Int} (h : lo % 64 = 0) : (lo + 64) % 64 = 0 := by omega
theorem ltp {hi lo p b : Int} (hp : 1 ≤ p) (h : hi - lo < b) : hi - (lo + p) < b := by omega
theorem lep {hi lo p : Int} (h : lo + p ≤ hi) : p ≤ hi - lo := by omega
theorem ltq {hi lo p : Int} (h : ¬lo + p ≤ hi) : hi - lo < p := by omega
theorem leq {hi lo p : Int} (h : p ≤ hi - lo) : lo + p ≤ hi := by omega
theorem lt0 {hi lo : Int} (h : lo < hi) : lo + 1 ≤ hi := h
theorem fin1 {a : Nat} {b : Int} (h : (a : Int) ≤ b - 1) : ((a + 1 : Nat) : Int) ≤ b := by omega
theorem fin2 {a : Nat} {v x y y' : Int} (h : (a : Int) ≤ v - 1 + x + y) (hy : y ≤ y') : ((a + 1 : Nat) : Int) ≤ v + x + y' := by omega
theorem nnp {hi lo : Int} (h : lo ≤ hi) : 0 ≤ hi - lo := by omega
theorem dvp {hi lo p : Int} (hp : 0 ≤ p) : (hi - (lo + p)) / 262144 ≤ (hi - lo) / 262144 := Int.ediv_le_ediv (by decide) (by omega)
theorem nn3 {a b : Int} (ha : 0 ≤ a) (hb : 0 ≤ b) : 0 ≤ a + 189 + b := by omega
theorem ml {m a b : Int} {n : Nat} (h2 : (n : Int) ≤ m) (h3 : m ≤ 189 + b) (h1 : 0 ≤ a) : (n : Int) ≤ a + 189 + b := by omega
theorem not_lt_z {lo hi : Int} (h : (hi - lo).toNat ≤ 0) : ¬lo < hi := by omega
noncomputable abbrev Al (lo hi : Int) : Prop := lo % 262144 = 0 ∨ (lo % 4096 = 0 ∧ hi - lo < 262144) ∨ (lo % 64 = 0 ∧ hi - lo < 4096) ∨ hi - lo < 64
theorem lt_tr {a b c : Int} (h : a < b) (hb : b ≤ c) : a < c := Int.lt_of_lt_of_le h hb
theorem hm2 {lo hi : Int} (hal : Al lo hi) (h : ¬(lo % 262144 = 0 ∧ lo + 262144 ≤ hi)) : hi - lo < 262144 := by
  rcases hal with q | q | q | q
  · exact ltq fun w => h ⟨q, w⟩
  · exact q.2
  · exact lt_tr q.2 (by decide)
  · exact lt_tr q (by decide)
theorem hm1 {lo hi : Int} (hal : Al lo hi) (h' : ¬(lo % 4096 = 0 ∧ lo + 4096 ≤ hi)) (h : ¬(lo % 262144 = 0 ∧ lo + 262144 ≤ hi)) : hi - lo < 4096 := by
  rcases hal with q | q | q | q
  · exact ltq fun w => h' ⟨up q, w⟩
  · exact ltq fun w => h' ⟨q.1, w⟩
  · exact q.2
  · exact lt_tr q (by decide)
where up {lo : Int} (q : lo % 262144 = 0) : lo % 4096 = 0 := by omega
theorem hm0 {lo hi : Int} (hal : Al lo hi) (h'' : ¬(lo % 64 = 0 ∧ lo + 64 ≤ hi)) : hi - lo < 64 := by
  rcases hal with q | q | q | q
  · exact ltq fun w => h'' ⟨up1 q, w⟩
  · exact ltq fun w => h'' ⟨up2 q.1, w⟩
  · exact ltq fun w => h'' ⟨q.1, w⟩
  · exact q
where up1 {lo : Int} (q : lo % 262144 = 0) : lo % 64 = 0 := by omega
      up2 {lo : Int} (q : lo % 4096 = 0) : lo % 64 = 0 := by omega
theorem len_down {hi : Int} : ∀ (N : Nat) (lo : Int), (hi - lo).toNat ≤ N → Al lo hi → lo ≤ hi → ((blocksOf lo hi).length : Int) ≤ d3 (hi - lo) := by
  intro N
  induction N with
  | zero =>
    intro lo hN _ hle
    rw [blocksOf_end (not_lt_z hN)]
    exact d3_nn (nnp hle)
  | succ N ih =>
    intro lo hN hal hle
    by_cases hlt : lo < hi
    · rw [blocksOf_step hlt, List.length_cons]
      refine fin1 ?_
      rcases kOf_cases lo hi with ⟨e, h1, h2⟩ | ⟨e, h1, h2, h3⟩ | ⟨e, h1, h2, h3, h4⟩ | ⟨e, h2, h3, h4⟩ <;> rw [e]
      · rw [pw3, ← d3_262144, ← shp]
        exact ih (lo + 262144) (toN (by decide) hN hlt) (.inl (al3 h1)) h2
      · rw [pw2, ← d3_4096 (one2 (lep h2) (hm2 hal h3)), ← shp]
        exact ih (lo + 4096) (toN (by decide) hN hlt) (.inr (.inl ⟨al2 h1, ltp (by decide) (hm2 hal h3)⟩)) h2
      · rw [pw1, ← d3_64 (one1 (lep h2) (hm1 hal h3 h4)), ← shp]
        exact ih (lo + 64) (toN (by decide) hN hlt) (.inr (.inr (.inl ⟨al1 h1, ltp (by decide) (hm1 hal h3 h4)⟩))) h2
      · rw [pw0, ← d3_1 (one0 (lep (lt0 hlt)) (hm0 hal h2)), ← shp]
        exact ih (lo + 1) (toN (by decide) hN hlt) (.inr (.inr (.inr (ltp (by decide) (hm0 hal h2))))) (lt0 hlt)
    · rw [blocksOf_end hlt]
      exact d3_nn (nnp hle)
theorem sub_md {x p m : Int} (h0 : 0 ≤ p) (hp : p ≤ x % m) (hm : 0 < m) : (x - p) % m = x % m - p := by
  have e : x - p = (x % m - p) + m * (x / m) := by
    have := Int.emod_add_mul_ediv x m
    omega
  rw [e, Int.add_mul_emod_self_left]
  exact Int.emod_eq_of_lt (Int.sub_nonneg_of_le hp) (Int.lt_of_le_of_lt (Int.sub_le_self _ h0) (Int.emod_lt_of_pos x hm))
theorem neg_md0 {x m : Int} (h : -x % m = 0) : x % m = 0 := Int.emod_eq_zero_of_dvd ((Int.dvd_neg).mp (Int.dvd_of_emod_eq_zero h))
theorem md_neg0 {x m : Int} (h : x % m = 0) : -x % m = 0 := Int.emod_eq_zero_of_dvd ((Int.dvd_neg).mpr (Int.dvd_of_emod_eq_zero h))
theorem ge_of {r c : Int} (h0 : 0 ≤ r) (hc : 0 < c) (h1 : r % c = 0) (h2 : r ≠ 0) : c ≤ r := Int.le_of_dvd (Int.lt_iff_le_and_ne.mpr ⟨h0, Ne.symm h2⟩) (Int.dvd_of_emod_eq_zero h1)
theorem up_c {lo c m : Int} (hc : 0 < c) (hm : 0 < m) (hd : c ∣ m) (h1 : lo % c = 0) (h2 : ¬lo % m = 0) : -(lo + c) % m = -lo % m - c ∧ c ≤ -lo % m := by
  have hr : c ≤ -lo % m := ge_of (Int.emod_nonneg _ (Int.ne_of_gt hm)) hc (by rw [Int.emod_emod_of_dvd _ hd]; exact md_neg0 h1) fun e => h2 (neg_md0 e)
  exact ⟨by rw [Int.neg_add, ← Int.sub_eq_add_neg]; exact sub_md (Int.le_of_lt hc) hr hm, hr⟩
theorem q1 : (4096 : Int) ∣ 262144 := by decide
theorem q2 : (64 : Int) ∣ 262144 := by decide
theorem q3 : (1 : Int) ∣ 262144 := by decide
theorem md_of {x : Int} {a b : Int} (h : a ∣ b) (e : x % b = 0) : x % a = 0 := by rw [← Int.emod_emod_of_dvd x h, e, Int.zero_emod]
theorem up2 {lo : Int} (h1 : lo % 4096 = 0) (h2 : ¬lo % 262144 = 0) : -(lo + 4096) % 262144 = -lo % 262144 - 4096 ∧ 4096 ≤ -lo % 262144 ∧ -lo % 262144 < 262144 :=
  let ⟨a, b⟩ := up_c (by decide) (by decide) q1 h1 h2
  ⟨a, b, Int.emod_lt_of_pos _ (by decide)⟩
theorem dig_c {r : Int} (h : r % 64 = 0) (h' : ¬r % 4096 = 0) : 1 ≤ r / 64 % 64 := by omega
theorem up1 {lo : Int} (h1 : lo % 64 = 0) (h2 : ¬lo % 4096 = 0) : -(lo + 64) % 262144 = -lo % 262144 - 64 ∧ 1 ≤ -lo % 262144 / 64 % 64 :=
  ⟨(up_c (by decide) (by decide) q2 h1 fun e => h2 (md_of q1 e)).1,
    dig_c (by rw [Int.emod_emod_of_dvd _ q2]; exact md_neg0 h1) (by rw [Int.emod_emod_of_dvd _ q1]; exact fun e => h2 (neg_md0 e))⟩
theorem up0 {lo : Int} (h2 : ¬lo % 64 = 0) : -(lo + 1) % 262144 = -lo % 262144 - 1 ∧ 1 ≤ -lo % 262144 % 64 :=
  ⟨(up_c (by decide) (by decide) q3 (Int.emod_one lo) fun e => h2 (md_of q2 e)).1,
    by rw [Int.emod_emod_of_dvd _ q2]; exact Int.lt_iff_le_and_ne.mpr ⟨Int.emod_nonneg _ (by decide), fun e => h2 (neg_md0 e.symm)⟩⟩
theorem md_nn (lo : Int) : 0 ≤ d3 (-lo % 262144) := d3_nn (Int.emod_nonneg _ (by decide))
theorem dv_nn {lo hi : Int} (h : lo ≤ hi) : 0 ≤ (hi - lo) / 262144 := Int.ediv_nonneg (nnp h) (by decide)
theorem not_al {lo hi : Int} (hd : ¬Al lo hi) : ¬lo % 262144 = 0 ∧ (lo % 4096 = 0 → 262144 ≤ hi - lo) ∧ (lo % 64 = 0 → 4096 ≤ hi - lo) ∧ 64 ≤ hi - lo :=
  ⟨fun e => hd (.inl e), fun e => Int.not_lt.mp fun q => hd (.inr (.inl ⟨e, q⟩)), fun e => Int.not_lt.mp fun q => hd (.inr (.inr (.inl ⟨e, q⟩))), Int.not_lt.mp fun q => hd (.inr (.inr (.inr q)))⟩
theorem leq' {hi lo p b : Int} (h : b ≤ hi - lo) (hp : p ≤ b) : lo + p ≤ hi := leq (Int.le_trans hp h)
theorem len_up {hi : Int} : ∀ (N : Nat) (lo : Int), (hi - lo).toNat ≤ N → lo ≤ hi → ((blocksOf lo hi).length : Int) ≤ d3 (-lo % 262144) + 189 + (hi - lo) / 262144 := by
  intro N
  induction N with
  | zero =>
    intro lo hN hle
    rw [blocksOf_end (not_lt_z hN)]
    exact nn3 (md_nn lo) (dv_nn hle)
  | succ N ih =>
    intro lo hN hle
    by_cases hlt : lo < hi
    · by_cases hd : Al lo hi
      · exact ml (len_down _ lo (Nat.le_refl _) hd hle) (d3_le (hi - lo)) (md_nn lo)
      · rw [blocksOf_step hlt, List.length_cons]
        obtain ⟨n1, n2, n3, n4⟩ := not_al hd
        rcases kOf_cases lo hi with ⟨e, g1, g2⟩ | ⟨e, g1, g2, g3⟩ | ⟨e, g1, g2, g3, g4⟩ | ⟨e, g2, g3, g4⟩ <;> rw [e]
        · exact absurd g1 n1
        · obtain ⟨u1, u2, u3⟩ := up2 g1 n1
          refine fin2 (y := (hi - (lo + 4096)) / 262144) ?_ (dvp (by decide))
          rw [pw2, ← d3_4096 (one2 u2 u3), ← u1]
          exact ih (lo + 4096) (toN (by decide) hN hlt) g2
        · obtain ⟨u1, u2⟩ := up1 g1 fun q => g3 ⟨q, leq' (n2 q) (by decide)⟩
          refine fin2 (y := (hi - (lo + 64)) / 262144) ?_ (dvp (by decide))
          rw [pw1, ← d3_64 u2, ← u1]
          exact ih (lo + 64) (toN (by decide) hN hlt) g2
        · obtain ⟨u1, u2⟩ := up0 fun q => g2 ⟨q, leq' (n3 q) (by decide)⟩
          refine fin2 (y := (hi - (lo + 1)) / 262144) ?_ (dvp (by decide))
          rw [pw0, ← d3_1 u2, ← u1]
          exact ih (lo + 1) (toN (by decide) hN hlt) (lt0 hlt)
    · rw [blocksOf_end hlt]
      exact nn3 (md_nn lo) (dv_nn hle)
theorem blk_len {lo hi : Int} (h : hi - lo ≤ 1048576) : (blocksOf lo hi).length ≤ 400 := by
  by_cases hle : lo ≤ hi
  · have h1 := len_up _ lo (Nat.le_refl _) hle
    have h2 := d3_le (-lo % 262144)
    have h3 : -lo % 262144 / 262144 = 0 := by omega
    have h4 : (hi - lo) / 262144 ≤ 4 := by omega
    rw [h3] at h2
    generalize d3 (-lo % 262144) = x at *
    generalize (hi - lo) / 262144 = y at *
    omega
  · rw [blocksOf_end (by omega)]
    decide
end Mine
end

section -- L4
open PySem PySem.W PyProof.Rows PySem.Calls PySem.Spec
namespace Mine

local macro_rules | `(tactic| k_all) => `(tactic| assumption)
theorem law_end {w : World} {mean : ExcName → Option Value} {mg mb : Str → Option Value} {h₀ : Heap} {L fa ls lG lM lN lb : Addr} {cd : Value} {s : Shared} {Q : Flow → Shared → Prop} {E : Value → Shared → Prop} {o1 o2 o3 o4 : Obj} {x y lo hi : Int} {t1 t2 t3 t4 : Tok} {vG vM vsB : List Value} {cG cB' : Nat} {tups mG : List (Addr × Obj)} {nums : List Int} {bs : List (Int × Nat)}
    (B : Below callerA h₀ [] h₀) (F : Fr h₀ L s.heap (fun z => if z = Str.ofString "longer" then some (.ref lG) else if z = Str.ofString "numbers" then some (.ref lM) else if z = Str.ofString "near" then some (.ref lN) else if z = Str.ofString "blocks" then some (.ref lb) else bindL (envOfC dLaw.name dLaw.scope L fa cd).kindOf [(Str.ofString "script", .ref ls)] (fun _ => none) z))
    (X : (K0 w.params).In h₀) (T : Top topProg lo2 mean mg mb h₀)
    (N : News h₀ L s.heap ((lG, W.listOf vG.toArray cG) :: (lM, W.listOf vM.toArray 0) :: (lb, W.listOf vsB.toArray cB') :: (L + 1 + 1 + 1 + 1, o4) :: (L + 1 + 1 + 1, o3) :: (L + 1 + 1, o2) :: (L + 1, o1) :: (804, tabObj #[]) :: (tups ++ mG)))
    (l804 : 804 < L) (G0 : AllBare s.gens)
    (d1 : o1.data = .cell (some (.int x t1))) (d2 : o2.data = .cell (some (.int y t2))) (d3 : o3.data = .cell (some (.int lo t3))) (d4 : o4.data = .cell (some (.int hi t4)))
    (hbs : BlkAre tups vsB bs) (hPG : RowsAre mG vG (bs.map longRow)) (hIM : IntsAre vM nums) (hbn : bs.length ≤ 400) (hnn : nums.length ≤ 550) (hbk : ∀ b ∈ bs, 0 ≤ b.1 ∧ b.1 < 16777216 ∧ b.2 ≤ 3)
    (heq : ∀ n ∈ nums, cB bs (signs n 4) = (decide (lo ≤ n) && decide (n < hi))) (hlg : ∀ b ∈ bs, cB bs (longRow b) = false)
    (hret : ∀ tk' h' dr' g' ps', (∀ b o, h₀.get? b = some o → h'.get? b = some o) → h'.get? 804 = some (tabObj ps') → AllBare g' → Q (.ret (.bool true)) { s with heap := h', gens := g', drawn := dr', toks := tk' }) :
    wpAny (model PySem.Challenge.rw_oy0371_01.row.prog w) (callerA.deeper (envOfC dLaw.name dLaw.scope L fa cd)) (execs (dLaw.body.drop 7) (envOfC dLaw.name dLaw.scope L fa cd)) Q E s := by
  k_lt2 l804
  have hd9 : callerA.depth + 100 < recursionLimit := by decide
  have hu9 : callerA.units + 2000 < cLine := by rw [cLine_is]; decide
  w_on
  w_strict (
    repeat' (first | (k_unfold; (try dsimp only)) | ((fail_if_success (with_reducible show wpAny _ _ (eval (PySem.Expr.ListComp _ _ _ _) _) _ _ _)); first | walk1 | (dsimp only; walk1)))
    rename Fr h₀ L _ _ => FZ
    rename News h₀ L _ _ => NZ
    refine' evalCompL rfl ?hclos ?hcell ?hkind ?hnames (fun i ys more => RowsAre more ys ((nums.take i).map fun n => signs n 4)) .nil ?hlen ?hh ?hs
    case hclos => with_unfolding_all rfl
    case hcell => decide
    case hkind => rfl
    case hnames => decide
    case hs => (intro _; rfl)
    case hlen =>
      intro i ys more hP
      rw [hP.len, List.length_map, List.length_take]
      omega
    walk1
    refine ⟨lM, vM, rfl, News.isList NZ (.tail _ (.head _)), by rw [intsAre_len hIM, sizeLine_eq]; omega, ?turn, ?done⟩
    case turn =>
      intro C i v ys more h₃ tk₃ m₃ E' hC hv hP hn3 hx3 hmore
      have h9 := ints_get hIM hv
      obtain ⟨z9, t9, ev, hz9⟩ := h9
      subst ev
      refine wpAny_assign_Name (wpAny_storeName_local (env := compEnvC _ _ C _) (by exact rfl) hn3 (fun h₄ hn₄ hs₄ => ?_) (by exact rfl))
      refine wpAny_tests_nil ?_
      rw [if_pos rfl]
      have k6 : ∀ b o, b ≠ C → h₃.get? b = some o → h₄.get? b = some o := fun b o hb e => hs₄.extBut b o hb e
      have hkC : ∀ b o, h₀.get? b = some o → b ≠ C := fun b o e z => by
        have := Heap.lt_size (FZ.keep b o e)
        rw [z] at this
        exact Nat.lt_irrefl _ (Nat.lt_of_lt_of_le this hC)
      have F3x := FZ.keeps hx3
      have k7 : ∀ b o, h₀.get? b = some o → h₄.get? b = some o := fun b o e => k6 b o (hkC b o e) (F3x.keep b o e)
      have F6 : Fr h₀ L h₄ _ := ⟨F3x.ns.at (fun o e => k6 _ o (fun z => by
        have h2 := FZ.ns.lt
        rw [z] at h2
        exact Nat.lt_irrefl _ (Nat.lt_of_lt_of_le h2 hC)) e), k7, F3x.above⟩
      refine Call_ ?_
      refine nmCG (K := K0 w.params) (mg := mg) (v := .ref 861) (T.g.keeps k7) (X.keeps k7) (by kernel_rfl) ?_ rfl rfl rfl (by decide)
      refine callWith_K (K := K0 w.params) X (by kernel_rfl) ?_
      refine args_cons ?_
      refine nmL hn₄ (by rfl) ?_ rfl rfl (by decide)
      refine args_nil ⟨X.keeps k7, ?_⟩
      refine spec_own (mean := mean) (mg := mg) (mb := mb) B F6 X T rfl ?dka ?dkb ?_
      case dka => ktr_room
      case dkb => ktr_room
      intro l1 tk7 h7 us1 x7 f7 pl7 hu7
      have pl8 := pl7
      obtain ⟨n9, pl7⟩ := pl7
      refine ⟨h7, _, _, [(l1, W.listOf us1.toArray n9)], rfl, hn₄.keeps x7, fun b o hb e => x7 b o (k6 b o hb e), ?fresh, ?rows⟩
      case fresh =>
        intro p hp
        rw [List.mem_singleton.mp hp]
        refine ⟨?_, pl7⟩
        show h₃.get? l1 = none
        have f7' : h₄.get? l1 = none := f7
        have hne : l1 ≠ C := fun z => by
          obtain ⟨o, es, ep, e, _⟩ := hn₄
          rw [z] at f7'
          rw [show h₄.get? C = some o from e] at f7'
          cases f7'
        cases q : h₃.get? l1 with
        | none => rfl
        | some o =>
          have := k6 _ o hne q
          rw [f7'] at this
          cases this
      case rows =>
        show RowsAre _ _ (List.map _ (List.take (i + 1) nums))
        rw [List.take_add_one, hz9]
        show RowsAre _ _ (List.map _ (List.take i nums ++ [z9]))
        rw [List.map_append]
        exact (hP.mono fun p hp => List.mem_cons_of_mem _ hp).snoc (.head _) ⟨rfl, rfl, hu7⟩
    case done =>
      intro D2 ys2 more2 h2 tk2 x2 f2 pl2 hP2 hmore2
      rw [intsAre_len hIM, List.take_length] at hP2
      have F2 := Fr.keeps FZ x2
      obtain ⟨c2, N2', n2⟩ := news_more FZ NZ x2 f2 pl2 hmore2
      have N2 : News h₀ L h2 ((D2, W.listOf ys2.toArray c2) :: (lG, W.listOf vG.toArray cG) :: (lM, W.listOf vM.toArray 0) :: (lb, W.listOf vsB.toArray cB') :: (L + 1 + 1 + 1 + 1, o4) :: (L + 1 + 1 + 1, o3) :: (L + 1 + 1, o2) :: (L + 1, o1) :: (804, tabObj #[]) :: (tups ++ mG ++ more2)) := fun q hq => N2' q (mem_swap hq)
      clear N2'
      repeat' (first | (k_unfold; (try dsimp only)) | ((fail_if_success (with_reducible show wpAny _ _ (binaryOp _ _ _) _ _ _)); first | walk1 | (dsimp only; walk1)))
      refine kmk_add_lit F2 N2 (News.isList N2 (.head _)) (News.isList N2 (.tail _ (.head _))) rfl ?_ (by rw [sizeLine_eq]; show ys2.length + vG.length ≤ _; rw [hP2.len, hPG.len, List.length_map, List.length_map]; omega)
      intro lA h3 F3 N3 l3
      repeat' (first | (k_unfold; (try dsimp only)) | ((fail_if_success (with_reducible show wpAny _ _ (call (Value.ref 866) _) _ _ _)); first | walk1 | (dsimp only; walk1)))
      have htn : (x + y).fmod 2 = ((((x + y).fmod 2).toNat : Nat) : Int) := by
        rw [Int.fmod_eq_emod_of_nonneg _ (by decide)]
        omega
      rw [htn]
      have htu3 : ∀ p ∈ tups, h3.get? p.1 = some p.2 := fun p hp => (N3 p (.tail _ (.tail _ (.tail _ (.tail _ (.tail _ (.tail _ (.tail _ (.tail _ (.tail _ (.tail _ (List.mem_append_left _ (List.mem_append_left _ hp))))))))))))).1
      have hmG3 : ∀ p ∈ mG, h3.get? p.1 = some p.2 := fun p hp => (N3 p (.tail _ (.tail _ (.tail _ (.tail _ (.tail _ (.tail _ (.tail _ (.tail _ (.tail _ (.tail _ (List.mem_append_left _ (List.mem_append_right _ hp))))))))))))).1
      have hm23 : ∀ p ∈ more2, h3.get? p.1 = some p.2 := fun p hp => (N3 p (.tail _ (.tail _ (.tail _ (.tail _ (.tail _ (.tail _ (.tail _ (.tail _ (.tail _ (.tail _ (List.mem_append_right _ hp)))))))))))).1
      have hrows : RowsAre (mG ++ more2) (ys2 ++ vG) ((nums.map fun n => signs n 4) ++ bs.map longRow) := (hP2.mono fun p hp => List.mem_append_right _ hp).append (hPG.mono fun p hp => List.mem_append_left _ hp)
      have hget3 : ∀ p ∈ mG ++ more2, h3.get? p.1 = some p.2 := fun p hp => (List.mem_append.mp hp).elim (hmG3 p) (hm23 p)
      have hro : ∀ r ∈ (nums.map fun n => signs n 4) ++ bs.map longRow, RowOk r := fun r hr => by
        rcases List.mem_append.mp hr with hr | hr
        · obtain ⟨n, _, rfl⟩ := List.mem_map.mp hr
          exact rowOk_signs n
        · obtain ⟨b, hb, rfl⟩ := List.mem_map.mp hr
          exact rowOk_long b (hbk b hb).2.2
      refine spec_told (mean := mean) (mg := mg) (mb := mb) (ps := #[]) (la := lA) (vsB := vsB) (vsA := ys2 ++ vG) (tups := tups) (bs := bs) (rows := (nums.map fun n => signs n 4) ++ bs.map longRow) B F3 X T rfl (fun q hq => N3 q (List.mem_singleton.mp hq ▸ (.tail _ (.tail _ (.tail _ (.tail _ (.tail _ (.tail _ (.tail _ (.tail _ (.tail _ (.head _)))))))))))) ?ta ?tb (News.isList N3 (.tail _ (.tail _ (.tail _ (.tail _ (.head _)))))) hbs hbn hbk htu3 (News.isList N3 (.head _)) hro ?tc ?td hrows.len jTab_nil G0 ?_
      case ta => omega
      case tb => omega
      case tc => rw [List.length_append, List.length_map, List.length_map]; omega
      case td =>
        intro i v hv
        obtain ⟨a, o, us, n, r, e1, e2, e3, e4, e5, e6⟩ := hrows.get hv
        exact ⟨a, us, r, e1, ⟨o, hget3 _ e2, e3, n, e4⟩, e5, e6⟩
      intro tk4 h4 dr4 g4 ps4 R vals pairs cR F4 kp4 q4 J4 G4 qR fR hPr hpr
      have hne804 : ∀ (a : Addr) (vs' : Array Value) (n : Nat), h3.get? a = some (W.listOf vs' n) → a ≠ 804 := by
        intro a vs' n e z
        have e2 := (N3 _ (.tail _ (.tail _ (.tail _ (.tail _ (.tail _ (.tail _ (.tail _ (.tail _ (.tail _ (.head _))))))))))).1
        rw [z] at e
        rw [show h3.get? 804 = some (tabObj #[]) from e2] at e
        cases e
      have old4 : ∀ (a : Addr) (o : Obj), a ≠ 804 → h3.get? a = some o ∧ a ≠ L ∧ h₀.get? a = none → h4.get? a = some o ∧ a ≠ L ∧ h₀.get? a = none := fun a o h1 h2 => ⟨kp4 a o h1 h2.2.1 h2.1, h2.2⟩
      have Nb : News h₀ L h4 ((lG, W.listOf vG.toArray cG) :: (lM, W.listOf vM.toArray 0) :: (L + 1 + 1 + 1 + 1, o4) :: (L + 1 + 1 + 1, o3) :: (804, tabObj ps4) :: pairs) := by
        intro p hp
        rcases List.mem_cons.mp hp with rfl | hp
        · exact old4 _ _ (hne804 _ _ _ (N3 _ (.tail _ (.tail _ (.head _)))).1) (N3 _ (.tail _ (.tail _ (.head _))))
        rcases List.mem_cons.mp hp with rfl | hp
        · exact old4 _ _ (hne804 _ _ _ (N3 _ (.tail _ (.tail _ (.tail _ (.head _))))).1) (N3 _ (.tail _ (.tail _ (.tail _ (.head _)))))
        rcases List.mem_cons.mp hp with rfl | hp
        · exact old4 _ _ (neN (by dsimp only; omega)) (N3 _ (.tail _ (.tail _ (.tail _ (.tail _ (.tail _ (.head _)))))))
        rcases List.mem_cons.mp hp with rfl | hp
        · exact old4 _ _ (neN (by dsimp only; omega)) (N3 _ (.tail _ (.tail _ (.tail _ (.tail _ (.tail _ (.tail _ (.head _))))))))
        rcases List.mem_cons.mp hp with rfl | hp
        · exact ⟨q4, (N3 _ (.tail _ (.tail _ (.tail _ (.tail _ (.tail _ (.tail _ (.tail _ (.tail _ (.tail _ (.head _))))))))))).2⟩
        · exact news_in (led' := []) F3 (fun q hq => nomatch hq) (hpr p hp).2 (hpr p hp).1 _ (.head _)
      have N4 := news_in F3 Nb fR qR
      have ebits : List.map (cB bs) ((nums.map fun n => signs n 4) ++ bs.map longRow) = nums.map (fun n => decide (lo ≤ n) && decide (n < hi)) ++ bs.map (fun _ => false) := by
        rw [List.map_append, List.map_map, List.map_map]
        congr 1
        · exact List.map_congr_left fun n hn => heq n hn
        · exact List.map_congr_left fun b hb => hlg b hb
      rw [ebits] at hPr
      clear F3 N3 Nb
      repeat' (first | (k_unfold; (try dsimp only)) | ((fail_if_success (with_reducible show wpAny _ _ (execs _ _) _ _ _)); first | walk1 | (dsimp only; walk1)))
      rename Fr h₀ L _ _ => F5
      rename News h₀ L _ _ => N5
      exact law_fin (mean := mean) (mg := mg) (mb := mb) B F5 X T N5 G4 d3 d4 hIM (by rw [hPG.len, List.length_map]) hbn hnn hPr (fun tk' h' dr' g' ps' a b c => hret tk' h' dr' g' ps' a b c))
end Mine
end

section -- L3
open PySem PySem.W PyProof.Rows PySem.Calls PySem.Spec
namespace Mine

local macro_rules | `(tactic| k_all) => `(tactic| assumption)
noncomputable def nearT (b : Int × Nat) : Int := b.1 + 64 ^ ((b.2 : Nat) : Int).toNat - 1
noncomputable def exT (lo hi z : Int) : List Int := [z.fmod (64 ^ (4 : Int).toNat), lo + z.fmod (hi - lo)]
noncomputable def NumP (lo hi : Int) (zS : List Int) (i j : Nat) (ys : List Value) : Prop := (j = 0 ∨ i < zS.length) ∧ j ≤ 2 ∧ IntsAre ys ((zS.take i).flatMap (exT lo hi) ++ (exT lo hi (zS.getD i 0)).take j)
theorem numP_next {lo hi : Int} {zS : List Int} {i : Nat} {ys : List Value} (h : NumP lo hi zS i 2 ys) : NumP lo hi zS (i + 1) 0 ys := by
  obtain ⟨h1, _, h2⟩ := h
  have hi' : i < zS.length := h1.resolve_left (by decide)
  refine ⟨.inl rfl, by decide, ?_⟩
  have e : (zS.take (i + 1)).flatMap (exT lo hi) = (zS.take i).flatMap (exT lo hi) ++ exT lo hi (zS.getD i 0) := by
    rw [List.take_add_one, List.getElem?_eq_getElem hi', List.flatMap_append, List.getD_eq_getElem?_getD, List.getElem?_eq_getElem hi']
    simp
  rw [e, List.take_zero, List.append_nil]
  exact h2
theorem numP_len {lo hi : Int} {zS : List Int} (hz : zS.length ≤ 63) {i j : Nat} {ys : List Value} (h : NumP lo hi zS i j ys) : ys.length ≤ sizeLine := by
  rw [intsAre_len h.2.2, List.length_append, List.length_take, sizeLine_eq]
  have : ((zS.take i).flatMap (exT lo hi)).length ≤ 2 * (zS.take i).length := by
    generalize zS.take i = l
    induction l with
    | nil => exact Nat.le_refl _
    | cons a r ih =>
      rw [List.flatMap_cons, List.length_append, List.length_cons]
      exact n_two_mul ih
  have h2 := (List.take_sublist i zS).length_le
  have h3 := h.2.1
  exact n_add (Nat.le_trans this (Nat.mul_le_mul_left 2 (Nat.le_trans h2 hz))) (Nat.le_trans (Nat.min_le_left _ _) h3) (by decide)
theorem slice_26 (zs : List Int) : (zs.drop 2).take (min 6 zs.length - 2) = (zs.drop 2).take 4 := by
  by_cases h : 6 ≤ zs.length
  · rw [Nat.min_eq_left h]
  · rw [Nat.min_eq_right (by omega), List.take_of_length_le (by simp), List.take_of_length_le (by simp; omega)]
theorem flat_len (lo hi : Int) (zS : List Int) : (zS.flatMap (exT lo hi)).length = 2 * zS.length := by
  induction zS with
  | nil => rfl
  | cons a r ih =>
    rw [List.flatMap_cons, List.length_append, List.length_cons, ih]
    rw [Nat.mul_succ]
    exact Nat.add_comm 2 _
noncomputable def numsL (lo hi : Int) (bs : List (Int × Nat)) (zS : List Int) : List Int := ([lo - 4096, lo - 64, lo - 1, hi, hi + 64, hi + 4096] ++ bs.map nearT) ++ zS.flatMap (exT lo hi)
theorem nums_bound {lo hi n : Int} {zS : List Int} (b1 : 4096 ≤ lo) (b2 : lo < hi) (b4 : hi + 4096 < 16777216) (hn : n ∈ numsL lo hi (blocksOf lo hi) zS) : 0 ≤ n ∧ n < 16777216 := by
  unfold numsL at hn
  rcases List.mem_append.mp hn with hn | hn
  · rcases List.mem_append.mp hn with hn | hn
    · simp only [List.mem_cons, List.not_mem_nil, or_false] at hn
      have lo4 : ∀ k : Int, 0 ≤ k → k ≤ 4096 → 0 ≤ lo - k ∧ lo - k < 16777216 := fun k h1 h2 => by constructor <;> omega
      have hi4 : ∀ k : Int, 0 ≤ k → k ≤ 4096 → 0 ≤ hi + k ∧ hi + k < 16777216 := fun k h1 h2 => by constructor <;> omega
      rcases hn with rfl | rfl | rfl | rfl | rfl | rfl
      · exact lo4 _ (by decide) (by decide)
      · exact lo4 _ (by decide) (by decide)
      · exact lo4 _ (by decide) (by decide)
      · exact (Int.add_zero n ▸ hi4 0 (by decide) (by decide) :)
      · exact hi4 _ (by decide) (by decide)
      · exact hi4 _ (by decide) (by decide)
    · obtain ⟨b, hb, rfl⟩ := List.mem_map.mp hn
      obtain ⟨f1, f2, f3, f4⟩ := blk_facts _ lo (Nat.le_refl _) b hb
      have hp := pw_pos b.2
      unfold nearT
      rw [Int.toNat_natCast]
      constructor <;> omega
  · obtain ⟨z, _, hz⟩ := List.mem_flatMap.mp hn
    unfold exT at hz
    have h4 : (64 : Int) ^ (4 : Int).toNat = 16777216 := by decide
    rw [h4, Int.fmod_eq_emod_of_nonneg _ (by decide), Int.fmod_eq_emod_of_nonneg _ (by omega)] at hz
    simp only [List.mem_cons, List.not_mem_nil, or_false] at hz
    have m1 := Int.emod_nonneg z (show (hi - lo) ≠ 0 by omega)
    have m2 := Int.emod_lt_of_pos z (show 0 < hi - lo by omega)
    rcases hz with rfl | rfl
    · constructor <;> omega
    · generalize z % (hi - lo) = q at *
      constructor <;> omega
theorem law_rest {w : World} {mean : ExcName → Option Value} {mg mb : Str → Option Value} {h₀ : Heap} {L fa ls : Addr} {cd : Value} {s : Shared} {Q : Flow → Shared → Prop} {E : Value → Shared → Prop} {vs : List Value} {zs : List Int} {o1 o2 o3 o4 : Obj} {x y lo hi : Int} {t1 t2 t3 t4 : Tok}
    (B : Below callerA h₀ [] h₀) (F : Fr h₀ L s.heap (bindL (envOfC dLaw.name dLaw.scope L fa cd).kindOf [(Str.ofString "script", .ref ls)] fun _ => none)) (X : (K0 w.params).In h₀) (T : Top topProg lo2 mean mg mb h₀)
    (N : News h₀ L s.heap [(L + 1 + 1 + 1 + 1, o4), (L + 1 + 1 + 1, o3), (L + 1 + 1, o2), (L + 1, o1), (804, tabObj #[])]) (l804 : 804 < L) (G0 : AllBare s.gens)
    (d1 : o1.data = .cell (some (.int x t1))) (d2 : o2.data = .cell (some (.int y t2))) (d3 : o3.data = .cell (some (.int lo t3))) (d4 : o4.data = .cell (some (.int hi t4)))
    (hls : h₀.IsList ls vs.toArray) (hzs : IntsAre vs zs) (hzl : zs.length ≤ 63) (b1 : 4096 ≤ lo) (b2 : lo < hi) (b3 : hi - lo ≤ 1048576) (b4 : hi + 4096 < 16777216)
    (hret : ∀ tk' h' dr' g' ps', (∀ b o, h₀.get? b = some o → h'.get? b = some o) → h'.get? 804 = some (tabObj ps') → AllBare g' → Q (.ret (.bool true)) { s with heap := h', gens := g', drawn := dr', toks := tk' }) :
    wpAny (model PySem.Challenge.rw_oy0371_01.row.prog w) (callerA.deeper (envOfC dLaw.name dLaw.scope L fa cd)) (execs (dLaw.body.drop 3) (envOfC dLaw.name dLaw.scope L fa cd)) Q E s := by
  k_lt2 l804
  have hd9 : callerA.depth + 100 < recursionLimit := by decide
  have hu9 : callerA.units + 2000 < cLine := by rw [cLine_is]; decide
  w_on
  w_strict (
    repeat' (first | (k_unfold; (try dsimp only)) | ((fail_if_success (with_reducible show wpAny _ _ (call (Value.ref 849) _) _ _ _)); first | walk1 | (dsimp only; walk1)))
    refine spec_blocks (mean := mean) (mg := mg) (mb := mb) B F X T rfl (by omega) (by omega) (by omega) ?ka ?kb ?_
    case ka => ktr_room
    case kb => ktr_room
    intro tk1 h1 x1 lb vsB tups hpB fB hbs htu
    obtain ⟨cB, hpB⟩ := hpB
    have F1 := Fr.keeps F x1
    have N1 : News h₀ L h1 ((lb, W.listOf vsB.toArray cB) :: (L + 1 + 1 + 1 + 1, o4) :: (L + 1 + 1 + 1, o3) :: (L + 1 + 1, o2) :: (L + 1, o1) :: (804, tabObj #[]) :: tups) := by
      have n1 := news_add1 F N x1 hpB fB
      have n2 := news_tailed n1 (m := tups) fun p h => news_in F n1 (htu p h).2.1 (htu p h).1 _ (.head _)
      exact n2
    have lB := allNe_of N fB
    simp only [AllNe, and_true] at lB
    repeat (have := And.left lB; replace lB := And.right lB)
    have hbn := blk_len (lo := lo) (hi := hi) b3
    have hbf := blk_facts (hi := hi) _ lo (Nat.le_refl _)
    generalize hbs9 : blocksOf lo hi = bs at *
    clear F N
    repeat' (first | (k_unfold; (try dsimp only)) | ((fail_if_success (with_reducible show wpAny _ _ (eval (PySem.Expr.ListComp _ _ _ _) _) _ _ _)); first | walk1 | (dsimp only; walk1)))
    rename Fr h₀ L _ _ => FZ
    rename News h₀ L _ _ => NZ
    refine' evalCompL rfl ?hclos ?hcell ?hkind ?hnames (fun i ys more => more = [] ∧ IntsAre ys ((bs.take i).map nearT)) ⟨rfl, .nil⟩ ?hlen ?hh ?hs
    case hclos => with_unfolding_all rfl
    case hcell => decide
    case hkind => rfl
    case hnames => decide
    case hs => (intro _; rfl)
    case hlen =>
      intro i ys more hP
      rw [intsAre_len hP.2, List.length_map, List.length_take]
      exact Nat.min_le_left _ _
    walk1
    have lB1 := (News.isList NZ (.tail _ (.head _)))
    have htu2 : ∀ p ∈ tups, Heap.get? _ p.1 = some p.2 := fun p hp => (NZ p (.tail _ (.tail _ (.tail _ (.tail _ (.tail _ (.tail _ (.tail _ hp)))))))).1
    refine ⟨lb, vsB, rfl, lB1, by rw [hbs.len]; exact s_le 400 hbn (by decide), ?turn, ?done⟩
    case turn =>
      intro C i v ys more h₃ tk₃ m₃ E' hC hv hP hn3 hx3 hmore
      have h9 := hbs.get hv
      obtain ⟨a9, o9, b9, k9, t9, u9, e9, hm9, hc9, hd9, hb9⟩ := h9
      subst e9
      have hk9 : k9 ≤ 3 := (hbf _ (List.mem_of_getElem? hb9)).2.2.2
      have ht9 : IsTup h₃ a9 #[.int b9 t9, .int (k9 : Nat) u9] := ⟨o9, hx3 _ _ (htu2 _ hm9), hc9, _, hd9⟩
      refine assign_Tuple_tuple rfl ht9 rfl rfl (fun h₄ hs₄ => ?_)
      have hCs : C ≠ h₃.objs.size := by
        obtain ⟨o, es, ep, e, _⟩ := hn3
        exact Nat.ne_of_lt (Heap.lt_size e)
      have hn4 := hn3.at fun o e => hs₄ _ o hCs e
      refine assignInOrder_cons ?_
      refine wpAny_assign_Name (wpAny_storeName_local (env := compEnvC _ _ C _) (by exact rfl) hn4 (fun h₅ hn₅ hs₅ => ?_) (by exact rfl))
      refine assignInOrder_cons ?_
      refine wpAny_assign_Name (wpAny_storeName_local (env := compEnvC _ _ C _) (by exact rfl) hn₅ (fun h₆ hn₆ hs₆ => ?_) (by exact rfl))
      refine assignInOrder_nil ?_
      refine wpAny_tests_nil ?_
      rw [if_pos rfl]
      have k6 : ∀ b o, b ≠ C → h₃.get? b = some o → h₆.get? b = some o := fun b o hb e => (hs₆.2 b hb).trans ((hs₅.2 b hb).trans (hs₄ b o (fun z => Nat.lt_irrefl _ (z ▸ Heap.lt_size e)) e))
      refine IVal.use (v := nearT (b9, k9)) ?_ ?_
      · refine IVal.sub (IVal.add ?_ (IVal.pow IVal.const ?_ ?_ ?_ ?_)) IVal.const
        · exact IVal.nmL hn₆ (by rfl) (by rfl) (by rfl) (by decide)
        · exact IVal.nmL hn₆ (by rfl) (by rfl) (by rfl) (by decide)
        · exact Int.natCast_nonneg _
        · exact Int.ofNat_le.mpr (Nat.le_trans hk9 (by decide))
        · decide
      · intro t5 tk5
        refine ⟨h₆, _, _, [], rfl, hn₆, fun b o hb ho => k6 b o hb ho, (fun p hp => nomatch hp), by simp [hP.1], ?_⟩
        rw [List.take_add_one, hb9]
        show IntsAre _ (List.map _ (List.take i bs ++ [(b9, k9)]))
        rw [List.map_append]
        exact intsAre_append hP.2 (.cons _ _ .nil)
    case done =>
      intro D2 ys2 more h2 tk2 x2 f2 pl2 hP2 hmore
      rw [hbs.len, List.take_length] at hP2
      obtain ⟨rfl, hP2⟩ := hP2
      have F2 := Fr.keeps FZ x2
      have N2 := News.grown NZ x2
      repeat' (first | (k_unfold; (try dsimp only)) | ((fail_if_success (with_reducible show wpAny _ _ (binaryOp _ _ _) _ _ _)); first | walk1 | (dsimp only; walk1)))
      refine kmk_add_ints (ns := [lo - 4096, lo - 64, lo - 1, hi, hi + 64, hi + 4096]) F2 N2 (News.isList N2 (.head _)) pl2.isList (by l_ints) hP2 ?_ (by rw [List.length_map]; exact s_add 6 400 (Nat.le_refl 6) hbn (by decide))
      intro lN vN h3 F3 N3' l3 hIN
      have N3 : News h₀ L h3 ((lN, W.listOf vN.toArray 0) :: (lb, W.listOf vsB.toArray cB) :: (L + 1 + 1 + 1 + 1, o4) :: (L + 1 + 1 + 1, o3) :: (L + 1 + 1, o2) :: (L + 1, o1) :: (804, tabObj #[]) :: tups) := fun q hq => N3' q (by
        rcases List.mem_cons.mp hq with rfl | hq
        · exact .head _
        · exact .tail _ (.tail _ hq))
      have llN : lb < lN := l3 _ (.tail _ (.head _))
      clear N3' l3 F2 N2
      repeat' (first | (k_unfold; (try dsimp only)) | ((fail_if_success (with_reducible show wpAny _ _ (eval (PySem.Expr.ListComp _ _ _ _) _) _ _ _)); first | walk1 | (dsimp only; walk1)))
      rename Fr h₀ L _ _ => FY
      rename News h₀ L _ _ => NY
      obtain ⟨zS, ezS⟩ : ∃ zS, (zs.drop 2).take 4 = zS := ⟨_, rfl⟩
      have hzS : zS.length ≤ 63 := by rw [← ezS, List.length_take]; exact Nat.le_trans (Nat.min_le_left _ _) (by decide)
      refine' evalComp2 rfl ?cclos ?ccell ?ckind ?cnames (fun _ => 2) (NumP lo hi zS) ⟨.inl rfl, by decide, .nil⟩ (fun i j ys h => numP_len hzS h) (fun i ys h => numP_next h) ?cmain ?chs ?chs1
      case cclos => with_unfolding_all rfl
      case ccell => decide
      case ckind => rfl
      case cnames => decide
      case chs => (intro _; rfl)
      case chs1 => (intro _ _; rfl)
      repeat' (first | (k_unfold; (try dsimp only)) | ((fail_if_success (with_reducible show Src2 _ _ _ _ _ _ _ _ _ _ _ _ _ _ _ _)); first | walk1 | (dsimp only; walk1)))
      rename IntsAre _ (List.take _ (List.drop 2 zs)) => hIS
      rw [slice_26, ezS] at hIS
      rename Fr h₀ L _ _ => FX
      rename News h₀ L _ _ => NX
      have cL : Heap.IsCell _ (L + 1 + 1 + 1) (some (.int lo t3)) := isCell_of NX (.tail _ (.tail _ (.tail _ (.tail _ (.head _))))) d3
      have cH : Heap.IsCell _ (L + 1 + 1 + 1 + 1) (some (.int hi t4)) := isCell_of NX (.tail _ (.tail _ (.tail _ (.head _)))) d4
      refine ⟨_, _, rfl, News.isList NX (.head _), ?cturn, ?cdone⟩
      case cturn =>
        intro C D hC hDn i v ys h₃ tk₃ m₃ E' hv hP hn3 hx3 hDo
        have h9 := ints_get hIS hv
        obtain ⟨z9, t9, ev, hz9⟩ := h9
        subst ev
        have ltC : ∀ b o, Heap.get? _ b = some o → b ≠ C := fun b o e q => Nat.lt_irrefl _ (Nat.lt_of_lt_of_le (q ▸ Heap.lt_size e) hC)
        refine wpAny_assign_Name (wpAny_storeName_local (env := compEnvC _ _ C _) (by exact rfl) hn3 (fun h₄ hn₄ hs₄ => ?_) (by exact rfl))
        have cL4 : h₄.IsCell (L + 1 + 1 + 1) (some (.int lo t3)) := isCell_but (isCell_ext cL hx3) hs₄.extBut (let ⟨o, ho, _⟩ := cL; ltC _ o ho)
        have cH4 : h₄.IsCell (L + 1 + 1 + 1 + 1) (some (.int hi t4)) := isCell_but (isCell_ext cH hx3) hs₄.extBut (let ⟨o, ho, _⟩ := cH; ltC _ o ho)
        repeat' (first | (k_unfold; (try dsimp only)) | ((fail_if_success (with_reducible show wpAny _ _ (eval (PySem.Expr.BinOp _ _ _ _) _) _ _ _)); first | walk1 | (dsimp only; walk1)))
        refine IVal.use (v := z9.fmod (64 ^ (4 : Int).toNat)) ?_ ?_
        · refine IVal.mod ?_ (IVal.pow IVal.const IVal.const ?_ ?_ ?_) ?_
          · exact IVal.nmL hn₄ (by rfl) (by rfl) (by rfl) (by decide)
          · decide
          · decide
          · decide
          · decide
        intro t5 tk5
        repeat' (first | (k_unfold; (try dsimp only)) | ((fail_if_success (with_reducible show wpAny _ _ (eval (PySem.Expr.BinOp _ _ _ _) _) _ _ _)); first | walk1 | (dsimp only; walk1)))
        refine IVal.use (v := lo + z9.fmod (hi - lo)) ?_ ?_
        · refine IVal.add ?_ (IVal.mod ?_ (IVal.sub ?_ ?_) ?_)
          · exact IVal.nmC (c := L + 1 + 1 + 1) (by rfl) cL4 (by rfl) (by rfl) (by decide)
          · exact IVal.nmL hn₄ (by rfl) (by rfl) (by rfl) (by decide)
          · exact IVal.nmC (c := L + 1 + 1 + 1 + 1) (by rfl) cH4 (by rfl) (by rfl) (by decide)
          · exact IVal.nmC (c := L + 1 + 1 + 1) (by rfl) cL4 (by rfl) (by rfl) (by decide)
          · omega
        intro t6 tk6
        repeat' (first | (k_unfold; (try dsimp only)) | ((fail_if_success (with_reducible show wpAny _ _ (newList _) _ _ _)); first | walk1 | (dsimp only; walk1)))
        refine wpAny_newObj_type ?_
        have hlt4 : ∀ b o, h₄.get? b = some o → b ≠ h₄.objs.size := fun b o e q => Nat.lt_irrefl _ (q ▸ Heap.lt_size e)
        have hk4 : ∀ b o, b ≠ C → h₃.get? b = some o → h₄.get? b = some o := fun b o hb e => hs₄.extBut b o hb e
        have hiS : i < zS.length := (List.getElem?_eq_some_iff.mp hz9).1
        have hgz : zS.getD i 0 = z9 := by rw [List.getD_eq_getElem?_getD, hz9]; rfl
        refine ⟨h₄.objs.size, [.int (z9.fmod (64 ^ (4 : Int).toNat)) t5, .int (lo + z9.fmod (hi - lo)) t6], _, _, _, rfl, rfl, hn₄.at (fun o e => Heap.get?_push_of_some _ e), fun b o hb e => Heap.get?_push_of_some _ (hk4 b o hb e), ⟨_, Heap.get?_push_size _ rfl, rfl, _, rfl⟩, ?_, ?_, rfl, ?_⟩
        · obtain ⟨o, es, ep, e, _⟩ := hn₄
          exact Ne.symm (hlt4 _ o e)
        · obtain ⟨o, e⟩ := hDo
          by_cases hDC : D = C
          · subst hDC
            obtain ⟨o', es, ep, e', _⟩ := hn₄
            exact Ne.symm (hlt4 _ o' e')
          · exact Ne.symm (hlt4 _ o (hk4 _ _ hDC e))
        · intro j v2 ys2 h₇ tk₇ m₇ E'' hv2 hP2 hn7 hK
          refine wpAny_assign_Name (wpAny_storeName_local (env := compEnvC _ _ C _) (by exact rfl) hn7 (fun h₈ hn₈ hs₈ => ?_) (by exact rfl))
          refine wpAny_tests_nil ?_
          rw [if_pos rfl]
          refine nmL hn₈ (by rfl) ?_ rfl rfl (by decide)
          obtain ⟨hp1, hp2, hp3⟩ := hP2
          have hjl : j < 2 := (List.getElem?_eq_some_iff.mp hv2).1
          refine ⟨h₈, _, _, rfl, hn₈, fun b o hb e => hs₈.extBut b o hb e, .inr hiS, hjl, ?_⟩
          rw [hgz] at hp3 ⊢
          rw [List.take_add_one, ← List.append_assoc]
          refine intsAre_append hp3 ?_
          rcases (n_two hjl) with rfl | rfl
          · simp at hv2
            rw [← hv2]
            exact .cons _ _ .nil
          · simp at hv2
            rw [← hv2]
            exact .cons _ _ .nil
      case cdone =>
        intro D4 ys4 h4 tk4 x4 f4 pl4 hP4
        have hIX := hP4.2.2
        rw [show (List.length _ : Nat) = zS.length from intsAre_len hIS, List.take_length, List.take_zero, List.append_nil] at hIX
        have F4 := Fr.keeps FX x4
        have N4 := News.grown NX x4
        repeat' (first | (k_unfold; (try dsimp only)) | ((fail_if_success (with_reducible show wpAny _ _ (binaryOp _ _ _) _ _ _)); first | walk1 | (dsimp only; walk1)))
        refine kmk_add_ints F4 N4 (News.isList N4 (.tail _ (.head _))) pl4.isList hIN hIX ?_ (by rw [List.length_append, List.length_map, flat_len]; exact s_le 532 (num_len hbn hzS) (by decide))
        intro lM vM h5 F5 N5' l5 hIM
        have hIM' : IntsAre vM (numsL lo hi bs zS) := hIM
        clear hIM
        have N5 : News h₀ L h5 ((lM, W.listOf vM.toArray 0) :: (lb, W.listOf vsB.toArray cB) :: (L + 1 + 1 + 1 + 1, o4) :: (L + 1 + 1 + 1, o3) :: (L + 1 + 1, o2) :: (L + 1, o1) :: (804, tabObj #[]) :: tups) := fun q hq => N5' q (by
          rcases List.mem_cons.mp hq with rfl | hq
          · exact .head _
          · exact .tail _ (.tail _ (.tail _ hq)))
        have lbM : lb < lM := l5 _ (.tail _ (.tail _ (.head _)))
        clear N5' l5 F4 N4
        repeat' (first | (k_unfold; (try dsimp only)) | ((fail_if_success (with_reducible show wpAny _ _ (exec (Stmt.Assign _ (PySem.Expr.ListComp _ _ _ _) _) _) _ _ _)); first | walk1 | (dsimp only; walk1)))
        rename Fr h₀ L _ _ => FX5
        rename News h₀ L _ _ => NX5
        refine' assignCompLF (h₀ := h₀) rfl ?dsw ?dx ?dp ?dclos ?dcell ?dkind ?dnames (fun i ys more => RowsAre more ys ((bs.take i).map longRow)) .nil ?dlen ?dmain ?ds
        case dsw => with_unfolding_all rfl
        case dx => with_unfolding_all rfl
        case dp => with_unfolding_all rfl
        case dclos => with_unfolding_all rfl
        case dcell => decide
        case dkind => rfl
        case dnames => decide
        case ds => (intro _; rfl)
        case dlen =>
          intro i ys more hP
          rw [hP.len, List.length_map, List.length_take]
          exact Nat.min_le_left _ _
        repeat' (first | (k_unfold; (try dsimp only)) | ((fail_if_success (with_reducible show SrcALF _ _ _ _ _ _ _ _ _ _ _ _ _ _ _)); first | walk1 | (dsimp only; walk1)))
        have htu5 : ∀ p ∈ tups, Heap.get? _ p.1 = some p.2 := fun p hp => (NX5 p (.tail _ (.tail _ (.tail _ (.tail _ (.tail _ (.tail _ (.tail _ hp)))))))).1
        refine ⟨lb, vsB, _, _, rfl, News.isList NX5 (.tail _ (.head _)), by rw [hbs.len]; exact s_le 400 hbn (by decide), FX5, NX5, ?dturn, ?ddone⟩
        case dturn =>
          intro C i v ys more h₃ tk₃ m₃ E' hC hv hP hn3 hx3 hmore
          have h9 := hbs.get hv
          obtain ⟨a9, o9, b9, k9, t9, u9, e9, hm9, hc9, hd9, hb9⟩ := h9
          subst e9
          have hk9 : k9 ≤ 3 := (hbf _ (List.mem_of_getElem? hb9)).2.2.2
          have ht9 : IsTup h₃ a9 #[.int b9 t9, .int (k9 : Nat) u9] := ⟨o9, hx3 _ _ (htu5 _ hm9), hc9, _, hd9⟩
          refine assign_Tuple_tuple rfl ht9 rfl rfl (fun h₄ hs₄ => ?_)
          have hCs : C ≠ h₃.objs.size := by
            obtain ⟨o, es, ep, e, _⟩ := hn3
            exact Nat.ne_of_lt (Heap.lt_size e)
          have hn4 := hn3.at fun o e => hs₄ _ o hCs e
          refine assignInOrder_cons ?_
          refine wpAny_assign_Name (wpAny_storeName_local (env := compEnvC _ _ C _) (by exact rfl) hn4 (fun h₅ hn₅ hs₅ => ?_) (by exact rfl))
          refine assignInOrder_cons ?_
          refine wpAny_assign_Name (wpAny_storeName_local (env := compEnvC _ _ C _) (by exact rfl) hn₅ (fun h₆ hn₆ hs₆ => ?_) (by exact rfl))
          refine assignInOrder_nil ?_
          refine wpAny_tests_nil ?_
          rw [if_pos rfl]
          have k6 : ∀ b o, b ≠ C → h₃.get? b = some o → h₆.get? b = some o := fun b o hb e => (hs₆.2 b hb).trans ((hs₅.2 b hb).trans (hs₄ b o (fun z => Nat.lt_irrefl _ (z ▸ Heap.lt_size e)) e))
          have hkC : ∀ b o, h₀.get? b = some o → b ≠ C := fun b o e z => by
            have := Heap.lt_size (FX5.keep b o e)
            rw [z] at this
            exact Nat.lt_irrefl _ (Nat.lt_of_lt_of_le this hC)
          have F3x := FX5.keeps hx3
          have k7 : ∀ b o, h₀.get? b = some o → h₆.get? b = some o := fun b o e => k6 b o (hkC b o e) (F3x.keep b o e)
          have F6 : Fr h₀ L h₆ _ := ⟨F3x.ns.at (fun o e => k6 _ o (fun z => by
            have h2 := FX5.ns.lt
            rw [z] at h2
            exact Nat.lt_irrefl _ (Nat.lt_of_lt_of_le h2 hC)) e), k7, F3x.above⟩
          repeat' (first | (k_unfold; (try dsimp only)) | ((fail_if_success (with_reducible show wpAny _ _ (eval (PySem.Expr.Call _ _ _ _) _) _ _ _)); first | walk1 | (dsimp only; walk1)))
          refine Call_ ?_
          refine nmCG (K := K0 w.params) (mg := mg) (v := .ref 861) (T.g.keeps k7) (X.keeps k7) (by kernel_rfl) ?_ rfl rfl rfl (by decide)
          refine callWith_K (K := K0 w.params) X (by kernel_rfl) ?_
          refine args_cons ?_
          refine nmL hn₆ (by rfl) ?_ rfl rfl (by decide)
          refine args_nil ⟨X.keeps k7, ?_⟩
          refine spec_own (mean := mean) (mg := mg) (mb := mb) B F6 X T rfl ?dka ?dkb ?_
          case dka => ktr_room
          case dkb => ktr_room
          intro l1 tk7 h7 us1 x7 f7 pl7 hu7
          have hn7 := hn₆.keeps x7
          repeat' (first | (k_unfold; (try dsimp only)) | ((fail_if_success (with_reducible show wpAny _ _ (eval (PySem.Expr.BinOp _ _ _ _) _) _ _ _)); first | walk1 | (dsimp only; walk1)))
          refine IVal.use (v := 3 - (k9 : Int)) (IVal.sub IVal.const (IVal.nmL hn7 (by rfl) (by rfl) (by rfl) (by decide))) ?_
          intro t71 tk71
          repeat' (first | (k_unfold; (try dsimp only)) | ((fail_if_success (with_reducible show wpAny _ _ (subscriptTail _ _ _ _) _ _ _)); first | walk1 | (dsimp only; walk1)))
          have hus1 : us1.length = 4 := by rw [StrsAre.length hu7, signs_len]
          refine slice_listT pl7.isList .none (.int _ _) ?_ (by rw [List.size_toArray, hus1, sizeLine_eq]; decide)
          have x8 : ∀ (A B : Obj), Ext h7 ((h7.push A).push B) := fun A B b o e => Heap.get?_push_of_some _ (Heap.get?_push_of_some _ e)
          have F8 : ∀ (A B : Obj), Fr h₀ L ((h7.push A).push B) _ := fun A B => (F6.keeps x7).keeps (x8 A B)
          repeat' (first | (k_unfold; (try dsimp only)) | ((fail_if_success (with_reducible show wpAny _ _ (eval (PySem.Expr.Call _ _ _ _) _) _ _ _)); first | walk1 | (dsimp only; walk1)))
          have k8 : ∀ (A B : Obj), ∀ b o, h₀.get? b = some o → ((h7.push A).push B).get? b = some o := fun A B b o e => x8 A B b o (x7 b o (k7 b o e))
          refine Call_ ?_
          refine nmCG (K := K0 w.params) (mg := mg) (v := .ref 861) (T.g.keeps (k8 _ _)) (X.keeps (k8 _ _)) (by kernel_rfl) ?_ rfl rfl rfl (by decide)
          refine callWith_K (K := K0 w.params) X (by kernel_rfl) ?_
          refine args_cons ?_
          refine nmL (hn7.keeps (x8 _ _)) (by rfl) ?_ rfl rfl (by decide)
          refine args_nil ⟨X.keeps (k8 _ _), ?_⟩
          refine spec_own (mean := mean) (mg := mg) (mb := mb) B (F8 _ _) X T rfl ?dkc ?dkd ?_
          case dkc => ktr_room
          case dkd => ktr_room
          intro l2 tk9 h9 us2 x9 f9 pl9 hu9
          have hn9 := (hn7.keeps (x8 _ _)).keeps x9
          have hs9 := (upto_list h7 _ us1 hk9).at fun o e => x9 _ o e
          repeat' (first | (k_unfold; (try dsimp only)) | ((fail_if_success (with_reducible show wpAny _ _ (eval (PySem.Expr.BinOp _ PySem.Operator.Sub _ _) _) _ _ _)); first | walk1 | (dsimp only; walk1)))
          refine IVal.use (v := 3 - (k9 : Int)) (IVal.sub IVal.const (IVal.nmL hn9 (by rfl) (by rfl) (by rfl) (by decide))) ?_
          intro t91 tk91
          repeat' (first | (k_unfold; (try dsimp only)) | ((fail_if_success (with_reducible show wpAny _ _ (subscriptTail _ _ _ _) _ _ _)); first | walk1 | (dsimp only; walk1)))
          obtain ⟨u92, hu92⟩ := StrsAre.get hu9 (3 - k9) (sign b9 (3 - k9)) (signs_get _ (Nat.lt_succ_of_le (Nat.sub_le 3 k9)))
          refine item_listR pl9.isList (x := .str (sign b9 (3 - k9)) u92) (i_le hk9) (by omega) (by rw [i_sub]; simpa using hu92) ?_
          repeat' (first | (k_unfold; (try dsimp only)) | ((fail_if_success (with_reducible show wpAny _ _ (binaryOp PySem.Operator.Mult _ _) _ _ _)); first | walk1 | (dsimp only; walk1)))
          refine SB.mul (by rw [sign_eq]; exact mulOk_sgl _) (fun t93 tk93 => ?_)
          repeat' (first | (k_unfold; (try dsimp only)) | ((fail_if_success (with_reducible show wpAny _ _ (newList _) _ _ _)); first | walk1 | (dsimp only; walk1)))
          refine wpAny_newObj_type ?_
          repeat' (first | (k_unfold; (try dsimp only)) | ((fail_if_success (with_reducible show wpAny _ _ (binaryOp PySem.Operator.Add _ _) _ _ _)); first | walk1 | (dsimp only; walk1)))
          refine add_listsP (hs9.push _) ⟨_, Heap.get?_push_size _ rfl, rfl, _, rfl⟩ (by rw [List.length_take, hus1, sizeLine_eq]; simp only [List.length_cons, List.length_nil]; omega) ?_
          refine cend_list hn9 (fun b o hb e => x9 _ _ (x8 _ _ b o (x7 b o (k6 b o hb e)))) ?_
          show RowsAre _ _ (List.map longRow (List.take (i + 1) bs))
          rw [List.take_add_one, hb9]
          show RowsAre _ _ (List.map longRow (List.take i bs ++ [(b9, k9)]))
          rw [List.map_append]
          exact (hP.mono fun p hp => List.mem_cons_of_mem _ hp).snoc (.head _) ⟨rfl, rfl, StrsAre.append' (strsAre_take hu7 (3 - k9)) (.cons _ _ .nil)⟩
        case ddone =>
          intro lG vG mG h10 tk10 cG F10 N10' n10 fG hPG
          rw [hbs.len, List.take_length] at hPG
          have N10 : News h₀ L h10 ((lG, W.listOf vG.toArray cG) :: (lM, W.listOf vM.toArray 0) :: (lb, W.listOf vsB.toArray cB) :: (L + 1 + 1 + 1 + 1, o4) :: (L + 1 + 1 + 1, o3) :: (L + 1 + 1, o2) :: (L + 1, o1) :: (804, tabObj #[]) :: (tups ++ mG)) := fun q hq => N10' q (mem_swap hq)
          have nG : ∀ p ∈ (lM, W.listOf vM.toArray 0) :: (lb, W.listOf vsB.toArray cB) :: (L + 1 + 1 + 1 + 1, o4) :: (L + 1 + 1 + 1, o3) :: (L + 1 + 1, o2) :: (L + 1, o1) :: (804, tabObj #[]) :: (tups ++ mG), p.1 ≠ lG := fun q hq => n10 q (mem_swap0 hq)
          clear N10' n10
          clear nG fG
          repeat' (first | (k_unfold; (try dsimp only)) | ((fail_if_success (with_reducible show wpAny _ _ (execs _ _) _ _ _)); first | walk1 | (dsimp only; walk1)))
          rename Fr h₀ _ _ _ => F11
          rename News h₀ _ _ _ => N11
          have hnn : (numsL lo hi bs zS).length ≤ 550 := by
            unfold numsL
            rw [List.length_append, List.length_append, List.length_map, flat_len]
            exact Nat.le_trans (num_len hbn hzS) (by decide)
          have hbk : ∀ b ∈ bs, 0 ≤ b.1 ∧ b.1 < 16777216 ∧ b.2 ≤ 3 := by
            intro b hb
            obtain ⟨f1, f2, f3, f4⟩ := hbf b hb
            have hp := pw_pos b.2
            clear f3
            exact ⟨by omega, by omega, f4⟩
          have heq : ∀ n ∈ numsL lo hi bs zS, Mine.cB bs (signs n 4) = (decide (lo ≤ n) && decide (n < hi)) := by
            rw [← hbs9]
            intro n hn
            obtain ⟨c1, c2⟩ := nums_bound b1 b2 b4 hn
            exact cov_own (by omega) (by omega) c1 c2
          have hlg : ∀ b ∈ bs, Mine.cB bs (longRow b) = false := by
            rw [← hbs9]
            intro b hb
            exact cov_long (by omega) (by omega) hb
          exact law_end (mean := mean) (mg := mg) (mb := mb) B F11 X T N11 l804 G0 d1 d2 d3 d4 hbs hPG hIM' hbn hnn hbk heq hlg (fun tk' h' dr' g' ps' a b c => hret tk' h' dr' g' ps' a b c))
end Mine
end

section -- L2
open PySem PySem.W PyProof.Rows PySem.Calls PySem.Spec
namespace Mine

noncomputable def lowT (x : Int) (k : Nat) : Int := (60 + ((x.fdiv 61).fdiv (4 ^ ((k : Int)).toNat)).fmod 4) * 64 ^ ((k : Int)).toNat
noncomputable def highT (y : Int) (k : Nat) : Int := ((y.fdiv 3).fdiv (4 ^ ((k : Int)).toNat)).fmod 4 * 64 ^ ((k : Int)).toNat
noncomputable def lowZ (x : Int) : Int := x.fmod 61 * 64 ^ 3 + ((List.range 3).map (lowT x)).sum
noncomputable def highZ (x y : Int) : Int := (x.fmod 61 + 1 + y.fmod 3) * 64 ^ 3 + ((List.range 3).map (highT y)).sum
theorem fm4 (q : Int) : 0 ≤ q.fmod 4 ∧ q.fmod 4 ≤ 3 := by
  rw [Int.fmod_eq_emod_of_nonneg _ (by decide)]
  omega
theorem bounds_ok (x y : Int) : 4096 ≤ lowZ x ∧ lowZ x < highZ x y ∧ highZ x y - lowZ x ≤ 1048576 ∧ highZ x y + 4096 < 16777216 := by
  have p0 : (64 : Int) ^ (((0 : Nat) : Int)).toNat = 1 := by decide
  have p1 : (64 : Int) ^ (((1 : Nat) : Int)).toNat = 64 := by decide
  have p2 : (64 : Int) ^ (((2 : Nat) : Int)).toNat = 4096 := by decide
  have p3 : (64 : Int) ^ 3 = 262144 := by decide
  have h1 : (List.range 3).map (lowT x) = [lowT x 0, lowT x 1, lowT x 2] := rfl
  have h2 : (List.range 3).map (highT y) = [highT y 0, highT y 1, highT y 2] := rfl
  have a : 0 ≤ x.fmod 61 ∧ x.fmod 61 ≤ 60 := by
    rw [Int.fmod_eq_emod_of_nonneg _ (by decide)]
    omega
  have b : 0 ≤ y.fmod 3 ∧ y.fmod 3 ≤ 2 := by
    rw [Int.fmod_eq_emod_of_nonneg _ (by decide)]
    omega
  have c0 := fm4 ((x.fdiv 61).fdiv (4 ^ (((0 : Nat) : Int)).toNat))
  have c1 := fm4 ((x.fdiv 61).fdiv (4 ^ (((1 : Nat) : Int)).toNat))
  have c2 := fm4 ((x.fdiv 61).fdiv (4 ^ (((2 : Nat) : Int)).toNat))
  have e0 := fm4 ((y.fdiv 3).fdiv (4 ^ (((0 : Nat) : Int)).toNat))
  have e1 := fm4 ((y.fdiv 3).fdiv (4 ^ (((1 : Nat) : Int)).toNat))
  have e2 := fm4 ((y.fdiv 3).fdiv (4 ^ (((2 : Nat) : Int)).toNat))
  unfold lowZ highZ
  rw [h1, h2]
  simp only [List.sum_cons, List.sum_nil]
  unfold lowT highT
  rw [p0, p1, p2, p3]
  generalize ((x.fdiv 61).fdiv (4 ^ (((0 : Nat) : Int)).toNat)).fmod 4 = q0 at *
  generalize ((x.fdiv 61).fdiv (4 ^ (((1 : Nat) : Int)).toNat)).fmod 4 = q1 at *
  generalize ((x.fdiv 61).fdiv (4 ^ (((2 : Nat) : Int)).toNat)).fmod 4 = q2 at *
  generalize ((y.fdiv 3).fdiv (4 ^ (((0 : Nat) : Int)).toNat)).fmod 4 = r0 at *
  generalize ((y.fdiv 3).fdiv (4 ^ (((1 : Nat) : Int)).toNat)).fmod 4 = r1 at *
  generalize ((y.fdiv 3).fdiv (4 ^ (((2 : Nat) : Int)).toNat)).fmod 4 = r2 at *
  generalize x.fmod 61 = a0 at *
  generalize y.fmod 3 = b0 at *
  refine ⟨?_, ?_, ?_, ?_⟩ <;> omega
theorem range_succ_map {α : Type} (f : Nat → α) (i : Nat) : (List.range (i + 1)).map f = (List.range i).map f ++ [f i] := by rw [List.range_succ, List.map_append]; rfl
theorem pow4_ne (k : Nat) : (4 : Int) ^ k ≠ 0 := Int.ne_of_gt (Int.pow_pos (by decide))
theorem law_body {w : World} {mean : ExcName → Option Value} {mg mb : Str → Option Value} {h₀ : Heap} {L fa ls : Addr} {cd : Value} {s : Shared} {Q : Flow → Shared → Prop} {E : Value → Shared → Prop} {vs : List Value} {zs : List Int} {o1 o2 o3 o4 : Obj}
    (B : Below callerA h₀ [] h₀) (F : Fr h₀ L s.heap (bindL (envOfC dLaw.name dLaw.scope L fa cd).kindOf [(Str.ofString "script", .ref ls)] fun _ => none)) (X : (K0 w.params).In h₀) (T : Top topProg lo2 mean mg mb h₀)
    (N : News h₀ L s.heap [(L + 1 + 1 + 1 + 1, o4), (L + 1 + 1 + 1, o3), (L + 1 + 1, o2), (L + 1, o1), (804, tabObj #[])]) (l804 : 804 < L) (G0 : AllBare s.gens)
    (d1 : o1.data = .cell none) (d2 : o2.data = .cell none) (d3 : o3.data = .cell none) (d4 : o4.data = .cell none)
    (hls : h₀.IsList ls vs.toArray) (hzs : IntsAre vs zs) (hzl : zs.length ≤ 63)
    (hret : ∀ tk' h' dr' g' ps', (∀ b o, h₀.get? b = some o → h'.get? b = some o) → h'.get? 804 = some (tabObj ps') → AllBare g' → Q (.ret (.bool true)) { s with heap := h', gens := g', drawn := dr', toks := tk' }) :
    wpAny (model PySem.Challenge.rw_oy0371_01.row.prog w) (callerA.deeper (envOfC dLaw.name dLaw.scope L fa cd)) (execs dLaw.body (envOfC dLaw.name dLaw.scope L fa cd)) Q E s := by
  k_lt2 l804
  w_on
  w_strict (
    repeat' (first | (k_unfold; (try dsimp only)) | ((fail_if_success (with_reducible show wpAny _ _ (assign _ _ _) _ _ _)); first | walk1 | (dsimp only; walk1)))
    rename IntsAre _ (List.take 2 (List.take 2 zs ++ _)) => hI2
    rw [two_of] at hI2
    obtain ⟨tx, ty, rfl⟩ := ints_two hI2
    clear hI2
    repeat' (first | (k_unfold; (try dsimp only)) | ((fail_if_success (with_reducible show wpAny _ _ (exec (Stmt.Assign _ (PySem.Expr.BinOp _ _ _ _) _) _) _ _ _)); first | walk1 | (dsimp only; walk1)))
    rename Fr h₀ L _ _ => FA
    rename News h₀ L _ _ => NA'
    have NA : News h₀ L _ [(L + 1 + 1 + 1 + 1, o4), (L + 1 + 1 + 1, o3), (L + 1 + 1, _), (L + 1, _), (804, tabObj #[])] :=
      fun q hq => NA' q (.tail _ (.tail _ (.tail _ (.tail _ hq))))
    clear NA'
    have cX : Heap.IsCell _ (L + 1) (some (.int (xz zs) tx)) := isCell_of NA (.tail _ (.tail _ (.tail _ (.head _)))) (by assumption)
    have cY : Heap.IsCell _ (L + 1 + 1) (some (.int (yz zs) ty)) := isCell_of NA (.tail _ (.tail _ (.head _))) (by assumption)
    generalize hxz : xz zs = x at *
    generalize hyz : yz zs = y at *
    repeat' (first | (k_unfold; (try dsimp only)) | ((fail_if_success (with_reducible show wpAny _ _ (eval (PySem.Expr.ListComp _ _ _ _) _) _ _ _)); first | walk1 | (dsimp only; walk1)))
    refine' evalCompN (n := 3) rfl ?e1 ?e2 ?e3 ?hclos ?hcell ?hkind ?hnames (fun i ys more => more = [] ∧ IntsAre ys ((List.range i).map (lowT x))) ⟨rfl, .nil⟩ ?hlen ?hh ?hs
    case e1 => decide
    case e2 => decide
    case e3 => decide
    case hclos => with_unfolding_all rfl
    case hcell => decide
    case hkind => rfl
    case hnames => decide
    case hs => (intro _; rfl)
    case hlen =>
      intro i ys more hP
      rw [intsAre_len hP.2, List.length_map, List.length_range]
      exact Nat.le_refl _
    repeat' (first | (k_unfold; (try dsimp only)) | ((fail_if_success (with_reducible show SrcN _ _ _ _ _ _ _ _ _ _ _ _ _ _)); first | walk1 | (dsimp only; walk1)))
    rename_i hR1 hF1 hN1 hE1
    refine ⟨_, _, _, _, rfl, hR1, ?turn, ?done⟩
    case turn =>
      intro C i t' ys more h₃ tk₃ m₃ E' hC hi hP hn3 hx3 hmore
      have cX3 := isCell_ext (isCell_ext cX hE1) hx3
      refine wpAny_assign_Name (wpAny_storeName_local (env := compEnvC _ _ C _) (by exact rfl) hn3 (fun h₄ hn₄ hs₄ => ?_) (by exact rfl))
      refine wpAny_tests_nil ?_
      rw [if_pos rfl]
      have hne : L + 1 ≠ C := by
        obtain ⟨o, ho, -⟩ := isCell_ext cX hE1
        exact Nat.ne_of_lt (Nat.lt_of_lt_of_le (Heap.lt_size ho) hC)
      have cX4 := isCell_but cX3 hs₄.extBut hne
      refine IVal.use (v := lowT x i) ?_ ?_
      · refine IVal.mul (IVal.add IVal.const (IVal.mod (IVal.div (IVal.div ?_ IVal.const ?_ ?_) (IVal.pow IVal.const ?_ ?_ ?_ ?_) ?_ ?_) IVal.const ?_)) (IVal.pow IVal.const ?_ ?_ ?_ ?_) ?_
        · exact IVal.nmC (c := L + 1) (by rfl) cX4 (by rfl) (by rfl) (by decide)
        · decide
        · decide
        · exact IVal.nmL hn₄ (by rfl) (by rfl) (by rfl) (by decide)
        · exact Int.natCast_nonneg _
        · exact i_nat_le hi (by decide)
        · decide
        · exact pow4_ne _
        · rcases (n_three hi) with rfl | rfl | rfl <;> decide
        · decide
        · exact IVal.nmL hn₄ (by rfl) (by rfl) (by rfl) (by decide)
        · exact Int.natCast_nonneg _
        · exact i_nat_le hi (by decide)
        · decide
        · refine IntMulOk.of_right ?_
          rcases (n_three hi) with rfl | rfl | rfl <;> decide
      · intro t5 tk5
        refine ⟨h₄, _, _, [], rfl, hn₄, fun b o hb ho => hs₄.extBut b o hb ho, (fun p hp => nomatch hp), by simp [hP.1], ?_⟩
        rw [range_succ_map]
        exact intsAre_append hP.2 (.cons _ _ .nil)
    case done =>
      intro D ys more h6 tk6 hx6 hDn hpl hP hmore
      obtain ⟨rfl, hP⟩ := hP
      have F6 := Fr.keeps hF1 hx6
      have N6 := News.grown hN1 hx6
      clear hF1 hN1 hE1 hR1
      repeat' (first | (k_unfold; (try dsimp only)) | ((fail_if_success (with_reducible show wpAny _ _ (call (Value.builtin "sum") _) _ _ _)); first | walk1 | (dsimp only; walk1)))
      refine sumK rfl F6 N6 hpl.isList hP ?_
      intro h7 tk7 t7 F7 N7
      clear F6 N6
      repeat' (first | (k_unfold; (try dsimp only)) | ((fail_if_success (with_reducible show wpAny _ _ (exec (Stmt.Assign _ (PySem.Expr.BinOp _ _ _ _) _) _) _ _ _)); first | walk1 | (dsimp only; walk1)))
      rename Fr h₀ L _ _ => FA
      rename News h₀ L _ _ => NA
      have cX : Heap.IsCell _ (L + 1) (some (.int x tx)) := isCell_of NA (.tail _ (.tail _ (.tail _ (.head _)))) (by assumption)
      have cY : Heap.IsCell _ (L + 1 + 1) (some (.int y ty)) := isCell_of NA (.tail _ (.tail _ (.head _))) (by assumption)
      repeat' (first | (k_unfold; (try dsimp only)) | ((fail_if_success (with_reducible show wpAny _ _ (eval (PySem.Expr.ListComp _ _ _ _) _) _ _ _)); first | walk1 | (dsimp only; walk1)))
      refine' evalCompN (n := 3) rfl ?be1 ?be2 ?be3 ?bhclos ?bhcell ?bhkind ?bhnames (fun i ys more => more = [] ∧ IntsAre ys ((List.range i).map (highT y))) ⟨rfl, .nil⟩ ?bhlen ?bhh ?bhs
      case be1 => decide
      case be2 => decide
      case be3 => decide
      case bhclos => with_unfolding_all rfl
      case bhcell => decide
      case bhkind => rfl
      case bhnames => decide
      case bhs => (intro _; rfl)
      case bhlen =>
        intro i ys more hP
        rw [intsAre_len hP.2, List.length_map, List.length_range]
        exact Nat.le_refl _
      repeat' (first | (k_unfold; (try dsimp only)) | ((fail_if_success (with_reducible show SrcN _ _ _ _ _ _ _ _ _ _ _ _ _ _)); first | walk1 | (dsimp only; walk1)))
      rename_i hR1b hF1b hN1b hE1b
      refine ⟨_, _, _, _, rfl, hR1b, ?bturn, ?bdone⟩
      case bturn =>
        intro C i t' ys more h₃ tk₃ m₃ E' hC hi hP hn3 hx3 hmore
        have cY3 := isCell_ext (isCell_ext cY hE1b) hx3
        refine wpAny_assign_Name (wpAny_storeName_local (env := compEnvC _ _ C _) (by exact rfl) hn3 (fun h₄ hn₄ hs₄ => ?_) (by exact rfl))
        refine wpAny_tests_nil ?_
        rw [if_pos rfl]
        have hne : L + 1 + 1 ≠ C := by
          obtain ⟨o, ho, -⟩ := isCell_ext cY hE1b
          exact Nat.ne_of_lt (Nat.lt_of_lt_of_le (Heap.lt_size ho) hC)
        have cY4 := isCell_but cY3 hs₄.extBut hne
        refine IVal.use (v := highT y i) ?_ ?_
        · refine IVal.mul (IVal.mod (IVal.div (IVal.div ?_ IVal.const ?_ ?_) (IVal.pow IVal.const ?_ ?_ ?_ ?_) ?_ ?_) IVal.const ?_) (IVal.pow IVal.const ?_ ?_ ?_ ?_) ?_
          · exact IVal.nmC (c := L + 1 + 1) (by rfl) cY4 (by rfl) (by rfl) (by decide)
          · decide
          · decide
          · exact IVal.nmL hn₄ (by rfl) (by rfl) (by rfl) (by decide)
          · exact Int.natCast_nonneg _
          · exact i_nat_le hi (by decide)
          · decide
          · exact pow4_ne _
          · rcases (n_three hi) with rfl | rfl | rfl <;> decide
          · decide
          · exact IVal.nmL hn₄ (by rfl) (by rfl) (by rfl) (by decide)
          · exact Int.natCast_nonneg _
          · exact i_nat_le hi (by decide)
          · decide
          · refine IntMulOk.of_right ?_
            rcases (n_three hi) with rfl | rfl | rfl <;> decide
        · intro t5 tk5
          refine ⟨h₄, _, _, [], rfl, hn₄, fun b o hb ho => hs₄.extBut b o hb ho, (fun p hp => nomatch hp), by simp [hP.1], ?_⟩
          rw [range_succ_map]
          exact intsAre_append hP.2 (.cons _ _ .nil)
      case bdone =>
        intro D ys more h6b tk6b hx6b hDn hpl hP hmore
        obtain ⟨rfl, hP⟩ := hP
        have F6b := Fr.keeps hF1b hx6b
        have N6b := News.grown hN1b hx6b
        clear hF1b hN1b hE1b hR1b
        repeat' (first | (k_unfold; (try dsimp only)) | ((fail_if_success (with_reducible show wpAny _ _ (call (Value.builtin "sum") _) _ _ _)); first | walk1 | (dsimp only; walk1)))
        refine sumK rfl F6b N6b hpl.isList hP ?_
        intro h7b tk7b t7b F7b N7b
        clear F6b N6b
        repeat' (first | (k_unfold; (try dsimp only)) | ((fail_if_success (with_reducible show wpAny _ _ (execs _ _) _ _ _)); first | walk1 | (dsimp only; walk1)))
        rename Fr h₀ L _ _ => FE
        rename News h₀ L _ _ => NE
        obtain ⟨z1, z2, z3, z4⟩ := bounds_ok x y
        exact law_rest (lo := lowZ x) (hi := highZ x y) (mean := mean) (mg := mg) (mb := mb) B FE X T NE l804 G0 (by assumption) (by assumption) (by assumption) (by assumption) hls hzs hzl z1 z2 z3 z4 (fun tk' h' dr' g' ps' a b c => hret tk' h' dr' g' ps' a b c))
end Mine
end

section -- L1
open PySem PySem.W PyProof.Rows PySem.Calls PySem.Spec
namespace Mine

theorem law_walk : WalkO q0 loose0 (XL q0 []) (kmHook K0 as0 as_eq ts0).says PySem.Challenge.rw_oy0371_01.row.toRowW dLaw [] fun f vs => PySem.call f vs := by
  w_on
  w_strict (
    intro w s₀ s₁ mg mb G Y fa o pm cd doc dV kV ho hd hcd hD hmg hg args vals as hpre hlay hrd hwl hlo
    have KX := km_in_of Y
    have hT8 := km_tabs_of Y
    have X := (Ground.X G).1
    have V := (Ground.X G).2
    refine Ground.open G ?_
    intro T B D TE TW
    try (refine guard_noD D (by decide +kernel) ?_; clear D)
    have hT9 : TabsAt [(808, 804)] _ := List.forall_mem_cons.mpr ⟨⟨codeHd_of_K (c := 808) (P := 804) KX (by kernel_rfl), hT8 804 (by k_mem)⟩, fun p hp => nomatch hp⟩
    clear X V B hmg
    wrow_args hpre hlay hrd hwl hlo
    first | refine callC_kw (enter_call ?_) | refine enter_call ?_
    w_top on
    refine own_post (.bool true) hT9 (fun _ _ => rfl) (fun h => .bool true) ?hpost ?_
    case hpost => first | with_unfolding_all rfl | kernel_rfl | (simp; done)
    w_call any ho hd hcd hD T F
    clear hd
    kn_ghosts F T
    rename IntsAre _ _ => hIz
    rename (Below callerA _ [] _) => BB
    rename (Fr (ghostOf _ _) _ _ _) => FF
    rename (News (ghostOf _ _) _ _ _) => NN
    rename (Top topProg _ _ _ _ _) => TT
    rename (Frag.In _ (ghostOf _ _)) => XX
    refine law_body (mean := ExcName.means s₀.heap) (mg := mg) (mb := mb) BB FF XX TT NN (by assumption) (AllBare.of_eq hg) (by assumption) (by assumption) (by assumption) (by assumption) lifted hIz (by omega) ?_
    intro tk' h' dr' g' ps' kp q hb
    exact ⟨rfl, fun b o hne e => kp b o (ghost_ne e (by simpa using hne)), ⟨ps', q⟩, rfl, hb⟩)
theorem law_holds : PySem.Challenge.rw_oy0371_01.Holds := hd law_walk
end Mine
end

theorem PySem.Challenge.cw_oy0371_01_holds : PySem.Challenge.rw_oy0371_01.Holds := by
  exact Mine.law_holds
