import PyProof.Rows.All
import Wide.All
import OpenK.AllK
import Lean
import PySem.Challenge.RW_nq0262_01
open PySem PySem.W PyProof.Rows
set_option Elab.async false
set_option maxRecDepth 100000
set_option compiler.extract_closed false
section
open PySem PySem.W PyProof.Rows
set_option maxRecDepth 100000
set_option maxHeartbeats 0
namespace Mine
noncomputable abbrev thePr : Program := PySem.Challenge.pw_nq0262_01
noncomputable abbrev theQ : Program := view thePr [70]
noncomputable def theLoose : List Str := (["deque", "_wall", "_whence", "_index", "UnsupportedOperation", "IOBase", "BufferedIOBase", "TextIOBase", "BytesIO", "StringIO", "_kind", "_fspath", "_check_arg_types", "isabs", "join", "dirname", "shlex", "_buffer", "_truth", "_B64", "b2a_base64", "b64encode", "standard_b64encode", "_urlsafe_encode_translation", "urlsafe_b64encode", "S_IMODE", "S_IFMT", "S_IFDIR", "S_IFCHR", "S_IFBLK", "S_IFREG", "S_IFIFO", "S_IFLNK", "S_IFSOCK", "S_ISUID", "S_ISGID", "S_ISVTX", "S_IRUSR", "S_IWUSR", "S_IXUSR", "S_IRGRP", "S_IWGRP", "S_IXGRP", "S_IROTH", "S_IWOTH", "S_IXOTH", "_filemode_table", "filemode", "_law_letters", "_law_mode", "_law_figures", "_law_parted", "_law_all_parted", "_law_octets", "_law_row", "_law_text", "_law_kind", "_law_cut", "_law_read", "_law_same", "_law_plain", "_law_runs", "_law_pair"] : List String).map Str.ofString

theorem through_of {t : Thread} {f : Flow} (h : endAt 0 t = some f) : through t = true := by
  obtain ⟨cur, code, pos, stack⟩ := t
  unfold endAt at h
  cases stack with
  | nil =>
    cases cur with
    | pure x => cases x <;> simp_all [through]
    | _ => simp at h
  | cons => simp at h
theorem not_through {t : Thread} (h : endAt 0 t = none) : through t = false := by
  obtain ⟨cur, code, pos, stack⟩ := t
  unfold endAt at h
  cases stack with
  | nil =>
    cases cur with
    | pure x => cases x <;> simp_all [through]
    | _ => simp [through]
  | cons => simp [through]
theorem topRun_of {tb : String → Option Builtin} {p : Program} {w : World} {n₀ : Nat} {ann : Option Value} : ∀ {n : Nat} {s s' : Shared} {t : Thread} {f : Flow} {c : Code} {q : Pos},
    segRun tb p w n₀ ann 0 n s t = some (f, s', c, q) → topRun tb p w n₀ ann n s t = some s'
  | 0, _, _, _, _, _, _, h => by simp [segRun] at h
  | n + 1, s, s', t, f, c, q, h => by
    unfold segRun at h
    unfold topRun
    cases he : endAt 0 t with
    | some g =>
      rw [he] at h
      rw [through_of he]
      simp only [Option.some.injEq, Prod.mk.injEq] at h
      rw [h.2.1]
    | none =>
      rw [he] at h
      rw [not_through he]
      cases hk : stepOk n₀ ann t with
      | false => rw [hk] at h; cases h
      | true =>
        rw [hk] at h
        cases hs : step (denote tb) p w s t with
        | halt o s₂ => rw [hs] at h; cases h
        | go s₂ t₂ => rw [hs] at h; exact topRun_of h

noncomputable def insAll : List Obj → Nat → BT → Option (BT × Nat)
  | [], n, t => some (t, n)
  | o :: r, n, t => match ((t.ins n o).get n).isSome with
    | true => insAll r (n + 1) (t.ins n o)
    | false => none
theorem insAll_abs {life : Life} : ∀ (l : List Obj) (n : Nat) (t : BT) {t' : BT} {n' : Nat}, insAll l n t = some (t', n') → absHeap t' n' life = l.foldl (fun h o => h.push o) (absHeap t n life)
  | [], n, t, t', n', h => by
    simp only [insAll, Option.some.injEq, Prod.mk.injEq] at h
    rw [← h.1, ← h.2]; rfl
  | o :: r, n, t, t', n', h => by
    unfold insAll at h
    cases e : ((t.ins n o).get n).isSome with
    | false => rw [e] at h; cases h
    | true =>
      rw [e] at h
      rw [insAll_abs r (n + 1) (t.ins n o) h, absHeap_ins e]; rfl
theorem pushes (life : Life) : ∀ (l l' : List Obj), l.foldl (fun h o => Heap.push h o) ⟨l'.toArray, life⟩ = ⟨(l' ++ l).toArray, life⟩
  | [], l' => by simp
  | o :: r, l' => by
    rw [List.foldl_cons]
    have : Heap.push ⟨l'.toArray, life⟩ o = ⟨(l' ++ [o]).toArray, life⟩ := by simp [Heap.push]
    rw [this, pushes life r (l' ++ [o])]
    simp
noncomputable def toT (s : Shared) : Option SharedT := match insAll s.heap.objs.toList 0 .nil with
  | some (t, n) => some ⟨t, n, s.heap.life, s.gens, s.drawn, s.toks, s.os⟩
  | none => none
theorem toT_abs {s : Shared} {t : SharedT} (h : toT s = some t) : t.abs = s := by
  unfold toT at h
  cases e : insAll s.heap.objs.toList 0 .nil with
  | none => rw [e] at h; cases h
  | some r =>
    obtain ⟨T, n⟩ := r
    rw [e] at h
    cases h
    unfold SharedT.abs
    dsimp only
    rw [insAll_abs _ _ _ e]
    have : absHeap .nil 0 s.heap.life = ⟨([] : List Obj).toArray, s.heap.life⟩ := rfl
    rw [this, pushes]
    obtain ⟨⟨objs, life⟩, gens, drawn, toks, os⟩ := s
    simp

section
variable {α : Type} (p q : Program) (loose : List Str) (Yf : Shared → α)
noncomputable def fastTop (w : World) (N : Nat) (s₀ : Shared) : Option Shared :=
  match s₀.heap.isNs mainGlobals && s₀.gens.size == 0 with
  | true => (toT s₀).bind fun t => (Fast.tw10110043849684766642 Fast.tw14364793385576792824 p w s₀.heap.objs.size (s₀.heap.nsMap mainGlobals "__annotations__") 0 N t (topStub p)).bind fun r =>
      match staticsOk (importedModules p.main.body) s₀.heap r.2.1.abs.heap && namesBound p r.2.1.abs.heap && gensDone r.2.1.abs && laidKept s₀.heap r.2.1.abs.heap with
      | true => some r.2.1.abs
      | false => none
  | false => none
theorem fastTop_is {w : World} {N : Nat} {s₀ s₁ : Shared} (h : fastTop p w N s₀ = some s₁) : topFrom treeTable p w N s₀ = some s₁ := by
  unfold fastTop at h
  unfold topFrom
  cases e : s₀.heap.isNs mainGlobals && s₀.gens.size == 0 with
  | false => rw [e] at h; cases h
  | true =>
    rw [e] at h
    dsimp only at h ⊢
    obtain ⟨t, ht, h⟩ := Option.bind_eq_some_iff.mp h
    obtain ⟨r, hr, h⟩ := Option.bind_eq_some_iff.mp h
    rw [← Fast.te10110043849684766642, ← Fast.te14364793385576792824] at hr
    have z := topRun_of (segRun_of (f := r.1) (s' := r.2.1) (c := r.2.2.1) (q := r.2.2.2) hr)
    rw [toT_abs ht] at z
    rw [z]
    exact h
noncomputable def fastOpening (w : World) (N : Nat) : Option Shared :=
  (Fast.tw10274390034422433532 Fast.tw14364793385576792824 (opening p) w N (Fast.tw1435165496053646825 (opening p)).1 (Fast.tw1435165496053646825 (opening p)).2).bind (Fast.tw14289696077712309145 p)
theorem fastOpening_is (w : World) (N : Nat) : fastOpening p w N = fencedOpening treeTable p w N := by
  unfold fastOpening fencedOpening
  rw [← Fast.te10274390034422433532, ← Fast.te14364793385576792824, ← Fast.te1435165496053646825, ← Fast.te14289696077712309145]
theorem left_of {Xt : Shared → Bool} {Ya : World → α} {N : Nat}
    (h : ∀ w, ((fastOpening p w N).bind (fastTop p w N)).map (fun s => (Fast.tw4187177175401517315 q loose (importedModules p.main.body) Xt true s, Yf s)) = some (openGood q loose, Ya w)) : LeftO p q loose Xt Yf Ya N := fun w => by
  obtain ⟨s, hs, e⟩ := Option.map_eq_some_iff.mp (h w)
  obtain ⟨s₀, h0, h1⟩ := Option.bind_eq_some_iff.mp hs
  unfold openEnds
  rw [← fastOpening_is, h0]
  show (topFrom treeTable p w N s₀).map _ = _
  rw [fastTop_is p h1]
  rw [← Fast.te4187177175401517315] at e
  exact congrArg some e
end
end Mine
end
section
open PySem PySem.W PyProof.Rows
set_option maxRecDepth 100000
set_option maxHeartbeats 0
namespace Mine
noncomputable def noPos : Pos := ⟨0, 0, 0, 0⟩
noncomputable def fparts : Stmt → Arguments × List Stmt × Scope
  | .FunctionDef _ a b _ _ _ sc _ _ _ => (a, b, sc)
  | _ => (⟨[], [], none, [], [], none, []⟩, [], default)
noncomputable def nthS : List Stmt → Nat → Stmt
  | [], _ => .Pass noPos
  | s :: _, 0 => s
  | _ :: r, n + 1 => nthS r n
noncomputable def bodyOf : Stmt → List Stmt
  | .ClassDef _ _ _ b _ _ _ _ _ _ _ => b
  | _ => []
noncomputable def fd (i : Nat) : Arguments × List Stmt × Scope := fparts (nthS thePr.main.body i)
noncomputable def md (i j : Nat) : Arguments × List Stmt × Scope := fparts (nthS (bodyOf (nthS thePr.main.body i)) j)
noncomputable def ob2 (P : Params) : Obj := ⟨.none, none, .dict ([⟨PyData.keyHash P (Str.ofString "im\x70ort.loaded._collections"), .str (Str.ofString "im\x70ort.loaded._collections") 185, .bool true⟩, ⟨PyData.keyHash P (Str.ofString "class._frozen_importlib.BuiltinImporter"), .str (Str.ofString "class._frozen_importlib.BuiltinImporter") 187, .ref 15⟩, ⟨PyData.keyHash P (Str.ofString "watched.im\x70ort"), .str (Str.ofString "watched.im\x70ort") 208, .ref 19⟩, ⟨PyData.keyHash P (Str.ofString "class._frozen_importlib.ModuleSpec"), .str (Str.ofString "class._frozen_importlib.ModuleSpec") 218, .ref 23⟩, ⟨PyData.keyHash P (Str.ofString "sys.modules.booked-epoch"), .str (Str.ofString "sys.modules.booked-epoch") 247, .int (3) 0⟩, ⟨PyData.keyHash P (Str.ofString "sys.modules.landed._collections"), .str (Str.ofString "sys.modules.landed._collections") 248, .bool true⟩, ⟨PyData.keyHash P (Str.ofString "im\x70ort.later-laid._collections"), .str (Str.ofString "im\x70ort.later-laid._collections") 263, .bool true⟩, ⟨PyData.keyHash P (Str.ofString "watched.library"), .str (Str.ofString "watched.library") 265, .ref 28⟩, ⟨PyData.keyHash P (Str.ofString "watched.library-objects"), .str (Str.ofString "watched.library-objects") 0, .str ⟨#[13]⟩ 0⟩, ⟨PyData.keyHash P (Str.ofString "watched.library-deep._collections"), .str (Str.ofString "watched.library-deep._collections") 266, .str ⟨#[4, 0, 0, 12, 4, 0, 0, 12, 4, 0, 0, 3, 4, 0, 0, 12, 8, 4, 100, 105, 99, 116, 2]⟩ 0⟩, ⟨PyData.keyHash P (Str.ofString "type.__subclasses__.OSError.0"), .str (Str.ofString "type.__subclasses__.OSError.0") 322, .int (63) 0⟩, ⟨PyData.keyHash P (Str.ofString "type.__subclasses__.OSError.n"), .str (Str.ofString "type.__subclasses__.OSError.n") 323, .int (1) 0⟩] : List DictEntry).toArray 12, ([] : List (Option Value)).toArray⟩
noncomputable def ob3 (P : Params) : Obj := ⟨.type "dict", none, .dict ([⟨PyData.keyHash P (Str.ofString "__name__"), .str (Str.ofString "__name__") 165, .str (Str.ofString "law_nq0262_01") 1298⟩, ⟨PyData.keyHash P (Str.ofString "__doc__"), .str (Str.ofString "__doc__") 166, .none⟩, ⟨PyData.keyHash P (Str.ofString "__package__"), .str (Str.ofString "__package__") 167, .none⟩, ⟨PyData.keyHash P (Str.ofString "__loader__"), .str (Str.ofString "__loader__") 168, .builtin "__main__.__loader__#opaque"⟩, ⟨PyData.keyHash P (Str.ofString "__spec__"), .str (Str.ofString "__spec__") 169, .none⟩, ⟨PyData.keyHash P (Str.ofString "__annotations__"), .str (Str.ofString "__annotations__") 170, .ref 6⟩, ⟨PyData.keyHash P (Str.ofString "__builtins__"), .str (Str.ofString "__builtins__") 171, .ref 4⟩, ⟨PyData.keyHash P (Str.ofString "__file__"), .str (Str.ofString "__file__") 173, .str (Str.ofString "/claim/cut.py") 172⟩, ⟨PyData.keyHash P (Str.ofString "__cached__"), .str (Str.ofString "__cached__") 174, .none⟩, ⟨PyData.keyHash P (Str.ofString "deque"), .str (Str.ofString "deque") 272, .type "collections.deque"⟩, ⟨PyData.keyHash P (Str.ofString "_wall"), .str (Str.ofString "_wall") 285, .ref 39⟩, ⟨PyData.keyHash P (Str.ofString "_whence"), .str (Str.ofString "_whence") 295, .ref 46⟩, ⟨PyData.keyHash P (Str.ofString "_index"), .str (Str.ofString "_index") 303, .ref 53⟩, ⟨PyData.keyHash P (Str.ofString "UnsupportedOperation"), .str (Str.ofString "UnsupportedOperation") 325, .ref 63⟩, ⟨PyData.keyHash P (Str.ofString "IOBase"), .str (Str.ofString "IOBase") 357, .ref 83⟩, ⟨PyData.keyHash P (Str.ofString "BufferedIOBase"), .str (Str.ofString "BufferedIOBase") 375, .ref 98⟩, ⟨PyData.keyHash P (Str.ofString "TextIOBase"), .str (Str.ofString "TextIOBase") 393, .ref 110⟩, ⟨PyData.keyHash P (Str.ofString "BytesIO"), .str (Str.ofString "BytesIO") 655, .ref 340⟩, ⟨PyData.keyHash P (Str.ofString "StringIO"), .str (Str.ofString "StringIO") 942, .ref 587⟩, ⟨PyData.keyHash P (Str.ofString "_kind"), .str (Str.ofString "_kind") 953, .ref 596⟩, ⟨PyData.keyHash P (Str.ofString "_fspath"), .str (Str.ofString "_fspath") 962, .ref 603⟩, ⟨PyData.keyHash P (Str.ofString "_check_arg_types"), .str (Str.ofString "_check_arg_types") 972, .ref 610⟩, ⟨PyData.keyHash P (Str.ofString "isabs"), .str (Str.ofString "isabs") 979, .ref 617⟩, ⟨PyData.keyHash P (Str.ofString "join"), .str (Str.ofString "join") 990, .ref 624⟩, ⟨PyData.keyHash P (Str.ofString "dirname"), .str (Str.ofString "dirname") 1000, .ref 631⟩, ⟨PyData.keyHash P (Str.ofString "shlex"), .str (Str.ofString "shlex") 1141, .ref 722⟩, ⟨PyData.keyHash P (Str.ofString "_buffer"), .str (Str.ofString "_buffer") 1151, .ref 733⟩, ⟨PyData.keyHash P (Str.ofString "_truth"), .str (Str.ofString "_truth") 1159, .ref 740⟩, ⟨PyData.keyHash P (Str.ofString "_B64"), .str (Str.ofString "_B64") 1161, .bytes #[65, 66, 67, 68, 69, 70, 71, 72, 73, 74, 75, 76, 77, 78, 79, 80, 81, 82, 83, 84, 85, 86, 87, 88, 89, 90, 97, 98, 99, 100, 101, 102, 103, 104, 105, 106, 107, 108, 109, 110, 111, 112, 113, 114, 115, 116, 117, 118, 119, 120, 121, 122, 48, 49, 50, 51, 52, 53, 54, 55, 56, 57, 43, 47] 1160⟩, ⟨PyData.keyHash P (Str.ofString "b2a_base64"), .str (Str.ofString "b2a_base64") 1175, .ref 748⟩, ⟨PyData.keyHash P (Str.ofString "b64encode"), .str (Str.ofString "b64encode") 1186, .ref 756⟩, ⟨PyData.keyHash P (Str.ofString "standard_b64encode"), .str (Str.ofString "standard_b64encode") 1193, .ref 763⟩, ⟨PyData.keyHash P (Str.ofString "_urlsafe_encode_translation"), .str (Str.ofString "_urlsafe_encode_translation") 1198, .bytes #[0, 1, 2, 3, 4, 5, 6, 7, 8, 9, 10, 11, 12, 13, 14, 15, 16, 17, 18, 19, 20, 21, 22, 23, 24, 25, 26, 27, 28, 29, 30, 31, 32, 33, 34, 35, 36, 37, 38, 39, 40, 41, 42, 45, 44, 45, 46, 95, 48, 49, 50, 51, 52, 53, 54, 55, 56, 57, 58, 59, 60, 61, 62, 63, 64, 65, 66, 67, 68, 69, 70, 71, 72, 73, 74, 75, 76, 77, 78, 79, 80, 81, 82, 83, 84, 85, 86, 87, 88, 89, 90, 91, 92, 93, 94, 95, 96, 97, 98, 99, 100, 101, 102, 103, 104, 105, 106, 107, 108, 109, 110, 111, 112, 113, 114, 115, 116, 117, 118, 119, 120, 121, 122, 123, 124, 125, 126, 127, 128, 129, 130, 131, 132, 133, 134, 135, 136, 137, 138, 139, 140, 141, 142, 143, 144, 145, 146, 147, 148, 149, 150, 151, 152, 153, 154, 155, 156, 157, 158, 159, 160, 161, 162, 163, 164, 165, 166, 167, 168, 169, 170, 171, 172, 173, 174, 175, 176, 177, 178, 179, 180, 181, 182, 183, 184, 185, 186, 187, 188, 189, 190, 191, 192, 193, 194, 195, 196, 197, 198, 199, 200, 201, 202, 203, 204, 205, 206, 207, 208, 209, 210, 211, 212, 213, 214, 215, 216, 217, 218, 219, 220, 221, 222, 223, 224, 225, 226, 227, 228, 229, 230, 231, 232, 233, 234, 235, 236, 237, 238, 239, 240, 241, 242, 243, 244, 245, 246, 247, 248, 249, 250, 251, 252, 253, 254, 255] 1197⟩, ⟨PyData.keyHash P (Str.ofString "urlsafe_b64encode"), .str (Str.ofString "urlsafe_b64encode") 1205, .ref 770⟩, ⟨PyData.keyHash P (Str.ofString "S_IMODE"), .str (Str.ofString "S_IMODE") 1214, .ref 777⟩, ⟨PyData.keyHash P (Str.ofString "S_IFMT"), .str (Str.ofString "S_IFMT") 1221, .ref 784⟩, ⟨PyData.keyHash P (Str.ofString "S_IFDIR"), .str (Str.ofString "S_IFDIR") 1223, .int (16384) 1222⟩, ⟨PyData.keyHash P (Str.ofString "S_IFCHR"), .str (Str.ofString "S_IFCHR") 1225, .int (8192) 1224⟩, ⟨PyData.keyHash P (Str.ofString "S_IFBLK"), .str (Str.ofString "S_IFBLK") 1227, .int (24576) 1226⟩, ⟨PyData.keyHash P (Str.ofString "S_IFREG"), .str (Str.ofString "S_IFREG") 1229, .int (32768) 1228⟩, ⟨PyData.keyHash P (Str.ofString "S_IFIFO"), .str (Str.ofString "S_IFIFO") 1231, .int (4096) 1230⟩, ⟨PyData.keyHash P (Str.ofString "S_IFLNK"), .str (Str.ofString "S_IFLNK") 1233, .int (40960) 1232⟩, ⟨PyData.keyHash P (Str.ofString "S_IFSOCK"), .str (Str.ofString "S_IFSOCK") 1235, .int (49152) 1234⟩, ⟨PyData.keyHash P (Str.ofString "S_ISUID"), .str (Str.ofString "S_ISUID") 1237, .int (2048) 1236⟩, ⟨PyData.keyHash P (Str.ofString "S_ISGID"), .str (Str.ofString "S_ISGID") 1239, .int (1024) 1238⟩, ⟨PyData.keyHash P (Str.ofString "S_ISVTX"), .str (Str.ofString "S_ISVTX") 1241, .int (512) 1240⟩, ⟨PyData.keyHash P (Str.ofString "S_IRUSR"), .str (Str.ofString "S_IRUSR") 1243, .int (256) 1242⟩, ⟨PyData.keyHash P (Str.ofString "S_IWUSR"), .str (Str.ofString "S_IWUSR") 1245, .int (128) 1244⟩, ⟨PyData.keyHash P (Str.ofString "S_IXUSR"), .str (Str.ofString "S_IXUSR") 1247, .int (64) 1246⟩, ⟨PyData.keyHash P (Str.ofString "S_IRGRP"), .str (Str.ofString "S_IRGRP") 1249, .int (32) 1248⟩, ⟨PyData.keyHash P (Str.ofString "S_IWGRP"), .str (Str.ofString "S_IWGRP") 1251, .int (16) 1250⟩, ⟨PyData.keyHash P (Str.ofString "S_IXGRP"), .str (Str.ofString "S_IXGRP") 1253, .int (8) 1252⟩, ⟨PyData.keyHash P (Str.ofString "S_IROTH"), .str (Str.ofString "S_IROTH") 1255, .int (4) 1254⟩, ⟨PyData.keyHash P (Str.ofString "S_IWOTH"), .str (Str.ofString "S_IWOTH") 1257, .int (2) 1256⟩, ⟨PyData.keyHash P (Str.ofString "S_IXOTH"), .str (Str.ofString "S_IXOTH") 1259, .int (1) 1258⟩, ⟨PyData.keyHash P (Str.ofString "_filemode_table"), .str (Str.ofString "_filemode_table") 1285, .ref 817⟩, ⟨PyData.keyHash P (Str.ofString "filemode"), .str (Str.ofString "filemode") 1297, .ref 824⟩, ⟨PyData.keyHash P (Str.ofString "_law_letters"), .str (Str.ofString "_law_letters") 1301, .str (Str.ofString "ABCDEFGHIJKLMNOPQRSTUVWXYZabcdefghijklmnopqrstuvwxyz0123456789") 1300⟩, ⟨PyData.keyHash P (Str.ofString "_law_mode"), .str (Str.ofString "_law_mode") 1309, .ref 831⟩, ⟨PyData.keyHash P (Str.ofString "_law_figures"), .str (Str.ofString "_law_figures") 1315, .ref 836⟩, ⟨PyData.keyHash P (Str.ofString "_law_parted"), .str (Str.ofString "_law_parted") 1324, .ref 843⟩, ⟨PyData.keyHash P (Str.ofString "_law_all_parted"), .str (Str.ofString "_law_all_parted") 1333, .ref 850⟩, ⟨PyData.keyHash P (Str.ofString "_law_octets"), .str (Str.ofString "_law_octets") 1343, .ref 857⟩, ⟨PyData.keyHash P (Str.ofString "_law_row"), .str (Str.ofString "_law_row") 1353, .ref 864⟩, ⟨PyData.keyHash P (Str.ofString "_law_text"), .str (Str.ofString "_law_text") 1359, .ref 869⟩, ⟨PyData.keyHash P (Str.ofString "_law_kind"), .str (Str.ofString "_law_kind") 1368, .ref 876⟩, ⟨PyData.keyHash P (Str.ofString "_law_cut"), .str (Str.ofString "_law_cut") 1381, .ref 883⟩, ⟨PyData.keyHash P (Str.ofString "_law_read"), .str (Str.ofString "_law_read") 1387, .ref 888⟩, ⟨PyData.keyHash P (Str.ofString "_law_same"), .str (Str.ofString "_law_same") 1396, .ref 895⟩, ⟨PyData.keyHash P (Str.ofString "_law_plain"), .str (Str.ofString "_law_plain") 1406, .ref 902⟩, ⟨PyData.keyHash P (Str.ofString "_law_runs"), .str (Str.ofString "_law_runs") 1418, .ref 909⟩, ⟨PyData.keyHash P (Str.ofString "_law_pair"), .str (Str.ofString "_law_pair") 1427, .ref 916⟩, ⟨PyData.keyHash P (Str.ofString "law"), .str (Str.ofString "law") 1433, .ref 921⟩] : List DictEntry).toArray 73, ([] : List (Option Value)).toArray⟩
noncomputable def ob52 (P : Params) : Obj := ⟨.type "code", none, .fields ([.str (Str.ofString "_index") 296, .str (Str.ofString "_index") 297, .str (Str.ofString "/claim/cut.py") 298, .int (11) 0, .int (2) 0, .int (0) 0, .int (0) 0, .int (3) 0, .ref 47, .bool true, .int (273) 0, .ref 48, .none, .ref 49, .ref 50, .ref 51, .int (301) 0, .int (11) 0, .str (Str.ofString "/claim/cut.py") 302] : List Value).toArray, ([] : List (Option Value)).toArray⟩
noncomputable def ob53 (P : Params) : Obj := ⟨.type "function", none, .func { name := (Str.ofString "_index"), qualname := (Str.ofString "_index"), params := (fd 4).1, body := .stmts (fd 4).2.1, scope := (fd 4).2.2, globals := 3, closure := [], defaults := .none, kwdefaults := .none, doc := .none, pyModule := .str (Str.ofString "io") 286, annotations := none, code := .ref 52, closureTuple := .none, builtins := 0 }, ([] : List (Option Value)).toArray⟩
noncomputable def ob79 (P : Params) : Obj := ⟨.type "code", none, .fields ([.str (Str.ofString "__new__") 340, .str (Str.ofString "IOBase.__new__") 341, .str (Str.ofString "/claim/cut.py") 342, .int (23) 0, .int (1) 0, .int (1) 0, .int (0) 0, .int (15) 0, .ref 74, .bool true, .int (273) 0, .ref 75, .none, .ref 76, .ref 77, .ref 78, .int (346) 0, .int (23) 0, .str (Str.ofString "/claim/cut.py") 347] : List Value).toArray, ([] : List (Option Value)).toArray⟩
noncomputable def ob80 (P : Params) : Obj := ⟨.type "function", none, .func { name := (Str.ofString "__new__"), qualname := (Str.ofString "IOBase.__new__"), params := (md 6 1).1, body := .stmts (md 6 1).2.1, scope := (md 6 1).2.2, globals := 3, closure := [], defaults := .none, kwdefaults := .none, doc := .none, pyModule := .str (Str.ofString "io") 286, annotations := none, code := .ref 79, closureTuple := .none, builtins := 0 }, ([] : List (Option Value)).toArray⟩
noncomputable def ob82 (P : Params) : Obj := ⟨.type "dict", none, .dict ([⟨PyData.keyHash P (Str.ofString "__module__"), .str (Str.ofString "__module__") 333, .str (Str.ofString "io") 338⟩, ⟨PyData.keyHash P (Str.ofString "__firstlineno__"), .str (Str.ofString "__firstlineno__") 337, .int (20) 336⟩, ⟨PyData.keyHash P (Str.ofString "__new__"), .str (Str.ofString "__new__") 348, .ref 84⟩, ⟨PyData.keyHash P (Str.ofString "__static_attributes__"), .str (Str.ofString "__static_attributes__") 349, .ref 81⟩, ⟨PyData.keyHash P (Str.ofString "__dict__"), .str (Str.ofString "__dict__") 352, .ref 85⟩, ⟨PyData.keyHash P (Str.ofString "__weakref__"), .str (Str.ofString "__weakref__") 354, .ref 86⟩, ⟨PyData.keyHash P (Str.ofString "__doc__"), .str (Str.ofString "__doc__") 355, .none⟩] : List DictEntry).toArray 4, ([] : List (Option Value)).toArray⟩
noncomputable def ob83 (P : Params) : Obj := ⟨.type "type", none, .cls { name := (Str.ofString "IOBase"), bases := [.type "object"], mro := [.ref 83, .type "object"], ns := 82, qualname := (Str.ofString "IOBase"), hasDict := true, slotNames := [], subclasses := [.ref 98, .ref 110], abstract := false, collection := none, hasDel := false }, ([none, none, some (.str (Str.ofString "IOBase") 326), some (.str (Str.ofString "IOBase") 334), some (.none), some (.bool true)] : List (Option Value)).toArray⟩
noncomputable def ob84 (P : Params) : Obj := ⟨.type "staticmethod", none, .fields ([.ref 80] : List Value).toArray, ([] : List (Option Value)).toArray⟩
noncomputable def ob109 (P : Params) : Obj := ⟨.type "dict", none, .dict ([⟨PyData.keyHash P (Str.ofString "__module__"), .str (Str.ofString "__module__") 383, .str (Str.ofString "io") 388⟩, ⟨PyData.keyHash P (Str.ofString "__firstlineno__"), .str (Str.ofString "__firstlineno__") 387, .int (29) 386⟩, ⟨PyData.keyHash P (Str.ofString "__static_attributes__"), .str (Str.ofString "__static_attributes__") 390, .ref 108⟩, ⟨PyData.keyHash P (Str.ofString "__doc__"), .str (Str.ofString "__doc__") 391, .none⟩] : List DictEntry).toArray 2, ([] : List (Option Value)).toArray⟩
noncomputable def ob110 (P : Params) : Obj := ⟨.type "type", none, .cls { name := (Str.ofString "TextIOBase"), bases := [.ref 83], mro := [.ref 110, .ref 83, .type "object"], ns := 109, qualname := (Str.ofString "TextIOBase"), hasDict := true, slotNames := [], subclasses := [.ref 587], abstract := false, collection := none, hasDel := false }, ([some (.ref 101), none, some (.str (Str.ofString "TextIOBase") 376), some (.str (Str.ofString "TextIOBase") 384), some (.none), some (.bool true)] : List (Option Value)).toArray⟩
noncomputable def ob340 (P : Params) : Obj := ⟨.type "type", none, .cls { name := (Str.ofString "BytesIO"), bases := [.ref 98], mro := [.ref 340, .ref 98, .ref 83, .type "object"], ns := 339, qualname := (Str.ofString "BytesIO"), hasDict := true, slotNames := [], subclasses := [], abstract := false, collection := none, hasDel := false }, ([some (.ref 113), none, some (.str (Str.ofString "BytesIO") 394), some (.str (Str.ofString "BytesIO") 402), some (.none), some (.bool true)] : List (Option Value)).toArray⟩
noncomputable def ob350 (P : Params) : Obj := ⟨.type "tuple", none, .seq ([.str (Str.ofString "") 670, .str ⟨#[10]⟩ 671] : List Value).toArray 0, ([] : List (Option Value)).toArray⟩
noncomputable def ob356 (P : Params) : Obj := ⟨.type "code", none, .fields ([.str (Str.ofString "__init__") 672, .str (Str.ofString "StringIO.__init__") 673, .str (Str.ofString "/claim/cut.py") 674, .int (204) 0, .int (3) 0, .int (0) 0, .int (0) 0, .int (3) 0, .ref 351, .bool true, .int (273) 0, .ref 352, .none, .ref 353, .ref 354, .ref 355, .int (678) 0, .int (204) 0, .str (Str.ofString "/claim/cut.py") 679] : List Value).toArray, ([] : List (Option Value)).toArray⟩
noncomputable def ob357 (P : Params) : Obj := ⟨.type "function", none, .func { name := (Str.ofString "__init__"), qualname := (Str.ofString "StringIO.__init__"), params := (md 10 1).1, body := .stmts (md 10 1).2.1, scope := (md 10 1).2.2, globals := 3, closure := [], defaults := .ref 350, kwdefaults := .none, doc := .none, pyModule := .str (Str.ofString "io") 286, annotations := none, code := .ref 356, closureTuple := .none, builtins := 0 }, ([] : List (Option Value)).toArray⟩
noncomputable def ob363 (P : Params) : Obj := ⟨.type "code", none, .fields ([.str (Str.ofString "__translated") 681, .str (Str.ofString "StringIO.__translated") 682, .str (Str.ofString "/claim/cut.py") 683, .int (217) 0, .int (2) 0, .int (0) 0, .int (0) 0, .int (3) 0, .ref 358, .bool true, .int (273) 0, .ref 359, .none, .ref 360, .ref 361, .ref 362, .int (687) 0, .int (217) 0, .str (Str.ofString "/claim/cut.py") 688] : List Value).toArray, ([] : List (Option Value)).toArray⟩
noncomputable def ob364 (P : Params) : Obj := ⟨.type "function", none, .func { name := (Str.ofString "__translated"), qualname := (Str.ofString "StringIO.__translated"), params := (md 10 2).1, body := .stmts (md 10 2).2.1, scope := (md 10 2).2.2, globals := 3, closure := [], defaults := .none, kwdefaults := .none, doc := .none, pyModule := .str (Str.ofString "io") 286, annotations := none, code := .ref 363, closureTuple := .none, builtins := 0 }, ([] : List (Option Value)).toArray⟩
noncomputable def ob370 (P : Params) : Obj := ⟨.type "code", none, .fields ([.str (Str.ofString "__check") 690, .str (Str.ofString "StringIO.__check") 691, .str (Str.ofString "/claim/cut.py") 692, .int (225) 0, .int (1) 0, .int (0) 0, .int (0) 0, .int (3) 0, .ref 365, .bool true, .int (273) 0, .ref 366, .none, .ref 367, .ref 368, .ref 369, .int (694) 0, .int (225) 0, .str (Str.ofString "/claim/cut.py") 695] : List Value).toArray, ([] : List (Option Value)).toArray⟩
noncomputable def ob371 (P : Params) : Obj := ⟨.type "function", none, .func { name := (Str.ofString "__check"), qualname := (Str.ofString "StringIO.__check"), params := (md 10 3).1, body := .stmts (md 10 3).2.1, scope := (md 10 3).2.2, globals := 3, closure := [], defaults := .none, kwdefaults := .none, doc := .none, pyModule := .str (Str.ofString "io") 286, annotations := none, code := .ref 370, closureTuple := .none, builtins := 0 }, ([] : List (Option Value)).toArray⟩
noncomputable def ob526 (P : Params) : Obj := ⟨.type "tuple", none, .seq ([.int (-1) 863] : List Value).toArray 0, ([] : List (Option Value)).toArray⟩
noncomputable def ob532 (P : Params) : Obj := ⟨.type "code", none, .fields ([.str (Str.ofString "read") 864, .str (Str.ofString "StringIO.read") 865, .str (Str.ofString "/claim/cut.py") 866, .int (347) 0, .int (2) 0, .int (2) 0, .int (0) 0, .int (3) 0, .ref 527, .bool true, .int (273) 0, .ref 528, .none, .ref 529, .ref 530, .ref 531, .int (871) 0, .int (347) 0, .str (Str.ofString "/claim/cut.py") 872] : List Value).toArray, ([] : List (Option Value)).toArray⟩
noncomputable def ob533 (P : Params) : Obj := ⟨.type "function", none, .func { name := (Str.ofString "read"), qualname := (Str.ofString "StringIO.read"), params := (md 10 25).1, body := .stmts (md 10 25).2.1, scope := (md 10 25).2.2, globals := 3, closure := [], defaults := .ref 526, kwdefaults := .none, doc := .none, pyModule := .str (Str.ofString "io") 286, annotations := none, code := .ref 532, closureTuple := .none, builtins := 0 }, ([] : List (Option Value)).toArray⟩
noncomputable def ob586 (P : Params) : Obj := ⟨.type "dict", none, .dict ([⟨PyData.keyHash P (Str.ofString "__module__"), .str (Str.ofString "__module__") 663, .str (Str.ofString "_io") 668⟩, ⟨PyData.keyHash P (Str.ofString "__firstlineno__"), .str (Str.ofString "__firstlineno__") 667, .int (201) 666⟩, ⟨PyData.keyHash P (Str.ofString "__init__"), .str (Str.ofString "__init__") 680, .ref 357⟩, ⟨PyData.keyHash P (Str.ofString "_StringIO__translated"), .str (Str.ofString "_StringIO__translated") 689, .ref 364⟩, ⟨PyData.keyHash P (Str.ofString "_StringIO__check"), .str (Str.ofString "_StringIO__check") 696, .ref 371⟩, ⟨PyData.keyHash P (Str.ofString "_StringIO__check_dot"), .str (Str.ofString "_StringIO__check_dot") 703, .ref 378⟩, ⟨PyData.keyHash P (Str.ofString "_StringIO__line"), .str (Str.ofString "_StringIO__line") 718, .ref 385⟩, ⟨PyData.keyHash P (Str.ofString "closed"), .str (Str.ofString "closed") 726, .ref 393⟩, ⟨PyData.keyHash P (Str.ofString "line_buffering"), .str (Str.ofString "line_buffering") 734, .ref 401⟩, ⟨PyData.keyHash P (Str.ofString "newlines"), .str (Str.ofString "newlines") 742, .ref 409⟩, ⟨PyData.keyHash P (Str.ofString "encoding"), .str (Str.ofString "encoding") 750, .ref 417⟩, ⟨PyData.keyHash P (Str.ofString "errors"), .str (Str.ofString "errors") 758, .ref 425⟩, ⟨PyData.keyHash P (Str.ofString "close"), .str (Str.ofString "close") 765, .ref 432⟩, ⟨PyData.keyHash P (Str.ofString "__enter__"), .str (Str.ofString "__enter__") 772, .ref 439⟩, ⟨PyData.keyHash P (Str.ofString "__exit__"), .str (Str.ofString "__exit__") 780, .ref 446⟩, ⟨PyData.keyHash P (Str.ofString "readable"), .str (Str.ofString "readable") 787, .ref 453⟩, ⟨PyData.keyHash P (Str.ofString "writable"), .str (Str.ofString "writable") 794, .ref 460⟩, ⟨PyData.keyHash P (Str.ofString "seekable"), .str (Str.ofString "seekable") 801, .ref 467⟩, ⟨PyData.keyHash P (Str.ofString "isatty"), .str (Str.ofString "isatty") 808, .ref 474⟩, ⟨PyData.keyHash P (Str.ofString "flush"), .str (Str.ofString "flush") 815, .ref 481⟩, ⟨PyData.keyHash P (Str.ofString "fileno"), .str (Str.ofString "fileno") 822, .ref 488⟩, ⟨PyData.keyHash P (Str.ofString "detach"), .str (Str.ofString "detach") 829, .ref 495⟩, ⟨PyData.keyHash P (Str.ofString "getvalue"), .str (Str.ofString "getvalue") 836, .ref 502⟩, ⟨PyData.keyHash P (Str.ofString "tell"), .str (Str.ofString "tell") 843, .ref 509⟩, ⟨PyData.keyHash P (Str.ofString "seek"), .str (Str.ofString "seek") 853, .ref 517⟩, ⟨PyData.keyHash P (Str.ofString "truncate"), .str (Str.ofString "truncate") 861, .ref 525⟩, ⟨PyData.keyHash P (Str.ofString "read"), .str (Str.ofString "read") 873, .ref 533⟩, ⟨PyData.keyHash P (Str.ofString "readline"), .str (Str.ofString "readline") 883, .ref 541⟩, ⟨PyData.keyHash P (Str.ofString "readlines"), .str (Str.ofString "readlines") 893, .ref 549⟩, ⟨PyData.keyHash P (Str.ofString "__iter__"), .str (Str.ofString "__iter__") 900, .ref 556⟩, ⟨PyData.keyHash P (Str.ofString "__next__"), .str (Str.ofString "__next__") 908, .ref 563⟩, ⟨PyData.keyHash P (Str.ofString "write"), .str (Str.ofString "write") 920, .ref 570⟩, ⟨PyData.keyHash P (Str.ofString "writelines"), .str (Str.ofString "writelines") 928, .ref 577⟩, ⟨PyData.keyHash P (Str.ofString "__repr__"), .str (Str.ofString "__repr__") 935, .ref 584⟩, ⟨PyData.keyHash P (Str.ofString "__static_attributes__"), .str (Str.ofString "__static_attributes__") 939, .ref 585⟩, ⟨PyData.keyHash P (Str.ofString "__doc__"), .str (Str.ofString "__doc__") 940, .none⟩] : List DictEntry).toArray 2, ([] : List (Option Value)).toArray⟩
noncomputable def ob587 (P : Params) : Obj := ⟨.type "type", none, .cls { name := (Str.ofString "StringIO"), bases := [.ref 110], mro := [.ref 587, .ref 110, .ref 83, .type "object"], ns := 586, qualname := (Str.ofString "StringIO"), hasDict := true, slotNames := [], subclasses := [], abstract := false, collection := none, hasDel := false }, ([some (.ref 343), none, some (.str (Str.ofString "StringIO") 656), some (.str (Str.ofString "StringIO") 664), some (.none), some (.bool true)] : List (Option Value)).toArray⟩
noncomputable def ob639 (P : Params) : Obj := ⟨.type "tuple", none, .seq ([.none, .none, .bool false, .bool false] : List Value).toArray 0, ([] : List (Option Value)).toArray⟩
noncomputable def ob645 (P : Params) : Obj := ⟨.type "code", none, .fields ([.str (Str.ofString "__init__") 1015, .str (Str.ofString "shlex.__init__") 1016, .str (Str.ofString "/claim/cut.py") 1017, .int (472) 0, .int (5) 0, .int (0) 0, .int (0) 0, .int (3) 0, .ref 640, .bool true, .int (273) 0, .ref 641, .none, .ref 642, .ref 643, .ref 644, .int (1024) 0, .int (472) 0, .str (Str.ofString "/claim/cut.py") 1025] : List Value).toArray, ([] : List (Option Value)).toArray⟩
noncomputable def ob646 (P : Params) : Obj := ⟨.type "function", none, .func { name := (Str.ofString "__init__"), qualname := (Str.ofString "shlex.__init__"), params := (md 19 0).1, body := .stmts (md 19 0).2.1, scope := (md 19 0).2.2, globals := 3, closure := [], defaults := .ref 639, kwdefaults := .none, doc := .none, pyModule := .str (Str.ofString "cpy313.shlex") 1001, annotations := none, code := .ref 645, closureTuple := .none, builtins := 0 }, ([] : List (Option Value)).toArray⟩
noncomputable def ob652 (P : Params) : Obj := ⟨.type "code", none, .fields ([.str (Str.ofString "punctuation_chars") 1027, .str (Str.ofString "shlex.punctuation_chars") 1028, .str (Str.ofString "/claim/cut.py") 1029, .int (513) 0, .int (1) 0, .int (0) 0, .int (0) 0, .int (3) 0, .ref 647, .bool true, .int (273) 0, .ref 648, .none, .ref 649, .ref 650, .ref 651, .int (1031) 0, .int (513) 0, .str (Str.ofString "/claim/cut.py") 1032] : List Value).toArray, ([] : List (Option Value)).toArray⟩
noncomputable def ob653 (P : Params) : Obj := ⟨.type "function", none, .func { name := (Str.ofString "punctuation_chars"), qualname := (Str.ofString "shlex.punctuation_chars"), params := (md 19 1).1, body := .stmts (md 19 1).2.1, scope := (md 19 1).2.2, globals := 3, closure := [], defaults := .none, kwdefaults := .none, doc := .none, pyModule := .str (Str.ofString "cpy313.shlex") 1001, annotations := none, code := .ref 652, closureTuple := .none, builtins := 0 }, ([] : List (Option Value)).toArray⟩
noncomputable def ob654 (P : Params) : Obj := ⟨.type "property", none, .fields ([.ref 653, .none, .none, .none, .str (Str.ofString "punctuation_chars") 1034, .bool false] : List Value).toArray, ([] : List (Option Value)).toArray⟩
noncomputable def ob682 (P : Params) : Obj := ⟨.type "code", none, .fields ([.str (Str.ofString "get_token") 1059, .str (Str.ofString "shlex.get_token") 1060, .str (Str.ofString "/claim/cut.py") 1061, .int (540) 0, .int (1) 0, .int (0) 0, .int (0) 0, .int (3) 0, .ref 677, .bool true, .int (273) 0, .ref 678, .none, .ref 679, .ref 680, .ref 681, .int (1068) 0, .int (540) 0, .str (Str.ofString "/claim/cut.py") 1069] : List Value).toArray, ([] : List (Option Value)).toArray⟩
noncomputable def ob683 (P : Params) : Obj := ⟨.type "function", none, .func { name := (Str.ofString "get_token"), qualname := (Str.ofString "shlex.get_token"), params := (md 19 5).1, body := .stmts (md 19 5).2.1, scope := (md 19 5).2.2, globals := 3, closure := [], defaults := .none, kwdefaults := .none, doc := .none, pyModule := .str (Str.ofString "cpy313.shlex") 1001, annotations := none, code := .ref 682, closureTuple := .none, builtins := 0 }, ([] : List (Option Value)).toArray⟩
noncomputable def ob689 (P : Params) : Obj := ⟨.type "code", none, .fields ([.str (Str.ofString "read_token") 1071, .str (Str.ofString "shlex.read_token") 1072, .str (Str.ofString "/claim/cut.py") 1073, .int (567) 0, .int (1) 0, .int (0) 0, .int (0) 0, .int (3) 0, .ref 684, .bool true, .int (273) 0, .ref 685, .none, .ref 686, .ref 687, .ref 688, .int (1079) 0, .int (567) 0, .str (Str.ofString "/claim/cut.py") 1080] : List Value).toArray, ([] : List (Option Value)).toArray⟩
noncomputable def ob690 (P : Params) : Obj := ⟨.type "function", none, .func { name := (Str.ofString "read_token"), qualname := (Str.ofString "shlex.read_token"), params := (md 19 6).1, body := .stmts (md 19 6).2.1, scope := (md 19 6).2.2, globals := 3, closure := [], defaults := .none, kwdefaults := .none, doc := .none, pyModule := .str (Str.ofString "cpy313.shlex") 1001, annotations := none, code := .ref 689, closureTuple := .none, builtins := 0 }, ([] : List (Option Value)).toArray⟩
noncomputable def ob721 (P : Params) : Obj := ⟨.type "dict", none, .dict ([⟨PyData.keyHash P (Str.ofString "__module__"), .str (Str.ofString "__module__") 1010, .str (Str.ofString "cpy313.shlex") 1001⟩, ⟨PyData.keyHash P (Str.ofString "__firstlineno__"), .str (Str.ofString "__firstlineno__") 1014, .int (470) 1013⟩, ⟨PyData.keyHash P (Str.ofString "__init__"), .str (Str.ofString "__init__") 1026, .ref 646⟩, ⟨PyData.keyHash P (Str.ofString "punctuation_chars"), .str (Str.ofString "punctuation_chars") 1034, .ref 654⟩, ⟨PyData.keyHash P (Str.ofString "push_token"), .str (Str.ofString "push_token") 1042, .ref 661⟩, ⟨PyData.keyHash P (Str.ofString "push_source"), .str (Str.ofString "push_source") 1051, .ref 669⟩, ⟨PyData.keyHash P (Str.ofString "pop_source"), .str (Str.ofString "pop_source") 1058, .ref 676⟩, ⟨PyData.keyHash P (Str.ofString "get_token"), .str (Str.ofString "get_token") 1070, .ref 683⟩, ⟨PyData.keyHash P (Str.ofString "read_token"), .str (Str.ofString "read_token") 1081, .ref 690⟩, ⟨PyData.keyHash P (Str.ofString "sourcehook"), .str (Str.ofString "sourcehook") 1089, .ref 697⟩, ⟨PyData.keyHash P (Str.ofString "error_leader"), .str (Str.ofString "error_leader") 1098, .ref 705⟩, ⟨PyData.keyHash P (Str.ofString "__iter__"), .str (Str.ofString "__iter__") 1105, .ref 712⟩, ⟨PyData.keyHash P (Str.ofString "__next__"), .str (Str.ofString "__next__") 1113, .ref 719⟩, ⟨PyData.keyHash P (Str.ofString "__static_attributes__"), .str (Str.ofString "__static_attributes__") 1134, .ref 720⟩, ⟨PyData.keyHash P (Str.ofString "__dict__"), .str (Str.ofString "__dict__") 1136, .ref 723⟩, ⟨PyData.keyHash P (Str.ofString "__weakref__"), .str (Str.ofString "__weakref__") 1138, .ref 724⟩, ⟨PyData.keyHash P (Str.ofString "__doc__"), .str (Str.ofString "__doc__") 1139, .none⟩] : List DictEntry).toArray 4, ([] : List (Option Value)).toArray⟩
noncomputable def ob722 (P : Params) : Obj := ⟨.type "type", none, .cls { name := (Str.ofString "shlex"), bases := [.type "object"], mro := [.ref 722, .type "object"], ns := 721, qualname := (Str.ofString "shlex"), hasDict := true, slotNames := [], subclasses := [], abstract := false, collection := none, hasDel := false }, ([none, none, some (.str (Str.ofString "shlex") 1003), some (.str (Str.ofString "shlex") 1011), some (.builtin "object.__new__"), some (.bool true)] : List (Option Value)).toArray⟩
noncomputable def ob732 (P : Params) : Obj := ⟨.type "code", none, .fields ([.str (Str.ofString "_buffer") 1144, .str (Str.ofString "_buffer") 1145, .str (Str.ofString "/claim/cut.py") 1146, .int (723) 0, .int (1) 0, .int (0) 0, .int (0) 0, .int (3) 0, .ref 727, .bool true, .int (273) 0, .ref 728, .none, .ref 729, .ref 730, .ref 731, .int (1149) 0, .int (723) 0, .str (Str.ofString "/claim/cut.py") 1150] : List Value).toArray, ([] : List (Option Value)).toArray⟩
noncomputable def ob733 (P : Params) : Obj := ⟨.type "function", none, .func { name := (Str.ofString "_buffer"), qualname := (Str.ofString "_buffer"), params := (fd 21).1, body := .stmts (fd 21).2.1, scope := (fd 21).2.2, globals := 3, closure := [], defaults := .none, kwdefaults := .none, doc := .none, pyModule := .str (Str.ofString "binascii") 1142, annotations := none, code := .ref 732, closureTuple := .none, builtins := 0 }, ([] : List (Option Value)).toArray⟩
noncomputable def ob739 (P : Params) : Obj := ⟨.type "code", none, .fields ([.str (Str.ofString "_truth") 1152, .str (Str.ofString "_truth") 1153, .str (Str.ofString "/claim/cut.py") 1154, .int (730) 0, .int (1) 0, .int (0) 0, .int (0) 0, .int (3) 0, .ref 734, .bool true, .int (273) 0, .ref 735, .none, .ref 736, .ref 737, .ref 738, .int (1157) 0, .int (730) 0, .str (Str.ofString "/claim/cut.py") 1158] : List Value).toArray, ([] : List (Option Value)).toArray⟩
noncomputable def ob740 (P : Params) : Obj := ⟨.type "function", none, .func { name := (Str.ofString "_truth"), qualname := (Str.ofString "_truth"), params := (fd 22).1, body := .stmts (fd 22).2.1, scope := (fd 22).2.2, globals := 3, closure := [], defaults := .none, kwdefaults := .none, doc := .none, pyModule := .str (Str.ofString "binascii") 1142, annotations := none, code := .ref 739, closureTuple := .none, builtins := 0 }, ([] : List (Option Value)).toArray⟩
noncomputable def ob741 (P : Params) : Obj := ⟨.type "dict", none, .dict ([⟨PyData.keyHash P (Str.ofString "newline"), .str (Str.ofString "newline") 1162, .bool true⟩] : List DictEntry).toArray 1, ([] : List (Option Value)).toArray⟩
noncomputable def ob747 (P : Params) : Obj := ⟨.type "code", none, .fields ([.str (Str.ofString "b2a_base64") 1163, .str (Str.ofString "b2a_base64") 1164, .str (Str.ofString "/claim/cut.py") 1165, .int (736) 0, .int (1) 0, .int (1) 0, .int (1) 0, .int (3) 0, .ref 742, .bool true, .int (273) 0, .ref 743, .none, .ref 744, .ref 745, .ref 746, .int (1173) 0, .int (736) 0, .str (Str.ofString "/claim/cut.py") 1174] : List Value).toArray, ([] : List (Option Value)).toArray⟩
noncomputable def ob748 (P : Params) : Obj := ⟨.type "function", none, .func { name := (Str.ofString "b2a_base64"), qualname := (Str.ofString "b2a_base64"), params := (fd 24).1, body := .stmts (fd 24).2.1, scope := (fd 24).2.2, globals := 3, closure := [], defaults := .none, kwdefaults := .ref 741, doc := .none, pyModule := .str (Str.ofString "binascii") 1142, annotations := none, code := .ref 747, closureTuple := .none, builtins := 0 }, ([] : List (Option Value)).toArray⟩
noncomputable def ob749 (P : Params) : Obj := ⟨.type "tuple", none, .seq ([.none] : List Value).toArray 0, ([] : List (Option Value)).toArray⟩
noncomputable def ob755 (P : Params) : Obj := ⟨.type "code", none, .fields ([.str (Str.ofString "b64encode") 1178, .str (Str.ofString "b64encode") 1179, .str (Str.ofString "/claim/cut.py") 1180, .int (759) 0, .int (2) 0, .int (0) 0, .int (0) 0, .int (3) 0, .ref 750, .bool true, .int (273) 0, .ref 751, .none, .ref 752, .ref 753, .ref 754, .int (1184) 0, .int (759) 0, .str (Str.ofString "/claim/cut.py") 1185] : List Value).toArray, ([] : List (Option Value)).toArray⟩
noncomputable def ob756 (P : Params) : Obj := ⟨.type "function", none, .func { name := (Str.ofString "b64encode"), qualname := (Str.ofString "b64encode"), params := (fd 26).1, body := .stmts (fd 26).2.1, scope := (fd 26).2.2, globals := 3, closure := [], defaults := .ref 749, kwdefaults := .none, doc := .none, pyModule := .str (Str.ofString "cpy313.base64") 1176, annotations := none, code := .ref 755, closureTuple := .none, builtins := 0 }, ([] : List (Option Value)).toArray⟩
noncomputable def ob762 (P : Params) : Obj := ⟨.type "code", none, .fields ([.str (Str.ofString "standard_b64encode") 1187, .str (Str.ofString "standard_b64encode") 1188, .str (Str.ofString "/claim/cut.py") 1189, .int (765) 0, .int (1) 0, .int (0) 0, .int (0) 0, .int (3) 0, .ref 757, .bool true, .int (273) 0, .ref 758, .none, .ref 759, .ref 760, .ref 761, .int (1191) 0, .int (765) 0, .str (Str.ofString "/claim/cut.py") 1192] : List Value).toArray, ([] : List (Option Value)).toArray⟩
noncomputable def ob763 (P : Params) : Obj := ⟨.type "function", none, .func { name := (Str.ofString "standard_b64encode"), qualname := (Str.ofString "standard_b64encode"), params := (fd 27).1, body := .stmts (fd 27).2.1, scope := (fd 27).2.2, globals := 3, closure := [], defaults := .none, kwdefaults := .none, doc := .none, pyModule := .str (Str.ofString "cpy313.base64") 1176, annotations := none, code := .ref 762, closureTuple := .none, builtins := 0 }, ([] : List (Option Value)).toArray⟩
noncomputable def ob769 (P : Params) : Obj := ⟨.type "code", none, .fields ([.str (Str.ofString "urlsafe_b64encode") 1199, .str (Str.ofString "urlsafe_b64encode") 1200, .str (Str.ofString "/claim/cut.py") 1201, .int (768) 0, .int (1) 0, .int (0) 0, .int (0) 0, .int (3) 0, .ref 764, .bool true, .int (273) 0, .ref 765, .none, .ref 766, .ref 767, .ref 768, .int (1203) 0, .int (768) 0, .str (Str.ofString "/claim/cut.py") 1204] : List Value).toArray, ([] : List (Option Value)).toArray⟩
noncomputable def ob770 (P : Params) : Obj := ⟨.type "function", none, .func { name := (Str.ofString "urlsafe_b64encode"), qualname := (Str.ofString "urlsafe_b64encode"), params := (fd 29).1, body := .stmts (fd 29).2.1, scope := (fd 29).2.2, globals := 3, closure := [], defaults := .none, kwdefaults := .none, doc := .none, pyModule := .str (Str.ofString "cpy313.base64") 1176, annotations := none, code := .ref 769, closureTuple := .none, builtins := 0 }, ([] : List (Option Value)).toArray⟩
noncomputable def ob776 (P : Params) : Obj := ⟨.type "code", none, .fields ([.str (Str.ofString "S_IMODE") 1208, .str (Str.ofString "S_IMODE") 1209, .str (Str.ofString "/claim/cut.py") 1210, .int (771) 0, .int (1) 0, .int (0) 0, .int (0) 0, .int (3) 0, .ref 771, .bool true, .int (273) 0, .ref 772, .none, .ref 773, .ref 774, .ref 775, .int (1212) 0, .int (771) 0, .str (Str.ofString "/claim/cut.py") 1213] : List Value).toArray, ([] : List (Option Value)).toArray⟩
noncomputable def ob777 (P : Params) : Obj := ⟨.type "function", none, .func { name := (Str.ofString "S_IMODE"), qualname := (Str.ofString "S_IMODE"), params := (fd 31).1, body := .stmts (fd 31).2.1, scope := (fd 31).2.2, globals := 3, closure := [], defaults := .none, kwdefaults := .none, doc := .none, pyModule := .str (Str.ofString "cpy313.stat") 1206, annotations := none, code := .ref 776, closureTuple := .none, builtins := 0 }, ([] : List (Option Value)).toArray⟩
noncomputable def ob783 (P : Params) : Obj := ⟨.type "code", none, .fields ([.str (Str.ofString "S_IFMT") 1215, .str (Str.ofString "S_IFMT") 1216, .str (Str.ofString "/claim/cut.py") 1217, .int (773) 0, .int (1) 0, .int (0) 0, .int (0) 0, .int (3) 0, .ref 778, .bool true, .int (273) 0, .ref 779, .none, .ref 780, .ref 781, .ref 782, .int (1219) 0, .int (773) 0, .str (Str.ofString "/claim/cut.py") 1220] : List Value).toArray, ([] : List (Option Value)).toArray⟩
noncomputable def ob784 (P : Params) : Obj := ⟨.type "function", none, .func { name := (Str.ofString "S_IFMT"), qualname := (Str.ofString "S_IFMT"), params := (fd 32).1, body := .stmts (fd 32).2.1, scope := (fd 32).2.2, globals := 3, closure := [], defaults := .none, kwdefaults := .none, doc := .none, pyModule := .str (Str.ofString "cpy313.stat") 1206, annotations := none, code := .ref 783, closureTuple := .none, builtins := 0 }, ([] : List (Option Value)).toArray⟩
noncomputable def ob785 (P : Params) : Obj := ⟨.type "tuple", none, .seq ([.int (40960) 1232, .str (Str.ofString "l") 1260] : List Value).toArray 0, ([] : List (Option Value)).toArray⟩
noncomputable def ob786 (P : Params) : Obj := ⟨.type "tuple", none, .seq ([.int (49152) 1234, .str (Str.ofString "s") 1261] : List Value).toArray 0, ([] : List (Option Value)).toArray⟩
noncomputable def ob787 (P : Params) : Obj := ⟨.type "tuple", none, .seq ([.int (32768) 1228, .str (Str.ofString "-") 1262] : List Value).toArray 0, ([] : List (Option Value)).toArray⟩
noncomputable def ob788 (P : Params) : Obj := ⟨.type "tuple", none, .seq ([.int (24576) 1226, .str (Str.ofString "b") 1263] : List Value).toArray 0, ([] : List (Option Value)).toArray⟩
noncomputable def ob789 (P : Params) : Obj := ⟨.type "tuple", none, .seq ([.int (16384) 1222, .str (Str.ofString "d") 1264] : List Value).toArray 0, ([] : List (Option Value)).toArray⟩
noncomputable def ob790 (P : Params) : Obj := ⟨.type "tuple", none, .seq ([.int (8192) 1224, .str (Str.ofString "c") 1265] : List Value).toArray 0, ([] : List (Option Value)).toArray⟩
noncomputable def ob791 (P : Params) : Obj := ⟨.type "tuple", none, .seq ([.int (4096) 1230, .str (Str.ofString "p") 1266] : List Value).toArray 0, ([] : List (Option Value)).toArray⟩
noncomputable def ob792 (P : Params) : Obj := ⟨.type "tuple", none, .seq ([.ref 785, .ref 786, .ref 787, .ref 788, .ref 789, .ref 790, .ref 791] : List Value).toArray 0, ([] : List (Option Value)).toArray⟩
noncomputable def ob793 (P : Params) : Obj := ⟨.type "tuple", none, .seq ([.int (256) 1242, .str (Str.ofString "r") 1267] : List Value).toArray 0, ([] : List (Option Value)).toArray⟩
noncomputable def ob794 (P : Params) : Obj := ⟨.type "tuple", none, .seq ([.ref 793] : List Value).toArray 0, ([] : List (Option Value)).toArray⟩
noncomputable def ob795 (P : Params) : Obj := ⟨.type "tuple", none, .seq ([.int (128) 1244, .str (Str.ofString "w") 1268] : List Value).toArray 0, ([] : List (Option Value)).toArray⟩
noncomputable def ob796 (P : Params) : Obj := ⟨.type "tuple", none, .seq ([.ref 795] : List Value).toArray 0, ([] : List (Option Value)).toArray⟩
noncomputable def ob797 (P : Params) : Obj := ⟨.type "tuple", none, .seq ([.int (2112) 1269, .str (Str.ofString "s") 1270] : List Value).toArray 0, ([] : List (Option Value)).toArray⟩
noncomputable def ob798 (P : Params) : Obj := ⟨.type "tuple", none, .seq ([.int (2048) 1236, .str (Str.ofString "S") 1271] : List Value).toArray 0, ([] : List (Option Value)).toArray⟩
noncomputable def ob799 (P : Params) : Obj := ⟨.type "tuple", none, .seq ([.int (64) 1246, .str (Str.ofString "x") 1272] : List Value).toArray 0, ([] : List (Option Value)).toArray⟩
noncomputable def ob800 (P : Params) : Obj := ⟨.type "tuple", none, .seq ([.ref 797, .ref 798, .ref 799] : List Value).toArray 0, ([] : List (Option Value)).toArray⟩
noncomputable def ob801 (P : Params) : Obj := ⟨.type "tuple", none, .seq ([.int (32) 1248, .str (Str.ofString "r") 1273] : List Value).toArray 0, ([] : List (Option Value)).toArray⟩
noncomputable def ob802 (P : Params) : Obj := ⟨.type "tuple", none, .seq ([.ref 801] : List Value).toArray 0, ([] : List (Option Value)).toArray⟩
noncomputable def ob803 (P : Params) : Obj := ⟨.type "tuple", none, .seq ([.int (16) 1250, .str (Str.ofString "w") 1274] : List Value).toArray 0, ([] : List (Option Value)).toArray⟩
noncomputable def ob804 (P : Params) : Obj := ⟨.type "tuple", none, .seq ([.ref 803] : List Value).toArray 0, ([] : List (Option Value)).toArray⟩
noncomputable def ob805 (P : Params) : Obj := ⟨.type "tuple", none, .seq ([.int (1032) 1275, .str (Str.ofString "s") 1276] : List Value).toArray 0, ([] : List (Option Value)).toArray⟩
noncomputable def ob806 (P : Params) : Obj := ⟨.type "tuple", none, .seq ([.int (1024) 1238, .str (Str.ofString "S") 1277] : List Value).toArray 0, ([] : List (Option Value)).toArray⟩
noncomputable def ob807 (P : Params) : Obj := ⟨.type "tuple", none, .seq ([.int (8) 1252, .str (Str.ofString "x") 1278] : List Value).toArray 0, ([] : List (Option Value)).toArray⟩
noncomputable def ob808 (P : Params) : Obj := ⟨.type "tuple", none, .seq ([.ref 805, .ref 806, .ref 807] : List Value).toArray 0, ([] : List (Option Value)).toArray⟩
noncomputable def ob809 (P : Params) : Obj := ⟨.type "tuple", none, .seq ([.int (4) 1254, .str (Str.ofString "r") 1279] : List Value).toArray 0, ([] : List (Option Value)).toArray⟩
noncomputable def ob810 (P : Params) : Obj := ⟨.type "tuple", none, .seq ([.ref 809] : List Value).toArray 0, ([] : List (Option Value)).toArray⟩
noncomputable def ob811 (P : Params) : Obj := ⟨.type "tuple", none, .seq ([.int (2) 1256, .str (Str.ofString "w") 1280] : List Value).toArray 0, ([] : List (Option Value)).toArray⟩
noncomputable def ob812 (P : Params) : Obj := ⟨.type "tuple", none, .seq ([.ref 811] : List Value).toArray 0, ([] : List (Option Value)).toArray⟩
noncomputable def ob813 (P : Params) : Obj := ⟨.type "tuple", none, .seq ([.int (513) 1281, .str (Str.ofString "t") 1282] : List Value).toArray 0, ([] : List (Option Value)).toArray⟩
noncomputable def ob814 (P : Params) : Obj := ⟨.type "tuple", none, .seq ([.int (512) 1240, .str (Str.ofString "T") 1283] : List Value).toArray 0, ([] : List (Option Value)).toArray⟩
noncomputable def ob815 (P : Params) : Obj := ⟨.type "tuple", none, .seq ([.int (1) 1258, .str (Str.ofString "x") 1284] : List Value).toArray 0, ([] : List (Option Value)).toArray⟩
noncomputable def ob816 (P : Params) : Obj := ⟨.type "tuple", none, .seq ([.ref 813, .ref 814, .ref 815] : List Value).toArray 0, ([] : List (Option Value)).toArray⟩
noncomputable def ob817 (P : Params) : Obj := ⟨.type "tuple", none, .seq ([.ref 792, .ref 794, .ref 796, .ref 800, .ref 802, .ref 804, .ref 808, .ref 810, .ref 812, .ref 816] : List Value).toArray 0, ([] : List (Option Value)).toArray⟩
noncomputable def ob823 (P : Params) : Obj := ⟨.type "code", none, .fields ([.str (Str.ofString "filemode") 1286, .str (Str.ofString "filemode") 1287, .str (Str.ofString "/claim/cut.py") 1288, .int (795) 0, .int (1) 0, .int (0) 0, .int (0) 0, .int (3) 0, .ref 818, .bool true, .int (273) 0, .ref 819, .none, .ref 820, .ref 821, .ref 822, .int (1295) 0, .int (795) 0, .str (Str.ofString "/claim/cut.py") 1296] : List Value).toArray, ([] : List (Option Value)).toArray⟩
noncomputable def ob824 (P : Params) : Obj := ⟨.type "function", none, .func { name := (Str.ofString "filemode"), qualname := (Str.ofString "filemode"), params := (fd 53).1, body := .stmts (fd 53).2.1, scope := (fd 53).2.2, globals := 3, closure := [], defaults := .none, kwdefaults := .none, doc := .none, pyModule := .str (Str.ofString "cpy313.stat") 1206, annotations := none, code := .ref 823, closureTuple := .none, builtins := 0 }, ([] : List (Option Value)).toArray⟩
noncomputable def ob830 (P : Params) : Obj := ⟨.type "code", none, .fields ([.str (Str.ofString "_law_mode") 1302, .str (Str.ofString "_law_mode") 1303, .str (Str.ofString "/claim/cut.py") 1304, .int (814) 0, .int (1) 0, .int (0) 0, .int (0) 0, .int (3) 0, .ref 825, .bool true, .int (273) 0, .ref 826, .none, .ref 827, .ref 828, .ref 829, .int (1307) 0, .int (814) 0, .str (Str.ofString "/claim/cut.py") 1308] : List Value).toArray, ([] : List (Option Value)).toArray⟩
noncomputable def ob831 (P : Params) : Obj := ⟨.type "function", none, .func { name := (Str.ofString "_law_mode"), qualname := (Str.ofString "_law_mode"), params := (fd 56).1, body := .stmts (fd 56).2.1, scope := (fd 56).2.2, globals := 3, closure := [], defaults := .none, kwdefaults := .none, doc := .none, pyModule := .str (Str.ofString "law_nq0262_01") 1298, annotations := none, code := .ref 830, closureTuple := .none, builtins := 0 }, ([] : List (Option Value)).toArray⟩
noncomputable def ob835 (P : Params) : Obj := ⟨.type "code", none, .fields ([.str (Str.ofString "_law_figures") 1310, .str (Str.ofString "_law_figures") 1311, .str (Str.ofString "/claim/cut.py") 1312, .int (821) 0, .int (1) 0, .int (0) 0, .int (0) 0, .int (3) 0, .ref 832, .bool true, .int (273) 0, .ref 833, .none, .none, .none, .ref 834, .int (1313) 0, .int (821) 0, .str (Str.ofString "/claim/cut.py") 1314] : List Value).toArray, ([] : List (Option Value)).toArray⟩
noncomputable def ob836 (P : Params) : Obj := ⟨.type "function", none, .func { name := (Str.ofString "_law_figures"), qualname := (Str.ofString "_law_figures"), params := (fd 57).1, body := .stmts (fd 57).2.1, scope := (fd 57).2.2, globals := 3, closure := [], defaults := .none, kwdefaults := .none, doc := .none, pyModule := .str (Str.ofString "law_nq0262_01") 1298, annotations := none, code := .ref 835, closureTuple := .none, builtins := 0 }, ([] : List (Option Value)).toArray⟩
noncomputable def ob842 (P : Params) : Obj := ⟨.type "code", none, .fields ([.str (Str.ofString "_law_parted") 1316, .str (Str.ofString "_law_parted") 1317, .str (Str.ofString "/claim/cut.py") 1318, .int (831) 0, .int (2) 0, .int (0) 0, .int (0) 0, .int (3) 0, .ref 837, .bool true, .int (273) 0, .ref 838, .none, .ref 839, .ref 840, .ref 841, .int (1322) 0, .int (831) 0, .str (Str.ofString "/claim/cut.py") 1323] : List Value).toArray, ([] : List (Option Value)).toArray⟩
noncomputable def ob843 (P : Params) : Obj := ⟨.type "function", none, .func { name := (Str.ofString "_law_parted"), qualname := (Str.ofString "_law_parted"), params := (fd 58).1, body := .stmts (fd 58).2.1, scope := (fd 58).2.2, globals := 3, closure := [], defaults := .none, kwdefaults := .none, doc := .none, pyModule := .str (Str.ofString "law_nq0262_01") 1298, annotations := none, code := .ref 842, closureTuple := .none, builtins := 0 }, ([] : List (Option Value)).toArray⟩
noncomputable def ob849 (P : Params) : Obj := ⟨.type "code", none, .fields ([.str (Str.ofString "_law_all_parted") 1325, .str (Str.ofString "_law_all_parted") 1326, .str (Str.ofString "/claim/cut.py") 1327, .int (838) 0, .int (2) 0, .int (0) 0, .int (0) 0, .int (3) 0, .ref 844, .bool true, .int (273) 0, .ref 845, .none, .ref 846, .ref 847, .ref 848, .int (1331) 0, .int (838) 0, .str (Str.ofString "/claim/cut.py") 1332] : List Value).toArray, ([] : List (Option Value)).toArray⟩
noncomputable def ob850 (P : Params) : Obj := ⟨.type "function", none, .func { name := (Str.ofString "_law_all_parted"), qualname := (Str.ofString "_law_all_parted"), params := (fd 59).1, body := .stmts (fd 59).2.1, scope := (fd 59).2.2, globals := 3, closure := [], defaults := .none, kwdefaults := .none, doc := .none, pyModule := .str (Str.ofString "law_nq0262_01") 1298, annotations := none, code := .ref 849, closureTuple := .none, builtins := 0 }, ([] : List (Option Value)).toArray⟩
noncomputable def ob856 (P : Params) : Obj := ⟨.type "code", none, .fields ([.str (Str.ofString "_law_octets") 1334, .str (Str.ofString "_law_octets") 1335, .str (Str.ofString "/claim/cut.py") 1336, .int (843) 0, .int (1) 0, .int (0) 0, .int (0) 0, .int (3) 0, .ref 851, .bool true, .int (273) 0, .ref 852, .none, .ref 853, .ref 854, .ref 855, .int (1341) 0, .int (843) 0, .str (Str.ofString "/claim/cut.py") 1342] : List Value).toArray, ([] : List (Option Value)).toArray⟩
noncomputable def ob857 (P : Params) : Obj := ⟨.type "function", none, .func { name := (Str.ofString "_law_octets"), qualname := (Str.ofString "_law_octets"), params := (fd 60).1, body := .stmts (fd 60).2.1, scope := (fd 60).2.2, globals := 3, closure := [], defaults := .none, kwdefaults := .none, doc := .none, pyModule := .str (Str.ofString "law_nq0262_01") 1298, annotations := none, code := .ref 856, closureTuple := .none, builtins := 0 }, ([] : List (Option Value)).toArray⟩
noncomputable def ob863 (P : Params) : Obj := ⟨.type "code", none, .fields ([.str (Str.ofString "_law_row") 1344, .str (Str.ofString "_law_row") 1345, .str (Str.ofString "/claim/cut.py") 1346, .int (852) 0, .int (2) 0, .int (0) 0, .int (0) 0, .int (3) 0, .ref 858, .bool true, .int (273) 0, .ref 859, .none, .ref 860, .ref 861, .ref 862, .int (1351) 0, .int (852) 0, .str (Str.ofString "/claim/cut.py") 1352] : List Value).toArray, ([] : List (Option Value)).toArray⟩
noncomputable def ob864 (P : Params) : Obj := ⟨.type "function", none, .func { name := (Str.ofString "_law_row"), qualname := (Str.ofString "_law_row"), params := (fd 61).1, body := .stmts (fd 61).2.1, scope := (fd 61).2.2, globals := 3, closure := [], defaults := .none, kwdefaults := .none, doc := .none, pyModule := .str (Str.ofString "law_nq0262_01") 1298, annotations := none, code := .ref 863, closureTuple := .none, builtins := 0 }, ([] : List (Option Value)).toArray⟩
noncomputable def ob868 (P : Params) : Obj := ⟨.type "code", none, .fields ([.str (Str.ofString "_law_text") 1354, .str (Str.ofString "_law_text") 1355, .str (Str.ofString "/claim/cut.py") 1356, .int (859) 0, .int (2) 0, .int (0) 0, .int (0) 0, .int (3) 0, .ref 865, .bool true, .int (273) 0, .ref 866, .none, .none, .none, .ref 867, .int (1357) 0, .int (859) 0, .str (Str.ofString "/claim/cut.py") 1358] : List Value).toArray, ([] : List (Option Value)).toArray⟩
noncomputable def ob869 (P : Params) : Obj := ⟨.type "function", none, .func { name := (Str.ofString "_law_text"), qualname := (Str.ofString "_law_text"), params := (fd 62).1, body := .stmts (fd 62).2.1, scope := (fd 62).2.2, globals := 3, closure := [], defaults := .none, kwdefaults := .none, doc := .none, pyModule := .str (Str.ofString "law_nq0262_01") 1298, annotations := none, code := .ref 868, closureTuple := .none, builtins := 0 }, ([] : List (Option Value)).toArray⟩
noncomputable def ob875 (P : Params) : Obj := ⟨.type "code", none, .fields ([.str (Str.ofString "_law_kind") 1360, .str (Str.ofString "_law_kind") 1361, .str (Str.ofString "/claim/cut.py") 1362, .int (865) 0, .int (3) 0, .int (0) 0, .int (0) 0, .int (3) 0, .ref 870, .bool true, .int (273) 0, .ref 871, .none, .ref 872, .ref 873, .ref 874, .int (1366) 0, .int (865) 0, .str (Str.ofString "/claim/cut.py") 1367] : List Value).toArray, ([] : List (Option Value)).toArray⟩
noncomputable def ob876 (P : Params) : Obj := ⟨.type "function", none, .func { name := (Str.ofString "_law_kind"), qualname := (Str.ofString "_law_kind"), params := (fd 63).1, body := .stmts (fd 63).2.1, scope := (fd 63).2.2, globals := 3, closure := [], defaults := .none, kwdefaults := .none, doc := .none, pyModule := .str (Str.ofString "law_nq0262_01") 1298, annotations := none, code := .ref 875, closureTuple := .none, builtins := 0 }, ([] : List (Option Value)).toArray⟩
noncomputable def ob882 (P : Params) : Obj := ⟨.type "code", none, .fields ([.str (Str.ofString "_law_cut") 1369, .str (Str.ofString "_law_cut") 1370, .str (Str.ofString "/claim/cut.py") 1371, .int (871) 0, .int (3) 0, .int (0) 0, .int (0) 0, .int (3) 0, .ref 877, .bool true, .int (273) 0, .ref 878, .none, .ref 879, .ref 880, .ref 881, .int (1379) 0, .int (871) 0, .str (Str.ofString "/claim/cut.py") 1380] : List Value).toArray, ([] : List (Option Value)).toArray⟩
noncomputable def ob883 (P : Params) : Obj := ⟨.type "function", none, .func { name := (Str.ofString "_law_cut"), qualname := (Str.ofString "_law_cut"), params := (fd 64).1, body := .stmts (fd 64).2.1, scope := (fd 64).2.2, globals := 3, closure := [], defaults := .none, kwdefaults := .none, doc := .none, pyModule := .str (Str.ofString "law_nq0262_01") 1298, annotations := none, code := .ref 882, closureTuple := .none, builtins := 0 }, ([] : List (Option Value)).toArray⟩
noncomputable def ob887 (P : Params) : Obj := ⟨.type "code", none, .fields ([.str (Str.ofString "_law_read") 1382, .str (Str.ofString "_law_read") 1383, .str (Str.ofString "/claim/cut.py") 1384, .int (882) 0, .int (2) 0, .int (0) 0, .int (0) 0, .int (3) 0, .ref 884, .bool true, .int (273) 0, .ref 885, .none, .none, .none, .ref 886, .int (1385) 0, .int (882) 0, .str (Str.ofString "/claim/cut.py") 1386] : List Value).toArray, ([] : List (Option Value)).toArray⟩
noncomputable def ob888 (P : Params) : Obj := ⟨.type "function", none, .func { name := (Str.ofString "_law_read"), qualname := (Str.ofString "_law_read"), params := (fd 65).1, body := .stmts (fd 65).2.1, scope := (fd 65).2.2, globals := 3, closure := [], defaults := .none, kwdefaults := .none, doc := .none, pyModule := .str (Str.ofString "law_nq0262_01") 1298, annotations := none, code := .ref 887, closureTuple := .none, builtins := 0 }, ([] : List (Option Value)).toArray⟩
noncomputable def ob894 (P : Params) : Obj := ⟨.type "code", none, .fields ([.str (Str.ofString "_law_same") 1388, .str (Str.ofString "_law_same") 1389, .str (Str.ofString "/claim/cut.py") 1390, .int (884) 0, .int (3) 0, .int (0) 0, .int (0) 0, .int (3) 0, .ref 889, .bool true, .int (273) 0, .ref 890, .none, .ref 891, .ref 892, .ref 893, .int (1394) 0, .int (884) 0, .str (Str.ofString "/claim/cut.py") 1395] : List Value).toArray, ([] : List (Option Value)).toArray⟩
noncomputable def ob895 (P : Params) : Obj := ⟨.type "function", none, .func { name := (Str.ofString "_law_same"), qualname := (Str.ofString "_law_same"), params := (fd 66).1, body := .stmts (fd 66).2.1, scope := (fd 66).2.2, globals := 3, closure := [], defaults := .none, kwdefaults := .none, doc := .none, pyModule := .str (Str.ofString "law_nq0262_01") 1298, annotations := none, code := .ref 894, closureTuple := .none, builtins := 0 }, ([] : List (Option Value)).toArray⟩
noncomputable def ob901 (P : Params) : Obj := ⟨.type "code", none, .fields ([.str (Str.ofString "_law_plain") 1397, .str (Str.ofString "_law_plain") 1398, .str (Str.ofString "/claim/cut.py") 1399, .int (886) 0, .int (3) 0, .int (0) 0, .int (0) 0, .int (3) 0, .ref 896, .bool true, .int (273) 0, .ref 897, .none, .ref 898, .ref 899, .ref 900, .int (1404) 0, .int (886) 0, .str (Str.ofString "/claim/cut.py") 1405] : List Value).toArray, ([] : List (Option Value)).toArray⟩
noncomputable def ob902 (P : Params) : Obj := ⟨.type "function", none, .func { name := (Str.ofString "_law_plain"), qualname := (Str.ofString "_law_plain"), params := (fd 67).1, body := .stmts (fd 67).2.1, scope := (fd 67).2.2, globals := 3, closure := [], defaults := .none, kwdefaults := .none, doc := .none, pyModule := .str (Str.ofString "law_nq0262_01") 1298, annotations := none, code := .ref 901, closureTuple := .none, builtins := 0 }, ([] : List (Option Value)).toArray⟩
noncomputable def ob908 (P : Params) : Obj := ⟨.type "code", none, .fields ([.str (Str.ofString "_law_runs") 1407, .str (Str.ofString "_law_runs") 1408, .str (Str.ofString "/claim/cut.py") 1409, .int (893) 0, .int (3) 0, .int (0) 0, .int (0) 0, .int (3) 0, .ref 903, .bool true, .int (273) 0, .ref 904, .none, .ref 905, .ref 906, .ref 907, .int (1416) 0, .int (893) 0, .str (Str.ofString "/claim/cut.py") 1417] : List Value).toArray, ([] : List (Option Value)).toArray⟩
noncomputable def ob909 (P : Params) : Obj := ⟨.type "function", none, .func { name := (Str.ofString "_law_runs"), qualname := (Str.ofString "_law_runs"), params := (fd 68).1, body := .stmts (fd 68).2.1, scope := (fd 68).2.2, globals := 3, closure := [], defaults := .none, kwdefaults := .none, doc := .none, pyModule := .str (Str.ofString "law_nq0262_01") 1298, annotations := none, code := .ref 908, closureTuple := .none, builtins := 0 }, ([] : List (Option Value)).toArray⟩
noncomputable def ob915 (P : Params) : Obj := ⟨.type "code", none, .fields ([.str (Str.ofString "_law_pair") 1419, .str (Str.ofString "_law_pair") 1420, .str (Str.ofString "/claim/cut.py") 1421, .int (905) 0, .int (1) 0, .int (0) 0, .int (0) 0, .int (3) 0, .ref 910, .bool true, .int (273) 0, .ref 911, .none, .ref 912, .ref 913, .ref 914, .int (1425) 0, .int (905) 0, .str (Str.ofString "/claim/cut.py") 1426] : List Value).toArray, ([] : List (Option Value)).toArray⟩
noncomputable def ob916 (P : Params) : Obj := ⟨.type "function", none, .func { name := (Str.ofString "_law_pair"), qualname := (Str.ofString "_law_pair"), params := (fd 69).1, body := .stmts (fd 69).2.1, scope := (fd 69).2.2, globals := 3, closure := [], defaults := .none, kwdefaults := .none, doc := .none, pyModule := .str (Str.ofString "law_nq0262_01") 1298, annotations := none, code := .ref 915, closureTuple := .none, builtins := 0 }, ([] : List (Option Value)).toArray⟩
noncomputable def ob920 (P : Params) : Obj := ⟨.type "code", none, .fields ([.str (Str.ofString "law") 1428, .str (Str.ofString "law") 1429, .str (Str.ofString "/claim/cut.py") 1430, .int (909) 0, .int (1) 0, .int (0) 0, .int (0) 0, .int (3) 0, .ref 917, .bool true, .int (273) 0, .ref 918, .none, .none, .none, .ref 919, .int (1431) 0, .int (909) 0, .str (Str.ofString "/claim/cut.py") 1432] : List Value).toArray, ([] : List (Option Value)).toArray⟩
noncomputable def ob921 (P : Params) : Obj := ⟨.type "function", none, .func { name := (Str.ofString "law"), qualname := (Str.ofString "law"), params := (fd 70).1, body := .stmts (fd 70).2.1, scope := (fd 70).2.2, globals := 3, closure := [], defaults := .none, kwdefaults := .none, doc := .none, pyModule := .str (Str.ofString "law_nq0262_01") 1298, annotations := none, code := .ref 920, closureTuple := .none, builtins := 0 }, ([] : List (Option Value)).toArray⟩
noncomputable def theK (P : Params) : Frag := (nat_lit 2, ob2 P) :: (nat_lit 3, ob3 P) :: (nat_lit 52, ob52 P) :: (nat_lit 53, ob53 P) :: (nat_lit 79, ob79 P) :: (nat_lit 80, ob80 P) :: (nat_lit 82, ob82 P) :: (nat_lit 83, ob83 P) :: (nat_lit 84, ob84 P) :: (nat_lit 109, ob109 P) :: (nat_lit 110, ob110 P) :: (nat_lit 340, ob340 P) :: (nat_lit 350, ob350 P) :: (nat_lit 356, ob356 P) :: (nat_lit 357, ob357 P) :: (nat_lit 363, ob363 P) :: (nat_lit 364, ob364 P) :: (nat_lit 370, ob370 P) :: (nat_lit 371, ob371 P) :: (nat_lit 526, ob526 P) :: (nat_lit 532, ob532 P) :: (nat_lit 533, ob533 P) :: (nat_lit 586, ob586 P) :: (nat_lit 587, ob587 P) :: (nat_lit 639, ob639 P) :: (nat_lit 645, ob645 P) :: (nat_lit 646, ob646 P) :: (nat_lit 652, ob652 P) :: (nat_lit 653, ob653 P) :: (nat_lit 654, ob654 P) :: (nat_lit 682, ob682 P) :: (nat_lit 683, ob683 P) :: (nat_lit 689, ob689 P) :: (nat_lit 690, ob690 P) :: (nat_lit 721, ob721 P) :: (nat_lit 722, ob722 P) :: (nat_lit 732, ob732 P) :: (nat_lit 733, ob733 P) :: (nat_lit 739, ob739 P) :: (nat_lit 740, ob740 P) :: (nat_lit 741, ob741 P) :: (nat_lit 747, ob747 P) :: (nat_lit 748, ob748 P) :: (nat_lit 749, ob749 P) :: (nat_lit 755, ob755 P) :: (nat_lit 756, ob756 P) :: (nat_lit 762, ob762 P) :: (nat_lit 763, ob763 P) :: (nat_lit 769, ob769 P) :: (nat_lit 770, ob770 P) :: (nat_lit 776, ob776 P) :: (nat_lit 777, ob777 P) :: (nat_lit 783, ob783 P) :: (nat_lit 784, ob784 P) :: (nat_lit 785, ob785 P) :: (nat_lit 786, ob786 P) :: (nat_lit 787, ob787 P) :: (nat_lit 788, ob788 P) :: (nat_lit 789, ob789 P) :: (nat_lit 790, ob790 P) :: (nat_lit 791, ob791 P) :: (nat_lit 792, ob792 P) :: (nat_lit 793, ob793 P) :: (nat_lit 794, ob794 P) :: (nat_lit 795, ob795 P) :: (nat_lit 796, ob796 P) :: (nat_lit 797, ob797 P) :: (nat_lit 798, ob798 P) :: (nat_lit 799, ob799 P) :: (nat_lit 800, ob800 P) :: (nat_lit 801, ob801 P) :: (nat_lit 802, ob802 P) :: (nat_lit 803, ob803 P) :: (nat_lit 804, ob804 P) :: (nat_lit 805, ob805 P) :: (nat_lit 806, ob806 P) :: (nat_lit 807, ob807 P) :: (nat_lit 808, ob808 P) :: (nat_lit 809, ob809 P) :: (nat_lit 810, ob810 P) :: (nat_lit 811, ob811 P) :: (nat_lit 812, ob812 P) :: (nat_lit 813, ob813 P) :: (nat_lit 814, ob814 P) :: (nat_lit 815, ob815 P) :: (nat_lit 816, ob816 P) :: (nat_lit 817, ob817 P) :: (nat_lit 823, ob823 P) :: (nat_lit 824, ob824 P) :: (nat_lit 830, ob830 P) :: (nat_lit 831, ob831 P) :: (nat_lit 835, ob835 P) :: (nat_lit 836, ob836 P) :: (nat_lit 842, ob842 P) :: (nat_lit 843, ob843 P) :: (nat_lit 849, ob849 P) :: (nat_lit 850, ob850 P) :: (nat_lit 856, ob856 P) :: (nat_lit 857, ob857 P) :: (nat_lit 863, ob863 P) :: (nat_lit 864, ob864 P) :: (nat_lit 868, ob868 P) :: (nat_lit 869, ob869 P) :: (nat_lit 875, ob875 P) :: (nat_lit 876, ob876 P) :: (nat_lit 882, ob882 P) :: (nat_lit 883, ob883 P) :: (nat_lit 887, ob887 P) :: (nat_lit 888, ob888 P) :: (nat_lit 894, ob894 P) :: (nat_lit 895, ob895 P) :: (nat_lit 901, ob901 P) :: (nat_lit 902, ob902 P) :: (nat_lit 908, ob908 P) :: (nat_lit 909, ob909 P) :: (nat_lit 915, ob915 P) :: (nat_lit 916, ob916 P) :: (nat_lit 920, ob920 P) :: (nat_lit 921, ob921 P) :: []
noncomputable def theAs : List Addr := [2, 3, 52, 53, 79, 80, 82, 83, 84, 109, 110, 340, 350, 356, 357, 363, 364, 370, 371, 526, 532, 533, 586, 587, 639, 645, 646, 652, 653, 654, 682, 683, 689, 690, 721, 722, 732, 733, 739, 740, 741, 747, 748, 749, 755, 756, 762, 763, 769, 770, 776, 777, 783, 784, 785, 786, 787, 788, 789, 790, 791, 792, 793, 794, 795, 796, 797, 798, 799, 800, 801, 802, 803, 804, 805, 806, 807, 808, 809, 810, 811, 812, 813, 814, 815, 816, 817, 823, 824, 830, 831, 835, 836, 842, 843, 849, 850, 856, 857, 863, 864, 868, 869, 875, 876, 882, 883, 887, 888, 894, 895, 901, 902, 908, 909, 915, 916, 920, 921]
end Mine
end
section
open PySem PySem.W PyProof.Rows
set_option maxRecDepth 100000
set_option maxHeartbeats 0
namespace Mine
theorem saidOk : OpenLaw.wellSaid PySem.Challenge.rw_nq0262_01 = true := by
  rw [Fast.te9446332074065402090]
  kernel_rfl
end Mine
end
section
open PySem PySem.W PyProof.Rows
set_option maxRecDepth 100000
set_option maxHeartbeats 0
namespace Mine
theorem theAs_is (P : Params) : theAs = (theK P).map (·.1) := by kernel_rfl
theorem leftK : LeftO thePr theQ theLoose (fun _ => true) (fun s => theAs.map s.heap.get?) (fun w => (theK w.params).map fun p => some p.2) 100000 :=
  left_of thePr theQ theLoose (fun s => theAs.map s.heap.get?) (fun w => by kernel_rfl)
end Mine
end
section
open PySem PySem.W PyProof.Rows
set_option maxRecDepth 100000
set_option maxHeartbeats 0
namespace Mine
abbrev theRow : OpenRow := PySem.Challenge.rw_nq0262_01.row
noncomputable def lawPair : Option (DefRec × List (Str × Expr)) := defOf theQ (Str.ofString "law")
theorem lawPair_some : lawPair.isSome = true := by kernel_rfl
noncomputable def lawD : DefRec := (lawPair.get lawPair_some).1
theorem hdef : defOf theQ theRow.name = some (lawD, []) := by kernel_rfl
theorem hthe : theRow.prog.theDef theRow.name = some (lawD.params, lawD.body, lawD.scope) := by kernel_rfl
theorem hkw : kwWritten? lawD.params.kwonlyargs lawD.params.kw_defaults = some [] := by kernel_rfl
theorem hok : (chainsOk theQ && opensWell theRow.prog && (frees theRow.toRowW && theRow.within.isEmpty)) = true := by kernel_rfl
theorem hbare : theRow.prog.bare := ⟨rfl, rfl, rfl, rfl, rfl, by decide +kernel⟩
theorem hprom : theRow.toRowW.promised := by w_witness2
theorem head_of (said : OpenLaw.wellSaid PySem.Challenge.rw_nq0262_01 = true) {α : Type} {Yf : Shared → α} {Ya : World → α} {YP : World → Heap → Prop} {N : Nat}
    (left : LeftO thePr theQ theLoose (fun _ => true) Yf Ya N) (hY : ∀ w s, Yf s = Ya w → YP w s.heap) (hYk : ∀ w h h', YP w h → (∀ b o, h.get? b = some o → h'.get? b = some o) → YP w h')
    (call : WalkO theQ theLoose (fun _ _ => True) YP theRow.toRowW lawD [] fun f vs => PySem.call f vs) : PySem.Challenge.rw_nq0262_01.Holds :=
  holds_law said fun k1 => holds_open (r := theRow) (q := theQ) (loose := theLoose) (Xt := fun _ => true) (XP := fun _ _ => True) left hY hYk (fun _ _ => trivial) (fun _ _ _ _ _ => trivial) hdef hthe hkw
    (fun s _ => ⟨fun _ h => (nomatch h), fun _ h => (nomatch h), fun _ _ _ h => (nomatch h), fun _ _ h => (nomatch h)⟩) rfl k1 hok hbare hprom call
end Mine
end
section
open PySem PySem.W PyProof.Rows
set_option maxRecDepth 100000
namespace Mine
noncomputable abbrev thePg : Program := PySem.Challenge.rw_nq0262_01.prog
/-- a call of the def at f, from any frame: what it asks of the place, and what it hands on -/
noncomputable abbrev Called (w : World) (f : Addr) (vs : List Value) (news : List (Addr × Obj)) (k : Nat) (ret : Heap → Addr → (Str → Option Value) → Shared → (Value → Shared → Prop) → Prop) : Prop :=
  ∀ (loose : List Str) (mean : ExcName → Option Value) (mg mb : Str → Option Value) (dp un : Nat) (gd : Option (List Code)) (cn : Str) (cs : Scope) (a : Addr) (ccd : Value) (cl : List (Str × Addr)) (outer : List Env) (A₀ : Around) (base h₀ : Heap) (L : Addr) (m : Str → Option Value) (s : Shared) (Q E : Value → Shared → Prop),
    Below A₀ base outer h₀ → Fr h₀ L s.heap m → (theK w.params).In h₀ → News h₀ L s.heap news → Top theQ loose mean mg mb h₀ → cs.kind = .function → dp + k < recursionLimit → un + 8 * k < cLine → ret h₀ L m s Q →
      wpAny (model thePg w) (ktrTop dp un gd cn cs L a ccd cl outer) (call (.ref f) vs) Q E s
/-- a plain value back, nothing changed -/
noncomputable abbrev RetV (news : List (Addr × Obj)) (R : Tok → Value) (h₀ : Heap) (L : Addr) (m : Str → Option Value) (s : Shared) (Q : Value → Shared → Prop) : Prop :=
  ∀ (t : Tok) (h' : Heap) (tk' : Nat), Fr h₀ L h' m → News h₀ L h' news → Q (R t) { s with heap := h', toks := tk' }
end Mine
end
section
open PySem PySem.W PyProof.Rows
set_option maxRecDepth 100000
namespace Mine
/-- a stop of the walk -/
noncomputable def Halt (P : Prop) : Prop := P
theorem halt {P : Prop} (h : Halt P) : P := h
theorem halt' {P : Prop} (h : P) : Halt P := h
section
variable {M : Model} {A : Around} {env : Env} {E : Value → Shared → Prop} {s : Shared}
/-- a list of one statement: nothing comes behind it -/
theorem execs_one {st : Stmt} {Q : Flow → Shared → Prop} (h : wpAny M A (exec st env) Q E s) : wpAny M A (execs [st] env) Q E s :=
  wpAny_execs_cons (wpAny_mono h (fun f s' z => by cases f <;> first | exact z | exact wpAny_execs_nil z) fun _ _ z => z)
/-- what comes behind a statement -/
noncomputable def Then (M : Model) (A : Around) (env : Env) (E : Value → Shared → Prop) (rest : List Stmt) (Q : Flow → Shared → Prop) : Flow → Shared → Prop
  | .next, s => wpAny M A (execs rest env) Q E s
  | f, s => Q f s
theorem execs_then {st : Stmt} {rest : List Stmt} {Q : Flow → Shared → Prop} (h : wpAny M A (exec st env) (Then M A env E rest Q) E s) : wpAny M A (execs (st :: rest) env) Q E s :=
  wpAny_execs_cons (wpAny_mono h (fun f s' z => by cases f <;> exact z) fun _ _ z => z)
theorem then_tok {rest : List Stmt} {Q : Flow → Shared → Prop} {hp : Heap} {g d t o} (h : ∀ t' : Nat, wpAny M A (execs rest env) Q E ⟨hp, g, d, t', o⟩) : Then M A env E rest Q .next ⟨hp, g, d, t, o⟩ := h t
theorem then_next {rest : List Stmt} {Q : Flow → Shared → Prop} (h : wpAny M A (execs rest env) Q E s) : Then M A env E rest Q .next s := h
theorem then_ret {rest : List Stmt} {Q : Flow → Shared → Prop} {v : Value} (h : Q (.ret v) s) : Then M A env E rest Q (.ret v) s := h
theorem then_brk {rest : List Stmt} {Q : Flow → Shared → Prop} (h : Q .brk s) : Then M A env E rest Q .brk s := h
theorem then_cont {rest : List Stmt} {Q : Flow → Shared → Prop} (h : Q .cont s) : Then M A env E rest Q .cont s := h
theorem const_str {x : Str} {k pos} {hp : Heap} {g d t o} {Q : Value → Shared → Prop} (h : Q (.str x t) ⟨hp, g, d, t + 1, o⟩) : wpAny M A (eval (.Constant (.str x) k pos) env) Q E ⟨hp, g, d, t, o⟩ := wpAny_Constant_str h
theorem const_int {i k pos} {hp : Heap} {g d t o} {Q : Value → Shared → Prop} (h : Q (.int i t) ⟨hp, g, d, t + 1, o⟩) : wpAny M A (eval (.Constant (.int i) k pos) env) Q E ⟨hp, g, d, t, o⟩ := wpAny_Constant_int h
/-- names for the long words of a goal -/
theorem let_all {body : List Stmt} {env : Env} {Q : Flow → Shared → Prop} (h : let v' := env; let Q' := Q; let E' := E; wpAny M A (execs body v') Q' E' s) : wpAny M A (execs body env) Q E s := h
/-- a word in the context: the walk is to stand at a call of f -/
noncomputable def Stop (_ : Addr) : Prop := True
theorem stop {f : Addr} : Stop f := trivial
theorem halt_call {f : Addr} {vs : List Value} {Q : Value → Shared → Prop} (_ : Stop f) (h : Halt (wpAny M A (call (.ref f) vs) Q E s)) : wpAny M A (call (.ref f) vs) Q E s := h
theorem halt_callW {f : Addr} {vs : List Value} {kw : List (Str × Value)} {Q : Value → Shared → Prop} (_ : Stop f) (h : Halt (wpAny M A (call (.ref f) vs kw) Q E s)) : wpAny M A (call (.ref f) vs kw) Q E s := h
end
/-- a contract of the def at f as the class call reaches it -/
noncomputable abbrev CalledC (w : World) (f : Addr) (args : Args) (news : List (Addr × Obj)) (k : Nat) (ret : Heap → Addr → (Str → Option Value) → Shared → (Value → Shared → Prop) → Prop) : Prop :=
  ∀ (loose : List Str) (mean : ExcName → Option Value) (mg mb : Str → Option Value) (dp un : Nat) (gd : Option (List Code)) (cn : Str) (cs : Scope) (a : Addr) (ccd : Value) (cl : List (Str × Addr)) (outer : List Env) (A₀ : Around) (base h₀ : Heap) (L : Addr) (m : Str → Option Value) (s : Shared) (R : Result → Shared → Prop),
    Below A₀ base outer h₀ → Fr h₀ L s.heap m → (theK w.params).In h₀ → News h₀ L s.heap news → Top theQ loose mean mg mb h₀ → cs.kind = .function → dp + k < recursionLimit → un + 8 * k < cLine → ret h₀ L m s (fun v s' => R (.ok (.ret v)) s') →
      codeAny (model thePg w) (ktrTop dp un gd cn cs L a ccd cl outer) (.call (.ref f) args) R s
/-- a contract of a call with words -/
noncomputable abbrev CalledKw (w : World) (f : Addr) (vs : List Value) (kw : List (Str × Value)) (news : List (Addr × Obj)) (k : Nat) (ret : Heap → Addr → (Str → Option Value) → Shared → (Value → Shared → Prop) → Prop) : Prop :=
  ∀ (loose : List Str) (mean : ExcName → Option Value) (mg mb : Str → Option Value) (dp un : Nat) (gd : Option (List Code)) (cn : Str) (cs : Scope) (a : Addr) (ccd : Value) (cl : List (Str × Addr)) (outer : List Env) (A₀ : Around) (base h₀ : Heap) (L : Addr) (m : Str → Option Value) (s : Shared) (Q E : Value → Shared → Prop),
    Below A₀ base outer h₀ → Fr h₀ L s.heap m → (theK w.params).In h₀ → News h₀ L s.heap news → Top theQ loose mean mg mb h₀ → cs.kind = .function → dp + k < recursionLimit → un + 8 * k < cLine → ret h₀ L m s Q →
      wpAny (model thePg w) (ktrTop dp un gd cn cs L a ccd cl outer) (call (.ref f) vs kw) Q E s
end Mine
end
section
open PySem PySem.W PyProof.Rows
set_option maxRecDepth 100000
namespace Mine
noncomputable abbrev ent (P : Params) (n : String) (k : Tok) (v : Value) : DictEntry := ⟨PyData.keyHash P (Str.ofString n), .str (Str.ofString n) k, v⟩
noncomputable abbrev deqOf (xs : List Value) (k : Int) : Obj := { cls := .type "collections.deque", data := .fields (Value.none :: Value.int k 0 :: xs).toArray }
/-- the lexer's own entries: without punctuation -/
noncomputable abbrev lexEs (P : Params) (tk : Nat → Tok) (posix : Bool) (eof : Value) (words : Str) (split : Bool) (sx pb fs : Addr) (state token : Value) : List DictEntry :=
  [ent P "instream" (tk 0) (.ref sx), ent P "infile" (tk 1) .none, ent P "posix" (tk 2) (.bool posix), ent P "eof" (tk 3) eof, ent P "commenters" (tk 4) (.str (Str.ofString "#") (tk 24)), ent P "wordchars" (tk 5) (.str words (tk 25)), ent P "whitespace" (tk 6) (.str (Str.ofString " \t\r\n") (tk 26)), ent P "whitespace_split" (tk 7) (.bool split), ent P "quotes" (tk 8) (.str (Str.ofString "'\"") (tk 28)), ent P "escape" (tk 9) (.str (Str.ofString "\\") (tk 29)), ent P "escapedquotes" (tk 10) (.str (Str.ofString "\"") (tk 30)),
   ent P "state" (tk 11) state, ent P "pushback" (tk 12) (.ref pb), ent P "lineno" (tk 13) (.int 1 (tk 33)), ent P "debug" (tk 14) (.int 0 (tk 34)), ent P "token" (tk 15) token, ent P "filestack" (tk 16) (.ref fs), ent P "source" (tk 17) .none]
noncomputable abbrev sioEs (P : Params) (tk : Nat → Tok) (buf : Str) (pos : Value) : List DictEntry := [ent P "_StringIO__newline" (tk 40) (.str (Str.ofString "\n") (tk 41)), ent P "_StringIO__buf" (tk 42) (.str buf (tk 43)), ent P "_StringIO__pos" (tk 44) pos]
end Mine
end
section
open PySem PySem.W PyProof.Rows PySem.Builtin PySem.Builtin.Str
set_option maxRecDepth 100000
namespace Mine
noncomputable def signAt (buf : Str) (k : Nat) : Str := ⟨((buf.cps.toList.drop k).take 1).toArray⟩
theorem slice_one {buf : Str} {k : Int} (h0 : 0 ≤ k) (h1 : k < (buf.length : Int)) : Txt.slice buf (some k) (some (k + 1)) = signAt buf k.toNat := by
  have hi : strSliceIndices (some k) (some (k + 1)) 1 buf.length = [k.toNat] := by
    unfold strSliceIndices sliceRange
    simp only [show (1 : Int) > 0 by decide, if_true]
    have e1 : (if k < 0 then k + (buf.length : Int) else k) = k := if_neg (by omega)
    have e2 : (if k + 1 < 0 then k + 1 + (buf.length : Int) else k + 1) = k + 1 := if_neg (by omega)
    rw [e1, e2]
    have m1 : max 0 (min k (buf.length : Int)) = k := by omega
    have m2 : max 0 (min (k + 1) (buf.length : Int)) = k + 1 := by omega
    rw [m1, m2, if_pos (by omega)]
    have c : (((k + 1 - k + 1 - 1) / 1 : Int)).toNat = 1 := by
      have : (k + 1 - k + 1 - 1 : Int) = 1 := by omega
      rw [this]; rfl
    rw [c]
    simp
  unfold Txt.slice
  rw [hi]
  obtain ⟨cps⟩ := buf
  obtain ⟨l⟩ := cps
  have hk : k.toNat < l.length := by
    have : (k : Int) < (l.length : Int) := h1
    omega
  have e : (l.drop k.toNat).take 1 = [l[k.toNat]] := by
    rw [List.drop_eq_getElem_cons hk]; rfl
  split
  · rename_i hc
    have hl : l.length = 1 := by
      have : ((1 : Int) == 1 && ([k.toNat].length == (Str.mk ⟨l⟩).length)) = true := hc
      simp only [List.length_cons, List.length_nil, Bool.and_eq_true, beq_iff_eq] at this
      exact this.2.symm
    have hk0 : k.toNat = 0 := by omega
    unfold signAt
    rw [hk0]
    match l, hl with
    | [c], _ => rfl
  · unfold signAt
    show Str.mk ((List.filterMap (fun x => l.toArray[x]?) [k.toNat]).toArray) = _
    rw [e]
    simp [hk]
theorem sign_end {buf : Str} {k : Nat} (h : buf.length ≤ k) : signAt buf k = Str.ofString "" := by
  unfold signAt
  obtain ⟨cps⟩ := buf
  obtain ⟨l⟩ := cps
  have : l.length ≤ k := h
  rw [List.drop_eq_nil_of_le this]
  decide +kernel
end Mine
end
section
open PySem PySem.W PyProof.Rows PySem.Calls
set_option maxRecDepth 100000
namespace Mine
theorem dq_noBool : typeLookup (.type "collections.deque") "__bool__" = pure none := by rw [typeLookup_type, builtinLookup_eq_fast]; kernel_rfl
theorem dq_plain : PlainAttrs "collections.deque" :=
  ⟨⟨"collections.deque.__getattribute__", by rw [typeLookup_type, builtinLookup_eq_fast]; kernel_rfl, by decide +kernel⟩, by rw [typeLookup_type, builtinLookup_eq_fast]; kernel_rfl⟩
theorem dq_len : Slot "collections.deque" "__len__" "collections.deque.__len__" :=
  .of (owner := "collections.deque") (n := "__len__") (by rw [typeLookup_type, builtinLookup_eq_fast]; kernel_rfl) (by decide +kernel) (by decide +kernel) (by decide +kernel) (by first | exact .inl (by decide +kernel) | exact .inr (by decide +kernel)) (by rw [isSubtype_type]; kernel_rfl)
theorem dq_append : Slot "collections.deque" "append" "collections.deque.append" :=
  .of (owner := "collections.deque") (n := "append") (by rw [typeLookup_type, builtinLookup_eq_fast]; kernel_rfl) (by decide +kernel) (by decide +kernel) (by decide +kernel) (by first | exact .inl (by decide +kernel) | exact .inr (by decide +kernel)) (by rw [isSubtype_type]; kernel_rfl)
theorem dq_appendleft : Slot "collections.deque" "appendleft" "collections.deque.appendleft" :=
  .of (owner := "collections.deque") (n := "appendleft") (by rw [typeLookup_type, builtinLookup_eq_fast]; kernel_rfl) (by decide +kernel) (by decide +kernel) (by decide +kernel) (by first | exact .inl (by decide +kernel) | exact .inr (by decide +kernel)) (by rw [isSubtype_type]; kernel_rfl)
theorem dq_pop : Slot "collections.deque" "pop" "collections.deque.pop" :=
  .of (owner := "collections.deque") (n := "pop") (by rw [typeLookup_type, builtinLookup_eq_fast]; kernel_rfl) (by decide +kernel) (by decide +kernel) (by decide +kernel) (by first | exact .inl (by decide +kernel) | exact .inr (by decide +kernel)) (by rw [isSubtype_type]; kernel_rfl)
theorem dq_popleft : Slot "collections.deque" "popleft" "collections.deque.popleft" :=
  .of (owner := "collections.deque") (n := "popleft") (by rw [typeLookup_type, builtinLookup_eq_fast]; kernel_rfl) (by decide +kernel) (by decide +kernel) (by decide +kernel) (by first | exact .inl (by decide +kernel) | exact .inr (by decide +kernel)) (by rw [isSubtype_type]; kernel_rfl)
theorem dqe_len : entryFor table "collections.deque.__len__" = some Builtin.«collections.deque.__len__» := entryFor_of_tree (by kernel_rfl)
theorem dqe_append : entryFor table "collections.deque.append" = some Builtin.«collections.deque.append» := entryFor_of_tree (by kernel_rfl)
theorem dqe_appendleft : entryFor table "collections.deque.appendleft" = some Builtin.«collections.deque.appendleft» := entryFor_of_tree (by kernel_rfl)
theorem dqe_pop : entryFor table "collections.deque.pop" = some Builtin.«collections.deque.pop» := entryFor_of_tree (by kernel_rfl)
theorem dqe_popleft : entryFor table "collections.deque.popleft" = some Builtin.«collections.deque.popleft» := entryFor_of_tree (by kernel_rfl)
theorem dqa_len (a : Value) : argsOk "collections.deque.__len__" ⟨[a], []⟩ := by unfold argsOk; kernel_rfl
theorem dqa_append (a b : Value) : argsOk "collections.deque.append" ⟨[a, b], []⟩ := by unfold argsOk; kernel_rfl
theorem dqa_appendleft (a b : Value) : argsOk "collections.deque.appendleft" ⟨[a, b], []⟩ := by unfold argsOk; kernel_rfl
theorem dqa_pop (a : Value) : argsOk "collections.deque.pop" ⟨[a], []⟩ := by unfold argsOk; kernel_rfl
theorem dqa_popleft (a : Value) : argsOk "collections.deque.popleft" ⟨[a], []⟩ := by unfold argsOk; kernel_rfl
theorem dqt_append : typeOf (.builtin "collections.deque.append") = pure (.type "method_descriptor") := by show builtinType _ = _; rw [builtinType_eq_fast]; kernel_rfl
theorem dqt_appendleft : typeOf (.builtin "collections.deque.appendleft") = pure (.type "method_descriptor") := by show builtinType _ = _; rw [builtinType_eq_fast]; kernel_rfl
theorem dqt_pop : typeOf (.builtin "collections.deque.pop") = pure (.type "method_descriptor") := by show builtinType _ = _; rw [builtinType_eq_fast]; kernel_rfl
theorem dqt_popleft : typeOf (.builtin "collections.deque.popleft") = pure (.type "method_descriptor") := by show builtinType _ = _; rw [builtinType_eq_fast]; kernel_rfl
end Mine
end
section
open PySem PySem.W PyProof.Rows PySem.Calls
set_option maxRecDepth 100000
namespace Mine
section
variable {prog : Program} {w : World} {A : Around} {E : Value → Shared → Prop} {s : Shared} {h₀ : Heap} {L : Addr} {m : Str → Option Value} {news : List (Addr × Obj)} {a : Addr} {xs : List Value} {k : Int}
theorem dq_type (ho : s.heap.get? a = some (deqOf xs k)) : s.TypeIs (.ref a) "collections.deque" := ⟨_, ho, rfl⟩
theorem dq_fields {Q : Array Value → Shared → Prop} (ho : s.heap.get? a = some (deqOf xs k)) (h : Q (Value.none :: Value.int k 0 :: xs).toArray s) : wpAny (model prog w) A (fieldsOf (.ref a)) Q E s := by
  unfold fieldsOf
  exact wpAny_bind (wpAny_load ho (wpAny_pure h))
theorem dq_lenBody {Q : Value → Shared → Prop} (ho : s.heap.get? a = some (deqOf xs k)) (hfit : xs.length < 2 ^ 62)
    (h : Q (.int (xs.length : Int) (s.toks + 1)) { s with toks := s.toks + 1 + 1 }) : wpAny (model prog w) A (Builtin.«len» ⟨[.ref a], []⟩) (fun fin s' => ∃ r, fin = .done (.ret r) ∧ Q r s') E s := by
  unfold Builtin.«len»
  refine wpAny_bind (m := oneArg "len" _) (wpAny_pure ?_)
  refine wpAny_bind (m := callSpecial? (.ref a) (Str.ofString "__len__")) (wpAny_callSpecial?_slot (name := Str.ofString "__len__") (dq_type ho) dq_len
    (wpAny_call_entry dq_len (dq_type ho) dqe_len ?_ (dqa_len _)))
  show wpAny _ _ (do retInt (← Builtin.Deque.size (.ref a))) _ _ s
  unfold Builtin.Deque.size
  refine wpAny_bind (wpAny_bind (dq_fields ho (wpAny_pure ?_)))
  have e : (Value.none :: Value.int k 0 :: xs).toArray.size - 2 = xs.length := by simp
  rw [e]
  refine wpAny_bind (wpAny_mkInt (wpAny_pure ⟨_, rfl, ?_⟩))
  refine wpAny_bind (wpAny_holding (wpAny_pure ?_))
  refine wpAny_bind (wpAny_letGo ?_)
  show wpAny _ _ (if ((xs.length : Nat) : Int) < 0 then _ else _) _ _ _
  rw [if_neg (by omega)]
  show wpAny _ _ (if ((xs.length : Nat) : Int) ≥ 2 ^ 63 then _ else _) _ _ _
  rw [if_neg (by omega)]
  exact wpAny_bind (wpAny_mkInt (wpAny_pure ⟨_, rfl, h⟩))
theorem dq_truthy {Q : Bool → Shared → Prop} (ho : s.heap.get? a = some (deqOf xs k)) (hfit : xs.length < 2 ^ 62) (h : Q (!xs.isEmpty) { s with toks := s.toks + 1 + 1 }) : wpAny (model prog w) A (truthy (.ref a)) Q E s := by
  have hne : ((xs.length : Int) != 0) = !xs.isEmpty := by
    cases xs with
    | nil => rfl
    | cons x r =>
      have : (((x :: r).length : Nat) : Int) ≠ 0 := by simp only [List.length_cons]; omega
      rw [bne_iff_ne.mpr this]; rfl
  have key : wpAny (model prog w) A (runValue (.builtin "len" ⟨[.ref a], []⟩)) (fun r s' => r = .int (xs.length : Int) (s.toks + 1) ∧ Q (!xs.isEmpty) s') E s := by
    refine wpAny_runValue (codeAny_builtin entry_len ?_)
    rw [Around.under_plainId plain_len _]
    exact wpAny_mono (dq_lenBody (Q := fun r s' => r = .int (xs.length : Int) (s.toks + 1) ∧ Q (!xs.isEmpty) s') ho hfit ⟨rfl, h⟩)
      (fun fin s' h' => by obtain ⟨r, rfl, hq⟩ := h'; exact hq) fun _ _ e => e
  unfold truthy
  first
    | refine wpAny_bind (wpAny_callSpecial?_none (name := Str.ofString "__bool__") (dq_type ho) dq_noBool ?_)
    | refine wpAny_bind (wpAny_pure (wpAny_bind (wpAny_callSpecial?_none (name := Str.ofString "__bool__") (dq_type ho) dq_noBool ?_)))
  first
    | refine wpAny_bind (wpAny_specialOf (name := Str.ofString "__len__") (dq_type ho) dq_len.lookup ?_)
    | refine wpAny_bind (wpAny_pure (wpAny_bind (wpAny_specialOf (name := Str.ofString "__len__") (dq_type ho) dq_len.lookup ?_)))
  first
    | exact wpAny_bind (wpAny_mono key (fun r s' h' => by obtain ⟨rfl, hq⟩ := h'; exact wpAny_pure (hne ▸ hq)) fun _ _ e => e)
    | exact wpAny_bind (wpAny_pure (wpAny_bind (wpAny_mono key (fun r s' h' => by obtain ⟨rfl, hq⟩ := h'; exact wpAny_pure (hne ▸ hq)) fun _ _ e => e)))
theorem dq_truthyN {Q : Bool → Shared → Prop} (N : News h₀ L s.heap news) (hm : (a, deqOf xs k) ∈ news) (hfit : xs.length < 2 ^ 62) (h : Q (!xs.isEmpty) { s with toks := s.toks + 1 + 1 }) : wpAny (model prog w) A (truthy (.ref a)) Q E s := dq_truthy (N _ hm).1 hfit h
theorem dq_getN {name : Str} {id : String} {pl : Sem Bool} {Q : Value × List Value → Shared → Prop} (slot : Slot "collections.deque" name id) (hty : typeOf (.builtin id) = pure (.type "method_descriptor")) (N : News h₀ L s.heap news) (hm : (a, deqOf xs k) ∈ news)
    (h : Q (.builtin id, [.ref a]) s) : wpAny (model prog w) A (getMethod (.ref a) name pl) Q E s :=
  getMethod_builtin (dq_type (N _ hm).1) dq_plain slot hty (fun b e => by cases e; exact ⟨_, (N _ hm).1, rfl⟩) h
theorem dq_change {f : Array Value → Array Value} {ys : List Value} {Q : Unit → Shared → Prop} (ho : s.heap.get? a = some (deqOf xs k)) (hf : f xs.toArray = ys.toArray) (hz : ys.length ≤ 1000)
    (h : ∀ h', Heap.SameBut a s.heap h' → h'.get? a = some (deqOf ys (k + 1)) → Q () { s with heap := h' }) : wpAny (model prog w) A (Builtin.Deque.change (.ref a) f) Q E s := by
  unfold Builtin.Deque.change Builtin.Deque.state field
  refine wpAny_bind (wpAny_bind (wpAny_bind (dq_fields ho (wpAny_pure (wpAny_pure ?_)))))
  have ex : ((Value.none :: Value.int k 0 :: xs).toArray.extract 2 (Value.none :: Value.int k 0 :: xs).toArray.size) = xs.toArray := by simp
  have e : (#[(Value.none :: Value.int k 0 :: xs).toArray.getD 0 Value.none, rawInt (if true = true then k + 1 else k)] ++ f ((Value.none :: Value.int k 0 :: xs).toArray.extract 2 (Value.none :: Value.int k 0 :: xs).toArray.size)) = (Value.none :: Value.int (k + 1) 0 :: ys).toArray := by
    rw [ex, hf]
    simp [rawInt]
  refine wpAny_updateFields (vs := (Value.none :: Value.int k 0 :: xs).toArray) ho rfl (h _ (Heap.SameBut.update ..) ?_) ?_
  · rw [Heap.get?_update_self _ ho rfl]
    exact congrArg (fun x => some (Obj.mk (.type "collections.deque") none (Data.fields x) #[])) e
  · rw [e]
    have : sizeLine = 16777216 := by decide
    simp only [List.size_toArray, List.length_cons]
    omega
theorem dq_append_call {x : Value} {news' : List (Addr × Obj)} {Q : Value → Shared → Prop} (F : Fr h₀ L s.heap m) (N : News h₀ L s.heap news) (U : Upd a (deqOf xs k) (deqOf (xs ++ [x]) (k + 1)) news news') (hz : xs.length ≤ 900)
    (h : ∀ h', Fr h₀ L h' m → News h₀ L h' news' → Q .none { s with heap := h' }) : wpAny (model prog w) A (call (.builtin "collections.deque.append") [.ref a, x]) Q E s := by
  obtain ⟨pre, post, rfl, rfl, h1, h2⟩ := U.split
  have z := N (a, deqOf xs k) (List.mem_append.mpr (.inr (.head _)))
  refine wpAny_call_entry dq_append (dq_type z.1) dqe_append ?_ (dqa_append _ _)
  show wpAny _ _ (do Builtin.Deque.pushRight (.ref a) x; ret .none) _ _ s
  unfold Builtin.Deque.pushRight
  refine wpAny_bind (wpAny_bind (dq_change (ys := xs ++ [x]) z.1 (by simp) (by simp; omega) fun h' hs ho' => ?_))
  unfold Builtin.Deque.maxlen field
  refine wpAny_bind (wpAny_bind (wpAny_bind (dq_fields (s := { s with heap := h' }) ho' (wpAny_pure (wpAny_pure (wpAny_pure ?_))))))
  exact wpAny_pure ⟨_, rfl, h h' (F.change hs z.2.1 z.2.2) (news_set N h1 h2 hs ho')⟩
theorem dq_appendleft_call {x : Value} {news' : List (Addr × Obj)} {Q : Value → Shared → Prop} (F : Fr h₀ L s.heap m) (N : News h₀ L s.heap news) (U : Upd a (deqOf xs k) (deqOf (x :: xs) (k + 1)) news news') (hz : xs.length ≤ 900)
    (h : ∀ h', Fr h₀ L h' m → News h₀ L h' news' → Q .none { s with heap := h' }) : wpAny (model prog w) A (call (.builtin "collections.deque.appendleft") [.ref a, x]) Q E s := by
  obtain ⟨pre, post, rfl, rfl, h1, h2⟩ := U.split
  have z := N (a, deqOf xs k) (List.mem_append.mpr (.inr (.head _)))
  refine wpAny_call_entry dq_appendleft (dq_type z.1) dqe_appendleft ?_ (dqa_appendleft _ _)
  show wpAny _ _ (do Builtin.Deque.pushLeft (.ref a) x; ret .none) _ _ s
  unfold Builtin.Deque.pushLeft
  refine wpAny_bind (wpAny_bind (dq_change (ys := x :: xs) z.1 (by simp) (by simp; omega) fun h' hs ho' => ?_))
  unfold Builtin.Deque.maxlen field
  refine wpAny_bind (wpAny_bind (wpAny_bind (dq_fields (s := { s with heap := h' }) ho' (wpAny_pure (wpAny_pure (wpAny_pure ?_))))))
  exact wpAny_pure ⟨_, rfl, h h' (F.change hs z.2.1 z.2.2) (news_set N h1 h2 hs ho')⟩
theorem dq_pop_call {x : Value} {news' : List (Addr × Obj)} {Q : Value → Shared → Prop} (F : Fr h₀ L s.heap m) (N : News h₀ L s.heap news) (U : Upd a (deqOf (xs ++ [x]) k) (deqOf xs (k + 1)) news news') (hz : xs.length ≤ 900)
    (h : ∀ h', Fr h₀ L h' m → News h₀ L h' news' → Q x { s with heap := h' }) : wpAny (model prog w) A (call (.builtin "collections.deque.pop") [.ref a]) Q E s := by
  obtain ⟨pre, post, rfl, rfl, h1, h2⟩ := U.split
  have z := N (a, deqOf (xs ++ [x]) k) (List.mem_append.mpr (.inr (.head _)))
  refine wpAny_call_entry dq_pop (dq_type z.1) dqe_pop ?_ (dqa_pop _)
  unfold Builtin.«collections.deque.pop»
  refine wpAny_bind (m := selfOnly "deque.pop" _) (wpAny_pure ?_)
  unfold Builtin.Deque.items
  refine wpAny_bind (wpAny_bind (dq_fields z.1 (wpAny_pure ?_)))
  have e : ((Value.none :: Value.int k 0 :: (xs ++ [x])).toArray.extract 2 (Value.none :: Value.int k 0 :: (xs ++ [x])).toArray.size).back? = some x := by
    simp
    rw [List.take_of_length_le (by simp)]
    simp
  rw [e]
  refine wpAny_bind (dq_change (ys := xs) z.1 (by simp) (by omega) fun h' hs ho' => ?_)
  exact wpAny_pure ⟨_, rfl, h h' (F.change hs z.2.1 z.2.2) (news_set N h1 h2 hs ho')⟩
theorem dq_popleft_call {x : Value} {news' : List (Addr × Obj)} {Q : Value → Shared → Prop} (F : Fr h₀ L s.heap m) (N : News h₀ L s.heap news) (U : Upd a (deqOf (x :: xs) k) (deqOf xs (k + 1)) news news') (hz : xs.length ≤ 900)
    (h : ∀ h', Fr h₀ L h' m → News h₀ L h' news' → Q x { s with heap := h' }) : wpAny (model prog w) A (call (.builtin "collections.deque.popleft") [.ref a]) Q E s := by
  obtain ⟨pre, post, rfl, rfl, h1, h2⟩ := U.split
  have z := N (a, deqOf (x :: xs) k) (List.mem_append.mpr (.inr (.head _)))
  refine wpAny_call_entry dq_popleft (dq_type z.1) dqe_popleft ?_ (dqa_popleft _)
  unfold Builtin.«collections.deque.popleft»
  refine wpAny_bind (m := selfOnly "deque.popleft" _) (wpAny_pure ?_)
  unfold Builtin.Deque.items
  refine wpAny_bind (wpAny_bind (dq_fields z.1 (wpAny_pure ?_)))
  have e : ((Value.none :: Value.int k 0 :: x :: xs).toArray.extract 2 (Value.none :: Value.int k 0 :: x :: xs).toArray.size)[0]? = some x := by simp
  rw [e]
  refine wpAny_bind (dq_change (ys := xs) z.1 (by simp) (by omega) fun h' hs ho' => ?_)
  exact wpAny_pure ⟨_, rfl, h h' (F.change hs z.2.1 z.2.2) (news_set N h1 h2 hs ho')⟩
end
end Mine
end
section
open PySem PySem.W PyProof.Rows PySem.Calls PySem.Builtin
set_option Elab.async false
set_option maxRecDepth 1000000
set_option maxHeartbeats 4000000
namespace Mine
theorem dq_mro : mroOf (.type "collections.deque") = pure [.type "collections.deque", .type "object"] := by rw [mroOf_type]; kernel_rfl
theorem dq_lnew : typeLookup (.type "collections.deque") "__new__" = pure (some (.builtin "collections.deque.__new__")) := by rw [typeLookup_type, builtinLookup_eq_fast]; kernel_rfl
theorem dq_init : Slot "collections.deque" "__init__" "collections.deque.__init__" :=
  .of (owner := "collections.deque") (n := "__init__") (by rw [typeLookup_type, builtinLookup_eq_fast]; kernel_rfl) (by decide +kernel) (by decide +kernel) (by decide +kernel) (by first | exact .inl (by decide +kernel) | exact .inr (by decide +kernel)) (by rw [isSubtype_type]; kernel_rfl)
theorem dq_called : TypeCalled "collections.deque" "collections.deque.__new__" "collections.deque.__init__" :=
  ⟨by decide +kernel, by decide +kernel, ⟨_, _, dq_mro⟩, madeBy_type dq_mro dq_lnew (by decide +kernel), by decide +kernel, by rw [isSubtype_type]; kernel_rfl, dq_init⟩
theorem dq_tc : checkTypeCall "collections.deque" ⟨[], []⟩ = pure () := by kernel_rfl
theorem dq_nc : checkBuiltinCall "collections.deque.__new__" ⟨[.type "collections.deque"], []⟩ = pure () := by kernel_rfl
theorem dq_enew : entryFor table "collections.deque.__new__" = some Builtin.«collections.deque.__new__» := entryFor_of_tree (by kernel_rfl)
theorem dq_einit : entryFor table "collections.deque.__init__" = some Builtin.«collections.deque.__init__» := entryFor_of_tree (by kernel_rfl)
theorem dq_pnew : plainId "collections.deque.__new__" = true := by decide +kernel
theorem dq_self : isSubtype (.type "collections.deque") (.type "collections.deque") = pure true := by rw [isSubtype_type]; kernel_rfl
theorem dq_hasDict : typeHasDict (.type "collections.deque") = false := by decide +kernel
theorem dqa_init (a : Value) : argsOk "collections.deque.__init__" ⟨[a], []⟩ := by unfold argsOk; kernel_rfl
section
variable {prog : Program} {w : World} {A : Around} {E : Value → Shared → Prop} {s : Shared}
theorem dq_code_new {Q₁ : Value → Shared → Prop} (h : Q₁ (.ref s.heap.objs.size) { s with heap := s.heap.push (deqOf [] 0) }) :
    codeAny (model prog w) A (.call (.builtin "collections.deque.__new__") ⟨[.type "collections.deque"], []⟩) (wants Q₁ E) s := by
  refine codeAny_of_tree ?_
  show wpAny _ A.in1 (do checkBuiltinCall "collections.deque.__new__" ⟨[.type "collections.deque"], []⟩; again (.builtin "collections.deque.__new__" ⟨[.type "collections.deque"], []⟩)) _ _ s
  refine wpAny_bind (wpAny_of_eq dq_nc (wpAny_pure ⟨plainId_quiet dq_pnew _, codeAny_builtin dq_enew ?_⟩))
  rw [Around.under_plainId dq_pnew _]
  unfold Builtin.«collections.deque.__new__» Builtin.Deque.newArgs
  have hsub : isSubtype (.type "collections.deque") (.type Builtin.Deque.ty) = pure true := dq_self
  obtain ⟨hp, g, d, tk, os⟩ := s
  dsimp only
  wp_walk
  exact h
theorem dq_call_new {Q : Value → Shared → Prop} (h : ∀ h', Heap.SameBut s.heap.objs.size (s.heap.push (deqOf [] 0)) h' → h'.get? s.heap.objs.size = some (deqOf [] 0) → Q (.ref s.heap.objs.size) { s with heap := h' }) :
    wpAny (model prog w) A (call (.type "collections.deque") []) Q E s := by
  refine callType_codes (Q₁ := fun obj s₁ => obj = .ref s.heap.objs.size ∧ s₁ = { s with heap := s.heap.push (deqOf [] 0) }) dq_called dq_tc dq_einit (dq_code_new ⟨rfl, rfl⟩) ?_
  rintro obj s₁ ⟨rfl, rfl⟩
  have hS : (s.heap.push (deqOf [] 0)).get? s.heap.objs.size = some (deqOf [] 0) := Heap.get?_push_size _ rfl
  have hT : Shared.TypeIs { s with heap := s.heap.push (deqOf [] 0) } (.ref s.heap.objs.size) "collections.deque" := ⟨_, hS, rfl⟩
  refine ⟨hT, dqa_init _, ?_⟩
  unfold Builtin.«collections.deque.__init__»
  wp_walk
  exact ⟨rfl, h _ (Heap.SameBut.update ..) (by rw [Heap.get?_update_self _ hS rfl]; rfl)⟩
end
end Mine
end
section
open Mine
local macro_rules | `(tactic| k_room) => `(tactic| ktr_room)
local macro_rules | `(tactic| k_units) => `(tactic| ktr_units)
local macro_rules | `(tactic| kxt_pos) => `(tactic| with_reducible assumption)
local macro_rules | `(tactic| k_all) => `(tactic| first | assumption | exact List.forall_mem_nil _ | (refine' List.forall_mem_cons.mpr ⟨?a, ?b⟩; (case a => k_ne); (case b => k_all)))
local macro_rules | `(tactic| walk_at "execs cons") => `(tactic| first | (k_here; k_gentoks) | ((with_reducible refine execs_one ?_); try dsimp only) | ((with_reducible refine execs_then ?_); try dsimp only))
local macro_rules | `(tactic| walk_at "Then") => `(tactic| first | (refine then_tok ?_; intro t9; try dsimp only) | (refine then_next ?_; try dsimp only) | refine then_ret ?_ | refine then_brk ?_ | refine then_cont ?_)
local macro_rules | `(tactic| walk_at "call ref") => `(tactic| first | refine halt_call (by with_reducible assumption) ?_ | refine halt_callW (by with_reducible assumption) ?_)
local macro_rules | `(tactic| walk_at "CompSrc") => `(tactic| refine halt ?_)
local macro_rules | `(tactic| walk_at "CompEnd") => `(tactic| refine halt ?_)
local macro_rules | `(tactic| walk_at "TurnEnd") => `(tactic| refine halt ?_)
local macro_rules | `(tactic| walk_at "ite") => `(tactic| first | with_reducible refine ite_ff ?_ | with_reducible refine ite_tt ?_)
local macro_rules | `(tactic| walk_at "eval Constant int") => `(tactic| refine const_int ?_)
local macro_rules | `(tactic| walk_at "eval Constant str") => `(tactic| refine const_str ?_)
example {M : Model} {A : Around} {E : Value → Shared → Prop} {s : Shared} {env : Env} {p : Pos} {Q : Flow → Shared → Prop} (h : wpAny M A (exec (.Pass p) env) Q E s) : wpAny M A (exec (.Pass p) env) Q E s := by first | (walk1; fail) | exact h
section
open PySem PySem.W PyProof.Rows
set_option Elab.async false
set_option maxRecDepth 100000
set_option maxHeartbeats 8000000
namespace Mine
local macro_rules | `(tactic| k_upd) => `(tactic| with_reducible apply_assumption)
local macro_rules | `(tactic| k_mem) => `(tactic| first | with_reducible assumption | with_reducible apply_assumption)
theorem upd_new {d : Addr} {o o' : Obj} : ∀ {l l' : List (Addr × Obj)}, Upd d o o' l l' → (d, o') ∈ l'
  | _, _, .head _ => .head _
  | _, _, .tail _ r => .tail _ (upd_new r)
theorem upd_old {d : Addr} {o o' : Obj} : ∀ {l l' : List (Addr × Obj)}, Upd d o o' l l' → (d, o) ∈ l
  | _, _, .head _ => .head _
  | _, _, .tail _ r => .tail _ (upd_old r)
theorem upd_other {d : Addr} {o o' : Obj} {q : Addr × Obj} (hq : q.1 ≠ d) : ∀ {l l' : List (Addr × Obj)}, Upd d o o' l l' → q ∈ l → q ∈ l'
  | _, _, .head _, hm => by
    rcases List.mem_cons.mp hm with rfl | hm
    · exact absurd rfl hq
    · exact .tail _ hm
  | _, _, .tail _ r, hm => by
    rcases List.mem_cons.mp hm with rfl | hm
    · exact .head _
    · exact .tail _ (upd_other hq r hm)
theorem c_read (w : World) (tk : Nat → Tok) (sx sdx : Addr) (t tp : Tok) (buf : Str) (pos : Int) (news : List (Addr × Obj)) (news' : Int → Tok → List (Addr × Obj)) (h0 : 0 ≤ pos) (h1 : pos < (buf.length : Int)) (h2 : buf.length ≤ 1000)
    (m1 : (sx, instObj 587 sdx) ∈ news) (hne : sx ≠ sdx) (c : Str) (hc : signAt buf pos.toNat = c) (U : ∀ p t', Upd sdx (dictOf (sioEs w.params tk buf (.int pos tp)) 3) (dictOf (sioEs w.params tk buf (.int p t')) 3) news (news' p t')) :
    Called w 533 [.ref sx, .int 1 t] news 3
      (fun h₀ L m s Q => ∀ (t t' : Tok) (h' : Heap) (tk' : Nat), Fr h₀ L h' m → News h₀ L h' (news' (pos + 1) t') → Q (.str c t) { s with heap := h', toks := tk' }) := by
  have m2 := upd_old (U 0 0)
  have m3 : ∀ p t', (sx, instObj 587 sdx) ∈ news' p t' := fun p t' => upd_other hne (U p t') m1
  have m4 : ∀ p t', (sdx, dictOf (sioEs w.params tk buf (.int p t')) 3) ∈ news' p t' := fun p t' => upd_new (U p t')
  dsimp only [Called, RetV, thePg]
  k_fill
  intros
  rename_i hret
  refine wpAny_call ?_
  k_dflt (refine' code_def (binds := [(Str.ofString "self", .ref sx), (Str.ofString "size", .int 1 t)]) ?k1 ?k2 ?k3 ?k4 ?k5 ?kA ?kF ?kK ?k6 ?k7 ?k8 ?k9 ?kB ?_ ?c2 ?c3 ?c4 ?c5; (case kA => exact rfl); (case kF => exact rfl); (case kK => assumption); (case k1 => k_asm); (case k2 => k_asm); (case k3 => k_asm); (case k4 => k_asm); (case k5 => k_asm); (case k6 => k_is); (case k7 => k_is); (case k8 => ktr_room); (case k9 => first | exact BindsTo.of_eq rfl | exact binds_K (by k_in) rfl (by k_is) rfl rfl rfl); (case c5 => decide); (case kB => exact locs rfl); (case c2 => exact rfl); (case c3 => exact rfl); (case c4 => exact rfl); k_whole; intro g' L' h' FG' F' N' B' X' T'; (try dsimp only))
  refine let_all ?_
  intro v9 Q9 E9
  k_steps
  · rw [slice_one h0 h1, hc]
    with_reducible rename News _ _ _ (news' _ _) => N9
    exact hret _ _ _ _ (by k_asm) N9
  · have e : (buf.length : Int) = pos + 1 := by omega
    rw [e, slice_one h0 h1, hc]
    with_reducible rename News _ _ _ (news' _ _) => N9
    rw [e] at N9
    exact hret _ _ _ _ (by k_asm) N9
theorem c_read_end (w : World) (tk : Nat → Tok) (sx sdx : Addr) (t tp : Tok) (buf : Str) (pos : Int) (news : List (Addr × Obj)) (h0 : 0 ≤ pos) (h1 : (buf.length : Int) ≤ pos) (h2 : buf.length ≤ 1000)
    (m1 : (sx, instObj 587 sdx) ∈ news) (m2 : (sdx, dictOf (sioEs w.params tk buf (.int pos tp)) 3) ∈ news) :
    Called w 533 [.ref sx, .int 1 t] news 3
      (fun h₀ L m s Q => ∀ (t : Tok) (h' : Heap) (tk' : Nat), Fr h₀ L h' m → News h₀ L h' news → Q (.str (Str.ofString "") t) { s with heap := h', toks := tk' }) := by
  dsimp only [Called, RetV, thePg]
  k_fill
  intros
  rename_i hret
  refine wpAny_call ?_
  k_dflt (refine' code_def (binds := [(Str.ofString "self", .ref sx), (Str.ofString "size", .int 1 t)]) ?k1 ?k2 ?k3 ?k4 ?k5 ?kA ?kF ?kK ?k6 ?k7 ?k8 ?k9 ?kB ?_ ?c2 ?c3 ?c4 ?c5; (case kA => exact rfl); (case kF => exact rfl); (case kK => assumption); (case k1 => k_asm); (case k2 => k_asm); (case k3 => k_asm); (case k4 => k_asm); (case k5 => k_asm); (case k6 => k_is); (case k7 => k_is); (case k8 => ktr_room); (case k9 => first | exact BindsTo.of_eq rfl | exact binds_K (by k_in) rfl (by k_is) rfl rfl rfl); (case c5 => decide); (case kB => exact locs rfl); (case c2 => exact rfl); (case c3 => exact rfl); (case c4 => exact rfl); k_whole; intro g' L' h' FG' F' N' B' X' T'; (try dsimp only))
  refine let_all ?_
  intro v9 Q9 E9
  k_steps
  all_goals exact hret _ _ _ (by k_asm) (by k_asm)
end Mine
end
example {M : Model} {A : Around} {E : Value → Shared → Prop} {s : Shared} {env : Env} {p : Pos} {Q : Flow → Shared → Prop} (h : wpAny M A (exec (.Pass p) env) Q E s) : wpAny M A (exec (.Pass p) env) Q E s := by first | (walk1; fail) | exact h
section
open PySem PySem.W PyProof.Rows
set_option maxRecDepth 100000
namespace Mine
noncomputable def inS (c hay : Str) : Bool := !(Builtin.Str.occurrences hay c 0 hay.length 1).isEmpty
section
variable {prog : Program} {w : World} {A : Around} {E : Value → Shared → Prop} {s : Shared} {x y : Str} {t u : Tok}
theorem in_strI {Q : Value → Shared → Prop} (h : Q (.bool (inS y x)) s) : wpAny (model prog w) A (compareOp .In (.str y u) (.str x t)) Q E s := in_str h
theorem notIn_strI {Q : Value → Shared → Prop} (h : Q (.bool (!inS y x)) s) : wpAny (model prog w) A (compareOp .NotIn (.str y u) (.str x t)) Q E s := notIn_str h
theorem in_strC {b : Bool} (e : inS y x = b) {Q : Value → Shared → Prop} (h : Q (.bool b) s) : wpAny (model prog w) A (compareOp .In (.str y u) (.str x t)) Q E s := in_strI (by rw [e]; exact h)
end
theorem news_tail {h₀ h : Heap} {L : Addr} {p : Addr × Obj} {news : List (Addr × Obj)} (N : News h₀ L h (p :: news)) : News h₀ L h news := fun q hq => N q (.tail _ hq)
/-- the frame of read_token: what its names hold -/
noncomputable abbrev fr1 (x : Addr) (te : Tok) (nv : Option Value) : Str → Option Value := fun y => if y = Str.ofString "nextchar" then nv else if y = Str.ofString "escapedstate" then some (.str (Str.ofString " ") te) else if y = Str.ofString "quoted" then some (.bool false) else if y = Str.ofString "self" then some (.ref x) else none
theorem fr1_set (x : Addr) (te : Tok) (nv : Option Value) (v : Value) : (fun y => if y = Str.ofString "nextchar" then some v else fr1 x te nv y) = fr1 x te (some v) := by
  funext y
  by_cases h : y = Str.ofString "nextchar" <;> simp [fr1, h]
noncomputable def wpart : Stmt → Expr × List Stmt
  | .While t b _ _ => (t, b)
  | _ => (.Constant .none 0 noPos, [])
noncomputable def theW : Expr × List Stmt := wpart (nthS (md 19 6).2.1 2)
/-- the ledger of a lexer without punctuation -/
noncomputable abbrev ledP (P : Params) (tk : Nat → Tok) (posix : Bool) (eof : Value) (words : Str) (x dx sx sdx pb fs : Addr) (buf : Str) (pbs : List Value) (kb : Int) (pos : Value) (state token : Value) (rest : List (Addr × Obj)) : List (Addr × Obj) :=
  (fs, deqOf [] 0) :: (pb, deqOf pbs kb) :: (sx, instObj 587 sdx) :: (sdx, dictOf (sioEs P tk buf pos) 3) :: (x, instObj 722 dx) :: (dx, dictOf (lexEs P tk posix eof words false sx pb fs state token ++ [ent P "_punctuation_chars" (tk 18) (.str (Str.ofString "") (tk 38))]) 19) :: rest
/-- the ledger of a lexer with punctuation -/
noncomputable abbrev ledQ (P : Params) (tk : Nat → Tok) (split : Bool) (eof : Value) (words pch : Str) (x dx sx sdx pb fs pc : Addr) (buf : Str) (pcs : List Value) (kc : Int) (pos : Value) (state token : Value) (rest : List (Addr × Obj)) : List (Addr × Obj) :=
  (pc, deqOf pcs kc) :: (fs, deqOf [] 0) :: (pb, deqOf [] 0) :: (sx, instObj 587 sdx) :: (sdx, dictOf (sioEs P tk buf pos) 3) :: (x, instObj 722 dx) :: (dx, dictOf (lexEs P tk false eof words split sx pb fs state token ++ [ent P "_punctuation_chars" (tk 18) (.str pch (tk 38)), ent P "_pushback_chars" (tk 19) (.ref pc)]) 20) :: rest
end Mine
end
section
open PySem PySem.W PyProof.Rows
set_option Elab.async false
set_option maxRecDepth 100000
set_option maxHeartbeats 8000000
namespace Mine
/-- what get_token hands back where ts is still to come -/
noncomputable def tokIs (isEnd : Value → Prop) : List Str → Value → Prop
  | [], v => isEnd v
  | c :: _, v => ∃ t, v = .str c t
/-- a lexer by its get_token: Own ts own says that the objects own stand, and ts is still to come -/
structure Lexer (w : World) (x dx : Addr) (as : List Addr) (isEnd : Value → Prop) (Own : List Str → List (Addr × Obj) → Prop) : Prop where
  inst : ∀ ts own, Own ts own → (x, instObj 722 dx) ∈ own
  dict : ∀ ts own, Own ts own → ∃ es n, (dx, dictOf es n) ∈ own ∧ getL (Str.ofString "get_token") es = some none
  at_ : ∀ ts own, Own ts own → ∀ a, a ∈ as ↔ ∃ o, (a, o) ∈ own
  get : ∀ ts own rest, Own ts own → (∀ p ∈ rest, p.1 ∉ as) → Called w 683 [.ref x] (own ++ rest) 9 (fun h₀ L m s Q => ∀ v own' h' tk', tokIs isEnd ts v → Own ts.tail own' → Fr h₀ L h' m → News h₀ L h' (own' ++ rest) → Q v { s with heap := h', toks := tk' })
theorem lex_method {prog : Program} {w : World} {A : Around} {E : Value → Shared → Prop} {s : Shared} {h₀ : Heap} {L x dx : Addr} {m : Str → Option Value} {news : List (Addr × Obj)} {es : List DictEntry} {n : Nat} {K : Frag} {name : Str} {f C : Addr} {pl : Sem Bool} {Q : Value × List Value → Shared → Prop}
    (F : Fr h₀ L s.heap m) (X₀ : K.In h₀) (N : News h₀ L s.heap news) (m1 : (x, instObj C dx) ∈ news) (m2 : (dx, dictOf es n) ∈ news) (hl : getL name es = some none) (hg : plainGet K C name = true)
    (hf : findIn K (.ref C) name = some (some (.ref f))) (ht : isFn K (.ref f) = true) (h : Q (.ref f, [.ref x]) s) : wpAny (model prog w) A (getMethod (.ref x) name pl) Q E s :=
  method_inst F X₀ (InstAt.of_news N m1 m2) hg hf ht hl h
/-- a comprehension by what holds ahead of each turn -/
theorem comp_inv {prog : Program} {w : World} {A : Around} {s : Shared} {h₀ : Heap} {L : Addr} {m : Str → Option Value} {env : Env} {elt : PySem.Expr} {x : Str} {scope : Scope} {cl : List (Str × Addr)} {S : List (Addr × Obj) → Prop} {P : Nat → Value → Prop} {Fin : List Value → List (Addr × Obj) → Prop}
    (Inv : Nat → List Value → List (Addr × Obj) → Prop) (n : Nat)
    (step : ∀ i ys news v I oI C oC D m₂ h tk (E' : Value → Shared → Prop), i < n → Inv i ys news → P i v → LCg.NsObj oC m₂ → m₂ x = some v → Fr h₀ L h m → News h₀ L h ((I, oI) :: (C, oC) :: (D, LCg.lst ys) :: news) → LCg.Off3 I C D news → ((@Ne Nat I C) ∧ (@Ne Nat I D) ∧ (@Ne Nat C D)) →
      wpAny (model prog w) A (eval elt (compEnvC scope cl C env)) (LCg.CompEnd h₀ L m { s with heap := h, toks := tk } I oI C oC D (LCg.lst ys) S (fun y news' => Inv (i + 1) (ys ++ [y]) news')) E' { s with heap := h, toks := tk })
    (fin : ∀ ys news, Inv n ys news → Fin ys news) : ∀ k i ys news, i + k = n → Inv i ys news → LCg.CompRest prog w A h₀ L m env elt x scope cl s S P Fin k i ys news
  | 0, i, ys, news, e, h => LCg.CompRest.zero (fin ys news ((show i = n by omega) ▸ h))
  | k + 1, i, ys, news, e, h => LCg.CompRest.succ fun v I oI C oC D m₂ h' tk E' hv hC hx F N off ne =>
    wpAny_mono (step i ys news v I oI C oC D m₂ h' tk E' (by omega) h hv hC hx F N off ne)
      (fun y s₂ ⟨h₂, tk₂, news₂, e₂, F₂, N₂, off₂, hS, hr⟩ => ⟨h₂, tk₂, news₂, e₂, F₂, N₂, off₂, hS, comp_inv Inv n step fin k (i + 1) (ys ++ [y]) news₂ (by omega) hr⟩) fun _ _ e => e
theorem off1_mem {D : Addr} : ∀ {l : List (Addr × Obj)}, LCg.Off1 D l → ∀ p ∈ l, p.1 ≠ D
  | [], _, _, h => nomatch h
  | _ :: _, x, p, h => by
    rcases List.mem_cons.mp h with rfl | h
    · exact x.1
    · exact off1_mem x.2 p h
theorem range_size (n : Nat) : Builtin.Range.rangeSize 0 ((n : Nat) : Int) 1 = ((n : Nat) : Int) := by
  unfold Builtin.Range.rangeSize
  simp
  omega
theorem range_small {n : Nat} (h : n ≤ 1000) : Builtin.Range.small 0 ((n : Nat) : Int) 1 = true := by
  unfold Builtin.Range.small
  rw [range_size]
  unfold Builtin.Range.rangeFitsLong
  simp
  omega
local macro_rules | `(tactic| walk_at "call ref") => `(tactic| refine halt ?_)
local macro_rules | `(tactic| k_mem) => `(tactic| with_reducible assumption)
local macro_rules | `(tactic| walk_at "getMethod ref") => `(tactic| (k_here; k_dflt (refine' lex_method ?k1 ?k2 ?k3 ?k4 ?k5 ?k6 ?k7 ?k8 ?k9 ?_; (case k1 => k_asm); (case k2 => k_asm); (case k3 => k_asm); (case k4 => k_mem); (case k5 => k_mem); (case k6 => assumption); (case k7 => k_is); (case k8 => k_is); (case k9 => k_is); k_whole)))
theorem c_lawRead (w : World) (x dx : Addr) (as : List Addr) (isEnd : Value → Prop) (Own : List Str → List (Addr × Obj) → Prop) (LX : Lexer w x dx as isEnd Own) (ts : List Str) (own rest : List (Addr × Obj)) (hO : Own ts own) (hr : ∀ p ∈ rest, p.1 ∉ as) (t : Tok) (n : Nat) (hn : n = ts.length + 2) (hlen : ts.length ≤ 100) :
    Called w 888 [.ref x, .int ((n : Nat) : Int) t] (own ++ rest) 12 (fun h₀ L m s Q => ∀ (D : Addr) (vs : List Value) own' h' tk', vs.length = n → (∀ i v, vs[i]? = some v → tokIs isEnd (ts.drop i) v) → Own [] own' → (∀ p ∈ own' ++ rest, p.1 ≠ D) → Fr h₀ L h' m → News h₀ L h' ((D, LCg.lst vs) :: (own' ++ rest)) → Q (.ref D) { s with heap := h', toks := tk' }) := by
  have hsz := range_size n
  have hsm := range_small (n := n) (by omega)
  have hfit : n ≤ sizeLine := by have : sizeLine = 16777216 := by decide
                                 omega
  have hcn : (0 : Int) ≤ (n : Int) := by omega
  dsimp only [Called, thePg]
  k_fill
  intros
  rename_i hret
  refine wpAny_call ?_
  k_dflt (refine' code_defC (binds := [(Str.ofString "lexer", .ref x), (Str.ofString "count", .int n t)]) ?k1 ?k2 ?k3 ?k4 ?k5 ?kA ?kF ?kK ?k6 ?k7 ?k8 ?k9 ?kB ?kD ?_ ?c2 ?c3 ?c4; (case kA => exact rfl); (case kF => exact rfl); (case kK => assumption); (case k1 => k_asm); (case k2 => k_asm); (case k3 => k_asm); (case k4 => k_asm); (case k5 => k_asm); (case k6 => k_is); (case k7 => k_is); (case k8 => ktr_room); (case k9 => exact BindsTo.of_eq rfl); (case kB => exact rfl); (case kD => decide +kernel); (case c2 => exact rfl); (case c3 => exact rfl); (case c4 => exact rfl); k_whole; intro g' L' h' tk' cells' FG' F' N' Y' B' X' T' l1; k_cells Y'; (try simp only [List.cons_append, List.nil_append] at N'); (try dsimp only))
  refine let_all ?_
  intro v9 Q9 E9
  rename_i oc dc
  have mC : (L' + 1, oc) ∈ (L' + 1, oc) :: (own ++ rest) := .head _
  have hcell : ∀ p ∈ own, p.1 ≠ L' + 1 := fun p hp => Nat.ne_of_lt (Nat.lt_succ_of_lt (l1 p (List.mem_append_left _ hp)))
  have hLas : ∀ p ∈ rest, p.1 ≠ L' + 1 := fun p hp => Nat.ne_of_lt (Nat.lt_succ_of_lt (l1 p (List.mem_append_right _ hp)))
  k_steps
  with_reducible rename Fr _ _ _ _ => F9
  with_reducible rename News _ _ _ _ => N9
  with_reducible rename IsRange _ _ _ _ _ _ _ _ => R9
  refine halt' ?_
  refine LCg.CompSrc.range rfl F9 N9 R9 hsm hsz hfit ?_
  intro g9
  clear R9 F9 N9
  refine comp_inv (fun i ys news => ∃ own1, news = (L' + 1, oc) :: (own1 ++ rest) ∧ Own (ts.drop i) own1 ∧ ys.length = i ∧ ∀ j v, ys[j]? = some v → tokIs isEnd (ts.drop j) v) n ?step ?fin n 0 [] _ (by omega) ⟨own, rfl, hO, rfl, fun j v e => by simp at e⟩
  case step =>
    rintro i ys news v I oI C oC D m₂ h tk E' hi ⟨own1, rfl, hO1, hyl, hys⟩ hv hC hx F N off ne
    obtain ⟨off0, off1⟩ := off
    have off2 := off1.mem
    have has := LX.at_ _ _ hO1
    have m1 := LX.inst _ _ hO1
    obtain ⟨es, en, m2, hl⟩ := LX.dict _ _ hO1
    have N2 : News g' L' h (own1 ++ ((I, oI) :: (C, oC) :: (D, LCg.lst ys) :: (L' + 1, oc) :: rest)) := fun p hp => N p (by
      simp only [List.mem_cons, List.mem_append] at hp ⊢
      rcases hp with h | h | h | h | h | h <;> simp [h])
    clear N
    have mC : (L' + 1, oc) ∈ own1 ++ ((I, oI) :: (C, oC) :: (D, LCg.lst ys) :: (L' + 1, oc) :: rest) := by simp
    have m1 : (x, instObj 722 dx) ∈ own1 ++ ((I, oI) :: (C, oC) :: (D, LCg.lst ys) :: (L' + 1, oc) :: rest) := List.mem_append_left _ m1
    have m2 : (dx, dictOf es en) ∈ own1 ++ ((I, oI) :: (C, oC) :: (D, LCg.lst ys) :: (L' + 1, oc) :: rest) := List.mem_append_left _ m2
    k_steps
    refine halt' ?_
    have hrest : ∀ p ∈ (I, oI) :: (C, oC) :: (D, LCg.lst ys) :: (L' + 1, oc) :: rest, p.1 ∉ as := by
      have k3 : ∀ a, a ∈ as → a ≠ I ∧ a ≠ C ∧ a ≠ D := fun a ha => by
        obtain ⟨o, ho⟩ := (has a).mp ha
        exact off2 (a, o) (List.mem_append_left _ ho)
      have k4 : ∀ a, a ∈ as → a ≠ L' + 1 := fun a ha => by
        obtain ⟨o, ho⟩ := (LX.at_ _ _ hO a).mp ha
        exact hcell (a, o) ho
      intro p hp ha
      simp only [List.mem_cons] at hp
      rcases hp with rfl | rfl | rfl | rfl | hp
      · exact (k3 _ ha).1 rfl
      · exact (k3 _ ha).2.1 rfl
      · exact (k3 _ ha).2.2 rfl
      · exact k4 _ ha rfl
      · exact hr p hp ha
    refine LX.get _ own1 _ hO1 hrest _ _ _ _ _ _ _ _ _ _ _ _ _ _ _ _ _ _ _ _ _ B' F X' N2 T' rfl (by ktr_room) (by ktr_units) ?_
    intro v9 own2 h9 tk9 hv9 hO2 F9 N9
    k_steps
    refine halt' ?_
    refine LCg.CompEnd.intro F9 N9 ((L' + 1, oc) :: (own2 ++ rest)) ?_ ?_ trivial ⟨own2, rfl, by rw [← List.tail_drop]; exact hO2, by rw [List.length_append, hyl]; rfl, ?_⟩
    · intro p hp
      simp only [List.mem_cons, List.mem_append] at hp ⊢
      rcases hp with h | h | h | h | h | h <;> simp [h]
    · refine ⟨off0, LCg.Off3.of ?_⟩
      intro p hp
      rcases List.mem_append.mp hp with hp | hp
      · obtain ⟨o, ho⟩ := (has p.1).mp ((LX.at_ _ _ hO2 p.1).mpr ⟨p.2, hp⟩)
        exact off2 (p.1, o) (List.mem_append_left _ ho)
      · exact off2 p (List.mem_append_right _ hp)
    · intro j v hj
      by_cases hjl : j < ys.length
      · rw [List.getElem?_append_left hjl] at hj
        exact hys j v hj
      · have hje : j = ys.length := by
          have := (List.getElem?_eq_some_iff.mp hj).1
          rw [List.length_append, List.length_singleton] at this
          omega
        subst hje
        rw [List.getElem?_append_right (Nat.le_refl _), Nat.sub_self] at hj
        cases hj
        rw [hyl]
        exact hv9
  case fin =>
    rintro ys news ⟨own1, rfl, hO1, hyl, hys⟩
    k_steps
    have hz : ts.drop n = [] := List.drop_eq_nil_of_le (by omega)
    rw [hz] at hO1
    with_reducible rename News _ _ _ _ => N8
    with_reducible rename _ ∧ _ => o8
    refine hret _ _ own1 _ _ hyl hys hO1 ?_ (by k_asm) (fun p hp => N8 p ?_)
    · intro p hp
      exact (off1_mem o8.2) p hp
    · simp only [List.mem_cons] at hp ⊢
      rcases hp with h | h <;> simp [h]
end Mine
end
example {M : Model} {A : Around} {E : Value → Shared → Prop} {s : Shared} {env : Env} {p : Pos} {Q : Flow → Shared → Prop} (h : wpAny M A (exec (.Pass p) env) Q E s) : wpAny M A (exec (.Pass p) env) Q E s := by first | (walk1; fail) | exact h
section

end
section
open PySem PySem.W PyProof.Rows
set_option Elab.async false
set_option maxRecDepth 100000
set_option maxHeartbeats 4000000
namespace Mine
set_option genInjectivity false
set_option genSizeOf false
/-- what stays as it is in a lexer -/
structure LexC where
  tk : Nat → Tok
  posix : Bool
  te : Tok
  words : Str
  split : Bool
  pch : Str
  x : Addr
  dx : Addr
  sx : Addr
  sdx : Addr
  pb : Addr
  fs : Addr
  pc : Option Addr
  buf : Str
  rest : List (Addr × Obj)
/-- what changes in a lexer: the signs put back, their count, the place, the state, the token -/
structure LexV where
  bk : List Value
  kb : Int
  pos : Value
  st : Value
  tok : Value
noncomputable def eofOf (posix : Bool) (te : Tok) : Value := if posix then .none else .str (Str.ofString "") te
noncomputable def esT (w : World) (c : LexC) : List DictEntry := match c.pc with
  | none => []
  | some pc => [ent w.params "_pushback_chars" (c.tk 19) (.ref pc)]
noncomputable def es (w : World) (c : LexC) (st tok : Value) : List DictEntry :=
  lexEs w.params c.tk c.posix (eofOf c.posix c.te) c.words c.split c.sx c.pb c.fs st tok ++ (ent w.params "_punctuation_chars" (c.tk 18) (.str c.pch (c.tk 38)) :: esT w c)
noncomputable def cnt (c : LexC) : Nat := match c.pc with
  | none => 19
  | some _ => 20
noncomputable def dqs (c : LexC) (v : LexV) : List (Addr × Obj) := match c.pc with
  | none => [(c.fs, deqOf [] 0), (c.pb, deqOf v.bk v.kb)]
  | some pc => [(pc, deqOf v.bk v.kb), (c.fs, deqOf [] 0), (c.pb, deqOf [] 0)]
/-- the ledger of a lexer -/
noncomputable def led (w : World) (c : LexC) (v : LexV) : List (Addr × Obj) :=
  dqs c v ++ ((c.sx, instObj 587 c.sdx) :: (c.sdx, dictOf (sioEs w.params c.tk c.buf v.pos) 3) :: (c.x, instObj 722 c.dx) :: (c.dx, dictOf (es w c v.st v.tok) (cnt c)) :: c.rest)
/-- the deque that takes a sign put back -/
noncomputable def dqa (c : LexC) : Addr := match c.pc with
  | none => c.pb
  | some pc => pc
structure LexOk (c : LexC) : Prop where
  a1 : @LT.lt Nat _ c.dx c.x
  a2 : @LT.lt Nat _ c.x c.sdx
  a3 : @LT.lt Nat _ c.sdx c.sx
  a4 : @LT.lt Nat _ c.sx c.pb
  a5 : @LT.lt Nat _ c.pb c.fs
  r : ∀ p ∈ c.rest, p.1 ≠ c.x ∧ p.1 ≠ c.dx ∧ p.1 ≠ c.sx ∧ p.1 ≠ c.sdx ∧ p.1 ≠ c.pb ∧ p.1 ≠ c.fs
  md : match c.pc with
    | none => c.pch = Str.ofString "" ∧ c.split = false
    | some pc => 1 ≤ c.pch.length ∧ @LT.lt Nat _ c.fs pc ∧ (∀ p ∈ c.rest, p.1 ≠ pc) ∧ c.posix = false
  pl : c.pch.length ≤ 1000
  bl : c.buf.length ≤ 900
section
variable {w : World} {c : LexC} {v : LexV}
theorem m_sx : (c.sx, instObj 587 c.sdx) ∈ led w c v := List.mem_append_right _ (.head _)
theorem m_sdx : (c.sdx, dictOf (sioEs w.params c.tk c.buf v.pos) 3) ∈ led w c v := List.mem_append_right _ (.tail _ (.head _))
theorem m_x : (c.x, instObj 722 c.dx) ∈ led w c v := List.mem_append_right _ (.tail _ (.tail _ (.head _)))
theorem m_dx : (c.dx, dictOf (es w c v.st v.tok) (cnt c)) ∈ led w c v := List.mem_append_right _ (.tail _ (.tail _ (.tail _ (.head _))))
theorem m_fs : (c.fs, deqOf [] 0) ∈ led w c v := List.mem_append_left _ (by
  unfold dqs
  cases c.pc with
  | none => exact .head _
  | some pc => exact .tail _ (.head _))
theorem m_bk : (dqa c, deqOf v.bk v.kb) ∈ led w c v := List.mem_append_left _ (by
  unfold dqs dqa
  cases c.pc with
  | none => exact .tail _ (.head _)
  | some pc => exact .head _)
theorem m_pb0 (h : c.pc = none) : (c.pb, deqOf v.bk v.kb) ∈ led w c v := by
  have := m_bk (w := w) (c := c) (v := v)
  unfold dqa at this
  rw [h] at this
  exact this
theorem m_pb1 {pc : Addr} (h : c.pc = some pc) : (c.pb, deqOf [] 0) ∈ led w c v := List.mem_append_left _ (by
  unfold dqs
  rw [h]
  exact .tail _ (.tail _ (.head _)))
theorem upd_app {d : Addr} {o o' : Obj} {l r r' : List (Addr × Obj)} (hl : ∀ p ∈ l, p.1 ≠ d) (h : Upd d o o' r r') : Upd d o o' (l ++ r) (l ++ r') := by
  induction l with
  | nil => exact h
  | cons p l ih => exact .tail (hl p (.head _)) (ih fun q hq => hl q (.tail _ hq))
variable (ok : LexOk c)
include ok
theorem dqs_gt {p : Addr × Obj} (hp : p ∈ dqs c v) : @LT.lt Nat _ c.sx p.1 := by
  have a4 := ok.a4
  have a5 := Nat.lt_trans ok.a4 ok.a5
  have md := ok.md
  unfold dqs at hp
  revert hp md
  cases c.pc with
  | none =>
    intro hp _
    rcases List.mem_cons.mp hp with rfl | hp
    · exact a5
    · rcases List.mem_cons.mp hp with rfl | hp
      · exact a4
      · cases hp
  | some pc =>
    intro hp md
    rcases List.mem_cons.mp hp with rfl | hp
    · exact Nat.lt_trans a5 md.2.1
    · rcases List.mem_cons.mp hp with rfl | hp
      · exact a5
      · rcases List.mem_cons.mp hp with rfl | hp
        · exact a4
        · cases hp
theorem u_sdx (p' : Value) : Upd c.sdx (dictOf (sioEs w.params c.tk c.buf v.pos) 3) (dictOf (sioEs w.params c.tk c.buf p') 3) (led w c v) (led w c { v with pos := p' }) := by
  refine upd_app (fun p hp => Nat.ne_of_gt (Nat.lt_trans ok.a3 (dqs_gt ok hp))) (.tail (Nat.ne_of_gt ok.a3) (.head fun p hp => ?_))
  rcases List.mem_cons.mp hp with rfl | hp
  · exact Nat.ne_of_lt ok.a2
  · rcases List.mem_cons.mp hp with rfl | hp
    · exact Nat.ne_of_lt (Nat.lt_trans ok.a1 ok.a2)
    · exact (ok.r p hp).2.2.2.1
theorem u_dx (st tok : Value) : Upd c.dx (dictOf (es w c v.st v.tok) (cnt c)) (dictOf (es w c st tok) (cnt c)) (led w c v) (led w c { v with st := st, tok := tok }) := by
  have b1 := Nat.lt_trans ok.a1 ok.a2
  have b2 := Nat.lt_trans b1 ok.a3
  refine upd_app (fun p hp => Nat.ne_of_gt (Nat.lt_trans b2 (dqs_gt ok hp))) (.tail (Nat.ne_of_gt b2) (.tail (Nat.ne_of_gt b1) (.tail (Nat.ne_of_gt ok.a1) (.head fun p hp => (ok.r p hp).2.1))))
theorem u_bk (bk : List Value) (kb : Int) : Upd (dqa c) (deqOf v.bk v.kb) (deqOf bk kb) (led w c v) (led w c { v with bk := bk, kb := kb }) := by
  have a5 := ok.a5
  have a4 := ok.a4
  have g := @dqs_gt c ⟨bk, kb, .none, .none, .none⟩ ok
  have b : ∀ p ∈ (c.sx, instObj 587 c.sdx) :: (c.sdx, dictOf (sioEs w.params c.tk c.buf v.pos) 3) :: (c.x, instObj 722 c.dx) :: (c.dx, dictOf (es w c v.st v.tok) (cnt c)) :: c.rest, p.1 ≠ dqa c := by
    have hb : @LT.lt Nat _ c.sx (dqa c) := g (p := (dqa c, deqOf bk kb)) (by
      unfold dqs dqa
      cases c.pc with
      | none => exact .tail _ (.head _)
      | some pc => exact .head _)
    intro p hp
    rcases List.mem_cons.mp hp with rfl | hp
    · exact Nat.ne_of_lt hb
    · rcases List.mem_cons.mp hp with rfl | hp
      · exact Nat.ne_of_lt (Nat.lt_trans ok.a3 hb)
      · rcases List.mem_cons.mp hp with rfl | hp
        · exact Nat.ne_of_lt (Nat.lt_trans ok.a2 (Nat.lt_trans ok.a3 hb))
        · rcases List.mem_cons.mp hp with rfl | hp
          · exact Nat.ne_of_lt (Nat.lt_trans ok.a1 (Nat.lt_trans ok.a2 (Nat.lt_trans ok.a3 hb)))
          · have md := ok.md
            have r := ok.r p hp
            unfold dqa
            revert md
            cases c.pc with
            | none => exact fun _ => r.2.2.2.2.1
            | some pc => exact fun md => md.2.2.1 p hp
  have md := ok.md
  clear g
  unfold led dqs
  unfold dqa at b ⊢
  revert b md
  cases c.pc with
  | none => exact fun b _ => .tail (Nat.ne_of_gt a5) (.head b)
  | some pc =>
    intro b md
    refine .head fun p hp => ?_
    rcases List.mem_cons.mp hp with rfl | hp
    · exact Nat.ne_of_lt md.2.1
    · rcases List.mem_cons.mp hp with rfl | hp
      · exact Nat.ne_of_lt (Nat.lt_trans a5 md.2.1)
      · exact b p hp
end
/-- the facts that an own attribute's read wants -/
noncomputable def lexPlain (K : Frag) (name : Str) : Bool := plainGet K 722 name && hasDictIn K 722 && (match findIn K (.ref 722) name with
  | some a => noGet K a
  | none => false)
theorem lex_get {prog : Program} {w : World} {c : LexC} {v : LexV} {A : Around} {E : Value → Shared → Prop} {s : Shared} {h₀ : Heap} {L : Addr} {m : Str → Option Value} {name : Str} {val : Value} {K : Frag} {expr : Bool} {Q : Value → Shared → Prop}
    (F : Fr h₀ L s.heap m) (X : K.In h₀) (N : News h₀ L s.heap (led w c v)) (pl : lexPlain K name = true) (hl : getL name (es w c v.st v.tok) = some (some val)) (hv : handedIn val = true) (h : Q val { s with toks := s.toks + 1 }) :
    wpAny (model prog w) A (getAttr (.ref c.x) name expr) Q E s := by
  unfold lexPlain at pl
  cases ha : findIn K (.ref 722) name with
  | none => rw [ha] at pl; simp at pl
  | some a =>
    rw [ha, Bool.and_eq_true, Bool.and_eq_true] at pl
    exact get_own F X (InstAt.of_news N m_x m_dx) pl.1.1 pl.1.2 ha pl.2 hl hv h
/-- the facts that an own attribute's store wants -/
noncomputable def lexSet (K : Frag) (name : Str) : Bool := findIn K (.ref 722) "__setattr__" == some (some (.builtin "object.__setattr__")) && plainOver K 722 && takerIn K 722 name == some none && hasDictIn K 722
theorem lex_set {prog : Program} {w : World} {c : LexC} {v : LexV} {A : Around} {E : Value → Shared → Prop} {s : Shared} {h₀ : Heap} {L : Addr} {m : Str → Option Value} {name : Str} {val st tok : Value} {K : Frag} {Q : Unit → Shared → Prop}
    (ok : LexOk c) (F : Fr h₀ L s.heap m) (X : K.In h₀) (N : News h₀ L s.heap (led w c v)) (pl : lexSet K name = true) (hs : (getL name (es w c v.st v.tok)).isSome = true)
    (e : (putL name (PyData.keyHash w.params name) (.str name (s.toks + 1)) val (es w c v.st v.tok), putN name (es w c v.st v.tok) (cnt c)) = (es w c st tok, cnt c))
    (h : ∀ h', Fr h₀ L h' m → News h₀ L h' (led w c { v with st := st, tok := tok }) → Q () { s with heap := h', toks := s.toks + 2 }) :
    wpAny (model prog w) A (setAttr (.ref c.x) name val) Q E s := by
  unfold lexSet at pl
  rw [Bool.and_eq_true, Bool.and_eq_true, Bool.and_eq_true] at pl
  have hz : (es w c st tok).length ≤ 1000 := by
    unfold es esT
    cases c.pc <;> exact Nat.le_of_ble_eq_true rfl
  exact set_dict F X N (InstAt.of_news N m_x m_dx) rfl (beq_iff_eq.mp pl.1.1.1) pl.1.1.2 (beq_iff_eq.mp pl.1.2) pl.2 hs e (u_dx ok st tok) hz h
theorem put_st (w : World) (c : LexC) (st tok val k : Value) : (putL (Str.ofString "state") (PyData.keyHash w.params (Str.ofString "state")) k val (es w c st tok), putN (Str.ofString "state") (es w c st tok) (cnt c)) = (es w c val tok, cnt c) := by
  unfold es esT cnt
  cases c.pc <;> kernel_rfl
theorem put_tok (w : World) (c : LexC) (st tok val k : Value) : (putL (Str.ofString "token") (PyData.keyHash w.params (Str.ofString "token")) k val (es w c st tok), putN (Str.ofString "token") (es w c st tok) (cnt c)) = (es w c st val, cnt c) := by
  unfold es esT cnt
  cases c.pc <;> kernel_rfl
end Mine
end
section
open PySem PySem.W PyProof.Rows
set_option Elab.async false
set_option maxRecDepth 100000
set_option maxHeartbeats 4000000
namespace Mine
set_option genInjectivity false
set_option genSizeOf false
noncomputable abbrev envR (L' : Addr) : Env := envOf (Str.ofString "shlex.read_token") (md 19 6).2.2 L' 690 (.ref 689)
/-- the place of a walk within read_token -/
structure Cx where
  w : World
  c : LexC
  te : Tok
  nv : Option Value
  g : Heap
  L' : Addr
  A : Around
  s : Shared
  E : Value → Shared → Prop
/-- what stands at the place -/
structure At (k : Cx) (v : LexV) (h : Heap) : Prop where
  F : Fr k.g k.L' h (fr1 k.c.x k.te k.nv)
  X : (theK k.w.params).In k.g
  N : News k.g k.L' h (led k.w k.c v)
noncomputable abbrev Cx.at (k : Cx) (h : Heap) (tk : Nat) : Shared := ⟨h, k.s.gens, k.s.drawn, tk, k.s.os⟩
/-- the test gives b -/
noncomputable def Tst (k : Cx) (v : LexV) (e : Expr) (b : Bool) : Prop :=
  ∀ (Q : Bool → Shared → Prop) h tk, At k v h → (∀ h' tk', At k v h' → Q b (k.at h' tk')) → wpAny (model thePg k.w) k.A (isTrue e (envR k.L') (eval e (envR k.L'))) Q k.E (k.at h tk)
/-- the expression gives a value with P -/
noncomputable def Val (k : Cx) (v : LexV) (e : Expr) (P : Value → Prop) : Prop :=
  ∀ (Q : Value → Shared → Prop) h tk, At k v h → (∀ u h' tk', P u → At k v h' → Q u (k.at h' tk')) → wpAny (model thePg k.w) k.A (eval e (envR k.L')) Q k.E (k.at h tk)
noncomputable def Done (k : Cx) (v : LexV) (f : Flow) (Q : Flow → Shared → Prop) : Prop := ∀ h tk, At k v h → Q f (k.at h tk)
noncomputable def Ex (k : Cx) (v : LexV) (st : Stmt) (Q : Flow → Shared → Prop) : Prop :=
  ∀ h tk, At k v h → wpAny (model thePg k.w) k.A (exec st (envR k.L')) Q k.E (k.at h tk)
noncomputable def Exs (k : Cx) (v : LexV) (sts : List Stmt) (Q : Flow → Shared → Prop) : Prop :=
  ∀ h tk, At k v h → wpAny (model thePg k.w) k.A (execs sts (envR k.L')) Q k.E (k.at h tk)
noncomputable abbrev IsStr (x : Str) (u : Value) : Prop := ∃ t, u = .str x t
section
variable {k : Cx} {v : LexV} {Q : Flow → Shared → Prop}
theorem if_ff {test : Expr} {body : List Stmt} {st : Stmt} {pos : Pos} {b : Bool} (t : Tst k v test b) (hb : b = false) (h : Ex k v st Q) : Ex k v (.If test body [st] pos) Q := fun hp tk a => by
  subst hb
  exact wpAny_If (t _ hp tk a fun h' tk' a' => execs_one (h h' tk' a'))
theorem if_tt {test : Expr} {body orelse : List Stmt} {pos : Pos} {b : Bool} (t : Tst k v test b) (hb : b = true) (h : Exs k v body Q) : Ex k v (.If test body orelse pos) Q := fun hp tk a => by
  subst hb
  exact wpAny_If (t _ hp tk a fun h' tk' a' => h h' tk' a')
theorem if_no {test : Expr} {body orelse : List Stmt} {pos : Pos} {b : Bool} (t : Tst k v test b) (hb : b = false) (h : Exs k v orelse Q) : Ex k v (.If test body orelse pos) Q := fun hp tk a => by
  subst hb
  exact wpAny_If (t _ hp tk a fun h' tk' a' => h h' tk' a')
theorem exs_nil (h : Done k v .next Q) : Exs k v [] Q := fun hp tk a => wpAny_execs_nil (h hp tk a)
theorem exs_one {st : Stmt} (h : Ex k v st Q) : Exs k v [st] Q := fun hp tk a => execs_one (h hp tk a)
theorem exs_brk {rest : List Stmt} {pos : Pos} (h : Done k v .brk Q) : Exs k v (.Break pos :: rest) Q := fun hp tk a => execs_then (wpAny_Break (h hp tk a))
theorem exs_then {st : Stmt} {rest : List Stmt} (h : Ex k v st (Then (model thePg k.w) k.A (envR k.L') k.E rest Q)) : Exs k v (st :: rest) Q := fun hp tk a => execs_then (h hp tk a)
theorem done_then {v' : LexV} {rest : List Stmt} (h : Exs k v' rest Q) : Done k v' .next (Then (model thePg k.w) k.A (envR k.L') k.E rest Q) := fun hp tk a => h hp tk a
-- values
theorem val_name {u : Value} (hn : k.nv = some u) {p : Pos} : Val k v (.Name (Str.ofString "nextchar") p) (· = u) := fun Q hp tk a h => by
  refine nameX_L a.F (v := u) ?_ (h _ _ _ rfl a)
  show k.nv = _
  exact hn
theorem val_attr {name : Str} {u : Value} (pl : lexPlain (theK k.w.params) name = true) (hl : getL name (es k.w k.c v.st v.tok) = some (some u)) (hv : handedIn u = true) {p1 p2 : Pos} :
    Val k v (.Attribute (.Name (Str.ofString "self") p1) name p2) (· = u) := fun Q hp tk a h =>
  Attribute_Name_ (nameX_L a.F rfl (lex_get (s := k.at hp tk) a.F a.X a.N pl hl hv (h _ _ _ rfl a)))
end
theorem pl_state (P : Params) : lexPlain (theK P) (Str.ofString "state") = true := by kernel_rfl
theorem pl_token (P : Params) : lexPlain (theK P) (Str.ofString "token") = true := by kernel_rfl
theorem pl_posix (P : Params) : lexPlain (theK P) (Str.ofString "posix") = true := by kernel_rfl
theorem pl_debug (P : Params) : lexPlain (theK P) (Str.ofString "debug") = true := by kernel_rfl
theorem pl_ws (P : Params) : lexPlain (theK P) (Str.ofString "whitespace") = true := by kernel_rfl
theorem pl_cm (P : Params) : lexPlain (theK P) (Str.ofString "commenters") = true := by kernel_rfl
theorem pl_esc (P : Params) : lexPlain (theK P) (Str.ofString "escape") = true := by kernel_rfl
theorem pl_words (P : Params) : lexPlain (theK P) (Str.ofString "wordchars") = true := by kernel_rfl
theorem pl_quotes (P : Params) : lexPlain (theK P) (Str.ofString "quotes") = true := by kernel_rfl
theorem pl_split (P : Params) : lexPlain (theK P) (Str.ofString "whitespace_split") = true := by kernel_rfl
theorem ps_state (P : Params) : lexSet (theK P) (Str.ofString "state") = true := by kernel_rfl
theorem ps_token (P : Params) : lexSet (theK P) (Str.ofString "token") = true := by kernel_rfl
noncomputable abbrev sA (n : String) (p1 p2 : Pos) : Expr := .Attribute (.Name (Str.ofString "self") p1) (Str.ofString n) p2
noncomputable abbrev nC (p : Pos) : Expr := .Name (Str.ofString "nextchar") p
section
variable {k : Cx} {v : LexV} {p1 p2 p3 p4 p5 p6 : Pos}
theorem val_state (hh : handedIn v.st = true) : Val k v (sA "state" p1 p2) (· = v.st) := val_attr (pl_state _) rfl hh
theorem val_token (hh : handedIn v.tok = true) : Val k v (sA "token" p1 p2) (· = v.tok) := val_attr (pl_token _) rfl hh
theorem val_posix : Val k v (sA "posix" p1 p2) (· = .bool k.c.posix) := val_attr (pl_posix _) rfl rfl
theorem val_split : Val k v (sA "whitespace_split" p1 p2) (· = .bool k.c.split) := val_attr (pl_split _) rfl rfl
theorem val_debug : Val k v (sA "debug" p1 p2) (· = .int 0 (k.c.tk 34)) := val_attr (pl_debug _) rfl rfl
theorem val_ws : Val k v (sA "whitespace" p1 p2) (· = .str (Str.ofString " \t\r\n") (k.c.tk 26)) := val_attr (pl_ws _) rfl rfl
theorem val_cm : Val k v (sA "commenters" p1 p2) (· = .str (Str.ofString "#") (k.c.tk 24)) := val_attr (pl_cm _) rfl rfl
theorem val_esc : Val k v (sA "escape" p1 p2) (· = .str (Str.ofString "\\") (k.c.tk 29)) := val_attr (pl_esc _) rfl rfl
theorem val_words : Val k v (sA "wordchars" p1 p2) (· = .str k.c.words (k.c.tk 25)) := val_attr (pl_words _) rfl rfl
theorem val_quotes : Val k v (sA "quotes" p1 p2) (· = .str (Str.ofString "'\"") (k.c.tk 28)) := val_attr (pl_quotes _) rfl rfl
/-- nextchar in self.x -/
theorem t_in {ch hay : Str} {t1 t2 : Tok} {n : String} (hn : k.nv = some (.str ch t1)) (y : Val k v (sA n p2 p3) (· = .str hay t2)) : Tst k v (.Compare (nC p1) [.In] [sA n p2 p3] p4) (inS ch hay) := fun Q hp tk a h =>
  wpAny_isTrue_Compare1 (val_name hn _ hp tk a fun u h' tk' e a' => by
    subst e
    refine y _ h' tk' a' fun u h' tk' e a' => ?_
    subst e
    exact in_strI (wpAny_truthy_bool (h _ _ a')))
theorem t_notin {ch hay : Str} {t1 t2 : Tok} {n : String} (hn : k.nv = some (.str ch t1)) (y : Val k v (sA n p2 p3) (· = .str hay t2)) : Tst k v (.Compare (nC p1) [.NotIn] [sA n p2 p3] p4) (!inS ch hay) := fun Q hp tk a h =>
  wpAny_isTrue_Compare1 (val_name hn _ hp tk a fun u h' tk' e a' => by
    subst e
    refine y _ h' tk' a' fun u h' tk' e a' => ?_
    subst e
    exact notIn_strI (wpAny_truthy_bool (h _ _ a')))
/-- self.state in self.x -/
theorem t_stin {x hay : Str} {t1 t2 : Tok} {n : String} (hs : v.st = .str x t1) (y : Val k v (sA n p2 p3) (· = .str hay t2)) : Tst k v (.Compare (sA "state" p1 p5) [.In] [sA n p2 p3] p4) (inS x hay) := fun Q hp tk a h =>
  wpAny_isTrue_Compare1 (val_state (by rw [hs]; rfl) _ hp tk a fun u h' tk' e a' => by
    rw [e, hs]
    refine y _ h' tk' a' fun u h' tk' e a' => ?_
    subst e
    exact in_strI (wpAny_truthy_bool (h _ _ a')))
/-- self.state == y -/
theorem t_steq {x y : Str} {t1 : Tok} {i : Nat} (hs : v.st = .str x t1) : Tst k v (.Compare (sA "state" p1 p5) [.Eq] [.Constant (.str y) i p2] p4) (x == y) := fun Q hp tk a h =>
  wpAny_isTrue_Compare1 (val_state (by rw [hs]; rfl) _ hp tk a fun u h' tk' e a' => by
    rw [e, hs]
    exact wpAny_Constant_str (s := k.at h' tk') (eq_str (wpAny_truthy_bool (h _ _ a'))))
/-- self.state is None -/
theorem t_stno {x : Str} {t1 : Tok} {i : Nat} (hs : v.st = .str x t1) : Tst k v (.Compare (sA "state" p1 p5) [.Is] [.Constant .none i p2] p4) false := fun Q hp tk a h =>
  wpAny_isTrue_Compare1 (val_state (by rw [hs]; rfl) _ hp tk a fun u h' tk' e a' => by
    rw [e, hs]
    exact wpAny_Constant_none (is_str_none (wpAny_truthy_bool (h _ _ a'))))
theorem t_stnone {i : Nat} (hs : v.st = .none) : Tst k v (.Compare (sA "state" p1 p5) [.Is] [.Constant .none i p2] p4) true := fun Q hp tk a h =>
  wpAny_isTrue_Compare1 (val_state (by rw [hs]; rfl) _ hp tk a fun u h' tk' e a' => by
    rw [e, hs]
    exact wpAny_Constant_none (is_none_none (wpAny_truthy_bool (h _ _ a'))))
/-- nextchar == y -/
theorem t_nceq {ch y : Str} {t1 : Tok} {i : Nat} (hn : k.nv = some (.str ch t1)) : Tst k v (.Compare (nC p1) [.Eq] [.Constant (.str y) i p2] p4) (ch == y) := fun Q hp tk a h =>
  wpAny_isTrue_Compare1 (val_name hn _ hp tk a fun u h' tk' e a' => by
    subst e
    exact wpAny_Constant_str (s := k.at h' tk') (eq_str (wpAny_truthy_bool (h _ _ a'))))
/-- self.debug >= n -/
theorem t_debug {i : Nat} {n : Int} : Tst k v (.Compare (sA "debug" p1 p5) [.GtE] [.Constant (.int n) i p2] p4) (decide (n ≤ 0)) := fun Q hp tk a h =>
  wpAny_isTrue_Compare1 (val_debug _ hp tk a fun u h' tk' e a' => by
    subst e
    exact wpAny_Constant_int (s := k.at h' tk') (ge_int (wpAny_truthy_bool (h _ _ a'))))
/-- not nextchar -/
theorem t_notnc {ch : Str} {t1 : Tok} (hn : k.nv = some (.str ch t1)) (hl : 1 ≤ ch.length) (hu : ch.length ≤ 1) : Tst k v (.UnaryOp .Not (nC p1) p2) false := fun Q hp tk a h =>
  isTrue_not (isTrue_plain (val_name hn _ hp tk a fun u h' tk' e a' => by
    subst e
    exact KXt.truthy_pos hl hu (by decide) fun tk2 => h _ _ a'))
theorem t_noch {t1 : Tok} (hn : k.nv = some (.str (Str.ofString "") t1)) : Tst k v (.UnaryOp .Not (nC p1) p2) true := fun Q hp tk a h =>
  isTrue_not (isTrue_plain (val_name hn _ hp tk a fun u h' tk' e a' => by
    subst e
    exact KXt.truthy (b := false) (by decide +kernel) (by decide +kernel) fun tk2 => h _ _ a'))
/-- self.token -/
theorem t_token {x : Str} {t1 : Tok} (ht : v.tok = .str x t1) (hl : 1 ≤ x.length) (hu : x.length ≤ 1000) : Tst k v (sA "token" p1 p2) true := fun Q hp tk a h =>
  isTrue_plain (val_token (by rw [ht]; rfl) _ hp tk a fun u h' tk' e a' => by
    rw [e, ht]
    exact KXt.truthy_pos hl hu (by decide) fun tk2 => h _ _ a')
theorem t_split : Tst k v (sA "whitespace_split" p1 p2) k.c.split := fun Q hp tk a h =>
  isTrue_plain (val_split _ hp tk a fun u h' tk' e a' => by
    subst e
    exact wpAny_truthy_bool (h _ _ a'))
theorem t_posix : Tst k v (sA "posix" p1 p2) k.c.posix := fun Q hp tk a h =>
  isTrue_plain (val_posix _ hp tk a fun u h' tk' e a' => by
    subst e
    exact wpAny_truthy_bool (h _ _ a'))
/-- x and y -/
theorem t_and {e1 e2 : Expr} {b1 b2 : Bool} (x : Tst k v e1 b1) (y : Tst k v e2 b2) : Tst k v (.BoolOp .And [e1, e2] p1) (b1 && b2) := fun Q hp tk a h =>
  isTrue_and (x _ hp tk a fun h' tk' a' => by
    cases b1 with
    | false => exact h _ _ a'
    | true => exact isTrue_and (y _ h' tk' a' fun h' tk' a' => by
        cases b2 with
        | false => exact h _ _ a'
        | true => exact isTrue_and_nil (h _ _ a')))
/-- x or y .. -/
theorem t_or {e1 : Expr} {es : List Expr} {b1 b2 : Bool} (x : Tst k v e1 b1) (y : Tst k v (.BoolOp .Or es p1) b2) : Tst k v (.BoolOp .Or (e1 :: es) p1) (b1 || b2) := fun Q hp tk a h =>
  isTrue_or (x _ hp tk a fun h' tk' a' => by
    cases b1 with
    | true => exact h _ _ a'
    | false => exact y _ h' tk' a' h)
theorem t_or_nil : Tst k v (.BoolOp .Or [] p1) false := fun Q hp tk a h => isTrue_or_nil (h _ _ a)
/-- self.state = y, self.token = y .. -/
theorem x_state {e : Expr} {P : Value → Prop} {Q : Flow → Shared → Prop} (ok : LexOk k.c) (y : Val k v e P) (h : ∀ u, P u → Done k { v with st := u } .next Q)
    (hs : swapsWith e (some (sA "state" p1 p2)) p4.line (envR k.L') = pure false := by rfl) : Ex k v (.Assign [sA "state" p1 p2] e p4) Q := fun hp tk a =>
  plainObj_wpAny_Assign_Attribute (y _ hp tk a fun u h' tk' hu a' =>
    nameX_L a'.F rfl (lex_set (s := k.at h' tk') (st := u) (tok := v.tok) ok a'.F a'.X a'.N (ps_state _) rfl (put_st _ _ _ _ _ _) fun h9 F9 N9 => h u hu h9 _ ⟨F9, a'.X, N9⟩)) hs
theorem x_token {e : Expr} {P : Value → Prop} {Q : Flow → Shared → Prop} (ok : LexOk k.c) (y : Val k v e P) (h : ∀ u, P u → Done k { v with tok := u } .next Q)
    (hs : swapsWith e (some (sA "token" p1 p2)) p4.line (envR k.L') = pure false := by rfl) : Ex k v (.Assign [sA "token" p1 p2] e p4) Q := fun hp tk a =>
  plainObj_wpAny_Assign_Attribute (y _ hp tk a fun u h' tk' hu a' =>
    nameX_L a'.F rfl (lex_set (s := k.at h' tk') (st := v.st) (tok := u) ok a'.F a'.X a'.N (ps_token _) rfl (put_tok _ _ _ _ _ _) fun h9 F9 N9 => h u hu h9 _ ⟨F9, a'.X, N9⟩)) hs
theorem val_str {y : Str} {i : Nat} : Val k v (.Constant (.str y) i p1) (IsStr y) := fun Q hp tk a h => wpAny_Constant_str (s := k.at hp tk) (h _ _ _ ⟨_, rfl⟩ a)
theorem val_none {i : Nat} : Val k v (.Constant .none i p1) (· = .none) := fun Q hp tk a h => wpAny_Constant_none (h _ _ _ rfl a)
/-- self.token += nextchar -/
theorem x_add {Q : Flow → Shared → Prop} (ok : LexOk k.c) {x ch : Str} {t1 t2 : Tok} (hn : k.nv = some (.str ch t2)) (ht : v.tok = .str x t1) (hx : x.length ≤ 1000) (hc : ch.length ≤ 1) (h : ∀ t, Done k { v with tok := .str (x ++ ch) t } .next Q) :
    Ex k v (.AugAssign (sA "token" p1 p2) .Add (nC p3) p4) Q := fun hp tk a =>
  wpAny_AugAssign_AttributeAny (nameX_L a.F rfl (lex_get (s := k.at hp tk) a.F a.X a.N (pl_token _) rfl (by rw [ht]; rfl) (val_name hn _ hp _ a fun u h' tk' e a' => by
    rw [e, ht]
    refine iadd_str (fun t9 tk9 => ?_) (by have : sizeLine = 16777216 := by decide
                                           omega)
    exact lex_set (s := k.at h' tk9) (st := v.st) (tok := .str (x ++ ch) t9) ok a'.F a'.X a'.N (ps_token _) rfl (put_tok _ _ _ _ _ _) fun h9 F9 N9 => h t9 h9 _ ⟨F9, a'.X, N9⟩)))
theorem t_or_tt {e1 : Expr} {es : List Expr} (x : Tst k v e1 true) : Tst k v (.BoolOp .Or (e1 :: es) p1) true := fun Q hp tk a h =>
  isTrue_or (x _ hp tk a fun h' tk' a' => h _ _ a')
end
end Mine
end
section
open PySem PySem.W PyProof.Rows
set_option maxRecDepth 100000
namespace Mine
/-- cutting signs into tokens: kd 0 alone, else runs of one kind -/
noncomputable def cut (kd : Str → Nat) : Option (Nat × Str) → List Str → List Str
  | none, [] => []
  | some (_, tok), [] => [tok]
  | none, c :: r => if kd c = 0 then c :: cut kd none r else cut kd (some (kd c, c)) r
  | some (k, tok), c :: r => if kd c = k then cut kd (some (k, tok ++ c)) r else if kd c = 0 then tok :: c :: cut kd none r else tok :: cut kd (some (kd c, c)) r
/-- the signs of buf from p on -/
noncomputable def sg (buf : Str) : Nat → Nat → List Str
  | _, 0 => []
  | p, n + 1 => signAt buf p :: sg buf (p + 1) n
noncomputable def kdP (words : Str) (c : Str) : Nat := if inS c words then 1 else 0
noncomputable def kdQ (words pch : Str) (split : Bool) (c : Str) : Nat := if inS c words then 1 else if inS c pch then 2 else if split then 1 else 0
theorem cut_none_cons (kd : Str → Nat) (c : Str) (r : List Str) : cut kd none (c :: r) = if kd c = 0 then c :: cut kd none r else cut kd (some (kd c, c)) r := rfl
theorem cut_some_other {kd : Str → Nat} {k : Nat} {tok c : Str} {r : List Str} (h : kd c ≠ k) : cut kd (some (k, tok)) (c :: r) = tok :: cut kd none (c :: r) := by
  show (if kd c = k then _ else if kd c = 0 then tok :: c :: cut kd none r else tok :: cut kd (some (kd c, c)) r) = _
  rw [if_neg h, cut_none_cons]
  split <;> rfl
theorem cut_some_same {kd : Str → Nat} {k : Nat} {tok c : Str} {r : List Str} (h : kd c = k) : cut kd (some (k, tok)) (c :: r) = cut kd (some (k, tok ++ c)) r := if_pos h
end Mine
end
section
local macro_rules | `(tactic| walk_at "compareOp In str str") => `(tactic| first | refine in_strC (b := false) (by decide +kernel) ?_ | refine in_strC (b := true) (by decide +kernel) ?_ | refine in_strI ?_)
local macro_rules | `(tactic| walk_at "compareOp NotIn str str") => `(tactic| refine notIn_strI ?_)
local macro_rules | `(tactic| walk_at "truthy ref") => `(tactic| (k_here; k_dflt (refine' dq_truthyN ?k1 ?k2 ?k3 ?_; (case k1 => k_asm); (case k2 => k_mem); (case k3 => (simp; done)); k_whole; (try dsimp only [List.isEmpty, Bool.not_true, Bool.not_false]))))
local macro_rules | `(tactic| walk_at "getMethod ref") => `(tactic| (k_here; k_dflt (first
  | refine' dq_getN dq_append dqt_append ?k1 ?k2 ?_; (case k1 => k_asm); (case k2 => k_mem); k_whole
  | refine' dq_getN dq_appendleft dqt_appendleft ?k1 ?k2 ?_; (case k1 => k_asm); (case k2 => k_mem); k_whole
  | refine' dq_getN dq_pop dqt_pop ?k1 ?k2 ?_; (case k1 => k_asm); (case k2 => k_mem); k_whole
  | refine' dq_getN dq_popleft dqt_popleft ?k1 ?k2 ?_; (case k1 => k_asm); (case k2 => k_mem); k_whole)))
local macro_rules | `(tactic| walk_at "call builtin:collections.deque.appendleft") => `(tactic| (k_here; k_dflt (refine' dq_appendleft_call ?k1 ?k2 ?k3 ?k4 ?_; (case k1 => k_asm); (case k2 => k_asm); (case k3 => k_upd); (case k4 => (simp; done)); k_whole); intro h' F' N'; (try k_sweep)))
local macro_rules | `(tactic| walk_at "call builtin:collections.deque.append") => `(tactic| (k_here; k_dflt (refine' dq_append_call ?k1 ?k2 ?k3 ?k4 ?_; (case k1 => k_asm); (case k2 => k_asm); (case k3 => k_upd); (case k4 => (simp; done)); k_whole); intro h' F' N'; (try dsimp only [List.nil_append] at N'); (try k_sweep)))
local macro_rules | `(tactic| walk_at "call builtin:collections.deque.pop") => `(tactic| (k_here; k_dflt (refine' dq_pop_call (xs := []) ?k1 ?k2 ?k3 ?k4 ?_; (case k1 => k_asm); (case k2 => k_asm); (case k3 => k_upd); (case k4 => (simp; done)); k_whole); intro h' F' N'; (try k_sweep)))
local macro_rules | `(tactic| walk_at "call builtin:collections.deque.popleft") => `(tactic| (k_here; k_dflt (refine' dq_popleft_call ?k1 ?k2 ?k3 ?k4 ?_; (case k1 => k_asm); (case k2 => k_asm); (case k3 => k_upd); (case k4 => (simp; done)); k_whole); intro h' F' N'; (try k_sweep)))
example {M : Model} {A : Around} {E : Value → Shared → Prop} {s : Shared} {env : Env} {p : Pos} {Q : Flow → Shared → Prop} (h : wpAny M A (exec (.Pass p) env) Q E s) : wpAny M A (exec (.Pass p) env) Q E s := by first | (walk1; fail) | exact h
section
open PySem PySem.W PyProof.Rows
set_option Elab.async false
set_option maxRecDepth 100000
set_option maxHeartbeats 8000000
namespace Mine
noncomputable abbrev arR (dp un : Nat) (gd : Option (List Code)) (cn : Str) (cs : Scope) (L : Addr) (a : Addr) (ccd : Value) (cl : List (Str × Addr)) (outer : List Env) (L' : Addr) : Around := (ktrTop dp un gd cn cs L a ccd cl outer).deeper (envR L')
/-- the place is one within read_token's frame -/
noncomputable def Place (k : Cx) : Prop := ∃ (loose : List Str) (mean : ExcName → Option Value) (mg mb : Str → Option Value) (dp un : Nat) (gd : Option (List Code)) (cn : Str) (cs : Scope) (L : Addr) (a : Addr) (ccd : Value) (cl : List (Str × Addr)) (outer : List Env) (base : Heap),
  k.A = arR dp un gd cn cs L a ccd cl outer k.L' ∧ Below (ktrTop dp un gd cn cs L a ccd cl outer) base (envX cn cs L a ccd cl :: outer) k.g ∧ Top theQ loose mean mg mb k.g ∧ dp + 6 < recursionLimit ∧ un + 48 < cLine
noncomputable def thenOf : Stmt → List Stmt
  | .If _ b _ _ => b
  | _ => []
noncomputable def elseOf : Stmt → List Stmt
  | .If _ _ e _ => e
  | _ => []
/-- the first if, the long if; the branch of the states a and c -/
noncomputable def stRd : Stmt := nthS theW.2 0
noncomputable def stBig : Stmt := nthS theW.2 3
noncomputable def els (s : Stmt) (n : Nat) : Stmt := match n with
  | 0 => s
  | n + 1 => nthS (elseOf (els s n)) 0
noncomputable def stA0 : Stmt := nthS (thenOf (els stBig 4)) 0
noncomputable def stPush : Stmt := nthS (elseOf (els stA0 6)) 0
/-- a put back: in the run of signs, in a word (with, without punctuation) -/
noncomputable def stApp (b : Bool) : Stmt := if b then nthS (thenOf (nthS (elseOf (nthS (thenOf (els stA0 3)) 0)) 0)) 0 else nthS (thenOf stPush) 0
noncomputable def stApl : Stmt := nthS (elseOf stPush) 0
local macro_rules | `(tactic| k_mem) => `(tactic| first | exact List.Mem.head _ | with_reducible exact m_x | with_reducible exact m_dx | with_reducible exact m_sx | with_reducible exact m_sdx | assumption)
local macro_rules | `(tactic| walk_at "getAttr ref") => `(tactic| (k_here; k_dflt (refine' lex_get ?k1 ?k2 ?k3 ?k4 ?k5 ?k6 ?_; (case k1 => k_asm); (case k2 => k_asm); (case k3 => k_asm); (case k4 => kernel_rfl); (case k5 => first | exact rfl | assumption); (case k6 => k_handed); k_whole)))
section
variable {k : Cx} {v : LexV} {p1 p2 p3 p4 p5 p6 : Pos}
/-- self.state in (y, z) -/
theorem t_stac {x y z : Str} {t1 : Tok} {i j n : Nat} (hs : v.st = .str x t1) (hx : x = y ∨ x = z) : Tst k v (.Compare (sA "state" p1 p5) [.In] [.Tuple [.Constant (.str y) i p2, .Constant (.str z) j p3] n p4] p6) true := fun Q hp tk a h =>
  wpAny_isTrue_Compare1 (val_state (by rw [hs]; rfl) _ hp tk a fun u h' tk' e a' => by
    rw [e, hs]
    obtain ⟨w, c, te, nv, g, L', A, s, E⟩ := k
    obtain ⟨F, X, N⟩ := a'
    dsimp only at *
    clear a
    k_steps
    with_reducible rename Fr _ _ _ _ => F9
    with_reducible rename News _ _ _ _ => N9
    have e1 : ([y, z].any fun x_1 => x_1 == x) = true := by rcases hx with rfl | rfl <;> simp
    rw [e1]
    exact h _ _ ⟨F9, X, news_tail N9⟩)
theorem val_pun (pl : Place k) : Val k v (sA "punctuation_chars" p1 p2) (· = .str k.c.pch (k.c.tk 38)) := by
  obtain ⟨w, c, te, nv, g, L', A, s, E⟩ := k
  obtain ⟨loose, mean, mg, mb, dp, un, gd, cn, cs, L, a, ccd, cl, outer, base, hA, B, T, hd, hu⟩ := pl
  dsimp only at *
  subst hA
  intro Q hp tk at_ h
  obtain ⟨F, X, N⟩ := at_
  dsimp only at *
  have fill : PySem.Challenge.rw_nq0262_01.prog = PySem.Challenge.rw_nq0262_01.prog ∧ theK w.params = theK w.params := by k_fill; exact ⟨rfl, rfl⟩
  clear fill
  k_steps
  exact h _ _ _ rfl ⟨by k_asm, X, by k_asm⟩
theorem t_and_ff {e1 : Expr} {es : List Expr} (x : Tst k v e1 false) : Tst k v (.BoolOp .And (e1 :: es) p1) false := fun Q hp tk a h =>
  isTrue_and (x _ hp tk a fun h' tk' a' => h _ _ a')
theorem t_pun (ok : LexOk k.c) (pl : Place k) : Tst k v (sA "punctuation_chars" p1 p2) k.c.pc.isSome := fun Q hp tk a h =>
  isTrue_plain (val_pun pl _ hp tk a fun u h' tk' e a' => by
    subst e
    have md := ok.md
    revert md h
    cases k.c.pc with
    | none =>
      intro h md
      rw [md.1]
      exact KXt.truthy (s := k.at h' tk') (b := false) (by decide +kernel) (by decide +kernel) fun tk2 => h _ _ a'
    | some pc =>
      intro h md
      exact KXt.truthy_pos (s := k.at h' tk') md.1 ok.pl (by decide) fun tk2 => h _ _ a')
theorem get_back {w : World} {c : LexC} {pc : Addr} (h : c.pc = some pc) (st tok : Value) : getL (Str.ofString "_pushback_chars") (es w c st tok) = some (some (.ref (dqa c))) := by
  unfold es esT dqa
  rw [h]
  kernel_rfl
theorem pl_back (P : Params) : lexPlain (theK P) (Str.ofString "_pushback_chars") = true := by kernel_rfl
theorem val_back {pc : Addr} (h : k.c.pc = some pc) : Val k v (sA "_pushback_chars" p1 p2) (· = .ref (dqa k.c)) := val_attr (pl_back _) (get_back h _ _) rfl
theorem t_back {pc : Addr} (h : k.c.pc = some pc) (hl : v.bk.length ≤ 1) : Tst k v (sA "_pushback_chars" p1 p2) (!v.bk.isEmpty) := fun Q hp tk a hq =>
  isTrue_plain (val_back h _ hp tk a fun u h' tk' e a' => by
    subst e
    exact dq_truthyN (s := k.at h' tk') a'.N m_bk (Nat.lt_of_le_of_lt hl (by decide)) (hq _ _ a'))
/-- punctuation_chars and _pushback_chars -/
theorem t_pushed (ok : LexOk k.c) (pl : Place k) (hl : v.bk.length ≤ 1) : Tst k v (.BoolOp .And [sA "punctuation_chars" p1 p2, sA "_pushback_chars" p3 p4] p5) (k.c.pc.isSome && !v.bk.isEmpty) := by
  have x := t_pun (v := v) (p1 := p1) (p2 := p2) ok pl
  cases h : k.c.pc with
  | none =>
    rw [h] at x
    exact t_and_ff x
  | some pc =>
    rw [h] at x
    exact t_and x (t_back h hl)
local macro_rules | `(tactic| k_mem) => `(tactic| first | with_reducible assumption | exact m_bk)
local macro_rules | `(tactic| k_upd) => `(tactic| with_reducible apply_assumption)
/-- self._pushback_chars.append(nextchar) -/
theorem x_app {b : Bool} {pc : Addr} {u : Value} {Q : Flow → Shared → Prop} (ok : LexOk k.c) (hpc : k.c.pc = some pc) (hn : k.nv = some u) (hb : v.bk = []) (h : Done k { v with bk := [u], kb := v.kb + 1 } .next Q) :
    Ex k v (stApp b) Q := fun hp tk a => by
  have hg := get_back (w := k.w) hpc v.st v.tok
  have U := fun bk kb => u_bk (w := k.w) (v := v) ok bk kb
  obtain ⟨bk, kb, pos, st, tok⟩ := v
  dsimp only at hb hg U
  subst hb
  obtain ⟨w, c, te, nv, g, L', A, s, E⟩ := k
  obtain ⟨F, X, N⟩ := a
  dsimp only at *
  subst hn
  cases b
  · change wpAny _ _ (exec (Stmt.Expr _ _) _) _ _ _
    k_steps
    exact h _ _ ⟨by k_asm, X, by k_asm⟩
  · change wpAny _ _ (exec (Stmt.Expr _ _) _) _ _ _
    k_steps
    exact h _ _ ⟨by k_asm, X, by k_asm⟩
/-- self.pushback.appendleft(nextchar) -/
theorem x_apl {u : Value} {Q : Flow → Shared → Prop} (ok : LexOk k.c) (hpc : k.c.pc = none) (hn : k.nv = some u) (hb : v.bk = []) (h : Done k { v with bk := [u], kb := v.kb + 1 } .next Q) : Ex k v stApl Q := fun hp tk a => by
  have e : dqa k.c = k.c.pb := by unfold dqa; rw [hpc]
  have U := fun bk kb => u_bk (w := k.w) (v := v) ok bk kb
  have m := m_bk (w := k.w) (c := k.c) (v := v)
  rw [e] at U m
  obtain ⟨bk, kb, pos, st, tok⟩ := v
  dsimp only at hb U m
  subst hb
  obtain ⟨w, c, te, nv, g, L', A, s, E⟩ := k
  obtain ⟨F, X, N⟩ := a
  dsimp only at *
  subst hn
  change wpAny _ _ (exec (Stmt.Expr _ _) _) _ _ _
  k_steps
  exact h _ _ ⟨by k_asm, X, by k_asm⟩
local macro_rules | `(tactic| k_upd) => `(tactic| apply_assumption)
/-- nextchar = self._pushback_chars.pop() -/
theorem x_pop {pc : Addr} {u : Value} {Q : Flow → Shared → Prop} (ok : LexOk k.c) (hpc : k.c.pc = some pc) (hb : v.bk = [u]) (h : Done { k with nv := some u } { v with bk := [], kb := v.kb + 1 } .next Q) : Ex k v (nthS (thenOf stRd) 0) Q := fun hp tk a => by
  have hg := get_back (w := k.w) hpc v.st v.tok
  have U := fun bk kb => u_bk (w := k.w) (v := v) ok bk kb
  obtain ⟨bk, kb, pos, st, tok⟩ := v
  dsimp only at hb hg U
  subst hb
  obtain ⟨w, c, te, nv, g, L', A, s, E⟩ := k
  obtain ⟨F, X, N⟩ := a
  dsimp only at *
  change wpAny _ _ (exec (Stmt.Assign _ _ _) _) _ _ _
  k_steps
  with_reducible rename Fr _ _ _ _ => F9
  rw [fr1_set] at F9
  exact h _ _ ⟨F9, X, by k_asm⟩
/-- nextchar = self.instream.read(1) -/
theorem x_read {p : Nat} {t : Tok} {Q : Flow → Shared → Prop} (ok : LexOk k.c) (pl : Place k) (hv : v.pos = .int p t) (hp : p ≤ k.c.buf.length) (h : ∀ t1 t2, Done { k with nv := some (.str (signAt k.c.buf p) t1) } { v with pos := .int ((if p < k.c.buf.length then p + 1 else p : Nat) : Int) t2 } .next Q) : Ex k v (nthS (elseOf stRd) 0) Q := fun hp tk at_ => by
  obtain ⟨bk, kb, pos, st, tok⟩ := v
  dsimp only at hv
  subst hv
  have U := fun p' => u_sdx (w := k.w) (v := ⟨bk, kb, .int p t, st, tok⟩) ok p'
  have a3 := ok.a3
  have hbl := ok.bl
  obtain ⟨w, c, te, nv, g, L', A, s, E⟩ := k
  obtain ⟨loose, mean, mg, mb, dp, un, gd, cn, cs, L, a, ccd, cl, outer, base, hA, B, T, hd, hu⟩ := pl
  dsimp only at *
  subst hA
  obtain ⟨F, X, N⟩ := at_
  dsimp only at *
  have fill : PySem.Challenge.rw_nq0262_01.prog = PySem.Challenge.rw_nq0262_01.prog ∧ theK w.params = theK w.params := by k_fill; exact ⟨rfl, rfl⟩
  clear fill
  change wpAny _ _ (exec (Stmt.Assign _ _ _) _) _ _ _
  have st9 : Stop 533 := stop
  k_steps
  refine halt' ?_
  by_cases hlt : p < c.buf.length
  · k_dflt (refine c_read w c.tk c.sx c.sdx _ t c.buf (p : Int) _ (fun p' t' => led w c ⟨bk, kb, .int p' t', st, tok⟩) (by omega) (by omega) (by omega) m_sx (Nat.ne_of_gt a3) (signAt c.buf p) (by rw [Int.toNat_natCast]) (fun p' t' => U (.int p' t')) _ _ _ _ _ _ _ _ _ _ _ _ _ _ _ _ _ _ _ _ _ B F X N T rfl (by ktr_room) (by ktr_units) ?_)
    intro t9 t8 h9 tk9 F9 N9
    clear F N
    k_steps
    with_reducible rename Fr _ _ _ _ => F8
    rw [fr1_set] at F8
    rw [if_pos hlt] at h
    exact h _ _ _ _ ⟨F8, X, by k_asm⟩
  · k_dflt (refine c_read_end w c.tk c.sx c.sdx _ t c.buf (p : Int) _ (by omega) (by omega) (by omega) m_sx m_sdx _ _ _ _ _ _ _ _ _ _ _ _ _ _ _ _ _ _ _ _ _ B F X N T rfl (by ktr_room) (by ktr_units) ?_)
    intro t9 h9 tk9 F9 N9
    clear F N
    rw [if_neg hlt, sign_end (by omega)] at h
    k_steps
    with_reducible rename Fr _ _ _ _ => F8
    rw [fr1_set] at F8
    exact h _ _ _ _ ⟨F8, X, by k_asm⟩
end
end Mine
end
example {M : Model} {A : Around} {E : Value → Shared → Prop} {s : Shared} {env : Env} {p : Pos} {Q : Flow → Shared → Prop} (h : wpAny M A (exec (.Pass p) env) Q E s) : wpAny M A (exec (.Pass p) env) Q E s := by first | (walk1; fail) | exact h
section
open PySem PySem.W PyProof.Rows
set_option Elab.async false
set_option maxRecDepth 100000
set_option maxHeartbeats 4000000
namespace Mine
/-- a sign that the lexer has no special word for -/
structure Good (c : Str) : Prop where
  hp : 1 ≤ c.length
  hl : c.length ≤ 1
  hnl : (c == Str.ofString "\n") = false
  hws : inS c (Str.ofString " \t\r\n") = false
  hcm : inS c (Str.ofString "#") = false
  hqt : inS c (Str.ofString "'\"") = false
  hes : inS c (Str.ofString "\\") = false
  hpe : inS c (Str.ofString "") = false
section
variable {k : Cx} {v : LexV} {ch tok : Str} {t ts tt : Tok} {Q : Flow → Shared → Prop} (ok : LexOk k.c) (pl : Place k) (hn : k.nv = some (.str ch t)) (G : Good ch)
include ok
theorem b_none (hs : v.st = .none) (h : ∀ t, Done k { v with tok := .str (Str.ofString "") t } .brk Q) : Ex k v stBig Q :=
  if_tt (t_stnone hs) rfl (exs_then (x_token ok val_str fun u ⟨t, e⟩ => by
    subst e
    exact done_then (exs_brk (h t))))
theorem b_space_end {t : Tok} (hn : k.nv = some (.str (Str.ofString "") t)) (hs : v.st = .str (Str.ofString " ") ts) (h : Done k { v with st := .none } .brk Q) : Ex k v stBig Q :=
  if_ff (t_stno hs) rfl (if_tt (t_steq hs) (by decide +kernel) (exs_one (if_tt (t_noch hn) rfl (exs_then (x_state ok val_none fun u e => by
    subst e
    exact done_then (exs_brk h))))))
theorem ac_facts {x : Str} (hx : x = Str.ofString "a" ∨ x = Str.ofString "c") : (x == Str.ofString " ") = false ∧ inS x (Str.ofString "'\"") = false ∧ inS x (Str.ofString "\\") = false := by
  rcases hx with rfl | rfl <;> decide +kernel
theorem b_ac {x : Str} (hx : x = Str.ofString "a" ∨ x = Str.ofString "c") (hs : v.st = .str x ts) (h : Ex k v stA0 Q) : Ex k v stBig Q :=
  have f := ac_facts ok hx
  if_ff (t_stno hs) rfl (if_ff (t_steq hs) f.1 (if_ff (t_stin hs val_quotes) f.2.1 (if_ff (t_stin hs val_esc) f.2.2 (if_tt (t_stac hs hx) rfl (exs_one h)))))
theorem b_ac_end {x : Str} {t : Tok} (hx : x = Str.ofString "a" ∨ x = Str.ofString "c") (hn : k.nv = some (.str (Str.ofString "") t)) (hs : v.st = .str x ts) (h : Done k { v with st := .none } .brk Q) : Ex k v stBig Q :=
  b_ac ok hx hs (if_tt (t_noch hn) rfl (exs_then (x_state ok val_none fun u e => by
    subst e
    exact done_then (exs_brk h))))
include pl hn G
theorem b_space (hs : v.st = .str (Str.ofString " ") ts)
    (h1 : kdQ k.c.words k.c.pch k.c.split ch = 1 → ∀ t', Done k { v with st := .str (Str.ofString "a") t', tok := .str ch t } .next Q)
    (h2 : kdQ k.c.words k.c.pch k.c.split ch = 2 → ∀ t', Done k { v with st := .str (Str.ofString "c") t', tok := .str ch t } .next Q)
    (h0 : kdQ k.c.words k.c.pch k.c.split ch = 0 → Done k { v with tok := .str ch t } .brk Q) : Ex k v stBig Q := by
  unfold kdQ at h0 h1 h2
  refine if_ff (t_stno hs) rfl (if_tt (t_steq hs) (by decide +kernel) (exs_one (if_ff (t_notnc hn G.hp G.hl) rfl (if_ff (t_in hn val_ws) G.hws (if_ff (t_in hn val_cm) G.hcm (if_ff (t_and t_posix (t_in hn val_esc)) (by rw [G.hes, Bool.and_false]) ?_))))))
  cases e1 : inS ch k.c.words with
  | true =>
    rw [e1, if_pos rfl] at h1
    exact if_tt (t_in hn val_words) e1 (exs_then (x_token ok (val_name hn) fun u e => by
      subst e
      exact done_then (exs_one (x_state ok val_str fun u ⟨t', e⟩ => by
        subst e
        exact h1 rfl t'))))
  | false =>
    rw [e1, if_neg Bool.false_ne_true] at h0 h1 h2
    refine if_ff (t_in hn val_words) e1 ?_
    cases e2 : inS ch k.c.pch with
    | true =>
      rw [e2, if_pos rfl] at h2
      exact if_tt (t_in hn (val_pun pl)) e2 (exs_then (x_token ok (val_name hn) fun u e => by
        subst e
        exact done_then (exs_one (x_state ok val_str fun u ⟨t', e⟩ => by
          subst e
          exact h2 rfl t'))))
    | false =>
      rw [e2, if_neg Bool.false_ne_true] at h0 h1
      refine if_ff (t_in hn (val_pun pl)) e2 (if_ff (t_in hn val_quotes) G.hqt ?_)
      cases e3 : k.c.split with
      | true =>
        rw [e3, if_pos rfl] at h1
        exact if_tt t_split e3 (exs_then (x_token ok (val_name hn) fun u e => by
          subst e
          exact done_then (exs_one (x_state ok val_str fun u ⟨t', e⟩ => by
            subst e
            exact h1 rfl t'))))
      | false =>
        rw [e3, if_neg Bool.false_ne_true] at h0
        exact if_no t_split e3 (exs_then (x_token ok (val_name hn) fun u e => by
          subst e
          exact done_then (exs_one (if_tt (t_or_tt (t_token rfl G.hp (Nat.le_trans G.hl (by decide)))) rfl (exs_brk (h0 rfl))))))
theorem b_word (hs : v.st = .str (Str.ofString "a") ts) (htk : v.tok = .str tok tt) (h3 : 1 ≤ tok.length) (h4 : tok.length ≤ 1000) (hb : v.bk = [])
    (h1 : (inS ch k.c.words || (k.c.split && !inS ch k.c.pch)) = true → ∀ t', Done k { v with tok := .str (tok ++ ch) t' } .next Q)
    (h0 : (inS ch k.c.words || (k.c.split && !inS ch k.c.pch)) = false → ∀ t', Done k { v with st := .str (Str.ofString " ") t', bk := [.str ch t], kb := v.kb + 1 } .brk Q) : Ex k v stBig Q := by
  refine b_ac ok (.inl rfl) hs (if_ff (t_notnc hn G.hp G.hl) rfl (if_ff (t_in hn val_ws) G.hws (if_ff (t_in hn val_cm) G.hcm (if_ff (t_steq hs) (by decide +kernel) (if_ff (t_and t_posix (t_in hn val_quotes)) (by rw [G.hqt, Bool.and_false]) (if_ff (t_and t_posix (t_in hn val_esc)) (by rw [G.hes, Bool.and_false]) ?_))))))
  have ee : (inS ch k.c.words || (inS ch (Str.ofString "'\"") || ((k.c.split && !inS ch k.c.pch) || false))) = (inS ch k.c.words || (k.c.split && !inS ch k.c.pch)) := by rw [G.hqt, Bool.false_or, Bool.or_false]
  cases e1 : (inS ch k.c.words || (k.c.split && !inS ch k.c.pch)) with
  | true => exact if_tt (t_or (t_in hn val_words) (t_or (t_in hn val_quotes) (t_or (t_and t_split (t_notin hn (val_pun pl))) t_or_nil))) (ee.trans e1) (exs_one (x_add ok hn htk h4 G.hl (h1 e1)))
  | false =>
    refine if_no (t_or (t_in hn val_words) (t_or (t_in hn val_quotes) (t_or (t_and t_split (t_notin hn (val_pun pl))) t_or_nil))) (ee.trans e1) (exs_then ?_)
    have nx : Done k { v with bk := [.str ch t], kb := v.kb + 1 } .next (Then (model thePg k.w) k.A (envR k.L') k.E (elseOf (els stA0 6)).tail Q) :=
      done_then (exs_then (if_no t_debug rfl (exs_nil (done_then (exs_then (x_state ok val_str fun u ⟨t', e⟩ => by
        subst e
        exact done_then (exs_one (if_tt (t_or_tt (t_token htk h3 h4)) rfl (exs_brk (h0 e1 t'))))))))))
    cases hpc : k.c.pc with
    | some pc => exact if_tt (t_pun ok pl) (by rw [hpc]; rfl) (exs_one (x_app (b := false) ok hpc hn hb nx))
    | none => exact if_no (t_pun ok pl) (by rw [hpc]; rfl) (exs_one (x_apl ok hpc hn hb nx))
theorem b_run (hs : v.st = .str (Str.ofString "c") ts) (htk : v.tok = .str tok tt) (h4 : tok.length ≤ 1000) (hb : v.bk = []) {pc : Addr} (hpc : k.c.pc = some pc)
    (h1 : inS ch k.c.pch = true → ∀ t', Done k { v with tok := .str (tok ++ ch) t' } .next Q)
    (h0 : inS ch k.c.pch = false → ∀ t', Done k { v with st := .str (Str.ofString " ") t', bk := [.str ch t], kb := v.kb + 1 } .brk Q) : Ex k v stBig Q := by
  refine b_ac ok (.inr rfl) hs (if_ff (t_notnc hn G.hp G.hl) rfl (if_ff (t_in hn val_ws) G.hws (if_ff (t_in hn val_cm) G.hcm (if_tt (t_steq hs) (by decide +kernel) (exs_one ?_)))))
  cases e1 : inS ch k.c.pch with
  | true => exact if_tt (t_in hn (val_pun pl)) e1 (exs_one (x_add ok hn htk h4 G.hl (h1 e1)))
  | false =>
    exact if_no (t_in hn (val_pun pl)) e1 (exs_then (if_tt (t_notin hn val_ws) (by rw [G.hws]; rfl) (exs_one (x_app (b := true) ok hpc hn hb (done_then (exs_then (x_state ok val_str fun u ⟨t', e⟩ => by
      subst e
      exact done_then (exs_brk (h0 e1 t')))))))))
end
end Mine
end
section
open PySem PySem.W PyProof.Rows
set_option Elab.async false
set_option maxRecDepth 100000
set_option maxHeartbeats 4000000
namespace Mine
noncomputable abbrev kdC (c : LexC) : Str → Nat := kdQ c.words c.pch c.split
noncomputable abbrev toCome (c : LexC) (p : Nat) : List Str := sg c.buf p (c.buf.length - p)
/-- what a lexer's buffer is to be like -/
structure BufOk (c : LexC) : Prop where
  good : ∀ p, p < c.buf.length → Good (signAt c.buf p)
  dis : ∀ p, p < c.buf.length → inS (signAt c.buf p) c.words = true → inS (signAt c.buf p) c.pch = false
/-- between two reads: ts is still to come -/
noncomputable def Rem (c : LexC) (v : LexV) (ts : List Str) : Prop := ∃ (pos : Nat) (tp : Tok), v.pos = .int pos tp ∧ pos ≤ c.buf.length ∧
  ((v.bk = [] ∧ IsStr (Str.ofString " ") v.st ∧ ts = cut (kdC c) none (toCome c pos)) ∨
   (∃ ch t, v.bk = [.str ch t] ∧ IsStr (Str.ofString " ") v.st ∧ Good ch ∧ (c.pc = none → kdC c ch = 0) ∧ ts = cut (kdC c) none (ch :: toCome c pos)) ∨
   (v.bk = [] ∧ v.st = .none ∧ pos = c.buf.length ∧ ts = []))
/-- behind the loop -/
noncomputable def FinT (c : LexC) (v : LexV) (ts : List Str) : Prop := ∃ tok t, v.tok = .str tok t ∧
  ((1 ≤ tok.length ∧ tok.length ≤ 1000 ∧ ∃ ts', ts = tok :: ts' ∧ Rem c v ts') ∨ (tok = Str.ofString "" ∧ ts = [] ∧ Rem c v []))
/-- within the loop -/
noncomputable def Mid (c : LexC) (v : LexV) (ts : List Str) (n : Nat) : Prop := ∃ (pos : Nat) (tp : Tok), v.pos = .int pos tp ∧ pos ≤ c.buf.length ∧
  ((v.bk = [] ∧ IsStr (Str.ofString " ") v.st ∧ IsStr (Str.ofString "") v.tok ∧ ts = cut (kdC c) none (toCome c pos) ∧ n = 2 * (c.buf.length - pos) + 1) ∨
   (∃ ch t pc, c.pc = some pc ∧ v.bk = [.str ch t] ∧ IsStr (Str.ofString " ") v.st ∧ Good ch ∧ ts = cut (kdC c) none (ch :: toCome c pos) ∧ n = 2 * (c.buf.length - pos) + 1) ∨
   (∃ tok, v.bk = [] ∧ IsStr (Str.ofString "a") v.st ∧ IsStr tok v.tok ∧ 1 ≤ tok.length ∧ tok.length ≤ pos + 1 ∧ ts = cut (kdC c) (some (1, tok)) (toCome c pos) ∧ n = 2 * (c.buf.length - pos)) ∨
   (∃ tok pc, c.pc = some pc ∧ v.bk = [] ∧ IsStr (Str.ofString "c") v.st ∧ IsStr tok v.tok ∧ 1 ≤ tok.length ∧ tok.length ≤ pos + 1 ∧ ts = cut (kdC c) (some (2, tok)) (toCome c pos) ∧ n = 2 * (c.buf.length - pos)) ∨
   (v.bk = [] ∧ v.st = .none ∧ pos = c.buf.length ∧ ts = []))
section
variable {k : Cx} {v : LexV} {Q : Flow → Shared → Prop}
theorem x_rest {ch : Str} {t : Tok} (hn : k.nv = some (.str ch t)) (hnl : (ch == Str.ofString "\n") = false) (h : Ex k v stBig Q) : Exs k v theW.2.tail Q :=
  exs_then (if_no (t_nceq hn) hnl (exs_nil (done_then (exs_then (if_no t_debug rfl (exs_nil (done_then (exs_one h))))))))
theorem turn_rd {p : Nat} {t : Tok} (ok : LexOk k.c) (pl : Place k) (hb : v.bk = []) (hv : v.pos = .int p t) (hp : p ≤ k.c.buf.length) (hnl : (signAt k.c.buf p == Str.ofString "\n") = false)
    (h : ∀ t1 t2, Ex { k with nv := some (.str (signAt k.c.buf p) t1) } { v with pos := .int ((if p < k.c.buf.length then p + 1 else p : Nat) : Int) t2 } stBig Q) : Exs k v theW.2 Q :=
  exs_then (if_no (t_pushed ok pl (by rw [hb]; decide)) (by rw [hb, List.isEmpty_nil, Bool.not_true, Bool.and_false]) (exs_one (x_read ok pl hv hp fun t1 t2 =>
    done_then (k := { k with nv := some (.str (signAt k.c.buf p) t1) }) (x_rest rfl hnl (h t1 t2)))))
theorem turn_pop {pc : Addr} {ch : Str} {t : Tok} (ok : LexOk k.c) (pl : Place k) (hpc : k.c.pc = some pc) (hb : v.bk = [.str ch t]) (hnl : (ch == Str.ofString "\n") = false)
    (h : Ex { k with nv := some (.str ch t) } { v with bk := [], kb := v.kb + 1 } stBig Q) : Exs k v theW.2 Q :=
  exs_then (if_tt (t_pushed ok pl (by rw [hb]; exact Nat.le_refl _)) (by rw [hb, hpc]; rfl) (exs_one (x_pop ok hpc hb
    (done_then (k := { k with nv := some (.str ch t) }) (x_rest rfl hnl h)))))
theorem toCome_cons {c : LexC} {p : Nat} (h : p < c.buf.length) : toCome c p = signAt c.buf p :: toCome c (p + 1) := by
  unfold toCome
  obtain ⟨n, hn⟩ : ∃ n, c.buf.length - p = n + 1 := ⟨c.buf.length - p - 1, by omega⟩
  have : c.buf.length - (p + 1) = n := by omega
  rw [hn, this]
  rfl
theorem toCome_nil {c : LexC} {p : Nat} (h : c.buf.length ≤ p) : toCome c p = [] := by
  unfold toCome
  rw [Nat.sub_eq_zero_of_le h]
  rfl
theorem kd_pc {c : LexC} (ok : LexOk c) {ch : Str} (G : Good ch) (h : inS ch c.pch = true) : ∃ pc, c.pc = some pc := by
  have md := ok.md
  revert md
  cases c.pc with
  | none => intro md; rw [md.1, G.hpe] at h; cases h
  | some pc => exact fun _ => ⟨pc, rfl⟩
theorem kd_none {c : LexC} (ok : LexOk c) {ch : Str} (G : Good ch) (hp : c.pc = none) : kdC c ch ≠ 2 := fun h => by
  unfold kdC kdQ at h
  by_cases e1 : inS ch c.words = true
  · rw [if_pos e1] at h; cases h
  · rw [if_neg e1] at h
    by_cases e2 : inS ch c.pch = true
    · obtain ⟨pc, e⟩ := kd_pc ok G e2
      rw [hp] at e; cases e
    · rw [if_neg e2] at h
      split at h <;> cases h
theorem kd_lt (w p : Str) (b : Bool) (ch : Str) : kdQ w p b ch = 0 ∨ kdQ w p b ch = 1 ∨ kdQ w p b ch = 2 := by
  unfold kdQ
  split
  · exact .inr (.inl rfl)
  · split
    · exact .inr (.inr rfl)
    · split
      · exact .inr (.inl rfl)
      · exact .inl rfl
theorem kd_two {w p : Str} {b : Bool} {ch : Str} (h : kdQ w p b ch = 2) : inS ch p = true := by
  unfold kdQ at h
  split at h
  · cases h
  · split at h
    · assumption
    · split at h <;> cases h
theorem kd_word {w p : Str} {b : Bool} {ch : Str} (dis : inS ch w = true → inS ch p = false) : (inS ch w || (b && !inS ch p)) = (kdQ w p b ch == 1) := by
  unfold kdQ
  cases inS ch w <;> cases inS ch p <;> cases b <;> rfl
theorem kd_run {w p : Str} {b : Bool} {ch : Str} (dis : inS ch w = true → inS ch p = false) : inS ch p = (kdQ w p b ch == 2) := by
  unfold kdQ
  revert dis
  cases inS ch w <;> cases inS ch p <;> cases b <;> intro dis <;> first | rfl | cases dis rfl
variable {ts : List Str} {n : Nat} {ch : Str} {t : Tok} {pos : Nat} {tp : Tok} (ok : LexOk k.c) (pl : Place k)
  (hn : ∀ v' m, m < n → Mid k.c v' ts m → Done k v' .next Q) (hb : ∀ v', FinT k.c v' ts → Done k v' .brk Q)
include ok pl hn hb
/-- a sign, read in the state " " -/
theorem turn_sp (hc : k.nv = some (.str ch t)) (G : Good ch) (hs : IsStr (Str.ofString " ") v.st) (hk : v.bk = []) (hv : v.pos = .int pos tp) (hp : pos ≤ k.c.buf.length) (e : ts = cut (kdC k.c) none (ch :: toCome k.c pos)) (h2 : 2 * (k.c.buf.length - pos) < n) : Ex k v stBig Q := by
  obtain ⟨ts9, hs⟩ := hs
  rw [cut_none_cons] at e
  refine b_space ok pl hc G hs (fun h t' => ?_) (fun h t' => ?_) (fun h => ?_)
  · refine hn _ _ h2 ⟨pos, tp, hv, hp, .inr (.inr (.inl ⟨ch, hk, ⟨_, rfl⟩, ⟨_, rfl⟩, G.hp, Nat.le_trans G.hl (Nat.le_add_left 1 _), ?_, rfl⟩))⟩
    rw [e, if_neg (by unfold kdC; rw [h]; decide)]
    unfold kdC
    rw [h]
  · obtain ⟨pc, hpc⟩ := kd_pc ok G (kd_two h)
    refine hn _ _ h2 ⟨pos, tp, hv, hp, .inr (.inr (.inr (.inl ⟨ch, pc, hpc, hk, ⟨_, rfl⟩, ⟨_, rfl⟩, G.hp, Nat.le_trans G.hl (Nat.le_add_left 1 _), ?_, rfl⟩)))⟩
    rw [e, if_neg (by unfold kdC; rw [h]; decide)]
    unfold kdC
    rw [h]
  · refine hb _ ⟨ch, t, rfl, .inl ⟨G.hp, Nat.le_trans G.hl (by decide), _, ?_, pos, tp, hv, hp, .inl ⟨hk, ⟨_, hs⟩, rfl⟩⟩⟩
    rw [e, if_pos h]
/-- a sign, read in a word -/
theorem turn_wd {tok : Str} (hc : k.nv = some (.str ch t)) (G : Good ch) (dis : inS ch k.c.words = true → inS ch k.c.pch = false) (hs : IsStr (Str.ofString "a") v.st) (hk : v.bk = []) (ht : IsStr tok v.tok) (h3 : 1 ≤ tok.length) (h4 : tok.length ≤ pos) (hv : v.pos = .int pos tp) (hp : pos ≤ k.c.buf.length)
    (e : ts = cut (kdC k.c) (some (1, tok)) (ch :: toCome k.c pos)) (h2 : 2 * (k.c.buf.length - pos) < n) : Ex k v stBig Q := by
  obtain ⟨ts9, hs⟩ := hs
  obtain ⟨tt, ht⟩ := ht
  have hbl := ok.bl
  have hl := G.hl
  refine b_word ok pl hc G hs ht h3 (by omega) hk (fun h t' => ?_) (fun h t' => ?_)
  · rw [kd_word dis, beq_iff_eq] at h
    exact hn _ _ h2 ⟨pos, tp, hv, hp, .inr (.inr (.inl ⟨tok ++ ch, hk, ⟨_, hs⟩, ⟨_, rfl⟩, by rw [Str.length_append]; omega, by rw [Str.length_append]; omega, by rw [e, cut_some_same h], rfl⟩))⟩
  · rw [kd_word dis, beq_eq_false_iff_ne] at h
    refine hb _ ⟨tok, tt, ht, .inl ⟨h3, by omega, _, by rw [e, cut_some_other h], pos, tp, hv, hp, .inr (.inl ⟨ch, t, rfl, ⟨_, rfl⟩, G, fun hpc => ?_, rfl⟩)⟩⟩
    rcases kd_lt k.c.words k.c.pch k.c.split ch with z | z | z
    · exact z
    · exact absurd z h
    · exact absurd z (kd_none ok G hpc)
/-- a sign, read in a run of signs -/
theorem turn_rn {tok : Str} {pc : Addr} (hpc : k.c.pc = some pc) (hc : k.nv = some (.str ch t)) (G : Good ch) (dis : inS ch k.c.words = true → inS ch k.c.pch = false) (hs : IsStr (Str.ofString "c") v.st) (hk : v.bk = []) (ht : IsStr tok v.tok) (h3 : 1 ≤ tok.length) (h4 : tok.length ≤ pos) (hv : v.pos = .int pos tp) (hp : pos ≤ k.c.buf.length)
    (e : ts = cut (kdC k.c) (some (2, tok)) (ch :: toCome k.c pos)) (h2 : 2 * (k.c.buf.length - pos) < n) : Ex k v stBig Q := by
  obtain ⟨ts9, hs⟩ := hs
  obtain ⟨tt, ht⟩ := ht
  have hbl := ok.bl
  have hl := G.hl
  refine b_run ok pl hc G hs ht (by omega) hk hpc (fun h t' => ?_) (fun h t' => ?_)
  · rw [kd_run (b := k.c.split) dis, beq_iff_eq] at h
    exact hn _ _ h2 ⟨pos, tp, hv, hp, .inr (.inr (.inr (.inl ⟨tok ++ ch, pc, hpc, hk, ⟨_, hs⟩, ⟨_, rfl⟩, by rw [Str.length_append]; omega, by rw [Str.length_append]; omega, by rw [e, cut_some_same h], rfl⟩)))⟩
  · rw [kd_run (b := k.c.split) dis, beq_eq_false_iff_ne] at h
    have hz : k.c.pc = none → kdC k.c ch = 0 := fun z => by rw [hpc] at z; cases z
    exact hb _ ⟨tok, tt, ht, .inl ⟨h3, by omega, _, by rw [e, cut_some_other h], pos, tp, hv, hp, .inr (.inl ⟨ch, t, rfl, ⟨_, rfl⟩, G, hz, rfl⟩)⟩⟩
end
theorem turn {k : Cx} {v : LexV} {Q : Flow → Shared → Prop} {ts : List Str} {n : Nat} (ok : LexOk k.c) (bo : BufOk k.c) (pl : Place k) (hm : Mid k.c v ts n)
    (hn : ∀ nv v' m, m < n → Mid k.c v' ts m → Done { k with nv := nv } v' .next Q) (hb : ∀ nv v', FinT k.c v' ts → Done { k with nv := nv } v' .brk Q) : Exs k v theW.2 Q := by
  obtain ⟨pos, tp, hv, hp, hm⟩ := hm
  by_cases hlt : pos < k.c.buf.length
  · have f1 : 2 * (k.c.buf.length - (pos + 1)) < 2 * (k.c.buf.length - pos) := by omega
    have G := bo.good pos hlt
    have D := bo.dis pos hlt
    rw [toCome_cons hlt] at hm
    rcases hm with ⟨hk, hs, -, e, rfl⟩ | ⟨ch, t, pc, hpc, hk, hs, G', e, rfl⟩ | ⟨tok, hk, hs, ht, h3, h4, e, rfl⟩ | ⟨tok, pc, hpc, hk, hs, ht, h3, h4, e, rfl⟩ | ⟨hk, hs, rfl, e⟩
    · refine turn_rd ok pl hk hv hp G.hnl fun t1 t2 => ?_
      rw [if_pos hlt]
      exact turn_sp (k := { k with nv := _ }) ok pl (hn _) (hb _) rfl G hs hk rfl hlt e (Nat.lt_succ_of_lt f1)
    · rw [← toCome_cons hlt] at e
      exact turn_pop ok pl hpc hk G'.hnl (turn_sp (k := { k with nv := _ }) ok pl (hn _) (hb _) rfl G' hs rfl hv hp e (Nat.lt_succ_self _))
    · refine turn_rd ok pl hk hv hp G.hnl fun t1 t2 => ?_
      rw [if_pos hlt]
      exact turn_wd (k := { k with nv := _ }) ok pl (hn _) (hb _) rfl G D hs hk ht h3 h4 rfl hlt e f1
    · refine turn_rd ok pl hk hv hp G.hnl fun t1 t2 => ?_
      rw [if_pos hlt]
      exact turn_rn (k := { k with nv := _ }) ok pl (hn _) (hb _) hpc rfl G D hs hk ht h3 h4 rfl hlt e f1
    · exact absurd hlt (Nat.lt_irrefl _)
  · have ee : signAt k.c.buf pos = Str.ofString "" := sign_end (by omega)
    have en : pos = k.c.buf.length := by omega
    have hnl : (signAt k.c.buf pos == Str.ofString "\n") = false := by rw [ee]; decide +kernel
    rw [toCome_nil (by omega)] at hm
    rcases hm with ⟨hk, ⟨_, hs⟩, ⟨tt, ht⟩, e, rfl⟩ | ⟨ch, t, pc, hpc, hk, hs, G', e, rfl⟩ | ⟨tok, hk, ⟨_, hs⟩, ⟨tt, ht⟩, h3, h4, e, rfl⟩ | ⟨tok, pc, hpc, hk, ⟨_, hs⟩, ⟨tt, ht⟩, h3, h4, e, rfl⟩ | ⟨hk, hs, -, e⟩
    · refine turn_rd ok pl hk hv hp hnl fun t1 t2 => ?_
      rw [if_neg hlt]
      exact b_space_end (k := { k with nv := _ }) ok (by rw [ee]) hs (hb _ _ ⟨_, tt, ht, .inr ⟨rfl, e, pos, t2, rfl, hp, .inr (.inr ⟨hk, rfl, en, rfl⟩)⟩⟩)
    · rw [← toCome_nil (c := k.c) (p := pos) (by omega)] at e
      exact turn_pop ok pl hpc hk G'.hnl (turn_sp (k := { k with nv := _ }) ok pl (hn _) (hb _) rfl G' hs rfl hv hp e (Nat.lt_succ_self _))
    · refine turn_rd ok pl hk hv hp hnl fun t1 t2 => ?_
      rw [if_neg hlt]
      exact b_ac_end (k := { k with nv := _ }) ok (.inl rfl) (by rw [ee]) hs (hb _ _ ⟨tok, tt, ht, .inl ⟨h3, by have := ok.bl; omega, [], e, pos, t2, rfl, hp, .inr (.inr ⟨hk, rfl, en, rfl⟩)⟩⟩)
    · refine turn_rd ok pl hk hv hp hnl fun t1 t2 => ?_
      rw [if_neg hlt]
      exact b_ac_end (k := { k with nv := _ }) ok (.inr rfl) (by rw [ee]) hs (hb _ _ ⟨tok, tt, ht, .inl ⟨h3, by have := ok.bl; omega, [], e, pos, t2, rfl, hp, .inr (.inr ⟨hk, rfl, en, rfl⟩)⟩⟩)
    · refine turn_rd ok pl hk hv hp hnl fun t1 t2 => ?_
      rw [if_neg hlt]
      exact b_none (k := { k with nv := _ }) ok hs fun t => hb _ _ ⟨_, t, rfl, .inr ⟨rfl, e, pos, t2, rfl, hp, .inr (.inr ⟨hk, hs, en, rfl⟩)⟩⟩
theorem test_true {prog : Program} {w : World} {A : Around} {E : Value → Shared → Prop} {s : Shared} {env : Env} {Q : Bool → Shared → Prop} (h : Q true s) : wpAny (model prog w) A (isTrue theW.1 env (eval theW.1 env)) Q E s := by
  obtain ⟨p, e⟩ : ∃ p, theW.1 = .Constant (.bool true) 0 p := ⟨_, rfl⟩
  rw [e]
  exact fun _ _ _ => h
theorem loopU {k : Cx} {v : LexV} {ts : List Str} {n : Nat} {h : Heap} {tk : Nat} (ok : LexOk k.c) (bo : BufOk k.c) (pl : Place k) (hm : Mid k.c v ts n) (a : At k v h) {R : Result → Shared → Prop}
    (hR : ∀ nv v' h' tk', FinT k.c v' ts → At { k with nv := nv } v' h' → R (.ok .next) (k.at h' tk')) : codeAny (model thePg k.w) k.A (.whileLoop theW.1 theW.2 [] (envR k.L')) R (k.at h tk) := by
  refine codeAny_whileLoop (fun n s => ∃ h tk nv v, s = k.at h tk ∧ At { k with nv := nv } v h ∧ Mid k.c v ts n) ?_ n ⟨h, tk, k.nv, v, rfl, a, hm⟩
  rintro n s ⟨h, tk, nv, v, rfl, a, hm⟩
  refine test_true ?_
  rw [if_pos rfl]
  refine turn (k := { k with nv := nv, E := _ }) ok bo pl hm ?_ ?_ h tk ⟨a.F, a.X, a.N⟩
  · intro nv v' m hl hm h tk a
    exact ⟨m, hl, h, tk, nv, v', rfl, ⟨a.F, a.X, a.N⟩, hm⟩
  · intro nv v' hf h tk a
    exact hR nv v' h tk hf ⟨a.F, a.X, a.N⟩
end Mine
end
section
open PySem PySem.W PyProof.Rows
set_option Elab.async false
set_option maxRecDepth 100000
set_option maxHeartbeats 8000000
namespace Mine
noncomputable def isEndP (posix : Bool) (v : Value) : Prop := if posix then v = .none else ∃ t, v = .str (Str.ofString "") t
/-- what a read hands back, and what it leaves -/
noncomputable def Got (c : LexC) (ts : List Str) (u : Value) (v : LexV) : Prop := IsStr (Str.ofString "") v.tok ∧
  ((∃ tok t ts', ts = tok :: ts' ∧ 1 ≤ tok.length ∧ tok.length ≤ 1000 ∧ u = .str tok t ∧ Rem c v ts') ∨ (ts = [] ∧ isEndP c.posix u ∧ Rem c v []))
theorem fr1_start (x : Addr) (te : Tok) : (fun y => if y = Str.ofString "escapedstate" then some (.str (Str.ofString " ") te) else if y = Str.ofString "quoted" then some (.bool false) else List.lookup y [(Str.ofString "self", Value.ref x)].reverse) = fr1 x te none := by
  funext y
  by_cases h : y = Str.ofString "nextchar"
  · subst h
    rfl
  · show _ = if y = Str.ofString "nextchar" then none else _
    rw [if_neg h]
    by_cases h1 : y = Str.ofString "escapedstate"
    · rw [if_pos h1, if_pos h1]
    · rw [if_neg h1, if_neg h1]
      by_cases h2 : y = Str.ofString "quoted"
      · rw [if_pos h2, if_pos h2]
      · rw [if_neg h2, if_neg h2]
        by_cases h3 : y = Str.ofString "self"
        · subst h3
          rfl
        · rw [if_neg h3]
          have : (y == Str.ofString "self") = false := beq_eq_false_iff_ne.mpr h3
          simp only [List.reverse_cons, List.reverse_nil, List.nil_append, List.lookup_cons, this, List.lookup_nil]
/-- what read_token hands back -/
noncomputable def tokVal (posix : Bool) (tok : Str) (t : Tok) : Value := if posix && tok == Str.ofString "" then .none else .str tok t
theorem len_pos_ne {c : Str} (h : 1 ≤ c.length) : (c == Str.ofString "") = false := by
  refine beq_eq_false_iff_ne.mpr fun e => ?_
  rw [e] at h
  exact absurd h (by decide)
theorem got_of {c : LexC} {v : LexV} {ts : List Str} {tok : Str} {t0 : Tok} (hf : FinT c v ts) (e : v.tok = .str tok t0) (t tt : Tok) : Got c ts (tokVal c.posix tok t) { v with tok := .str (Str.ofString "") tt } := by
  obtain ⟨tok', t', e', hf⟩ := hf
  rw [e] at e'
  cases e'
  refine ⟨⟨tt, rfl⟩, ?_⟩
  unfold tokVal
  rcases hf with ⟨h1, h2, ts', e1, hr⟩ | ⟨rfl, e1, hr⟩
  · rw [len_pos_ne h1, Bool.and_false, if_neg Bool.false_ne_true]
    exact .inl ⟨tok, t, ts', e1, h1, h2, rfl, hr⟩
  · refine .inr ⟨e1, ?_, hr⟩
    rw [beq_self_eq_true, Bool.and_true]
    unfold isEndP
    cases c.posix
    · exact ⟨t, rfl⟩
    · exact rfl
theorem mid_of {c : LexC} {v : LexV} {ts : List Str} (h : Rem c v ts) (ht : IsStr (Str.ofString "") v.tok) (hq : c.pc = none → v.bk = []) : ∃ n, Mid c v ts n := by
  obtain ⟨pos, tp, hv, hp, h⟩ := h
  rcases h with ⟨hb, hs, e⟩ | ⟨ch, t, hb, hs, G, -, e⟩ | ⟨hb, hs, hl, e⟩
  · exact ⟨_, pos, tp, hv, hp, .inl ⟨hb, hs, ht, e, rfl⟩⟩
  · cases hc : c.pc with
    | none => rw [hq hc] at hb; cases hb
    | some pc => exact ⟨_, pos, tp, hv, hp, .inr (.inl ⟨ch, t, pc, hc, hb, hs, G, e, rfl⟩)⟩
  · exact ⟨0, pos, tp, hv, hp, .inr (.inr (.inr (.inr ⟨hb, hs, hl, e⟩)))⟩
local macro_rules | `(tactic| walk_at "exec While") => `(tactic| (refine wpAny_While ?_))
local macro_rules | `(tactic| k_mem) => `(tactic| first | exact List.Mem.head _ | with_reducible exact m_x | with_reducible exact m_dx | with_reducible exact m_fs | assumption)
local macro_rules | `(tactic| walk_at "getAttr ref") => `(tactic| (k_here; k_dflt (refine' lex_get ?k1 ?k2 ?k3 ?k4 ?k5 ?k6 ?_; (case k1 => k_asm); (case k2 => k_asm); (case k3 => k_asm); (case k4 => kernel_rfl); (case k5 => first | exact rfl | assumption); (case k6 => k_handed); k_whole)))
local macro_rules | `(tactic| walk_at "setAttr ref") => `(tactic| (k_here; k_dflt (refine' lex_set ?k0 ?k1 ?k2 ?k3 ?k4 ?k5 (put_tok _ _ _ _ _ _) ?_; (case k0 => assumption); (case k1 => k_asm); (case k2 => k_asm); (case k3 => k_asm); (case k4 => kernel_rfl); (case k5 => exact rfl); k_whole); intro h' F' N'; (try dsimp only at N'); (try k_sweep)))
theorem c_tok (w : World) (c : LexC) (v : LexV) (ts : List Str) (ok : LexOk c) (bo : BufOk c) (hr : Rem c v ts) (ht : IsStr (Str.ofString "") v.tok) (hq : c.pc = none → v.bk = []) :
    Called w 690 [.ref c.x] (led w c v) 7 (fun h₀ L m s Q => ∀ u v' h' tk', Got c ts u v' → Fr h₀ L h' m → News h₀ L h' (led w c v') → Q u { s with heap := h', toks := tk' }) := by
  obtain ⟨n, hm⟩ := mid_of hr ht hq
  dsimp only [Called, RetV, thePg]
  k_fill
  intros
  rename_i hret
  refine wpAny_call ?_
  k_dflt (refine' code_def (binds := [(Str.ofString "self", .ref c.x)]) ?k1 ?k2 ?k3 ?k4 ?k5 ?kA ?kF ?kK ?k6 ?k7 ?k8 ?k9 ?kB ?_ ?c2 ?c3 ?c4 ?c5; (case kA => exact rfl); (case kF => exact rfl); (case kK => assumption); (case k1 => k_asm); (case k2 => k_asm); (case k3 => k_asm); (case k4 => k_asm); (case k5 => k_asm); (case k6 => k_is); (case k7 => k_is); (case k8 => ktr_room); (case k9 => first | exact BindsTo.of_eq rfl | exact binds_K (by k_in) rfl (by k_is) rfl rfl rfl); (case c5 => decide); (case kB => exact locs rfl); (case c2 => exact rfl); (case c3 => exact rfl); (case c4 => exact rfl); k_whole; intro g' L' h' FG' F' N' B' X' T'; (try dsimp only))
  refine let_all ?_
  intro v9 Q9 E9
  k_steps
  with_reducible rename Fr _ _ _ _ => F9
  with_reducible rename News _ _ _ _ => N9
  with_reducible rename Below _ _ _ _ => B9
  with_reducible rename Frag.In _ _ => X9
  with_reducible rename Top _ _ _ _ _ _ => T9
  rw [fr1_start] at F9
  refine loopU (k := ⟨w, c, _, none, _, _, _, _, fun _ _ => True⟩) ok bo ⟨_, _, _, _, _, _, _, _, _, _, _, _, _, _, _, rfl, B9, T9, by ktr_room, by ktr_units⟩ hm ⟨F9, X9, N9⟩ ?_
  clear hm N9
  rintro nv v' h8 tk8 hf ⟨F8, X8, N8⟩
  obtain ⟨tok, t, e1⟩ : ∃ tok t, v'.tok = .str tok t := by obtain ⟨tok, t, e, -⟩ := hf; exact ⟨tok, t, e⟩
  have hG := got_of hf e1
  clear hf F9
  obtain ⟨bk, kb, pos, st, tk0⟩ := v'
  dsimp only at e1 F8 N8 X8 hG
  subst e1
  have hret : ∀ u tt h' tk', u = tokVal c.posix tok t → Fr _ _ h' _ → News _ _ h' (led w c ⟨bk, kb, pos, st, .str (Str.ofString "") tt⟩) → _ := fun u tt h' tk' e => hret u _ h' tk' (e ▸ hG t tt)
  clear hG
  dsimp only
  k_steps
  all_goals (refine' hret _ _ _ _ ?ev ?eF ?eN; (case eN => k_asm); (case eF => k_asm); (case ev => (unfold tokVal; simp only [*, Bool.true_and, Bool.false_and, if_true, if_false, Bool.false_eq_true])))
end Mine
end
example {M : Model} {A : Around} {E : Value → Shared → Prop} {s : Shared} {env : Env} {p : Pos} {Q : Flow → Shared → Prop} (h : wpAny M A (exec (.Pass p) env) Q E s) : wpAny M A (exec (.Pass p) env) Q E s := by first | (walk1; fail) | exact h
section
open PySem PySem.W PyProof.Rows
set_option Elab.async false
set_option maxRecDepth 100000
set_option maxHeartbeats 8000000
namespace Mine
theorem noget_read (w : World) (c : LexC) (st tok : Value) : getL (Str.ofString "read_token") (es w c st tok) = some none := by
  unfold es esT
  cases c.pc <;> kernel_rfl
theorem noget_get (w : World) (c : LexC) (st tok : Value) : getL (Str.ofString "get_token") (es w c st tok) = some none := by
  unfold es esT
  cases c.pc <;> kernel_rfl
/-- does u mean the end? -/
noncomputable def Ends (posix : Bool) (u : Value) (b : Bool) : Prop := if b then isEndP posix u else ∃ tok t, u = .str tok t ∧ 1 ≤ tok.length
theorem eq_eof {prog : Program} {w : World} {A : Around} {E : Value → Shared → Prop} {s : Shared} {Q : Value → Shared → Prop} {posix b : Bool} {te : Tok} {u : Value} (h : Ends posix u b) (hq : Q (.bool b) s) : wpAny (model prog w) A (compareOp .Eq u (eofOf posix te)) Q E s := by
  unfold Ends isEndP at h
  unfold eofOf
  cases b with
  | false =>
    obtain ⟨tok, t, rfl, hl⟩ := h
    cases posix with
    | true => exact EqNone.eq_str_none hq
    | false => exact eq_str (by rw [len_pos_ne hl]; exact hq)
  | true =>
    cases posix with
    | true =>
      obtain rfl : u = .none := h
      exact EqNone.eq_none_none hq
    | false =>
      obtain ⟨t, rfl⟩ : ∃ t, u = .str (Str.ofString "") t := h
      exact eq_str hq
theorem handed_eof (posix : Bool) (te : Tok) : handedIn (eofOf posix te) = true := by
  cases posix <;> rfl
theorem got_eof {c : LexC} {ts : List Str} {u : Value} {v : LexV} (hG : Got c ts u v) (hE : Ends c.posix u true) : Got c ts (eofOf c.posix c.te) v := by
  have z : ∀ p tok t, 1 ≤ tok.length → Ends p (.str tok t) true → False := fun p tok t h h' => by
    cases p with
    | true => exact nomatch (show Value.str tok t = .none from h')
    | false =>
      obtain ⟨t', e⟩ : ∃ t', Value.str tok t = .str (Str.ofString "") t' := h'
      cases e
      exact absurd h (by decide)
  obtain ⟨h1, ⟨tok, t, ts', -, h2, -, e, -⟩ | ⟨e1, e2, h3⟩⟩ := hG
  · rw [e] at hE
    exact (z _ _ _ h2 hE).elim
  · refine ⟨h1, .inr ⟨e1, ?_, h3⟩⟩
    unfold isEndP eofOf
    cases c.posix
    · exact ⟨_, rfl⟩
    · exact rfl
theorem while_once {prog : Program} {w : World} {A : Around} {R : Result → Shared → Prop} {s : Shared} {test : Expr} {body orelse : List Stmt} {env : Env}
    (h : wpAny (model prog w) A (isTrue test env (eval test env)) (fun b s₂ =>
        if b then wpAny (model prog w) A (execs body env) (fun f s₃ => match f with
            | .next | .cont => False
            | .brk => R (.ok .next) s₃
            | .ret v => R (.ok (.ret v)) s₃) (notedBy (model prog w) A env fun e s' => R (.error e) s') s₂
        else wpAny (model prog w) A (execs orelse env) (fun f s₃ => R (.ok f) s₃) (notedBy (model prog w) A env fun e s' => R (.error e) s') s₂)
        (notedBy (model prog w) A env fun e s' => R (.error e) s') s) : codeAny (model prog w) A (.whileLoop test body orelse env) R s := by
  refine codeAny_whileLoop (fun _ s' => s' = s) (fun n s' e => ?_) 0 rfl
  subst e
  refine wpAny_mono h (fun b s₂ hb => ?_) fun _ _ x => x
  cases b with
  | false => exact hb
  | true =>
    simp only [if_true] at hb ⊢
    refine wpAny_mono hb (fun f s₃ hf => ?_) fun _ _ x => x
    cases f with
    | next => exact hf.elim
    | cont => exact hf.elim
    | brk => exact hf
    | ret v => exact hf
local macro_rules | `(tactic| walk_at "exec While") => `(tactic| (refine wpAny_While (while_once ?_)))
local macro_rules | `(tactic| walk_at "compareOp Eq") => `(tactic| refine halt ?_)
local macro_rules | `(tactic| k_mem) => `(tactic| first | with_reducible assumption | with_reducible exact m_x | with_reducible exact m_dx | with_reducible exact m_fs)
local macro_rules | `(tactic| k_upd) => `(tactic| apply_assumption)
local macro_rules | `(tactic| walk_at "getAttr ref") => `(tactic| (k_here; k_dflt (refine' lex_get ?k1 ?k2 ?k3 ?k4 ?k5 ?k6 ?_; (case k1 => k_asm); (case k2 => k_asm); (case k3 => k_asm); (case k4 => kernel_rfl); (case k5 => exact rfl); (case k6 => first | exact handed_eof _ _ | k_handed); k_whole)))
local macro_rules | `(tactic| walk_at "getMethod ref") => `(tactic| (k_here; (with_reducible show wpAny _ _ (getMethod _ (Str.ofString "read_token") _) _ _ _); k_dflt (refine' lex_method ?k1 ?k2 ?k3 ?k4 ?k5 ?k6 ?k7 ?k8 ?k9 ?_; (case k1 => k_asm); (case k2 => k_asm); (case k3 => k_asm); (case k4 => k_mem); (case k5 => k_mem); (case k6 => exact noget_read _ _ _ _); (case k7 => k_is); (case k8 => k_is); (case k9 => k_is); k_whole)))
section
variable (w : World) (c : LexC) (v : LexV) (ts : List Str) (ok : LexOk c)
include ok
/-- get_token where a token was put back -/
theorem c_back {ch : Str} {t : Tok} (hpc : c.pc = none) (hb : v.bk = [.str ch t]) :
    Called w 683 [.ref c.x] (led w c v) 9 (fun h₀ L m s Q => ∀ h' tk', Fr h₀ L h' m → News h₀ L h' (led w c { v with bk := [], kb := v.kb + 1 }) → Q (.str ch t) { s with heap := h', toks := tk' }) := by
  have e : dqa c = c.pb := by unfold dqa; rw [hpc]
  have U := fun bk kb => u_bk (w := w) (v := v) ok bk kb
  have m := m_bk (w := w) (c := c) (v := v)
  rw [e] at U m
  obtain ⟨bk, kb, pos, st, tok⟩ := v
  dsimp only at hb U m
  subst hb
  dsimp only [Called, RetV, thePg]
  k_fill
  intros
  rename_i hret
  refine wpAny_call ?_
  k_dflt (refine' code_def (binds := [(Str.ofString "self", .ref c.x)]) ?k1 ?k2 ?k3 ?k4 ?k5 ?kA ?kF ?kK ?k6 ?k7 ?k8 ?k9 ?kB ?_ ?c2 ?c3 ?c4 ?c5; (case kA => exact rfl); (case kF => exact rfl); (case kK => assumption); (case k1 => k_asm); (case k2 => k_asm); (case k3 => k_asm); (case k4 => k_asm); (case k5 => k_asm); (case k6 => k_is); (case k7 => k_is); (case k8 => ktr_room); (case k9 => first | exact BindsTo.of_eq rfl | exact binds_K (by k_in) rfl (by k_is) rfl rfl rfl); (case c5 => decide); (case kB => exact locs rfl); (case c2 => exact rfl); (case c3 => exact rfl); (case c4 => exact rfl); k_whole; intro g' L' h' FG' F' N' B' X' T'; (try dsimp only))
  refine let_all ?_
  intro v9 Q9 E9
  k_steps
  exact hret _ _ (by k_asm) (by k_asm)
theorem c_get (bo : BufOk c) (hr : Rem c v ts) (ht : IsStr (Str.ofString "") v.tok) (hq : c.pc = none → v.bk = []) :
    Called w 683 [.ref c.x] (led w c v) 9 (fun h₀ L m s Q => ∀ u v' h' tk', Got c ts u v' → Fr h₀ L h' m → News h₀ L h' (led w c v') → Q u { s with heap := h', toks := tk' }) := by
  have hm : ∃ k, (c.pb, deqOf [] k) ∈ led w c v := by
    cases hpc : c.pc with
    | none =>
      have := m_pb0 (w := w) (v := v) hpc
      rw [hq hpc] at this
      exact ⟨_, this⟩
    | some pc => exact ⟨_, m_pb1 hpc⟩
  obtain ⟨kq, hm⟩ := hm
  dsimp only [Called, RetV, thePg]
  k_fill
  intros
  rename_i hret
  refine wpAny_call ?_
  k_dflt (refine' code_def (binds := [(Str.ofString "self", .ref c.x)]) ?k1 ?k2 ?k3 ?k4 ?k5 ?kA ?kF ?kK ?k6 ?k7 ?k8 ?k9 ?kB ?_ ?c2 ?c3 ?c4 ?c5; (case kA => exact rfl); (case kF => exact rfl); (case kK => assumption); (case k1 => k_asm); (case k2 => k_asm); (case k3 => k_asm); (case k4 => k_asm); (case k5 => k_asm); (case k6 => k_is); (case k7 => k_is); (case k8 => ktr_room); (case k9 => first | exact BindsTo.of_eq rfl | exact binds_K (by k_in) rfl (by k_is) rfl rfl rfl); (case c5 => decide); (case kB => exact locs rfl); (case c2 => exact rfl); (case c3 => exact rfl); (case c4 => exact rfl); k_whole; intro g' L' h' FG' F' N' B' X' T'; (try dsimp only))
  refine let_all ?_
  intro v9 Q9 E9
  have st9 : Stop 690 := stop
  k_steps
  with_reducible rename Fr _ _ _ _ => F9
  with_reducible rename News _ _ _ _ => N9
  with_reducible rename Below _ _ _ _ => B9
  with_reducible rename Frag.In _ _ => X9
  with_reducible rename Top _ _ _ _ _ _ => T9
  refine halt' ?_
  refine c_tok w c v ts ok bo hr ht hq _ _ _ _ _ _ _ _ _ _ _ _ _ _ _ _ _ _ _ _ _ B9 F9 X9 N9 T9 rfl (by ktr_room) (by ktr_units) ?_
  intro u v' h8 tk8 hG F8 N8
  clear F9 N9 hm hr ht hq
  have hE : ∃ b, Ends c.posix u b := by
    obtain ⟨-, ⟨tok, t, ts', -, h1, -, e, -⟩ | ⟨-, e, -⟩⟩ := hG
    · exact ⟨false, tok, t, e, h1⟩
    · exact ⟨true, e⟩
  obtain ⟨b, hE⟩ := hE
  k_steps
  refine halt' (eq_eof hE ?_)
  cases b with
  | false =>
    clear hE
    k_steps
    exact hret _ _ _ _ hG (by k_asm) (by k_asm)
  | true =>
    have hG := got_eof hG hE
    clear hE
    k_steps
    exact hret _ _ _ _ hG (by k_asm) (by k_asm)
/-- get_token, whatever it is to read -/
theorem c_getU (bo : BufOk c) (hr : Rem c v ts) (ht : IsStr (Str.ofString "") v.tok) :
    Called w 683 [.ref c.x] (led w c v) 9 (fun h₀ L m s Q => ∀ u v' h' tk', Got c ts u v' → Fr h₀ L h' m → News h₀ L h' (led w c v') → Q u { s with heap := h', toks := tk' }) := by
  have hr' := hr
  obtain ⟨pos, tp, hv, hp, h⟩ := hr'
  rcases h with ⟨hb, -⟩ | ⟨ch, t, hb, hs, G, hz, e⟩ | ⟨hb, -⟩
  · exact c_get w c v ts ok bo hr ht fun _ => hb
  · cases hpc : c.pc with
    | some pc => exact c_get w c v ts ok bo hr ht fun z => by rw [hpc] at z; cases z
    | none =>
      intro loose mean mg mb dp un gd cn cs a ccd cl outer A₀ base h₀ L m s Q E B F X N T hk hd hu hret
      refine c_back w c v ok hpc hb loose mean mg mb dp un gd cn cs a ccd cl outer A₀ base h₀ L m s Q E B F X N T hk hd hu fun h' tk' F' N' => hret _ { v with bk := [], kb := v.kb + 1 } h' tk' ⟨ht, .inl ⟨ch, t, _, ?_, G.hp, Nat.le_trans G.hl (by decide), rfl, pos, tp, hv, hp, .inl ⟨rfl, hs, rfl⟩⟩⟩ F' N'
      rw [e, cut_none_cons, if_pos (hz hpc)]
  · exact c_get w c v ts ok bo hr ht fun _ => hb
end
end Mine
end
example {M : Model} {A : Around} {E : Value → Shared → Prop} {s : Shared} {env : Env} {p : Pos} {Q : Flow → Shared → Prop} (h : wpAny M A (exec (.Pass p) env) Q E s) : wpAny M A (exec (.Pass p) env) Q E s := by first | (walk1; fail) | exact h
end
example {M : Model} {A : Around} {E : Value → Shared → Prop} {s : Shared} {env : Env} {p : Pos} {Q : Flow → Shared → Prop} (h : wpAny M A (exec (.Pass p) env) Q E s) : wpAny M A (exec (.Pass p) env) Q E s := by first | (walk1; fail) | exact h
section
open PySem PySem.W PyProof.Rows PySem.Calls
set_option Elab.async false
set_option maxRecDepth 100000
set_option maxHeartbeats 4000000
namespace Mine
section
variable {prog : Program} {w : World} {A : Around} {E : Value → Shared → Prop} {s : Shared} {it t e : Addr} {i : Nat} {items : Array Value} {x old : Value}
theorem tupBody_item {M : Model} {o : Obj} {Q : Fin → Shared → Prop} (ho : s.heap.get? it = some o) (hc : o.cls = .type "tuple_iterator") (hd : o.data = .fields #[.ref t, .int i 0]) (ht : s.heap.IsTuple t items) (hx : items[i]? = some x)
    (h : ∀ h', h'.IsTupleIter it t (i + 1) → Heap.SameBut it s.heap h' → Q (.done (.ret x)) { s with heap := h' }) : wpAny M A (Builtin.«tuple_iterator.__next__» ⟨[.ref it], []⟩) Q E s := by
  obtain ⟨ot, hot, -, nt, hdt⟩ := ht
  show wpAny _ _ (field (.ref it) 0 >>= _) _ _ s
  refine wpAny_bind (wpAny_field ho hd (x := .ref t) rfl ?_)
  refine KFB.if_not rfl ?_
  show wpAny _ _ (field (.ref it) 1 >>= _) _ _ s
  refine wpAny_bind (wpAny_field ho hd (x := .int i 0) rfl (wpAny_bind (wpAny_seqItems hot hdt ?_)))
  simp only [Int.toNat_natCast, hx]
  refine wpAny_bind (wpAny_setField ho hd (by simp) (wpAny_pure (h _ ⟨_, Heap.get?_update_self _ ho (Obj.isFreed_of_fields (Obj.data_mapFields hd _)), (Obj.cls_mapFields ..).trans hc, ?_⟩ (Heap.SameBut.update ..))))
  rw [Obj.data_mapFields hd]
  simp [rawInt]
theorem tupBody_end {M : Model} {o : Obj} {Q : Fin → Shared → Prop} (hh : A.handled = none) (ho : s.heap.get? it = some o) (hd : o.data = .fields #[.ref t, .int i 0]) (ht : s.heap.IsTuple t items) (hx : items[i]? = none)
    (h : ∀ h' b, Heap.ExtBut it s.heap h' → (∃ o, h'.get? b = some o ∧ o.cls = .type "StopIteration") → E (.ref b) { s with heap := h' }) : wpAny M A (Builtin.«tuple_iterator.__next__» ⟨[.ref it], []⟩) Q E s := by
  obtain ⟨ot, hot, -, nt, hdt⟩ := ht
  show wpAny _ _ (field (.ref it) 0 >>= _) _ _ s
  refine wpAny_bind (wpAny_field ho hd (x := .ref t) rfl ?_)
  refine KFB.if_not rfl ?_
  show wpAny _ _ (field (.ref it) 1 >>= _) _ _ s
  refine wpAny_bind (wpAny_field ho hd (x := .int i 0) rfl (wpAny_bind (wpAny_seqItems hot hdt ?_)))
  simp only [Int.toNat_natCast, hx]
  refine wpAny_bind (wpAny_rule (wpAny_bind (wpAny_setField ho hd (by simp) ?_)))
  show wpAny _ _ (newExc (.type "StopIteration") [] >>= _) _ _ _
  simp only [newExc, newTuple]
  refine wpAny_bind (wpAny_bind (wpAny_newObj_type (wpAny_bind (m := firstArgMember _ _) (wpAny_of_eq (a := Value.none) (by first | rfl | (simp only [firstArgMember]; rfl)) (wpAny_newObj_type ?_ (by size_fits)))) (by size_fits)))
  simp only [raiseNew]
  refine wpAny_bind (wpAny_handled ?_)
  rw [hh]
  exact wpAny_bind (wpAny_pure (wpAny_throw (h _ _ (((Heap.SameBut.update ..).extBut.push _).push _) ⟨_, Heap.get?_push_size _ rfl, rfl⟩)))
theorem tup_nextOf {Q : Value → Shared → Prop} (hit : s.heap.IsTupleIter it t i) (ht : s.heap.IsTuple t items) (hx : items[i]? = some x) (h : ∀ h', h'.IsTupleIter it t (i + 1) → Heap.SameBut it s.heap h' → Q x { s with heap := h' }) :
    wpAny (model prog w) A (Builtin.SmallTypes.nextOf (.ref it)) Q E s := by
  obtain ⟨o, ho, hc, hd⟩ := id hit
  unfold Builtin.SmallTypes.nextOf
  exact wpAny_bind (wpAny_callSpecial?_slot (name := Str.ofString "__next__") hit.typeIs F.slot_tuple_iterator_next
    (wpAny_call_entry F.slot_tuple_iterator_next hit.typeIs F.entry_tuple_iterator_next (tupBody_item ho hc hd ht hx fun h' a b => ⟨x, rfl, wpAny_pure (h h' a b)⟩) (F.args_tuple_iterator_next_1 _)))
theorem tup_nextOf_end {Q : Value → Shared → Prop} (hh : A.handled = none) (hit : s.heap.IsTupleIter it t i) (ht : s.heap.IsTuple t items) (hx : items[i]? = none) (h : ∀ h' b, Heap.ExtBut it s.heap h' → (∃ o, h'.get? b = some o ∧ o.cls = .type "StopIteration") → E (.ref b) { s with heap := h' }) :
    wpAny (model prog w) A (Builtin.SmallTypes.nextOf (.ref it)) Q E s := by
  obtain ⟨o, ho, hc, hd⟩ := id hit
  unfold Builtin.SmallTypes.nextOf
  exact wpAny_bind (wpAny_callSpecial?_slot (name := Str.ofString "__next__") hit.typeIs F.slot_tuple_iterator_next
    (wpAny_call_entry F.slot_tuple_iterator_next hit.typeIs F.entry_tuple_iterator_next (tupBody_end hh ho hd ht hx h) (F.args_tuple_iterator_next_1 _)))
/-- a change of the enumerate object alone -/
theorem enum_set {a b c d f g : Value} {k : Nat} {v : Value} {arr : Array Value} {Q : Unit → Shared → Prop} (he : s.heap.get? e = some { cls := .type "enumerate", dict := none, data := .fields #[a, b, c, d, f, g], slots := #[] }) (hk : k < 6) (ha : (#[a, b, c, d, f, g] : Array Value).set! k v = arr)
    (h : ∀ h', h'.get? e = some { cls := .type "enumerate", dict := none, data := .fields arr, slots := #[] } → Heap.SameBut e s.heap h' → Q () { s with heap := h' }) : wpAny (model prog w) A (setField (.ref e) k v) Q E s :=
  wpAny_setField_rec he (by simpa using hk) fun h' he' hs' => h h' (by subst ha; exact he') hs'
theorem enumT_item {Q : Option Value → Shared → Prop} (he : IsEnum s.heap e it i old) (hit : s.heap.IsTupleIter it t i) (ht : s.heap.IsTuple t items) (hx : items[i]? = some x) (hne : e ≠ it)
    (hQ : ∀ h', IsEnumOut h' e it ((i : Int) + 1) x s.heap.objs.size → h'.IsTupleIter it t (i + 1) → h'.IsTuple s.heap.objs.size #[.int i s.toks, x] →
      (∀ b o, b ≠ e → b ≠ it → s.heap.get? b = some o → h'.get? b = some o) → Q (some (.ref s.heap.objs.size)) { s with heap := h', toks := s.toks + 1 }) :
    wpAny (model prog w) A (pyNext (.ref e)) Q E s := by
  have hT : s.TypeIs (.ref e) "enumerate" := ⟨_, he, rfl⟩
  unfold pyNext
  refine wpAny_bind (wpAny_attempt (wpAny_callSpecial?_slot (name := Str.ofString "__next__") hT F.slot_enumerate_next (wpAny_call_entry F.slot_enumerate_next hT F.entry_enumerate_next ?_ (F.args_enumerate_next_1 _))))
  obtain ⟨hp, g, d, tk, os⟩ := s
  dsimp only at he hit ht hQ
  show wpAny _ _ (field (.ref e) 2 >>= _) _ _ _
  refine wpAny_bind (wpAny_field he rfl (x := .ref it) rfl (wpAny_bind (tup_nextOf hit ht hx fun h1 it1 s1 => ?_)))
  have e1 : IsEnum h1 e it i old := (s1.2 e hne).trans he
  show wpAny _ _ (field (.ref e) 3 >>= _) _ _ ⟨h1, g, d, tk, os⟩
  refine wpAny_bind (wpAny_field e1 rfl (x := rawInt i) rfl ?_)
  show wpAny _ _ (field (.ref e) 4 >>= _) _ _ ⟨h1, g, d, tk, os⟩
  refine wpAny_bind (wpAny_field e1 rfl (x := .none) rfl ?_)
  show wpAny _ _ (mkInt i >>= _) _ _ ⟨h1, g, d, tk, os⟩
  refine wpAny_bind (wpAny_mkInt (wpAny_bind (enum_set (k := 3) (v := rawInt ((i : Int) + 1)) e1 (by decide) rfl fun h2 e2 s2 => wpAny_bind (enum_set (k := 4) (v := .none) e2 (by decide) rfl fun h3 e3 s3 => ?_))))
  refine wpAny_bind (wpAny_newTuple ?_)
  have hz : h3.objs.size = hp.objs.size := by rw [s3.1, s2.1, s1.1]
  have hel : e < hp.objs.size := Heap.lt_size he
  have hiH : it < hp.objs.size := by obtain ⟨o, q, -⟩ := hit; exact Heap.lt_size q
  have hT4 : (h3.push { cls := .type "tuple", data := .seq #[.int i tk, x] }).IsTuple hp.objs.size #[.int i tk, x] := ⟨_, by rw [← hz]; exact Heap.get?_push_size _ rfl, rfl, _, rfl⟩
  have e4 : IsEnum (h3.push { cls := .type "tuple", data := .seq #[.int i tk, x] }) e it ((i : Int) + 1) old := Heap.get?_push_of_some _ e3
  have k4 : ∀ b o, b ≠ e → h1.get? b = some o → (h3.push { cls := .type "tuple", data := .seq #[.int i tk, x] }).get? b = some o := fun b o hb q => Heap.get?_push_of_some _ (s3.extBut b o hb (s2.extBut b o hb q))
  rw [hz]
  generalize h3.push { cls := .type "tuple", data := .seq #[.int i tk, x] } = h4 at *
  refine wpAny_bind ?_
  unfold Builtin.SmallTypes.ownedTupleIsFree
  refine wpAny_bind (wpAny_field e4 rfl (x := .none) rfl (wpAny_pure ?_))
  refine KFB.if_so rfl ?_
  refine wpAny_bind (wpAny_rule (wpAny_bind (wpAny_field e4 rfl (x := old) rfl (wpAny_bind (enum_set (k := 5) (v := x) e4 (by decide) rfl fun h5 e5 s5 => ?_)))))
  unfold Builtin.SmallTypes.ownedTupleHandOut
  refine wpAny_bind (wpAny_bind (enum_set (k := 0) (v := rawInt hp.objs.size) e5 (by decide) rfl fun h6 e6 s6 => enum_set (k := 1) (v := .bool false) e6 (by decide) rfl fun h7 e7 s7 => ?_))
  have k7 : ∀ b o, b ≠ e → h4.get? b = some o → h7.get? b = some o := fun b o hb q => s7.extBut b o hb (s6.extBut b o hb (s5.extBut b o hb q))
  refine wpAny_bind (wpAny_letGo (wpAny_pure ⟨_, rfl, wpAny_pure (hQ h7 e7 ?_ ?_ fun b o hb hb2 q => k7 b o hb (k4 b o hb (s1.extBut b o hb2 q)))⟩))
  · obtain ⟨o, q, r⟩ := it1
    exact ⟨o, k7 _ _ (Ne.symm hne) (k4 _ _ (Ne.symm hne) q), r⟩
  · obtain ⟨o, q, r⟩ := hT4
    exact ⟨o, k7 _ _ (Nat.ne_of_gt hel) q, r⟩
theorem enumT_end {Q : Option Value → Shared → Prop} (hh : A.handled = none) (he : IsEnum s.heap e it i old) (hit : s.heap.IsTupleIter it t i) (ht : s.heap.IsTuple t items) (hx : items[i]? = none)
    (hQ : ∀ h', Heap.ExtBut it s.heap h' → Q none { s with heap := h' }) : wpAny (model prog w) A (pyNext (.ref e)) Q E s := by
  have hT : s.TypeIs (.ref e) "enumerate" := ⟨_, he, rfl⟩
  unfold pyNext
  refine wpAny_bind (wpAny_attempt (wpAny_callSpecial?_slot (name := Str.ofString "__next__") hT F.slot_enumerate_next (wpAny_call_entry F.slot_enumerate_next hT F.entry_enumerate_next ?_ (F.args_enumerate_next_1 _))))
  show wpAny _ _ (field (.ref e) 2 >>= _) _ _ _
  refine wpAny_bind (wpAny_field he rfl (x := .ref it) rfl (wpAny_bind (tup_nextOf_end hh hit ht hx fun h' b k hb => ?_)))
  obtain ⟨o, ho, hc⟩ := hb
  exact wpAny_bind (wpAny_isInstance (T := "StopIteration") (b := true) ⟨o, ho, hc⟩ isSubtype_stop (wpAny_pure (hQ _ k)))
end
/-- the walk over enumerate(a tuple) -/
theorem walksE {prog : Program} {w : World} {A : Around} {e it t : Addr} {items : Array Value} (hh : A.handled = none) (hei : e ≠ it) (hte : t ≠ e) (hti : t ≠ it) :
    WalksU prog w A e [e, it, t] [e, it] items.size (fun i vals => ∃ k v, items[i]? = some v ∧ vals = #[.int i k, v])
      (fun i h => (∃ old, IsEnum h e it i old) ∧ h.IsTupleIter it t i ∧ h.IsTuple t items) (fun i T h => (∃ v, IsEnumOut h e it ((i : Int) + 1) v T) ∧ h.IsTupleIter it t (i + 1) ∧ h.IsTuple t items ∧ T ≠ e ∧ T ≠ it) where
  sub := fun b hb => by
    simp only [List.mem_cons, List.not_mem_nil, or_false] at hb ⊢
    rcases hb with h | h <;> simp [h]
  frame := fun i h h' ⟨⟨old, a⟩, b, c⟩ hk => ⟨⟨old, hk e (by simp) _ a⟩, b.at fun o q => hk it (by simp) o q, c.at fun o q => hk t (by simp) o q⟩
  item := fun i s Q E hi ⟨⟨old, a⟩, b, c⟩ hQ => by
    have hel : e < s.heap.objs.size := Heap.lt_size a
    have hil : it < s.heap.objs.size := by obtain ⟨_, q, _⟩ := b; exact Heap.lt_size q
    exact enumT_item a b c (Array.getElem?_eq_getElem hi) hei fun h' a' b' T' k => hQ _ _ h' _ ⟨_, _, Array.getElem?_eq_getElem hi, rfl⟩ T' ⟨⟨_, a'⟩, b', c.at fun o q => k t o hte hti q, Nat.ne_of_gt hel, Nat.ne_of_gt hil⟩
      fun b o hb q => k b o (fun z => hb (by simp [z])) (fun z => hb (by simp [z])) q
  go := fun elts k pos i T s Q E ⟨⟨v, a⟩, b, c, n1, n2⟩ hQ => wpAny_letOwnedTupleGo_enum a fun h' a' k => hQ h' ⟨⟨v, by simpa using a'⟩, b.at fun o q => (k.2 it hei.symm).trans q, c.at fun o q => (k.2 t hte).trans q⟩ fun b o hb q => (k.2 b fun z => hb (by simp [z])).trans q
  apart := fun i T h ⟨_, _, _, n1, n2⟩ hT => by
    simp only [List.mem_cons, List.not_mem_nil, or_false] at hT
    rcases hT with h | h
    · exact n1 h
    · exact n2 h
  done := fun s Q E ⟨⟨old, a⟩, b, c⟩ hQ => enumT_end hh a b c (Array.getElem?_eq_none (Nat.le_refl _)) fun h' k => hQ h' s.toks fun b o hb q => k b o (fun z => hb (by simp [z])) q
  self := fun i s Q E ⟨⟨old, a⟩, _⟩ hQ => wpAny_pyIter_enum a hQ
section
variable {prog : Program} {w : World} {A : Around} {E : Value → Shared → Prop} {s : Shared} {t : Addr} {items : Array Value}
theorem enumT_new {l : Addr} {items : Array Value} {n : Nat} {dct : Option Addr} {sl : Array (Option Value)} :
    Meets (Builtin.«enumerate.__new__» ⟨[.type "enumerate", .ref l], []⟩) (fun _ R s => s.heap.get? l = some { cls := .type "tuple", dict := dct, data := .seq items n, slots := sl } ∧
      R (.ok (.ret (.ref (s.heap.push { cls := .type "tuple_iterator", data := .fields #[.ref l, .int 0 0] }).objs.size)))
        { s with heap := (s.heap.push { cls := .type "tuple_iterator", data := .fields #[.ref l, .int 0 0] }).push { cls := .type "enumerate", data := .fields #[.none, .bool false, .ref s.heap.objs.size, rawInt 0, .none, .none] } }) :=
  .of_wp fun prog w A R s h => by
    obtain ⟨hp, g, d, tk, os⟩ := s; obtain ⟨hl, h⟩ := h
    have hsub := sub_enumerate
    have hL : Heap.IsTuple (Shared.heap ⟨hp, g, d, tk, os⟩) l items := ⟨_, hl, rfl, n, rfl⟩
    wp_walk using AutoSeq1.wpAny_loadPart' hl
    refine wpAny_stack_any fun st => wpAny_pure ?_
    split
    · rename_i c _ _ _ _ _
      cases (c == Value.type "enumerate") <;> (wp_walk using AutoSeq1.wpAny_loadPart' hl, wpAny_pyIter_tuple hL; exact ⟨_, rfl, h⟩)
    · wp_walk using AutoSeq1.wpAny_loadPart' hl, wpAny_pyIter_tuple hL
      exact ⟨_, rfl, h⟩
theorem call_enumT {Q : Value → Shared → Prop} (hT : s.heap.IsTuple t items)
    (h : ∀ h', IsEnum h' (s.heap.objs.size + 1) s.heap.objs.size 0 .none → h'.IsTupleIter s.heap.objs.size t 0 → (∀ b o, s.heap.get? b = some o → h'.get? b = some o) → Q (.ref (s.heap.objs.size + 1)) { s with heap := h' }) :
    wpAny (model prog w) A (call (.type "enumerate") [.ref t]) Q E s := by
  obtain ⟨⟨c, dct, dt, sl⟩, hl, hc, n, hd⟩ := hT
  replace hc : c = .type "tuple" := hc
  replace hd : dt = .seq items n := hd
  subst hc hd
  refine callType_new F.called_enumerate (by decide) (F.typeCall_enumerate_1 _) (F.newCall_enumerate_1 _) (fun obj => F.args_object_init_2 obj _) F.entry_enumerate_new (enumT_new (n := n) (dct := dct) (sl := sl)) ⟨hl, ?_⟩
  have hz : (s.heap.push { cls := .type "tuple_iterator", data := .fields #[.ref t, .int 0 0] }).objs.size = s.heap.objs.size + 1 := Heap.size_push ..
  show _ ∧ _
  rw [hz]
  have he : IsEnum ((s.heap.push { cls := .type "tuple_iterator", data := .fields #[.ref t, .int 0 0] }).push { cls := .type "enumerate", data := .fields #[.none, .bool false, .ref s.heap.objs.size, rawInt 0, .none, .none] }) (s.heap.objs.size + 1) s.heap.objs.size 0 .none := by
    have := Heap.get?_push_size (s.heap.push { cls := .type "tuple_iterator", data := .fields #[.ref t, .int 0 0] }) (o := { cls := .type "enumerate", data := .fields #[.none, .bool false, .ref s.heap.objs.size, rawInt 0, .none, .none] }) rfl
    rw [hz] at this
    exact this
  exact ⟨⟨_, he, rfl⟩, h _ he ⟨_, Heap.get?_push_of_some _ (Heap.get?_push_size _ rfl), rfl, rfl⟩ fun b o x => Heap.get?_push_of_some _ (Heap.get?_push_of_some _ x)⟩
end
/-- a loop over pairs, with an else -/
theorem pairs_loop {prog : Program} {w : World} {A : Around} {E : Value → Shared → Prop} {s : Shared} {h₀ : Heap} {env : Env} {a b : Str} {pa pb pt : Pos} {kx : _} {body orelse : List Stmt} {Q : Flow → Shared → Prop} {I : Addr} {fp wr : List Addr} {n : Nat} {P Md : Nat → Value → Heap → Prop} {St : Nat → Heap → Prop} {m : Str → Option Value} {news : List (Addr × Obj)}
    (W : KTurns prog w A (.Tuple [.Name a pa, .Name b pb] kx pt) I fp wr n P Md St) (PP : Nat → Value → Value → Prop) (hP : ∀ i v h, (∀ b o, h₀.get? b = some o → h.get? b = some o) → P i v h → ∃ T va vb, v = .ref T ∧ h.IsTuple T #[va, vb] ∧ PP i va vb)
    (hh : A.handled = none) (ka : env.kindOf a = some .local) (kb : env.kindOf b = some .local) (hp : (env.scope.kind == .class || (env.scope.kind == .module && env.locals != env.globals)) = false)
    (hLf : env.locals ∉ fp) (hwr : ∀ b ∈ wr, h₀.get? b = none) (hnw : ∀ p ∈ news, p.1 ∉ wr) (hst : St 0 s.heap) (F : Fr h₀ env.locals s.heap m) (N : News h₀ env.locals s.heap news)
    (J : Nat → (Str → Option Value) → List (Addr × Obj) → Prop) (h0 : J 0 m news)
    (step : ∀ i va vb m₁ news₁ h₁ tk₁ own, i < n → PP i va vb → J i m₁ news₁ → (∀ p ∈ news₁, p.1 ∉ wr) → (∀ p ∈ own, p.1 ∈ fp) →
      Fr h₀ env.locals h₁ (fun y => if y = b then some vb else if y = a then some va else m₁ y) → News h₀ env.locals h₁ (own ++ news₁) →
      wpAny (model prog w) A (execs body env) (LoopStepV h₀ env.locals wr own (J (i + 1)) { s with heap := h₁, toks := tk₁ } (fun v s' => Q (.ret v) s') fun s' => Q .next s') E { s with heap := h₁, toks := tk₁ })
    (fin : ∀ h' tk m' news', Fr h₀ env.locals h' m' → News h₀ env.locals h' news' → (∀ p ∈ news', p.1 ∉ wr) → J n m' news' → wpAny (model prog w) A (execs orelse env) Q E { s with heap := h', toks := tk })
    (hE : PassesOwn (model prog w) A env E) :
    codeAny (model prog w) A (.forLoop (.Tuple [.Name a pa, .Name b pb] kx pt) (.ref I) body orelse env) (fun r s' => match r with | .ok f => Q f s' | .error e => cameBackBy (model prog w) A env E e s') s := by
  have hLw : env.locals ∉ wr := fun h => hLf (W.sub _ h)
  have old : ∀ b o, h₀.get? b = some o → b ∉ wr := fun b o e hb => by rw [hwr b hb] at e; cases e
  refine codeAny_forLoop_any (fun k s' => ∃ h' tk m' news' i, s' = { s with heap := h', toks := tk } ∧ St i h' ∧ Fr h₀ env.locals h' m' ∧ News h₀ env.locals h' news' ∧ (∀ p ∈ news', p.1 ∉ wr) ∧ J i m' news' ∧ i ≤ n ∧ k = n + 1 - i) ?_ (n + 1)
    ⟨s.heap, s.toks, m, news, 0, rfl, hst, F, N, hnw, h0, Nat.zero_le _, rfl⟩
  rintro k s' ⟨h', tk, m', news', i, rfl, hst', F', N', hnw', hJ, hi, rfl⟩
  have next : ∀ h₁ : Heap, (∀ b o, b ∉ wr → h'.get? b = some o → h₁.get? b = some o) → Fr h₀ env.locals h₁ m' ∧ News h₀ env.locals h₁ news' := fun h₁ hk₁ =>
    ⟨⟨F'.ns.at' fun o e => hk₁ _ o hLw e, fun b o e => hk₁ b o (old b o e) (F'.keep b o e), F'.above⟩, fun p hp => ⟨hk₁ _ _ (hnw' p hp) (N' p hp).1, (N' p hp).2⟩⟩
  by_cases hlt : i < n
  · refine W.item i _ _ _ hlt hst' fun v h₁ tk₁ hMd hk₁ => W.go i v _ _ _ hMd fun h₂ hPv hst₂ hk₂ => ?_
    obtain ⟨F₂, N₂⟩ := next h₂ fun b o hb x => hk₂ b o hb (hk₁ b o hb x)
    have Nown : News h₀ env.locals h₂ (PyProof.Rows.ownOf h₀ fp h₂) := news_ownOf hLf
    obtain ⟨T, va, vb, rfl, hT, hPP⟩ := hP i v h₂ F₂.keep hPv
    have N₃ := Nown.append N₂
    refine wpAny_assign_Tuple hh hT rfl rfl fun h₃ hx₃ => ?_
    have F₃ := F₂.extBut hx₃ (Nat.le_refl _)
    have N₃' := N₃.extBut hx₃ (Nat.le_refl _)
    show wpAny _ A (do holding [vb] (assign (.Name a pa) env va); do holding [] (assign (.Name b pb) env vb); pure ()) _ _ _
    refine wpAny_bind (wpAny_holding (wpAny_assign_Name (wpAny_storeName_local ka F₃.ns (fun h₄ hn₄ hs₄ => ?_) hp)))
    refine wpAny_bind (wpAny_holding (wpAny_assign_Name (wpAny_storeName_local kb hn₄ (fun h₅ hn₅ hs₅ => wpAny_pure ?_) hp)))
    have F₅ := (F₃.set hn₄ hs₄).set hn₅ hs₅
    have N₅ := (N₃'.set hs₄).set hs₅
    refine wpAny_mono (step i va vb m' news' h₅ _ (PyProof.Rows.ownOf h₀ fp h₂) hlt hPP hJ hnw' ownOf_sub F₅ N₅) (fun f s₃ h₃ => ?_) hE
    have done : LoopStepU h₀ env.locals wr (PyProof.Rows.ownOf h₀ fp h₂) (J (i + 1)) { s with heap := h₅, toks := tk₁ + 1 + 1 } .next s₃ → ∃ k, k < n + 1 - i ∧ ∃ h' tk m' news' i, s₃ = { s with heap := h', toks := tk } ∧ St i h' ∧ Fr h₀ env.locals h' m' ∧ News h₀ env.locals h' news' ∧ (∀ p ∈ news', p.1 ∉ wr) ∧ J i m' news' ∧ i ≤ n ∧ k = n + 1 - i := by
      rintro ⟨_, h₃', tk₃, m₂, news₂, rfl, F₃, N₃, ha₃, hJ₃⟩
      refine ⟨n + 1 - (i + 1), by omega, h₃', tk₃, m₂, news₂, i + 1, rfl, ?_, F₃, N₃.right, ha₃, hJ₃, hlt, rfl⟩
      refine W.frame _ _ _ hst₂ fun b hb o e => ?_
      cases hn : h₀.get? b with
      | some o₀ =>
        have : o₀ = o := by have q := F₂.keep b o₀ hn; rw [e] at q; exact (Option.some.inj q).symm
        exact this ▸ F₃.keep b o₀ hn
      | none => exact (N₃ _ (List.mem_append_left _ (mem_ownOf hb hn e))).1
    cases f with
    | ret v => exact h₃
    | brk => exact h₃
    | cont => exact done h₃
    | next => exact done h₃
  · have hin : i = n := by omega
    subst hin
    refine W.done _ _ _ hst' fun h₁ tk₁ hk₁ => ?_
    obtain ⟨F₁, N₁⟩ := next h₁ hk₁
    exact wpAny_mono (fin h₁ tk₁ m' news' F₁ N₁ hnw' hJ) (fun f s₃ z => z) hE
end Mine
end
section
open PySem PySem.W PyProof.Rows
set_option Elab.async false
set_option maxRecDepth 100000
set_option maxHeartbeats 8000000
namespace Mine
noncomputable def modeOf (n : Int) : Int :=
  let m := Int.fmod (Int.fdiv n 16) 1048576
  let m := if Int.fmod n 4 > 1 then Int.fdiv m 64 * 64 + 60 + Int.fmod n 4 else m
  if Int.fmod (Int.fdiv n 4) 4 > 1 then Int.fdiv m 4096 * 4096 + (60 + Int.fmod (Int.fdiv n 4) 4) * 64 + Int.fmod m 64 else m
theorem c_mode (w : World) (n : Int) (t : Tok) (news : List (Addr × Obj)) : Called w 831 [.int n t] news 1 (RetV news fun t => .int (modeOf n) t) := by
  dsimp only [Called, RetV, thePg]
  k_fill
  intros
  rename_i hret
  refine wpAny_call ?_
  k_dflt (refine' code_def (binds := [(Str.ofString "n", .int n t)]) ?k1 ?k2 ?k3 ?k4 ?k5 ?kA ?kF ?kK ?k6 ?k7 ?k8 ?k9 ?kB ?_ ?c2 ?c3 ?c4 ?c5; (case kA => exact rfl); (case kF => exact rfl); (case kK => assumption); (case k1 => k_asm); (case k2 => k_asm); (case k3 => k_asm); (case k4 => k_asm); (case k5 => k_asm); (case k6 => k_is); (case k7 => k_is); (case k8 => ktr_room); (case k9 => first | exact BindsTo.of_eq rfl | exact binds_K (by k_in) rfl (by k_is) rfl rfl rfl); (case c5 => decide); (case kB => exact locs rfl); (case c2 => exact rfl); (case c3 => exact rfl); (case c4 => exact rfl); k_whole; intro g' L' h' FG' F' N' B' X' T'; (try dsimp only))
  refine let_all ?_
  intro v9 Q9 E9
  k_steps
  all_goals (refine cb_retI hret ?e1 ?e2 ?e3; (case e2 => k_asm); (case e3 => k_asm); (case e1 => (unfold modeOf; simp only [gt_iff_lt, *, if_true, if_false, ite_true, ite_false]; first | rfl | done)))
theorem c_imode (w : World) (n : Int) (t : Tok) (news : List (Addr × Obj)) : Called w 777 [.int n t] news 1 (RetV news fun t => .int (Builtin.bitAnd n 4095) t) := by
  dsimp only [Called, RetV, thePg]
  k_fill
  intros
  rename_i hret
  refine wpAny_call ?_
  k_dflt (refine' code_def (binds := [(Str.ofString "mode", .int n t)]) ?k1 ?k2 ?k3 ?k4 ?k5 ?kA ?kF ?kK ?k6 ?k7 ?k8 ?k9 ?kB ?_ ?c2 ?c3 ?c4 ?c5; (case kA => exact rfl); (case kF => exact rfl); (case kK => assumption); (case k1 => k_asm); (case k2 => k_asm); (case k3 => k_asm); (case k4 => k_asm); (case k5 => k_asm); (case k6 => k_is); (case k7 => k_is); (case k8 => ktr_room); (case k9 => first | exact BindsTo.of_eq rfl | exact binds_K (by k_in) rfl (by k_is) rfl rfl rfl); (case c5 => decide); (case kB => exact locs rfl); (case c2 => exact rfl); (case c3 => exact rfl); (case c4 => exact rfl); k_whole; intro g' L' h' FG' F' N' B' X' T'; (try dsimp only))
  refine let_all ?_
  intro v9 Q9 E9
  k_steps
  all_goals (refine cb_retI hret ?e1 ?e2 ?e3; (case e2 => k_asm); (case e3 => k_asm); (case e1 => rfl))
theorem c_ifmt (w : World) (n : Int) (t : Tok) (news : List (Addr × Obj)) : Called w 784 [.int n t] news 1 (RetV news fun t => .int (Builtin.bitAnd n 61440) t) := by
  dsimp only [Called, RetV, thePg]
  k_fill
  intros
  rename_i hret
  refine wpAny_call ?_
  k_dflt (refine' code_def (binds := [(Str.ofString "mode", .int n t)]) ?k1 ?k2 ?k3 ?k4 ?k5 ?kA ?kF ?kK ?k6 ?k7 ?k8 ?k9 ?kB ?_ ?c2 ?c3 ?c4 ?c5; (case kA => exact rfl); (case kF => exact rfl); (case kK => assumption); (case k1 => k_asm); (case k2 => k_asm); (case k3 => k_asm); (case k4 => k_asm); (case k5 => k_asm); (case k6 => k_is); (case k7 => k_is); (case k8 => ktr_room); (case k9 => first | exact BindsTo.of_eq rfl | exact binds_K (by k_in) rfl (by k_is) rfl rfl rfl); (case c5 => decide); (case kB => exact locs rfl); (case c2 => exact rfl); (case c3 => exact rfl); (case c4 => exact rfl); k_whole; intro g' L' h' FG' F' N' B' X' T'; (try dsimp only))
  refine let_all ?_
  intro v9 Q9 E9
  k_steps
  all_goals (refine cb_retI hret ?e1 ?e2 ?e3; (case e2 => k_asm); (case e3 => k_asm); (case e1 => rfl))
end Mine
end
example {M : Model} {A : Around} {E : Value → Shared → Prop} {s : Shared} {env : Env} {p : Pos} {Q : Flow → Shared → Prop} (h : wpAny M A (exec (.Pass p) env) Q E s) : wpAny M A (exec (.Pass p) env) Q E s := by first | (walk1; fail) | exact h
section
open PySem PySem.W PyProof.Rows PySem.Calls
set_option Elab.async false
set_option maxRecDepth 100000
set_option maxHeartbeats 4000000
namespace Mine
/-- the table of filemode -/
noncomputable def tabL : List (List (Int × Str)) :=
  [[(40960, Str.ofString "l"), (49152, Str.ofString "s"), (32768, Str.ofString "-"), (24576, Str.ofString "b"), (16384, Str.ofString "d"), (8192, Str.ofString "c"), (4096, Str.ofString "p")],
   [(256, Str.ofString "r")], [(128, Str.ofString "w")], [(2112, Str.ofString "s"), (2048, Str.ofString "S"), (64, Str.ofString "x")],
   [(32, Str.ofString "r")], [(16, Str.ofString "w")], [(1032, Str.ofString "s"), (1024, Str.ofString "S"), (8, Str.ofString "x")],
   [(4, Str.ofString "r")], [(2, Str.ofString "w")], [(513, Str.ofString "t"), (512, Str.ofString "T"), (1, Str.ofString "x")]]
noncomputable def hit (i : Nat) (m b : Int) : Bool := if i = 0 then Builtin.bitAnd m 61440 == b else Builtin.bitAnd m b == b
noncomputable def sgnOf (i : Nat) (m : Int) (l : List (Int × Str)) : Str := match l.find? fun bc => hit i m bc.1 with
  | some bc => bc.2
  | none => if i = 0 then Str.ofString "?" else Str.ofString "-"
noncomputable def sgn (m : Int) (i : Nat) : Str := sgnOf i m (tabL.getD i [])
theorem found_at {i : Nat} {m : Int} : ∀ {l : List (Int × Str)} {j : Nat} {b : Int} {c : Str}, l[j]? = some (b, c) → hit i m b = true → (∀ (j' : Nat) bc, j' < j → l[j']? = some bc → hit i m bc.1 = false) → sgnOf i m l = c
  | [], j, _, _, h, _, _ => by simp at h
  | x :: l, 0, b, c, h, hh, _ => by
    obtain rfl : x = (b, c) := by simpa using h
    have e : List.find? (fun bc : Int × Str => hit i m bc.1) ((b, c) :: l) = some (b, c) := List.find?_cons_of_pos (p := fun bc : Int × Str => hit i m bc.1) hh
    unfold sgnOf
    rw [e]
  | x :: l, j + 1, b, c, h, hh, hb => by
    have h0 := hb 0 x (Nat.succ_pos _) rfl
    have := found_at (l := l) (j := j) (by simpa using h) hh fun j' bc hj e => hb (j' + 1) bc (by omega) (by simpa using e)
    have e : List.find? (fun bc : Int × Str => hit i m bc.1) (x :: l) = List.find? (fun bc : Int × Str => hit i m bc.1) l := List.find?_cons_of_neg (p := fun bc : Int × Str => hit i m bc.1) (by simp [h0])
    unfold sgnOf at this ⊢
    rwa [e]
theorem found_not {i : Nat} {m : Int} {l : List (Int × Str)} (h : ∀ (j : Nat) bc, j < l.length → l[j]? = some bc → hit i m bc.1 = false) : sgnOf i m l = if i = 0 then Str.ofString "?" else Str.ofString "-" := by
  unfold sgnOf
  have : l.find? (fun bc => hit i m bc.1) = none := by
    rw [List.find?_eq_none]
    intro x hx
    obtain ⟨j, hj, e⟩ := List.mem_iff_getElem.mp hx
    simp [h j x hj (by rw [← e]; exact List.getElem?_eq_getElem hj)]
  rw [this]
theorem next_hit {i : Nat} {m : Int} {l : List (Int × Str)} {j : Nat} {b : Int} {c : Str} (h : l[j]? = some (b, c)) (hh : hit i m b = false) (hb : ∀ (j' : Nat) bc, j' < j → l[j']? = some bc → hit i m bc.1 = false) : ∀ (j' : Nat) bc, j' < j + 1 → l[j']? = some bc → hit i m bc.1 = false := fun j' bc hj e => by
  by_cases q : j' = j
  · subst q
    rw [h] at e
    cases e
    exact hh
  · exact hb j' bc (by omega) e
noncomputable def fmText (m : Int) : Str := Txt.join (Str.ofString "") ((List.range 10).map (sgn m))
theorem tab_len : (tabL.all fun l => l.all fun bc => bc.2.length == 1) = true := by decide +kernel
theorem sgn_len (m : Int) (i : Nat) : (sgn m i).length = 1 := by
  unfold sgn sgnOf
  split
  next bc e =>
    have h1 := List.mem_of_find?_eq_some e
    rw [List.getD_eq_getElem?_getD] at h1
    cases ht : tabL[i]? with
    | none => rw [ht] at h1; cases h1
    | some l =>
      rw [ht] at h1
      have h2 := List.all_eq_true.mp (List.all_eq_true.mp tab_len l (List.mem_of_getElem? ht)) bc h1
      simpa using h2
  next => split <;> decide
theorem sgns_sum (m : Int) : (((List.range 10).map (sgn m)).map (·.length)).sum + ((List.range 10).map (sgn m)).length ≤ 1048576 := by
  have : ((List.range 10).map (sgn m)).map (·.length) = (List.range 10).map fun _ => 1 := by
    rw [List.map_map]
    exact List.map_congr_left fun i _ => sgn_len m i
  rw [this, List.length_map, List.length_range]
  decide
noncomputable def pairOk (K : Frag) (v : Value) (bc : Int × Str) : Bool := match v with
  | .ref p => match K.lookup p with
    | some ⟨.type "tuple", none, .seq vs _, _⟩ => match vs.toList with
      | [.int b _, .str c _] => b == bc.1 && c == bc.2
      | _ => false
    | _ => false
  | _ => false
noncomputable def pairsOk (K : Frag) : List Value → List (Int × Str) → Bool
  | [], [] => true
  | v :: vs, bc :: l => pairOk K v bc && pairsOk K vs l
  | _, _ => false
noncomputable def tabOk (K : Frag) (v : Value) (l : List (Int × Str)) : Bool := match v with
  | .ref p => match K.lookup p with
    | some ⟨.type "tuple", none, .seq vs _, _⟩ => pairsOk K vs.toList l
    | _ => false
  | _ => false
noncomputable def tabsOk (K : Frag) : List Value → List (List (Int × Str)) → Bool
  | [], [] => true
  | v :: vs, l :: ls => tabOk K v l && tabsOk K vs ls
  | _, _ => false
section
variable {K : Frag} {h : Heap}
theorem pairOk_at {v : Value} {bc : Int × Str} (X : K.In h) (e : pairOk K v bc = true) : ∃ p t1 t2, v = .ref p ∧ h.IsTuple p #[.int bc.1 t1, .str bc.2 t2] := by
  unfold pairOk at e
  split at e
  next p =>
    split at e
    next vs n sl hl =>
      split at e
      next b t1 c t2 hv =>
        simp only [Bool.and_eq_true, beq_iff_eq] at e
        refine ⟨p, t1, t2, rfl, _, X _ _ hl, rfl, n, ?_⟩
        obtain ⟨vs⟩ := vs
        simp only at hv
        subst hv
        rw [← e.1, ← e.2]
      next => cases e
    next => cases e
  next => cases e
theorem pairsOk_at : ∀ {vs : List Value} {l : List (Int × Str)}, K.In h → pairsOk K vs l = true → vs.length = l.length ∧ ∀ (j : Nat) v, vs[j]? = some v → ∃ bc, l[j]? = some bc ∧ pairOk K v bc = true
  | [], [], _, _ => ⟨rfl, fun j v e => by simp at e⟩
  | [], _ :: _, _, e => by cases e
  | _ :: _, [], _, e => by cases e
  | v :: vs, bc :: l, X, e => by
    unfold pairsOk at e
    rw [Bool.and_eq_true] at e
    obtain ⟨h1, h2⟩ := pairsOk_at X e.2
    refine ⟨by simp [h1], fun j u hj => ?_⟩
    cases j with
    | zero => cases hj; exact ⟨bc, rfl, e.1⟩
    | succ j => exact h2 j u (by simpa using hj)
theorem tabOk_at {v : Value} {l : List (Int × Str)} (X : K.In h) (e : tabOk K v l = true) : ∃ p vs, v = .ref p ∧ h.IsTuple p vs ∧ vs.size = l.length ∧ ∀ (j : Nat) v, vs[j]? = some v → ∃ bc, l[j]? = some bc ∧ pairOk K v bc = true := by
  unfold tabOk at e
  split at e
  next p =>
    split at e
    next vs n sl hl =>
      obtain ⟨h1, h2⟩ := pairsOk_at X e
      exact ⟨p, vs, rfl, ⟨_, X _ _ hl, rfl, n, rfl⟩, by simpa using h1, fun j v hj => h2 j v (by simpa using hj)⟩
    next => cases e
  next => cases e
theorem tabsOk_at : ∀ {vs : List Value} {l : List (List (Int × Str))}, tabsOk K vs l = true → vs.length = l.length ∧ ∀ (j : Nat) v, vs[j]? = some v → ∃ t, l[j]? = some t ∧ tabOk K v t = true
  | [], [], _ => ⟨rfl, fun j v e => by simp at e⟩
  | [], _ :: _, e => by cases e
  | _ :: _, [], e => by cases e
  | v :: vs, bc :: l, e => by
    unfold tabsOk at e
    rw [Bool.and_eq_true] at e
    obtain ⟨h1, h2⟩ := tabsOk_at e.2
    refine ⟨by simp [h1], fun j u hj => ?_⟩
    cases j with
    | zero => cases hj; exact ⟨bc, rfl, e.1⟩
    | succ j => exact h2 j u (by simpa using hj)
end
noncomputable def topTab (K : Frag) : Bool := match K.lookup 817 with
  | some ⟨.type "tuple", none, .seq vs _, _⟩ => tabsOk K vs.toList tabL
  | _ => false
theorem topTab_ok (P : Params) : topTab (theK P) = true := by kernel_rfl
theorem topTab_at {K : Frag} {h : Heap} (X : K.In h) (e : topTab K = true) : ∃ vs, h.IsTuple 817 vs ∧ vs.size = 10 ∧ ∀ (j : Nat) v, vs[j]? = some v → ∃ t, tabL[j]? = some t ∧ tabOk K v t = true := by
  unfold topTab at e
  split at e
  next vs n sl hl =>
    obtain ⟨h1, h2⟩ := tabsOk_at e
    exact ⟨vs, ⟨_, X _ _ hl, rfl, n, rfl⟩, by rw [← Array.length_toList, h1]; rfl, fun j v hj => h2 j v (by simpa using hj)⟩
  next => cases e
/-- the frame of filemode -/
noncomputable abbrev frF (pl : Addr) (n : Int) (t : Tok) (ix tb bt ch : Option Value) : Str → Option Value := fun y => if y = Str.ofString "char" then ch else if y = Str.ofString "bit" then bt else if y = Str.ofString "table" then tb else if y = Str.ofString "index" then ix else if y = Str.ofString "perm" then some (.ref pl) else List.lookup y [(Str.ofString "mode", Value.int n t)].reverse
section
variable (pl : Addr) (n : Int) (t : Tok) (ix tb bt ch : Option Value)
theorem frF_start : (fun y => if y = Str.ofString "perm" then some (.ref pl) else List.lookup y [(Str.ofString "mode", Value.int n t)].reverse) = frF pl n t none none none none := by
  funext y
  by_cases h1 : y = Str.ofString "char"
  · subst h1; rfl
  · by_cases h2 : y = Str.ofString "bit"
    · subst h2; rfl
    · by_cases h3 : y = Str.ofString "table"
      · subst h3; rfl
      · by_cases h4 : y = Str.ofString "index"
        · subst h4; rfl
        · simp only [frF, if_neg h1, if_neg h2, if_neg h3, if_neg h4]
theorem frF_outer (u v : Value) : (fun y => if y = Str.ofString "table" then some v else if y = Str.ofString "index" then some u else frF pl n t ix tb bt ch y) = frF pl n t (some u) (some v) bt ch := by
  funext y
  by_cases h1 : y = Str.ofString "char"
  · subst h1; rfl
  · by_cases h2 : y = Str.ofString "bit"
    · subst h2; rfl
    · by_cases h3 : y = Str.ofString "table"
      · subst h3; rfl
      · by_cases h4 : y = Str.ofString "index"
        · subst h4; rfl
        · simp only [frF, if_neg h1, if_neg h2, if_neg h3, if_neg h4]
theorem frF_inner (u v : Value) : (fun y => if y = Str.ofString "char" then some v else if y = Str.ofString "bit" then some u else frF pl n t ix tb bt ch y) = frF pl n t ix tb (some u) (some v) := by
  funext y
  by_cases h1 : y = Str.ofString "char"
  · subst h1; rfl
  · by_cases h2 : y = Str.ofString "bit"
    · subst h2; rfl
    · simp only [frF, if_neg h1, if_neg h2]
end
section
variable {prog : Program} {w : World} {A : Around} {E : Value → Shared → Prop} {s : Shared} {h₀ : Heap} {L t : Addr} {m : Str → Option Value} {news : List (Addr × Obj)} {items : Array Value}
theorem call_enumTN {Q : Value → Shared → Prop} (F : Fr h₀ L s.heap m) (N : News h₀ L s.heap news) (hT : s.heap.IsTuple t items)
    (h : ∀ e it h', IsEnum h' e it 0 .none → h'.IsTupleIter it t 0 → h'.IsTuple t items → Fr h₀ L h' m → News h₀ L h' news → (∀ p ∈ news, p.1 < it) → t < it → L < it → it < e → h₀.get? it = none → h₀.get? e = none → Q (.ref e) { s with heap := h' }) :
    wpAny (model prog w) A (call (.type "enumerate") [.ref t]) Q E s := by
  refine call_enumT hT fun h' he hit hk => ?_
  have q := next_is_new F
  refine h _ _ h' he hit ?_ (F.keeps hk) (N.grown hk) (fun p hp => Heap.lt_size (N p hp).1) ?_ F.ns.lt (Nat.lt_succ_self _) q ?_
  · obtain ⟨o, ho, r⟩ := hT
    exact ⟨o, hk _ _ ho, r⟩
  · obtain ⟨o, ho, r⟩ := hT
    exact Heap.lt_size ho
  · refine Heap.get?_none_of_le ?_
    have q1 : @LT.lt Nat _ L s.heap.objs.size := F.ns.lt
    have q2 : @LE.le Nat _ h₀.objs.size L := F.above
    show @LE.le Nat _ _ (s.heap.objs.size + 1)
    omega
theorem iter_tupN {Q : Value → Shared → Prop} (F : Fr h₀ L s.heap m) (N : News h₀ L s.heap news) (hT : s.heap.IsTuple t items)
    (h : ∀ it h', h'.IsTupleIter it t 0 → h'.IsTuple t items → Fr h₀ L h' m → News h₀ L h' news → (∀ p ∈ news, p.1 < it) → t < it → L < it → h₀.get? it = none → Q (.ref it) { s with heap := h' }) :
    wpAny (model prog w) A (pyIter (.ref t)) Q E s := by
  refine wpAny_pyIter_tuple hT (h _ _ ⟨_, Heap.get?_push_size _ rfl, rfl, rfl⟩ (hT.push _) (F.push _) (fun p hp => ⟨Heap.get?_push_of_some _ (N p hp).1, (N p hp).2⟩) (fun p hp => Heap.lt_size (N p hp).1) ?_ F.ns.lt (next_is_new F))
  obtain ⟨o, ho, r⟩ := hT
  exact Heap.lt_size ho
end
end Mine
end
section
open PySem PySem.W PyProof.Rows PySem.Calls PyProof.Rows.LCg PySem.Spec
set_option Elab.async false
set_option maxRecDepth 100000
set_option maxHeartbeats 4000000
namespace Mine
/-- a comprehension over a tuple of the ledger, its list given a name -/
theorem comp_tuple {prog : Program} {w : World} {A : Around} {E : Value → Shared → Prop} {s : Shared} {h₀ : Heap} {L : Addr} {m : Str → Option Value} {env : Env} {elt iter : Expr} {x y : Str} {px py : Pos} {scope : Scope} {cl : List (Str × Addr)} {pos spos : Pos} {Q : Flow → Shared → Prop} (_F₀ : Fr h₀ L s.heap m) (hLe : env.locals = L)
    (hsw : swapsWith (.ListComp elt [⟨.Name x px, iter, [], 0⟩] scope pos) (some (.Name y py)) spos.line env = pure true)
    (hclos : closureFor scope env = pure cl) (hcell : ∀ z ∈ scope.names, z.2 ≠ .cell) (hkind : scope.kind = .function)
    (hnames : ∀ z ∈ scope.names, z.2 = .local → scope.names.lookup z.1 = some .local) (hx : scope.names.lookup x = some .local)
    (hy : env.kindOf y = some .local) (hp : (env.scope.kind == .class || (env.scope.kind == .module && env.locals != env.globals)) = false)
    (h : wpAny (model prog w) A (eval iter env) (fun xv s₁ => Halt (∃ ax its o news, xv = .ref ax ∧ A.handled = none ∧ Fr h₀ L s₁.heap m ∧ News h₀ L s₁.heap news ∧ (ax, o) ∈ news ∧ o.cls = .type "tuple" ∧ (∃ n, o.data = .seq its n) ∧ its.size ≤ sizeLine ∧
      ∀ g, CompRest prog w A h₀ L m env elt x scope cl { s₁ with heap := g } (fun news' => (ax, o) ∈ news') (fun i v => its[i]? = some v) (FinA h₀ L m { s₁ with heap := g } y Q) its.size 0 [] news)) E s)
    (hs : ∀ x, foldedSetIterable iter env x = pure x := by intro _; rfl) :
    wpAny (model prog w) A (exec (.Assign [.Name y py] (.ListComp elt [⟨.Name x px, iter, [], 0⟩] scope pos) spos) env) Q E s := by
  subst hLe
  rw [exec_Assign_Name_used _ _ _ _ hsw]
  refine wpAny_bind (wpAny_standAt (wpAny_bind ?_))
  show wpAny _ A (do let _ ← comprehension (.ListComp elt [⟨.Name x px, iter, [], 0⟩] scope pos) scope env _ (newList []) false (eval iter env) (some (assign (.Name y py) env))) _ _ s
  refine wpAny_bind (wpAny_mono (wpAny_comprehension_free (use := some (assign (.Name y py) env)) (Q := fun _ s' => Q .next s') rfl hs hclos hkind hnames
    (wpAny_mono h (fun xv s₁ h₁ => ?_) fun _ _ e => e)) (fun _ s' hq => wpAny_pure (wpAny_pure hq)) fun _ _ e => e)
  obtain ⟨ax, its, o, news, rfl, hh, F, N, hm, hc, ⟨n, hd⟩, hsz, R⟩ := h₁
  have hl : s₁.heap.IsTuple ax its := ⟨o, (N _ hm).1, hc, n, hd⟩
  have hlt : ax < s₁.heap.objs.size := Heap.lt_size (N _ hm).1
  have up : ∀ b o, s₁.heap.get? b = some o → (s₁.heap.push { cls := .type "tuple_iterator", data := .fields #[.ref ax, .int 0 0] }).get? b = some o := fun b o e => Heap.get?_push_of_some _ e
  refine wpAny_pyIter_tuple hl ?_
  refine block_U (S := fun news' => (ax, o) ∈ news') (Walks.tuple hh s₁.heap.objs.size ax (Nat.ne_of_lt hlt) its) hsz (fun i h st => by obtain ⟨o, e, _⟩ := st.1; exact ⟨o, e⟩)
    (fun i h h' o' nw st e e' k N' S' => ⟨by obtain ⟨o2, q, r⟩ := st.1; rw [e] at q; cases q; exact ⟨_, e', r⟩, ⟨o, (N' _ S').1, hc, n, hd⟩⟩) hcell hkind hx ⟨⟨_, Heap.get?_push_size _ rfl, rfl, rfl⟩, hl.push _⟩ (fun b hb => ?_)
    (F.keeps up) (N.grown up) (Nat.ne_of_lt F.ns.lt) (next_is_new F) (fun p hp => Nat.ne_of_lt (Heap.lt_size (N p hp).1)) hm (R _) ?_
  · show b < (s₁.heap.push _).objs.size
    rw [Heap.size_push]
    rcases List.mem_cons.mp hb with rfl | hb
    · exact Nat.lt_succ_self _
    · rw [List.mem_singleton.mp hb]; exact Nat.lt_succ_of_lt hlt
  · intro D C h' tk m' ys news' F' N' o1 hn hC₀ hD₀ hCL hDL hCD offC fin
    show wpAny _ A (assign (.Name y py) env (.ref D)) _ _ _
    refine wpAny_assign_Name (wpAny_storeName_local hy F'.ns (fun h₂ hn₂ hs₂ => ?_) hp)
    have F₂ := F'.set hn₂ hs₂
    refine ⟨m', hn.sameBut hs₂ hCL, fun h'' hs'' => fin D h'' _ (F₂.change hs'' hCL hC₀) (fun p hp => ?_) o1⟩
    have z : h₂.get? p.1 = some p.2 := hs₂.extBut _ _ (N' p hp).2.1 (N' p hp).1
    refine ⟨hs''.extBut _ _ ?_ z, (N' p hp).2⟩
    rcases List.mem_cons.mp hp with rfl | hp
    · exact Ne.symm hCD
    · exact offC p hp
theorem list_itemN {prog : Program} {w : World} {A : Around} {E : Value → Shared → Prop} {s : Shared} {h₀ : Heap} {L D : Addr} {news : List (Addr × Obj)} {value slice : PySem.Expr} {vs : List Value} {k : Int} {u : Tok} {x : Value} {n : Nat} {Q : Value → Shared → Prop}
    (N : News h₀ L s.heap news) (hm : (D, ({ cls := .type "list", data := .seq vs.toArray n } : Obj)) ∈ news) (h0 : 0 ≤ k) (h1 : k < 1000) (hx : vs[k.toNat]? = some x) (h : Q x s)
    (hs : subscripted slice false (.ref D) (.int k u) = operate [.ref D, .int k u] (getItem (.ref D) (.int k u)) := by with_unfolding_all rfl) :
    wpAny (model prog w) A (subscriptTail value slice (.ref D) (.int k u)) Q E s :=
  have hl : s.heap.IsList D vs.toArray := ⟨_, (N _ hm).1, rfl, n, rfl⟩
  tail_any hl.typeIs slot_list_getitem.lookup (wpAny_getItem_list hl h0 (by omega) (by simpa using hx) h) hs
end Mine
end
section
open PySem PySem.W PyProof.Rows
set_option Elab.async false
set_option maxRecDepth 100000
set_option maxHeartbeats 4000000
namespace Mine
/-- what the law's figures are told by -/
noncomputable def placeL : List Str := [Str.ofString "-r", Str.ofString "-w", Str.ofString "-xSs", Str.ofString "-r", Str.ofString "-w", Str.ofString "-xSs", Str.ofString "-r", Str.ofString "-w", Str.ofString "-xTt"]
noncomputable def toldAt (x : Str) (k : Nat) : Int := Txt.find (placeL.getD k (Str.ofString "")) (Txt.item x ((k : Int) + 1))
noncomputable def fig0 (x : Str) : Int := (Int.fdiv (toldAt x 2) 2 * 4 + Int.fdiv (toldAt x 5) 2 * 2 + Int.fdiv (toldAt x 8) 2) * 8 + (toldAt x 0 * 4 + toldAt x 1 * 2 + Int.fmod (toldAt x 2) 2)
noncomputable def fig1 (x : Str) : Int := (toldAt x 3 * 4 + toldAt x 4 * 2 + Int.fmod (toldAt x 5) 2) * 8 + (toldAt x 6 * 4 + toldAt x 7 * 2 + Int.fmod (toldAt x 8) 2)
theorem news_d5 {h₀ h : Heap} {L : Addr} {a b c d e : Addr × Obj} {l : List (Addr × Obj)} (N : News h₀ L h (a :: b :: c :: d :: e :: l)) : News h₀ L h (a :: c :: l) := fun p hp => N p (by
  simp only [List.mem_cons] at hp ⊢
  rcases hp with h | h | h <;> simp [h])
theorem news_d4 {h₀ h : Heap} {L : Addr} {a b c d : Addr × Obj} {l : List (Addr × Obj)} (N : News h₀ L h (a :: b :: c :: d :: l)) : News h₀ L h (a :: l) := fun p hp => N p (by
  simp only [List.mem_cons] at hp ⊢
  rcases hp with h | h <;> simp [h])
theorem news_d2 {h₀ h : Heap} {L : Addr} {a b : Addr × Obj} {l : List (Addr × Obj)} (N : News h₀ L h (a :: b :: l)) : News h₀ L h (a :: l) := fun p hp => N p (by
  simp only [List.mem_cons] at hp ⊢
  rcases hp with h | h <;> simp [h])
theorem allLt_all {d : Addr} : ∀ {l : List (Addr × Obj)}, AllLt d l → ∀ p ∈ l, p.1 < d
  | [], _, _, hp => nomatch hp
  | _ :: _, h, p, hp => by
    rcases List.mem_cons.mp hp with rfl | hp
    · exact h.1
    · exact allLt_all h.2 p hp
theorem tup_itemN {prog : Program} {w : World} {A : Around} {E : Value → Shared → Prop} {s : Shared} {h₀ : Heap} {L T : Addr} {news : List (Addr × Obj)} {value slice : PySem.Expr} {vs : List Value} {i : Nat} {u : Tok} {x : Value} {n : Nat} {Q : Value → Shared → Prop}
    (N : News h₀ L s.heap news) (hm : (T, ({ cls := .type "tuple", data := .seq vs.toArray n } : Obj)) ∈ news) (hi : i < vs.length) (hl : vs.length ≤ 1000) (hx : vs[i]? = some x) (h : Q x s)
    (hs : subscripted slice false (.ref T) (.int (i : Int) u) = operate [.ref T, .int (i : Int) u] (getItem (.ref T) (.int (i : Int) u)) := by with_unfolding_all rfl) :
    wpAny (model prog w) A (subscriptTail value slice (.ref T) (.int (i : Int) u)) Q E s :=
  item_tupleT (l := vs) ⟨_, (N _ hm).1, rfl, n, rfl⟩ (by omega) (by omega) (seqIndex_of (by omega) (by omega)) (by simpa using hx) h hs
theorem tup_strN {prog : Program} {w : World} {A : Around} {E : Value → Shared → Prop} {s : Shared} {h₀ : Heap} {L T : Addr} {news : List (Addr × Obj)} {value slice : PySem.Expr} {vs : List Value} {ns : List Str} {i : Nat} {u : Tok} {n : Nat} {Q : Value → Shared → Prop}
    (N : News h₀ L s.heap news) (hm : (T, ({ cls := .type "tuple", data := .seq vs.toArray n } : Obj)) ∈ news) (hs : StrsAre vs ns) (hi : i < ns.length) (hl : ns.length ≤ 1000) (h : ∀ t, Q (.str (ns.getD i (Str.ofString "")) t) s)
    (hs' : subscripted slice false (.ref T) (.int (i : Int) u) = operate [.ref T, .int (i : Int) u] (getItem (.ref T) (.int (i : Int) u)) := by with_unfolding_all rfl) :
    wpAny (model prog w) A (subscriptTail value slice (.ref T) (.int (i : Int) u)) Q E s := by
  obtain ⟨t, ht⟩ := hs.get i (ns.getD i (Str.ofString "")) (by rw [List.getD_eq_getElem?_getD, List.getElem?_eq_getElem hi]; rfl)
  exact tup_itemN N hm (by rw [hs.length]; exact hi) (by rw [hs.length]; exact hl) ht (h t) hs'
/-- the figure of a right's three -/
noncomputable def rightAt (ds : List Int) (i : Nat) : Int := ds.getD (3 * i) 0 * 4 + ds.getD (3 * i + 1) 0 * 2 + Int.fmod (ds.getD (3 * i + 2) 0) 2
local macro_rules | `(tactic| walk_at "exec Assign cons ListComp") => `(tactic| ((with_reducible show wpAny _ _ (exec (Stmt.Assign [Expr.Name _ _] (Expr.ListComp _ [{ target := _, iter := Expr.Tuple _ _ _, ifs := [], is_async := 0 }] _ _) _) _) _ _ _); refine halt ?_))
local macro_rules | `(tactic| walk_at "subscriptTail") => `(tactic| ((with_reducible show wpAny _ _ (subscriptTail _ _ (Value.ref _) (Value.int _ _)) _ _ _); refine halt ?_))
theorem c_fig (w : World) (x : Str) (t : Tok) (news : List (Addr × Obj)) (hx : x.length = 10) (hpos : ∀ k, k < 9 → 0 ≤ toldAt x k) : Called w 836 [.str x t] news 4 (fun h₀ L m s Q => ∀ (D : Addr) (t0 t1 : Tok) (k : Nat) h' tk', (∀ p ∈ news, p.1 < D) → Fr h₀ L h' m → News h₀ L h' ((D, listOf #[.int (fig0 x) t0, .int (fig1 x) t1] k) :: news) → Q (.ref D) { s with heap := h', toks := tk' }) := by
  have hsz9 := range_size 9
  have hsm9 := range_small (n := 9) (by omega)
  have hfit9 : 9 ≤ sizeLine := by have : sizeLine = 16777216 := by decide
                                  omega
  have hx1 : x.length ≤ 16 := by omega
  have hx2 : (((x.length : Nat) : Int) != 10) = false := by rw [hx]; rfl
  have hx3 : ((x.length : Nat) : Int) = 10 := by omega
  clear hx
  dsimp only [Called, RetV, thePg]
  k_fill
  intros
  rename_i hret
  refine wpAny_call ?_
  k_dflt (refine' code_defC (binds := [(Str.ofString "listing", .str x t)]) ?k1 ?k2 ?k3 ?k4 ?k5 ?kA ?kF ?kK ?k6 ?k7 ?k8 ?k9 ?kB ?kD ?_ ?c2 ?c3 ?c4; (case kA => exact rfl); (case kF => exact rfl); (case kK => assumption); (case k1 => k_asm); (case k2 => k_asm); (case k3 => k_asm); (case k4 => k_asm); (case k5 => k_asm); (case k6 => k_is); (case k7 => k_is); (case k8 => ktr_room); (case k9 => first | exact BindsTo.of_eq rfl | exact binds_K (by k_in) rfl (by k_is) rfl rfl rfl); (case kB => exact rfl); (case kD => decide +kernel); (case c2 => exact rfl); (case c3 => exact rfl); (case c4 => exact rfl); k_whole; intro g' L' h' tk' cells' FG' F' N' Y' B' X' T' l1; k_cells Y'; (try simp only [List.cons_append, List.nil_append] at N'); (try dsimp only))
  refine let_all ?_
  intro v9 Q9 E9
  have c1 : ∀ p ∈ news, p.1 ≠ L' + 1 := fun p hp => Nat.ne_of_lt (Nat.lt_succ_of_lt (l1 p hp))
  have c2 : ∀ p ∈ news, p.1 ≠ L' + 1 + 1 := fun p hp => Nat.ne_of_lt (Nat.lt_succ_of_lt (Nat.lt_succ_of_lt (l1 p hp)))
  have c3 : ∀ p ∈ news, p.1 ≠ L' + 1 + 1 + 1 := fun p hp => Nat.ne_of_lt (Nat.lt_succ_of_lt (Nat.lt_succ_of_lt (Nat.lt_succ_of_lt (l1 p hp))))
  k_steps
  with_reducible rename Fr _ _ _ _ => F9
  with_reducible rename News _ _ _ _ => N9
  with_reducible rename IsRange _ _ _ _ _ _ _ _ => R9
  refine halt' ?_
  obtain ⟨vs, hvs, N8⟩ : ∃ vs : List Value, StrsAre vs placeL ∧ News _ _ _ (((_, { cls := .type "tuple", data := .seq vs.toArray _ }) : Addr × Obj) :: _) := ⟨_, by repeat (first | exact .nil | refine .cons _ _ ?_), N9⟩
  clear N9
  refine LCg.CompSrc.range rfl F9 N8 R9 hsm9 hsz9 hfit9 ?_
  intro g9
  clear R9 F9 N8
  refine comp_inv (fun i ys news => news = _ ∧ IntsAre ys ((List.range i).map (toldAt x))) 9 ?step ?fin 9 0 [] _ (by omega) ⟨rfl, .nil⟩
  case step =>
    rintro i ys news v I oI C oC D m₂ h tk E' hi ⟨rfl, hys⟩ hv hC hk F N off ne
    obtain ⟨tv, rfl⟩ := hv
    rw [Int.zero_add] at hk
    k_steps
    with_reducible rename News _ _ _ _ => N5
    refine halt' ?_
    refine' tup_strN (ns := placeL) N5 ?m hvs hi (by decide) ?_
    case m => k_mem
    intro tp
    k_steps
    with_reducible rename Fr _ _ _ _ => F5
    refine halt' (LCg.CompEnd.intro F5 N5 _ (fun p hp => ?_) off trivial ⟨rfl, ?_⟩)
    · simp only [List.mem_cons] at hp ⊢
      rcases hp with h | h | h | h | h | h | h | h <;> simp [h]
    · rw [List.range_succ, List.map_append]
      exact hys.append (.cons _ _ .nil)
  case fin =>
    rintro ys news ⟨rfl, hys⟩
    unfold fig0 fig1 at hret
    have hyH : Halt (IntsAre ys ((List.range 9).map (toldAt x))) := hys
    k_steps
    with_reducible rename Fr _ _ _ _ => F5
    with_reducible rename News _ _ _ _ => N5
    refine min_list_N rfl F5 N5 ⟨_, (N5 _ (by k_mem)).1, rfl, _, rfl⟩ hys (by simp) ?_
    intro h' M tM tk' F' N' hM hMle
    have hM0 : 0 ≤ M := by
      obtain ⟨k, hk, rfl⟩ := List.mem_map.mp hM
      exact hpos k (List.mem_range.mp hk)
    clear hM hMle F5 N5 hpos hys
    have hdl : ((List.range 9).map (toldAt x)).length = 9 := rfl
    have hret : ∀ D t0 t1 k h' tk', _ → _ → News _ _ h' ((D, listOf (([Value.int ((Int.fdiv (((List.range 9).map (toldAt x)).getD 2 0) 2 * 4 + Int.fdiv (((List.range 9).map (toldAt x)).getD 5 0) 2 * 2 + Int.fdiv (((List.range 9).map (toldAt x)).getD 8 0) 2) * 8 + rightAt ((List.range 9).map (toldAt x)) 0) t0, .int (rightAt ((List.range 9).map (toldAt x)) 1 * 8 + rightAt ((List.range 9).map (toldAt x)) 2) t1] : List Value).toArray) k) :: news) → _ := hret
    generalize (List.range 9).map (toldAt x) = ds at F' N' hret hdl hyH ⊢
    have hl9 : ds.length ≤ 900 := by rw [hdl]; decide
    k_steps
    with_reducible rename Fr _ _ _ _ => F5
    with_reducible rename News _ _ _ _ => N5
    have N6 := news_d5 N5
    clear N5
    refine halt' (comp_tuple F5 (by rfl) (by with_unfolding_all rfl) (by with_unfolding_all rfl) (by decide) (by rfl) (by decide) (by rfl) (by rfl) (by rfl) ?_)
    k_steps
    with_reducible rename Fr _ _ _ _ => F7
    with_reducible rename News _ _ _ _ => N7
    refine halt' ⟨_, _, _, _, rfl, rfl, F7, N7, .head _, rfl, ⟨_, rfl⟩, by size_fits, fun g9 => ?_⟩
    clear F7 N7
    refine comp_inv (fun i ys news => news = _ ∧ IntsAre ys ((List.range i).map (rightAt ds))) 3 ?step2 ?fin2 3 0 [] _ (by omega) ⟨rfl, .nil⟩
    case step2 =>
      rintro i ys news v I oI C oC D m₂ h tk E' hi ⟨rfl, hys⟩ hv hC hk F N off ne
      obtain ⟨tv, rfl⟩ : ∃ t, v = Value.int ((3 * i : Nat) : Int) t := by
        have h3 : i = 0 ∨ i = 1 ∨ i = 2 := by omega
        rcases h3 with rfl | rfl | rfl <;> exact ⟨_, (Option.some.inj hv).symm⟩
      clear hv
      k_steps
      with_reducible rename Fr _ _ _ _ => F8
      with_reducible rename News _ _ _ _ => N8
      refine halt' (LCg.CompEnd.intro F8 N8 _ (fun p hp => hp) off (.head _) ⟨rfl, ?_⟩)
      rw [List.range_succ, List.map_append]
      exact hys.append (.cons _ _ .nil)
    case fin2 =>
      rintro ys news ⟨rfl, hys⟩
      obtain ⟨r0, y0, rfl, q0⟩ := IntsAre.cons_inv hys
      obtain ⟨r1, y1, rfl, q1⟩ := IntsAre.cons_inv q0
      obtain ⟨r2, y2, rfl, q2⟩ := IntsAre.cons_inv q1
      obtain rfl := q2.nil_inv
      clear q0 q1 hys
      unfold LCg.FinA
      intro D' h' tk' F' N' o1'
      have N6 := news_d4 N'
      clear N' o1'
      dsimp only
      k_steps
      with_reducible rename Fr _ _ _ _ => F8
      with_reducible rename News _ _ _ _ => N8
      with_reducible rename _ ∧ _ => l8
      exact hret _ _ _ _ _ _ (allLt_all l8.2) F8 (news_d2 N8)
end Mine
end
example {M : Model} {A : Around} {E : Value → Shared → Prop} {s : Shared} {env : Env} {p : Pos} {Q : Flow → Shared → Prop} (h : wpAny M A (exec (.Pass p) env) Q E s) : wpAny M A (exec (.Pass p) env) Q E s := by first | (walk1; fail) | exact h
section
open PySem PySem.W PyProof.Rows
set_option Elab.async false
set_option maxRecDepth 100000
set_option maxHeartbeats 4000000
namespace Mine
noncomputable def kindS : Str := Str.ofString "?pc?d?b?-?l?s???"
theorem c_part (w : World) (n : Int) (x : Str) (t t2 : Tok) (news : List (Addr × Obj)) (hx : x.length = 10) (hpos : ∀ k, k < 9 → 0 ≤ toldAt x k) (e1 : (Builtin.bitAnd n 61440 != Int.fmod (Int.fdiv n 4096) 16 * 4096) = false) (e2 : (Builtin.bitAnd n 4095 != Int.fmod n 4096) = false)
   (e3 : (Txt.slice x none (some 1) == Txt.item kindS (Int.fmod (Int.fdiv n 4096) 16)) = true) : Called w 843 [.int n t, .str x t2] news 6 (RetV news fun t => .bool true) := by
  have hx1 : x.length ≤ 16 := by omega
  unfold kindS at e3
  dsimp only [Called, RetV, thePg]
  k_fill
  intros
  rename_i hret
  refine wpAny_call ?_
  k_dflt (refine' code_def (binds := [(Str.ofString "mode", .int n t), (Str.ofString "listing", .str x t2)]) ?k1 ?k2 ?k3 ?k4 ?k5 ?kA ?kF ?kK ?k6 ?k7 ?k8 ?k9 ?kB ?_ ?c2 ?c3 ?c4 ?c5; (case kA => exact rfl); (case kF => exact rfl); (case kK => assumption); (case k1 => k_asm); (case k2 => k_asm); (case k3 => k_asm); (case k4 => k_asm); (case k5 => k_asm); (case k6 => k_is); (case k7 => k_is); (case k8 => ktr_room); (case k9 => first | exact BindsTo.of_eq rfl | exact binds_K (by k_in) rfl (by k_is) rfl rfl rfl); (case c5 => decide); (case kB => exact locs rfl); (case c2 => exact rfl); (case c3 => exact rfl); (case c4 => exact rfl); k_whole; intro g' L' h' FG' F' N' B' X' T'; (try dsimp only))
  refine let_all ?_
  intro v9 Q9 E9
  have st1 : Stop 777 := stop
  have st2 : Stop 784 := stop
  have st3 : Stop 836 := stop
  k_steps
  with_reducible rename Fr _ _ _ _ => F9
  with_reducible rename News _ _ _ _ => N9
  with_reducible rename Below _ _ _ _ => B9
  with_reducible rename Frag.In _ _ => X9
  with_reducible rename Top _ _ _ _ _ _ => T9
  refine halt' ?_
  refine c_ifmt w n _ _ _ _ _ _ _ _ _ _ _ _ _ _ _ _ _ _ _ _ _ _ _ B9 F9 X9 N9 T9 rfl (by ktr_room) (by ktr_units) ?_
  intro t9 h9 tk9 F9 N9
  k_steps
  with_reducible rename Fr _ _ _ _ => F9
  with_reducible rename News _ _ _ _ => N9
  with_reducible rename Below _ _ _ _ => B9
  with_reducible rename Frag.In _ _ => X9
  with_reducible rename Top _ _ _ _ _ _ => T9
  refine halt' ?_
  refine c_imode w n _ _ _ _ _ _ _ _ _ _ _ _ _ _ _ _ _ _ _ _ _ _ _ B9 F9 X9 N9 T9 rfl (by ktr_room) (by ktr_units) ?_
  intro t9 h9 tk9 F9 N9
  k_steps
  with_reducible rename Fr _ _ _ _ => F9
  with_reducible rename News _ _ _ _ => N9
  with_reducible rename Below _ _ _ _ => B9
  with_reducible rename Frag.In _ _ => X9
  with_reducible rename Top _ _ _ _ _ _ => T9
  refine halt' ?_
  refine c_ifmt w n _ _ _ _ _ _ _ _ _ _ _ _ _ _ _ _ _ _ _ _ _ _ _ B9 F9 X9 N9 T9 rfl (by ktr_room) (by ktr_units) ?_
  intro t9 h9 tk9 F9 N9
  k_steps
  with_reducible rename Fr _ _ _ _ => F9
  with_reducible rename News _ _ _ _ => N9
  with_reducible rename Below _ _ _ _ => B9
  with_reducible rename Frag.In _ _ => X9
  with_reducible rename Top _ _ _ _ _ _ => T9
  refine halt' ?_
  refine c_imode w n _ _ _ _ _ _ _ _ _ _ _ _ _ _ _ _ _ _ _ _ _ _ _ B9 F9 X9 N9 T9 rfl (by ktr_room) (by ktr_units) ?_
  intro t9 h9 tk9 F9 N9
  k_steps
  with_reducible rename Fr _ _ _ _ => F9
  with_reducible rename News _ _ _ _ => N9
  with_reducible rename Below _ _ _ _ => B9
  with_reducible rename Frag.In _ _ => X9
  with_reducible rename Top _ _ _ _ _ _ => T9
  refine halt' ?_
  refine c_fig w x _ _ hx hpos _ _ _ _ _ _ _ _ _ _ _ _ _ _ _ _ _ _ _ _ _ B9 F9 X9 N9 T9 rfl (by ktr_room) (by ktr_units) ?_
  intro D u0 u1 k h9 tk9 l9 F9 N9
  k_steps
  with_reducible rename Fr _ _ _ _ => F8
  with_reducible rename News _ _ _ _ => N8
  exact hret 0 _ _ F8 (news_tail N8)
end Mine
end
example {M : Model} {A : Around} {E : Value → Shared → Prop} {s : Shared} {env : Env} {p : Pos} {Q : Flow → Shared → Prop} (h : wpAny M A (exec (.Pass p) env) Q E s) : wpAny M A (exec (.Pass p) env) Q E s := by first | (walk1; fail) | exact h
section
open PySem PySem.W PyProof.Rows
set_option maxRecDepth 100000
namespace Mine
theorem bitAnd_nat (a b : Nat) : Builtin.bitAnd (a : Int) (b : Int) = ((a &&& b : Nat) : Int) := by
  first | rfl | (unfold Builtin.bitAnd; simp)
theorem e2_ok (a : Nat) : (Builtin.bitAnd (a : Int) 4095 != Int.fmod (a : Int) 4096) = false := by
  have h := bitAnd_nat a 4095
  rw [show ((4095 : Nat) : Int) = 4095 from rfl] at h
  rw [h, show (4095 : Nat) = 2 ^ 12 - 1 by decide, Nat.and_two_pow_sub_one_eq_mod, Int.fmod_eq_emod_of_nonneg _ (by omega)]
  simp
theorem and_high (a : Nat) : a &&& 61440 = a / 4096 % 16 * 4096 := by
  have e : (61440 : Nat) = (2 ^ 4 - 1) <<< 12 := by decide
  have e2 : a / 4096 % 16 * 4096 = (a >>> 12 &&& (2 ^ 4 - 1)) <<< 12 := by
    rw [Nat.and_two_pow_sub_one_eq_mod, Nat.shiftLeft_eq, Nat.shiftRight_eq_div_pow]
  rw [e2, e]
  apply Nat.eq_of_testBit_eq
  intro i
  rw [Nat.testBit_and, Nat.testBit_shiftLeft, Nat.testBit_shiftLeft, Nat.testBit_and, Nat.testBit_shiftRight]
  by_cases h : 12 ≤ i
  · have : 12 + (i - 12) = i := by omega
    simp [h, this]
  · simp [h]
theorem e1_ok (a : Nat) : (Builtin.bitAnd (a : Int) 61440 != Int.fmod (Int.fdiv (a : Int) 4096) 16 * 4096) = false := by
  have h := bitAnd_nat a 61440
  rw [show ((61440 : Nat) : Int) = 61440 from rfl] at h
  rw [h, and_high, Int.fmod_eq_emod_of_nonneg _ (by omega), Int.fdiv_eq_ediv_of_nonneg _ (by omega)]
  simp
end Mine
end
section
open PySem PySem.W PyProof.Rows
set_option Elab.async false
set_option maxRecDepth 100000
set_option maxHeartbeats 8000000
namespace Mine
/-- the end of a turn of a loop over an iterator at I -/
noncomputable def TurnEnd (h₀ : Heap) (L I : Addr) (oI : Obj) (Jn : (Str → Option Value) → List (Addr × Obj) → Prop) (s₁ : Shared) (Qr : Value → Shared → Prop) (Qb : Shared → Prop) (f : Flow) (s₂ : Shared) : Prop :=
  match f with
  | .ret v => Qr v s₂
  | .brk => Qb s₂
  | _ => ∃ h' tk m₂ news₂, s₂ = { s₁ with heap := h', toks := tk } ∧ Fr h₀ L h' m₂ ∧ News h₀ L h' ((I, oI) :: news₂) ∧ (∀ p ∈ news₂, p.1 ≠ I) ∧ Jn m₂ news₂
section
variable {prog : Program} {w : World} {A : Around} {E : Value → Shared → Prop} {s s₂ : Shared} {h₀ : Heap} {env : Env} {x : Str} {body : List Stmt} {Q : Flow → Shared → Prop} {I : Addr} {n : Nat} {P : Nat → Value → Prop} {St : Nat → Heap → Prop} {m : Str → Option Value} {news : List (Addr × Obj)}
theorem loop_one (W : Walks prog w A I [I] [I] n P St) (hIo : ∀ i h, St i h → ∃ o, h.get? I = some o) (hIL : env.locals ≠ I) (hI₀ : h₀.get? I = none) (off : ∀ p ∈ news, p.1 ≠ I) (hst : St 0 s₂.heap) (F : Fr h₀ env.locals s₂.heap m) (N : News h₀ env.locals s₂.heap news)
    (J : Nat → (Str → Option Value) → List (Addr × Obj) → Prop) (h0 : J 0 m news)
    (step : ∀ i v m₁ news₁ oI h tk, i < n → P i v → J i m₁ news₁ → (∀ p ∈ news₁, p.1 ≠ I) → Fr h₀ env.locals h (fun y => if y = x then some v else m₁ y) → News h₀ env.locals h ((I, oI) :: news₁) →
      wpAny (model prog w) A (execs body env) (TurnEnd h₀ env.locals I oI (J (i + 1)) { s₂ with heap := h, toks := tk } (fun v s' => Q (.ret v) s') fun s' => Q .next s') E { s₂ with heap := h, toks := tk })
    (fin : ∀ h' tk m' news', Fr h₀ env.locals h' m' → News h₀ env.locals h' news' → J n m' news' → Q .next { s₂ with heap := h', toks := tk }) :
    LoopAtV prog w A h₀ env x body Q E (.ref I) s₂ := by
  refine ⟨I, [I], [I], n, P, St, m, news, J, rfl, W, by simpa using hIL, by simpa using hI₀, fun p hp => by simpa using off p hp, hst, F, N, h0, ?_, fun h' tk m' news' F' N' _ hJ => fin h' tk m' news' F' N' hJ⟩
  rintro i v m₁ news₁ s₁ own ⟨h, tk, rfl⟩ hi hP hJ off₁ own1 own2 own3 st F₁ N₁
  have off₂ : ∀ p ∈ news₁, p.1 ≠ I := fun p hp => by simpa using off₁ p hp
  obtain ⟨oI, hI⟩ := hIo _ _ st
  have N₂ : News h₀ env.locals h ((I, oI) :: news₁) := fun p hp => by
    rcases List.mem_cons.mp hp with rfl | hp
    · exact N₁ _ (List.mem_append_left _ (own3 I (by simp) hI₀ oI hI))
    · exact N₁ p (List.mem_append_right _ hp)
  have ownI : ∀ p ∈ own, p = (I, oI) := fun p hp => by
    have e1 : p.1 = I := by simpa using own1 p hp
    have e2 := own2 p hp
    rw [e1] at e2
    have := hI.symm.trans e2
    obtain ⟨p1, p2⟩ := p
    simp only [Option.some.injEq] at this
    rw [← this]
    exact congrArg (·, oI) e1
  refine wpAny_mono (step i v m₁ news₁ oI h tk hi hP hJ off₂ F₁ N₂) (fun f s₃ hf => ?_) fun _ _ e => e
  have go : (∃ h' tk' m₂ news₂, s₃ = { ({ s₂ with heap := h, toks := tk } : Shared) with heap := h', toks := tk' } ∧ Fr h₀ env.locals h' m₂ ∧ News h₀ env.locals h' ((I, oI) :: news₂) ∧ (∀ p ∈ news₂, p.1 ≠ I) ∧ J (i + 1) m₂ news₂) → LoopStepU h₀ env.locals [I] own (J (i + 1)) { s₂ with heap := h, toks := tk } .next s₃ := by
    rintro ⟨h', tk', m₂, news₂, rfl, F₃, N₃, off₃, hJ₃⟩
    refine ⟨rfl, h', tk', m₂, news₂, rfl, F₃, fun p hp => ?_, fun p hp => by simpa using off₃ p hp, hJ₃⟩
    rcases List.mem_append.mp hp with hp | hp
    · rw [ownI p hp]; exact N₃ _ (.head _)
    · exact N₃ p (.tail _ hp)
  cases f with
  | ret v => exact hf
  | brk => exact hf
  | cont => exact go hf
  | next => exact go hf
/-- a loop over the signs of a text -/
theorem loop_str {xt : Str} {tx : Tok} (hh : A.handled = none) (F : Fr h₀ env.locals s.heap m) (N : News h₀ env.locals s.heap news) (J : Nat → (Str → Option Value) → List (Addr × Obj) → Prop) (h0 : J 0 m news)
    (step : ∀ i u m₁ news₁ I oI h tk, i < xt.length → J i m₁ news₁ → (∀ p ∈ news₁, p.1 ≠ I) → Fr h₀ env.locals h (fun y => if y = x then some (.str (signAt xt i) u) else m₁ y) → News h₀ env.locals h ((I, oI) :: news₁) →
      wpAny (model prog w) A (execs body env) (TurnEnd h₀ env.locals I oI (J (i + 1)) { s with heap := h, toks := tk } (fun v s' => Q (.ret v) s') fun s' => Q .next s') E { s with heap := h, toks := tk })
    (fin : ∀ h' tk m' news', Fr h₀ env.locals h' m' → News h₀ env.locals h' news' → J xt.length m' news' → Q .next { s with heap := h', toks := tk }) :
    wpAny (model prog w) A (pyIter (.str xt tx)) (fun it s₂ => LoopAtV prog w A h₀ env x body Q E it s₂) E s := by
  have key : ∀ (o : Obj) (St : Nat → Heap → Prop), Walks prog w A s.heap.objs.size [s.heap.objs.size] [s.heap.objs.size] xt.cps.size (SignAt xt) St → (∀ i h, St i h → ∃ o, h.get? s.heap.objs.size = some o) → St 0 (s.heap.push o) →
      LoopAtV prog w A h₀ env x body Q E (.ref s.heap.objs.size) { s with heap := s.heap.push o } := by
    intro o St W hIo hst
    refine loop_one W hIo (Nat.ne_of_lt F.ns.lt) (next_is_new F) (fun p hp => Nat.ne_of_lt (Heap.lt_size (N p hp).1)) hst (F.keeps fun _ _ e => Heap.get?_push_of_some _ e) (N.grown fun _ _ e => Heap.get?_push_of_some _ e) J h0 ?_ (fun h' tk m' news' F' N' hJ => fin h' tk m' news' F' N' hJ)
    rintro i v m₁ news₁ oI h tk hi ⟨c, u, hc, rfl⟩ hJ off F₁ N₁
    have e : signAt xt i = ⟨#[c]⟩ := by
      unfold signAt
      obtain ⟨⟨l⟩⟩ := xt
      have hc' : l[i]? = some c := by simpa using hc
      have hil : i < l.length := (List.getElem?_eq_some_iff.mp hc').1
      rw [List.drop_eq_getElem_cons hil]
      have : l[i] = c := (List.getElem?_eq_some_iff.mp hc').2
      rw [this]; rfl
    have st := step i u m₁ news₁ _ oI h tk hi hJ off
    rw [e] at st
    exact st F₁ N₁
  cases ha : xt.cps.all (· < 128)
  · exact wpAny_pyIter_wide ha (key _ _ (Walks.strWide hh _ xt tx) (fun i h st => let ⟨o, e, _⟩ := st; ⟨o, e⟩) ⟨_, Heap.get?_push_size _ rfl, rfl, rfl⟩)
  · exact wpAny_pyIter_ascii ha (key _ _ (Walks.strAscii hh _ xt tx) (fun i h st => let ⟨o, e, _⟩ := st; ⟨o, e⟩) ⟨_, Heap.get?_push_size _ rfl, rfl, rfl⟩)
end
end Mine
end
section
open PySem PySem.W PyProof.Rows PySem.Calls
set_option Elab.async false
set_option maxRecDepth 100000
set_option maxHeartbeats 4000000
namespace Mine
/-- a frame with the one name x more -/
noncomputable def frX (x : Str) (v : Option Value) (m : Str → Option Value) : Str → Option Value := fun y => if y = x then v else m y
theorem frX_none {x : Str} {m : Str → Option Value} (h : m x = none) : m = frX x none m := by
  funext y
  unfold frX
  split
  next e => rw [e, h]
  next => rfl
theorem frX_set {x : Str} {u : Option Value} {v : Value} {m : Str → Option Value} : (fun y => if y = x then some v else frX x u m y) = frX x (some v) m := by
  funext y
  unfold frX
  split <;> rfl
section
variable {prog : Program} {w : World} {A : Around} {E : Value → Shared → Prop} {s : Shared} {h₀ : Heap} {env : Env} {x : Str} {body : List Stmt} {Q : Flow → Shared → Prop} {m : Str → Option Value} {news : List (Addr × Obj)}
/-- a loop over a range -/
theorem loop_range {r : Addr} {a b c : Int} {t u v : Tok} {n : Nat} (hr : IsRange s.heap r a b c t u v) (hsm : Builtin.Range.small a b c = true) (hn : Builtin.Range.rangeSize a b c = ((n : Nat) : Int)) (hh : A.handled = none) (F : Fr h₀ env.locals s.heap m) (N : News h₀ env.locals s.heap news)
    (J : Nat → (Str → Option Value) → List (Addr × Obj) → Prop) (h0 : J 0 m news)
    (step : ∀ i u m₁ news₁ I oI h tk, i < n → J i m₁ news₁ → (∀ p ∈ news₁, p.1 ≠ I) → Fr h₀ env.locals h (fun y => if y = x then some (.int (a + (i : Int) * c) u) else m₁ y) → News h₀ env.locals h ((I, oI) :: news₁) →
      wpAny (model prog w) A (execs body env) (TurnEnd h₀ env.locals I oI (J (i + 1)) { s with heap := h, toks := tk } (fun v s' => Q (.ret v) s') fun s' => Q .next s') E { s with heap := h, toks := tk })
    (fin : ∀ h' tk m' news', Fr h₀ env.locals h' m' → News h₀ env.locals h' news' → J n m' news' → Q .next { s with heap := h', toks := tk }) :
    wpAny (model prog w) A (pyIter (.ref r)) (fun it s₂ => LoopAtV prog w A h₀ env x body Q E it s₂) E s := by
  refine wpAny_pyIter_range hr hsm ?_
  have up : ∀ (o : Obj) b o', s.heap.get? b = some o' → (s.heap.push o).get? b = some o' := fun o b o' e => Heap.get?_push_of_some _ e
  refine loop_one (Walks.range hh s.heap.objs.size a c n) (fun i h st => ⟨_, st⟩) (Nat.ne_of_lt F.ns.lt) (next_is_new F) (fun p hp => Nat.ne_of_lt (Heap.lt_size (N p hp).1)) (by show IsRangeIter _ _ _ _ _; rw [hn]; simpa using Heap.get?_push_size _ rfl) (F.keeps (up _)) (N.grown (up _)) J h0 ?_ fin
  rintro i v m₁ news₁ oI h tk hi ⟨t, rfl⟩ hJ off F₁ N₁
  exact step i t m₁ news₁ _ oI h tk hi hJ off F₁ N₁
/-- a loop over a list of the ledger that stays in it -/
theorem loop_list {D : Addr} {vs : List Value} {oD : Obj} (hc : oD.cls = .type "list") (hd : ∃ k, oD.data = .seq vs.toArray k) (hh : A.handled = none) (F : Fr h₀ env.locals s.heap m) (N : News h₀ env.locals s.heap news) (hDm : (D, oD) ∈ news)
    (J : Nat → (Str → Option Value) → List (Addr × Obj) → Prop) (hJ : ∀ i m news, J i m news → (D, oD) ∈ news) (h0 : J 0 m news)
    (step : ∀ i v m₁ news₁ I oI h tk, vs[i]? = some v → J i m₁ news₁ → (∀ p ∈ news₁, p.1 ≠ I) → Fr h₀ env.locals h (fun y => if y = x then some v else m₁ y) → News h₀ env.locals h ((I, oI) :: news₁) →
      wpAny (model prog w) A (execs body env) (TurnEnd h₀ env.locals I oI (J (i + 1)) { s with heap := h, toks := tk } (fun v s' => Q (.ret v) s') fun s' => Q .next s') E { s with heap := h, toks := tk })
    (fin : ∀ h' tk m' news', Fr h₀ env.locals h' m' → News h₀ env.locals h' news' → J vs.length m' news' → Q .next { s with heap := h', toks := tk }) :
    wpAny (model prog w) A (pyIter (.ref D)) (fun it s₂ => LoopAtV prog w A h₀ env x body Q E it s₂) E s := by
  obtain ⟨k, hd⟩ := hd
  have hl : s.heap.IsList D vs.toArray := ⟨oD, (N _ hDm).1, hc, k, hd⟩
  have hlt : D < s.heap.objs.size := Heap.lt_size (N _ hDm).1
  refine wpAny_pyIter_list hl ?_
  have up : ∀ (o : Obj) b o', s.heap.get? b = some o' → (s.heap.push o).get? b = some o' := fun o b o' e => Heap.get?_push_of_some _ e
  generalize hI : s.heap.objs.size = I at *
  have hIN : ∀ p ∈ news, p.1 ≠ I := fun p hp => Nat.ne_of_lt (hI ▸ Heap.lt_size (N p hp).1)
  have hI₀ : h₀.get? I = none := hI ▸ next_is_new F
  have hIL : env.locals ≠ I := Nat.ne_of_lt (hI ▸ F.ns.lt)
  have hW := Walks.list (prog := prog) (w := w) hh I D (Nat.ne_of_lt hlt) vs.toArray
  have hst : (s.heap.push { cls := .type "list_iterator", data := .fields #[.ref D, .int 0 0] }).IsListIter I D 0 ∧ (s.heap.push { cls := .type "list_iterator", data := .fields #[.ref D, .int 0 0] }).IsList D vs.toArray := ⟨⟨_, hI ▸ Heap.get?_push_size _ rfl, rfl, rfl⟩, hl.push _⟩
  refine ⟨I, [I, D], [I], vs.toArray.size, _, _, m, news, J, rfl, hW, ?_, by simpa using hI₀, fun p hp => by simpa using hIN p hp, hst, F.keeps (up _), N.grown (up _), h0, ?_, fun h' tk m' news' F' N' _ hj => fin h' tk m' news' F' N' (by simpa using hj)⟩
  · simp only [List.mem_cons, List.not_mem_nil, or_false, not_or]
    exact ⟨hIL, Ne.symm (N _ hDm).2.1⟩
  rintro i v m₁ news₁ s₁ own ⟨h, tk, rfl⟩ hi hP hj off₁ own1 own2 own3 st F₁ N₁
  have off₂ : ∀ p ∈ news₁, p.1 ≠ I := fun p hp => by simpa using off₁ p hp
  obtain ⟨⟨oI, hIo, -⟩, -⟩ := st
  have N₂ : News h₀ env.locals h ((I, oI) :: news₁) := fun p hp => by
    rcases List.mem_cons.mp hp with rfl | hp
    · exact N₁ _ (List.mem_append_left _ (own3 I (by simp) hI₀ oI hIo))
    · exact N₁ p (List.mem_append_right _ hp)
  have hDh : h.get? D = some oD := (N₂ _ (.tail _ (hJ _ _ _ hj))).1
  have ownI : ∀ p ∈ own, p = (I, oI) ∨ p = (D, oD) := fun p hp => by
    have e1 := own1 p hp
    have e2 := own2 p hp
    simp only [List.mem_cons, List.not_mem_nil, or_false] at e1
    obtain ⟨p1, p2⟩ := p
    rcases e1 with rfl | rfl
    · left
      have := hIo.symm.trans e2
      cases this; rfl
    · right
      have := hDh.symm.trans e2
      cases this; rfl
  refine wpAny_mono (step i v m₁ news₁ I oI h tk (by simpa using hP) hj off₂ F₁ N₂) (fun f s₃ hf => ?_) fun _ _ e => e
  have go : (∃ h' tk' m₂ news₂, s₃ = { ({ s with heap := h, toks := tk } : Shared) with heap := h', toks := tk' } ∧ Fr h₀ env.locals h' m₂ ∧ News h₀ env.locals h' ((I, oI) :: news₂) ∧ (∀ p ∈ news₂, p.1 ≠ I) ∧ J (i + 1) m₂ news₂) → LoopStepU h₀ env.locals [I] own (J (i + 1)) { s with heap := h, toks := tk } .next s₃ := by
    rintro ⟨h', tk', m₂, news₂, rfl, F₃, N₃, off₃, hJ₃⟩
    refine ⟨rfl, h', tk', m₂, news₂, rfl, F₃, fun p hp => ?_, fun p hp => by simpa using off₃ p hp, hJ₃⟩
    rcases List.mem_append.mp hp with hp | hp
    · rcases ownI p hp with rfl | rfl
      · exact N₃ _ (.head _)
      · exact N₃ _ (.tail _ (hJ _ _ _ hJ₃))
    · exact N₃ p (.tail _ hp)
  cases f with
  | ret v => exact hf
  | brk => exact hf
  | cont => exact go hf
  | next => exact go hf
end
end Mine
end
section
open PySem PySem.W PyProof.Rows
set_option Elab.async false
set_option maxRecDepth 100000
set_option maxHeartbeats 8000000
namespace Mine
local macro_rules | `(tactic| walk_at "call ref") => `(tactic| refine halt ?_)
local macro_rules | `(tactic| walk_at "binaryOp Add ref ref") => `(tactic| refine halt ?_)
local macro_rules | `(tactic| walk_at "compareOp Eq ref ref") => `(tactic| refine halt ?_)
local macro_rules | `(tactic| k_mem) => `(tactic| first | with_reducible assumption | exact List.Mem.head _ | (refine' List.Mem.tail _ ?_; k_mem))
theorem len_N {prog : Program} {w : World} {A : Around} {E : Value → Shared → Prop} {s : Shared} {h₀ : Heap} {L : Addr} {news : List (Addr × Obj)} {l : Addr} {its : Array Value} {k n : Nat} {Q : Value → Shared → Prop}
    (N : News h₀ L s.heap news) (hm : (l, listOf its k) ∈ news) (hs : its.size = n) (hf : n ≤ 1000000) (h : ∀ t tk, Q (.int ((n : Nat) : Int) t) { s with toks := tk }) : wpAny (model prog w) A (call (.builtin "len") [.ref l]) Q E s :=
  PySem.Calls.call_len_list (items := its) ⟨_, (N _ hm).1, rfl, _, rfl⟩ (by rw [hs]; omega) (by subst hs; exact h _ _)
local macro_rules | `(tactic| walk_at "call builtin:len") => `(tactic| (k_here; k_dflt (refine' len_N ?k1 ?k2 ?k3 ?k4 ?_; (case k1 => k_asm); (case k2 => k_mem); (case k3 => assumption); (case k4 => assumption); (intro t9 tk9; (try dsimp only)))))
theorem eqGives_str (c : Str) (t u : Tok) : PySem.MeetsSeq.EqGives (.str c t) (.str c u) true := by
  have h := PySem.SeqRoads2.EqGives.str c c t u
  rw [beq_self_eq_true] at h
  exact h
theorem same_items {isEnd : Value → Prop} {ts : List Str} {vs tvs : List Value} {ev : Value} (hts : StrsAre tvs ts) (hev : isEnd ev) (hEnd : ∀ v u, isEnd v → isEnd u → PySem.MeetsSeq.EqGives v u true)
    (hvl : vs.length = ts.length + 2) (hvs : ∀ i v, vs[i]? = some v → tokIs isEnd (ts.drop i) v) (j : Nat) (h1 : j < vs.toArray.size) (h2 : j < (tvs ++ [ev, ev]).toArray.size) :
    PySem.MeetsSeq.EqGives (vs.toArray[j]) ((tvs ++ [ev, ev]).toArray[j]) true := by
  have hv := hvs j vs.toArray[j] (by simp at h1 ⊢)
  have htl := hts.length
  by_cases hj : j < ts.length
  · rw [List.drop_eq_getElem_cons hj] at hv
    obtain ⟨t, hv⟩ := hv
    obtain ⟨u, hu⟩ := hts.get j ts[j] (List.getElem?_eq_getElem hj)
    have : (tvs ++ [ev, ev]).toArray[j] = .str ts[j] u := by
      obtain ⟨hk, e⟩ := List.getElem?_eq_some_iff.mp hu
      rw [← e]
      simp only [List.getElem_toArray]
      exact List.getElem_append_left hk
    rw [hv, this]
    exact eqGives_str _ _ _
  · rw [List.drop_eq_nil_of_le (by omega)] at hv
    have : (tvs ++ [ev, ev]).toArray[j] = ev := by
      simp only [List.getElem_toArray]
      rw [List.getElem_append_right (by omega)]
      have hb : j - tvs.length < 2 := by simp at h1; omega
      rcases Nat.lt_or_ge (j - tvs.length) 1 with h | h
      · simp [show j - tvs.length = 0 by omega]
      · simp [show j - tvs.length = 1 by omega]
    rw [this]
    exact hEnd _ _ hv hev
theorem all_true (n : Nat) : ((List.range n).all fun _ => true) = true := by simp
theorem c_same (w : World) (x dx : Addr) (as : List Addr) (isEnd : Value → Prop) (Own : List Str → List (Addr × Obj) → Prop) (LX : Lexer w x dx as isEnd Own) (ts : List Str) (own rest : List (Addr × Obj)) (hO : Own ts own) (hr : ∀ p ∈ rest, p.1 ∉ as) (hlen : ts.length ≤ 100)
    (tl : Addr) (tvs : List Value) (k : Nat) (htl : (tl, listOf tvs.toArray k) ∈ rest) (hts : StrsAre tvs ts) (ev : Value) (hev : isEnd ev) (hEnd : ∀ v u, isEnd v → isEnd u → PySem.MeetsSeq.EqGives v u true) :
    Called w 895 [.ref x, .ref tl, ev] (own ++ rest) 14 (fun h₀ L m s Q => ∀ own' h' tk', Own [] own' → Fr h₀ L h' m → News h₀ L h' (own' ++ rest) → Q (.bool true) { s with heap := h', toks := tk' }) := by
  dsimp only [Called, thePg]
  k_fill
  intros
  rename_i hret
  have htl1 : (tl, listOf tvs.toArray k) ∈ own ++ rest := List.mem_append_right _ htl
  have hsl : tvs.toArray.size = ts.length := by rw [List.size_toArray, hts.length]
  have hsb : ts.length ≤ 1000000 := by omega
  have hfit2 : tvs.toArray.size + (#[ev, ev] : Array Value).size ≤ sizeLine := by
    have : sizeLine = 16777216 := by decide
    rw [hsl]
    show ts.length + 2 ≤ sizeLine
    omega
  refine wpAny_call ?_
  k_dflt (refine' code_def (binds := [(Str.ofString "lexer", .ref x), (Str.ofString "tokens", .ref tl), (Str.ofString "end", ev)]) ?k1 ?k2 ?k3 ?k4 ?k5 ?kA ?kF ?kK ?k6 ?k7 ?k8 ?k9 ?kB ?_ ?c2 ?c3 ?c4 ?c5; (case kA => exact rfl); (case kF => exact rfl); (case kK => assumption); (case k1 => k_asm); (case k2 => k_asm); (case k3 => k_asm); (case k4 => k_asm); (case k5 => k_asm); (case k6 => k_is); (case k7 => k_is); (case k8 => ktr_room); (case k9 => exact BindsTo.of_eq rfl); (case c5 => decide); (case kB => exact locs rfl); (case c2 => exact rfl); (case c3 => exact rfl); (case c4 => exact rfl); k_whole; intro g' L' h' FG' F' N' B' X' T'; (try dsimp only))
  refine let_all ?_
  intro v9 Q9 E9
  k_steps
  with_reducible rename Fr _ _ _ _ => F9
  with_reducible rename News _ _ _ _ => N9
  with_reducible rename Below _ _ _ _ => B9
  with_reducible rename Frag.In _ _ => X9
  with_reducible rename Top _ _ _ _ _ _ => T9
  refine halt' ?_
  refine c_lawRead w x dx as isEnd Own LX ts own rest hO hr _ (ts.length + 2) rfl hlen _ _ _ _ _ _ _ _ _ _ _ _ _ _ _ _ _ _ _ _ _ B9 F9 X9 N9 T9 rfl (by ktr_room) (by ktr_units) ?_
  intro D vs own2 h9 tk9 hvl hvs hO2 hD F8 N8
  have htl2 : (tl, listOf tvs.toArray k) ∈ own2 ++ rest := List.mem_append_right _ htl
  clear N9
  k_steps
  with_reducible rename Fr _ _ _ _ => F7
  with_reducible rename News _ _ _ _ => N7
  refine halt' ?_
  refine add_arrays F7 N7 (its := tvs.toArray) (its2 := #[ev, ev]) ⟨_, (N7 _ (.tail _ (.tail _ htl2))).1, rfl, _, rfl⟩ ⟨_, (N7 _ (.head _)).1, rfl, _, rfl⟩ ?_ hfit2
  intro h6 F6 N6
  dsimp only
  refine PySem.SeqAt.eq_listAt (items := vs.toArray) (items2 := (tvs ++ [ev, ev]).toArray) (e := fun _ => true) ⟨_, (N6 _ (.tail _ (.tail _ (.head _)))).1, rfl, _, rfl⟩ ⟨_, (N6 _ (.head _)).1, rfl, _, rfl⟩ ?_ ?_ (fun j h1 h2 => (same_items hts hev hEnd hvl hvs j h1 h2).at _ _) ?_
  · simp [hvl, hts.length]
  · ktr_units
  · rw [all_true]
    k_steps
    with_reducible rename Fr _ _ _ _ => F5
    with_reducible rename News _ _ _ _ => N5
    exact hret own2 _ _ hO2 F5 (fun p hp => N5 p (.tail _ (.tail _ (.tail _ hp))))
end Mine
end
example {M : Model} {A : Around} {E : Value → Shared → Prop} {s : Shared} {env : Env} {p : Pos} {Q : Flow → Shared → Prop} (h : wpAny M A (exec (.Pass p) env) Q E s) : wpAny M A (exec (.Pass p) env) Q E s := by first | (walk1; fail) | exact h
section
open PySem PySem.W PyProof.Rows
set_option Elab.async false
set_option maxRecDepth 100000
set_option maxHeartbeats 4000000
namespace Mine
structure PartOk (n : Int) (x : Str) : Prop where
  len : x.length = 10
  pos : ∀ k, k < 9 → 0 ≤ toldAt x k
  e1 : (Builtin.bitAnd n 61440 != Int.fmod (Int.fdiv n 4096) 16 * 4096) = false
  e2 : (Builtin.bitAnd n 4095 != Int.fmod n 4096) = false
  e3 : (Txt.slice x none (some 1) == Txt.item kindS (Int.fmod (Int.fdiv n 4096) 16)) = true
local macro_rules | `(tactic| walk_at "pyIter ref") => `(tactic| refine halt ?_)
local macro_rules | `(tactic| k_mem) => `(tactic| first | with_reducible assumption | exact List.Mem.head _ | (refine' List.Mem.tail _ ?_; k_mem))
local macro_rules | `(tactic| walk_at "call builtin:len") => `(tactic| (k_here; k_dflt (refine' len_N ?k1 ?k2 ?k3 ?k4 ?_; (case k1 => k_asm); (case k2 => k_mem); (case k3 => assumption); (case k4 => assumption); (intro t9 tk9; (try dsimp only)))))
theorem c_allp (w : World) (ml ll : Addr) (ms ls : List Value) (k1 k2 : Nat) (modes : List Int) (xs : List Str) (news : List (Addr × Obj)) (m1 : (ml, listOf ms.toArray k1) ∈ news) (m2 : (ll, listOf ls.toArray k2) ∈ news) (hms : IntsAre ms modes) (hls : StrsAre ls xs) (hlen : modes.length = xs.length) (hle : modes.length ≤ 100)
   (hok : ∀ (i : Nat) n x, modes[i]? = some n → xs[i]? = some x → PartOk n x) : Called w 850 [.ref ml, .ref ll] news 8 (RetV news fun t => .bool true) := by
  have hs1 : ms.toArray.size = modes.length := by rw [List.size_toArray, hms.length]
  have hs2 : modes.length ≤ 1000000 := by omega
  have hsz := range_size modes.length
  have hsm := range_small (n := modes.length) (by omega)
  dsimp only [Called, RetV, thePg]
  k_fill
  intros
  rename_i hret
  refine wpAny_call ?_
  k_dflt (refine' code_def (binds := [(Str.ofString "modes", .ref ml), (Str.ofString "listings", .ref ll)]) ?k1 ?k2 ?k3 ?k4 ?k5 ?kA ?kF ?kK ?k6 ?k7 ?k8 ?k9 ?kB ?_ ?c2 ?c3 ?c4 ?c5; (case kA => exact rfl); (case kF => exact rfl); (case kK => assumption); (case k1 => k_asm); (case k2 => k_asm); (case k3 => k_asm); (case k4 => k_asm); (case k5 => k_asm); (case k6 => k_is); (case k7 => k_is); (case k8 => ktr_room); (case k9 => first | exact BindsTo.of_eq rfl | exact binds_K (by k_in) rfl (by k_is) rfl rfl rfl); (case c5 => decide); (case kB => exact locs rfl); (case c2 => exact rfl); (case c3 => exact rfl); (case c4 => exact rfl); k_whole; intro g' L' h' FG' F' N' B' X' T'; (try dsimp only))
  refine let_all ?_
  intro v9 Q9 E9
  have st1 : Stop 843 := stop
  k_steps
  with_reducible rename Fr _ _ _ _ => F9
  with_reducible rename News _ _ _ _ => N9
  with_reducible rename Below _ _ _ _ => B9
  with_reducible rename Frag.In _ _ => X9
  with_reducible rename Top _ _ _ _ _ _ => T9
  with_reducible rename IsRange _ _ _ _ _ _ _ _ => R9
  rw [frX_none (x := Str.ofString "k") (m := fun y => List.lookup y [(Str.ofString "modes", Value.ref ml), (Str.ofString "listings", Value.ref ll)].reverse) (by rfl)] at F9
  refine halt' (loop_range R9 hsm hsz rfl F9 N9 (fun i m news' => news' = news ∧ ∃ v, m = frX (Str.ofString "k") v (fun y => List.lookup y [(Str.ofString "modes", Value.ref ml), (Str.ofString "listings", Value.ref ll)].reverse)) ⟨rfl, _, rfl⟩ ?step ?fin)
  case step =>
    rintro i u m₁ news₁ I oI h tk hi ⟨rfl, v, rfl⟩ off F N
    rw [frX_set] at F
    have m1 : (ml, listOf ms.toArray k1) ∈ (I, oI) :: news₁ := .tail _ m1
    have m2 : (ll, listOf ls.toArray k2) ∈ (I, oI) :: news₁ := .tail _ m2
    unfold frX at F
    rw [show (0 + (i : Int) * 1) = (i : Int) by omega] at F
    obtain ⟨n, hn⟩ : ∃ n, modes[i]? = some n := ⟨_, List.getElem?_eq_getElem hi⟩
    obtain ⟨x, hx⟩ : ∃ x, xs[i]? = some x := ⟨_, List.getElem?_eq_getElem (by omega)⟩
    have ok := hok i n x hn hx
    obtain ⟨tx, hlx⟩ := hls.get i x hx
    have hgd : modes.getD ((i : Nat) : Int).toNat 0 = n := by rw [Int.toNat_natCast, List.getD_eq_getElem?_getD, hn]; rfl
    clear R9 F9 N9
    k_steps
    refine' list_itemN N ?ma ?mb ?mc ?md ?_
    case ma => k_mem
    case mb => omega
    case mc => omega
    case md => rw [Int.toNat_natCast]; exact hlx
    k_steps
    rw [hgd]
    with_reducible rename Below _ _ _ _ => B9
    with_reducible rename Frag.In _ _ => X9
    with_reducible rename Top _ _ _ _ _ _ => T9
    refine halt' ?_
    refine c_part w n x _ _ _ ok.len ok.pos ok.e1 ok.e2 ok.e3 _ _ _ _ _ _ _ _ _ _ _ _ _ _ _ _ _ _ _ _ _ B9 F X9 N T9 rfl (by ktr_room) (by ktr_units) ?_
    intro t9 h9 tk9 F9 N9
    k_steps
    with_reducible rename Fr _ _ _ _ => F8
    with_reducible rename News _ _ _ _ => N8
    exact halt' ⟨_, _, _, news₁, rfl, F8, N8, off, rfl, _, rfl⟩
  case fin =>
    rintro h' tk m' news' F N ⟨rfl, v, rfl⟩
    unfold frX at F
    clear R9 F9 N9
    k_steps
    exact hret 0 _ _ (by k_asm) (by k_asm)
end Mine
end
example {M : Model} {A : Around} {E : Value → Shared → Prop} {s : Shared} {env : Env} {p : Pos} {Q : Flow → Shared → Prop} (h : wpAny M A (exec (.Pass p) env) Q E s) : wpAny M A (exec (.Pass p) env) Q E s := by first | (walk1; fail) | exact h
section
open PySem PySem.W PyProof.Rows
set_option maxRecDepth 100000
namespace Mine
-- texts of single signs
noncomputable def hdS (s : Str) : Nat := s.cps.toList.headD 0
theorem one_hd {s : Str} (h : s.length = 1) : s = ⟨#[hdS s]⟩ := by
  obtain ⟨⟨l⟩⟩ := s
  match l, h with
  | [c], _ => rfl
theorem join_cps : ∀ (l : List Str), (Str.join (Str.ofString "") l).cps.toList = l.flatMap (·.cps.toList)
  | [] => rfl
  | [x] => by show x.cps.toList = [x].flatMap _; simp
  | x :: y :: r => by
    show (x ++ Str.ofString "" ++ Str.join (Str.ofString "") (y :: r)).cps.toList = _
    have e : ∀ a b : Str, (a ++ b).cps.toList = a.cps.toList ++ b.cps.toList := fun a b => by show (a.cps ++ b.cps).toList = _; simp
    rw [e, e, join_cps (y :: r)]
    show x.cps.toList ++ [] ++ _ = _
    simp
theorem flat_ones : ∀ {l : List Str}, (∀ s ∈ l, s.length = 1) → l.flatMap (·.cps.toList) = l.map hdS
  | [], _ => rfl
  | x :: r, h => by
    rw [List.flatMap_cons, List.map_cons, flat_ones fun s hs => h s (.tail _ hs)]
    have e := one_hd (h x (.head _))
    have e2 : x.cps.toList = [hdS x] := by
      have := congrArg (fun s : Str => s.cps.toList) e
      exact this
    rw [e2]; rfl
theorem join_ones {l : List Str} (h : ∀ s ∈ l, s.length = 1) : Txt.join (Str.ofString "") l = ⟨(l.map hdS).toArray⟩ := by
  have e : (Txt.join (Str.ofString "") l).cps.toList = l.map hdS := by
    show (PySem.Builtin.Str.glued (Str.ofString "") l).cps.toList = _
    rw [StrLaws.glued_eq_join, join_cps, flat_ones h]
  obtain ⟨⟨k⟩⟩ : ∃ z, z = Txt.join (Str.ofString "") l := ⟨_, rfl⟩
  generalize Txt.join (Str.ofString "") l = z at e
  obtain ⟨⟨k⟩⟩ := z
  have : k = l.map hdS := e
  rw [this]
theorem item_at {cs : List Nat} {i : Nat} (hi : i < cs.length) : Txt.item ⟨cs.toArray⟩ (i : Int) = ⟨#[cs[i]]⟩ := by
  unfold Txt.item Txt.charAt
  have e : seqIndex? (i : Int) (Str.mk cs.toArray).length = some i := by
    unfold seqIndex?
    have : (Str.mk cs.toArray).length = cs.length := rfl
    rw [this]
    simp
    omega
  rw [e]
  show Str.mk #[(cs.toArray[i]?).getD 0] = _
  simp [hi]
theorem item_join {l : List Str} (h : ∀ s ∈ l, s.length = 1) {i : Nat} (hi : i < l.length) : Txt.item (Txt.join (Str.ofString "") l) (i : Int) = l[i] := by
  rw [join_ones h, item_at (by simpa using hi)]
  simp only [List.getElem_map]
  exact (one_hd (h _ (List.getElem_mem hi))).symm
-- filemode's signs by the bits
theorem fm_item (m : Int) (i : Nat) (hi : i < 10) : Txt.item (fmText m) (i : Int) = sgn m i := by
  unfold fmText
  rw [item_join (fun s hs => by obtain ⟨k, _, rfl⟩ := List.mem_map.mp hs; exact sgn_len m k) (by simpa using hi)]
  simp
theorem fm_len (m : Int) : (fmText m).length = 10 := by
  unfold fmText
  rw [join_ones (fun s hs => by obtain ⟨k, _, rfl⟩ := List.mem_map.mp hs; exact sgn_len m k)]
  simp [Str.length]
theorem and_pow (a j : Nat) : a &&& 2 ^ j = if a.testBit j then 2 ^ j else 0 := by
  apply Nat.eq_of_testBit_eq
  intro i
  rw [Nat.testBit_and, Nat.testBit_two_pow]
  by_cases e : j = i
  · subst e
    cases h : a.testBit j <;> simp
  · cases h : a.testBit j <;> simp [Nat.testBit_two_pow, e]
theorem hit_one (i : Nat) (h : i ≠ 0) (a j b : Nat) (e : b = 2 ^ j) : hit i (a : Int) (b : Int) = a.testBit j := by
  unfold hit
  rw [if_neg h, bitAnd_nat, e, and_pow]
  cases ht : a.testBit j with
  | true => simp
  | false =>
    have h2 : (2 : Nat) ^ j ≠ 0 := Nat.ne_of_gt (Nat.two_pow_pos j)
    show (((0 : Nat) : Int) == ((2 ^ j : Nat) : Int)) = false
    exact beq_eq_false_iff_ne.mpr fun e => h2 (Int.ofNat.inj e).symm
theorem hit_two (i : Nat) (h : i ≠ 0) (a p q b : Nat) (hpq : p ≠ q) (e : b = 2 ^ p ||| 2 ^ q) : hit i (a : Int) (b : Int) = (a.testBit p && a.testBit q) := by
  unfold hit
  rw [if_neg h, bitAnd_nat, Bool.eq_iff_iff]
  have e1 : ((((a &&& b : Nat) : Int) == (b : Int)) = true) ↔ a &&& b = b := by
    rw [beq_iff_eq]
    exact ⟨fun z => Int.ofNat.inj z, fun z => by rw [z]⟩
  rw [e1]
  constructor
  · intro z
    have tp : (a &&& b).testBit p = b.testBit p := by rw [z]
    have tq : (a &&& b).testBit q = b.testBit q := by rw [z]
    rw [Nat.testBit_and, e, Nat.testBit_or, Nat.testBit_two_pow_self] at tp tq
    simp at tp tq
    simp [tp, tq]
  · intro z
    simp only [Bool.and_eq_true] at z
    rw [e, Nat.and_or_distrib_left, and_pow, and_pow, z.1, z.2]
    simp
theorem sgn_two (i : Nat) (h : i ≠ 0) (a j b : Nat) (c : Str) (e : b = 2 ^ j) : sgnOf i (a : Int) [((b : Int), c)] = if a.testBit j then c else Str.ofString "-" := by
  unfold sgnOf
  rw [List.find?_cons]
  simp only [hit_one i h a j b e]
  cases a.testBit j <;> simp [h]
theorem sgn_four (i : Nat) (h : i ≠ 0) (a p q b b1 b2 : Nat) (s S x : Str) (hpq : p ≠ q) (e : b = 2 ^ p ||| 2 ^ q) (e1 : b1 = 2 ^ q) (e2 : b2 = 2 ^ p) :
    sgnOf i (a : Int) [((b : Int), s), ((b1 : Int), S), ((b2 : Int), x)] = if a.testBit q then (if a.testBit p then s else S) else (if a.testBit p then x else Str.ofString "-") := by
  unfold sgnOf
  rw [List.find?_cons, List.find?_cons, List.find?_cons]
  simp only [hit_two i h a p q b hpq e, hit_one i h a q b1 e1, hit_one i h a p b2 e2]
  cases a.testBit p <;> cases a.testBit q <;> simp [h]
noncomputable def bit (a j : Nat) : Int := if a.testBit j then 1 else 0
theorem told_r (a k j : Nat) (hk : k < 9) (b : Nat) (c : String) (e : b = 2 ^ j) (ht : tabL.getD (k + 1) [] = [((b : Int), Str.ofString c)]) (hp : Txt.find (placeL.getD k (Str.ofString "")) (Str.ofString c) = 1) (h0 : Txt.find (placeL.getD k (Str.ofString "")) (Str.ofString "-") = 0) :
    toldAt (fmText (a : Int)) k = bit a j := by
  unfold toldAt
  rw [show ((k : Int) + 1) = ((k + 1 : Nat) : Int) from rfl, fm_item _ _ (by omega)]
  unfold sgn
  rw [ht, sgn_two (k + 1) (by omega) a j b _ e]
  unfold bit
  split
  · exact hp
  · exact h0
theorem told_x (a k p q : Nat) (hk : k < 9) (b b1 b2 : Nat) (s S x : String) (hpq : p ≠ q) (e : b = 2 ^ p ||| 2 ^ q) (e1 : b1 = 2 ^ q) (e2 : b2 = 2 ^ p) (ht : tabL.getD (k + 1) [] = [((b : Int), Str.ofString s), ((b1 : Int), Str.ofString S), ((b2 : Int), Str.ofString x)])
    (h3 : Txt.find (placeL.getD k (Str.ofString "")) (Str.ofString s) = 3) (h2 : Txt.find (placeL.getD k (Str.ofString "")) (Str.ofString S) = 2) (h1 : Txt.find (placeL.getD k (Str.ofString "")) (Str.ofString x) = 1) (h0 : Txt.find (placeL.getD k (Str.ofString "")) (Str.ofString "-") = 0) :
    toldAt (fmText (a : Int)) k = bit a q * 2 + bit a p := by
  unfold toldAt
  rw [show ((k : Int) + 1) = ((k + 1 : Nat) : Int) from rfl, fm_item _ _ (by omega)]
  unfold sgn
  rw [ht, sgn_four (k + 1) (by omega) a p q b b1 b2 _ _ _ hpq e e1 e2]
  unfold bit
  cases a.testBit p <;> cases a.testBit q <;> simp only [if_true, if_false, Bool.false_eq_true]
  · exact h0
  · exact h2
  · exact h1
  · exact h3
theorem told0 (a : Nat) : toldAt (fmText (a : Int)) 0 = bit a 8 := told_r a 0 8 (by decide) 256 "r" (by decide) (by rfl) (by decide +kernel) (by decide +kernel)
theorem told1 (a : Nat) : toldAt (fmText (a : Int)) 1 = bit a 7 := told_r a 1 7 (by decide) 128 "w" (by decide) (by rfl) (by decide +kernel) (by decide +kernel)
theorem told2 (a : Nat) : toldAt (fmText (a : Int)) 2 = bit a 11 * 2 + bit a 6 := told_x a 2 6 11 (by decide) 2112 2048 64 "s" "S" "x" (by decide) (by decide) (by decide) (by decide) (by rfl) (by decide +kernel) (by decide +kernel) (by decide +kernel) (by decide +kernel)
theorem told3 (a : Nat) : toldAt (fmText (a : Int)) 3 = bit a 5 := told_r a 3 5 (by decide) 32 "r" (by decide) (by rfl) (by decide +kernel) (by decide +kernel)
theorem told4 (a : Nat) : toldAt (fmText (a : Int)) 4 = bit a 4 := told_r a 4 4 (by decide) 16 "w" (by decide) (by rfl) (by decide +kernel) (by decide +kernel)
theorem told5 (a : Nat) : toldAt (fmText (a : Int)) 5 = bit a 10 * 2 + bit a 3 := told_x a 5 3 10 (by decide) 1032 1024 8 "s" "S" "x" (by decide) (by decide) (by decide) (by decide) (by rfl) (by decide +kernel) (by decide +kernel) (by decide +kernel) (by decide +kernel)
theorem told6 (a : Nat) : toldAt (fmText (a : Int)) 6 = bit a 2 := told_r a 6 2 (by decide) 4 "r" (by decide) (by rfl) (by decide +kernel) (by decide +kernel)
theorem told7 (a : Nat) : toldAt (fmText (a : Int)) 7 = bit a 1 := told_r a 7 1 (by decide) 2 "w" (by decide) (by rfl) (by decide +kernel) (by decide +kernel)
theorem told8 (a : Nat) : toldAt (fmText (a : Int)) 8 = bit a 9 * 2 + bit a 0 := told_x a 8 0 9 (by decide) 513 512 1 "t" "T" "x" (by decide) (by decide) (by decide) (by decide) (by rfl) (by decide +kernel) (by decide +kernel) (by decide +kernel) (by decide +kernel)
theorem bit_eq (a j p : Nat) (h : 2 ^ j = p) : bit a j = ((a / p % 2 : Nat) : Int) := by
  unfold bit
  rw [Nat.testBit_eq_decide_div_mod_eq, h]
  by_cases e : a / p % 2 = 1
  · rw [e]; simp
  · have : a / p % 2 = 0 := by omega
    rw [this]; simp
theorem bit_01 (a j : Nat) : bit a j = 0 ∨ bit a j = 1 := by
  unfold bit
  split <;> simp
theorem told_pos (a : Nat) : ∀ k, k < 9 → 0 ≤ toldAt (fmText (a : Int)) k := by
  intro k hk
  have b := bit_01 a
  match k, hk with
  | 0, _ => rw [told0]; rcases b 8 with h | h <;> rw [h] <;> decide
  | 1, _ => rw [told1]; rcases b 7 with h | h <;> rw [h] <;> decide
  | 2, _ => rw [told2]; rcases b 11 with h | h <;> rcases b 6 with h' | h' <;> rw [h, h'] <;> decide
  | 3, _ => rw [told3]; rcases b 5 with h | h <;> rw [h] <;> decide
  | 4, _ => rw [told4]; rcases b 4 with h | h <;> rw [h] <;> decide
  | 5, _ => rw [told5]; rcases b 10 with h | h <;> rcases b 3 with h' | h' <;> rw [h, h'] <;> decide
  | 6, _ => rw [told6]; rcases b 2 with h | h <;> rw [h] <;> decide
  | 7, _ => rw [told7]; rcases b 1 with h | h <;> rw [h] <;> decide
  | 8, _ => rw [told8]; rcases b 9 with h | h <;> rcases b 0 with h' | h' <;> rw [h, h'] <;> decide
theorem half_bit (x y : Int) (hx : x = 0 ∨ x = 1) (hy : y = 0 ∨ y = 1) : Int.fdiv (x * 2 + y) 2 = x ∧ Int.fmod (x * 2 + y) 2 = y := by
  rcases hx with rfl | rfl <;> rcases hy with rfl | rfl <;> decide
theorem bit_at (a j q p : Nat) (h : 2 ^ j = q * p) : bit a j = ((a / q / p % 2 : Nat) : Int) := by
  rw [bit_eq a j (q * p) h, Nat.div_div_eq_div_mul]
theorem dig (x p q : Nat) : x / p % 2 = x % (p * (2 * q)) / p % 2 := by
  rw [Nat.mod_mul_right_div_self, Nat.mod_mul_right_mod]
theorem six_low : ∀ y, y < 64 → (y / 32 % 2 * 4 + y / 16 % 2 * 2 + y / 8 % 2) * 8 + (y / 4 % 2 * 4 + y / 2 % 2 * 2 + y / 1 % 2) = y := by decide
theorem six (x : Nat) : (x / 32 % 2 * 4 + x / 16 % 2 * 2 + x / 8 % 2) * 8 + (x / 4 % 2 * 4 + x / 2 % 2 * 2 + x / 1 % 2) = x % 64 := by
  rw [dig x 32 1, dig x 16 2, dig x 8 4, dig x 4 8, dig x 2 16, dig x 1 32]
  exact six_low _ (Nat.mod_lt _ (by decide))
theorem fig0_eq (a : Nat) : fig0 (fmText (a : Int)) = ((a / 64 % 64 : Nat) : Int) := by
  unfold fig0
  have b := bit_01 a
  have h2 := half_bit _ _ (b 11) (b 6)
  have h5 := half_bit _ _ (b 10) (b 3)
  have h8 := half_bit _ _ (b 9) (b 0)
  rw [told0, told1, told2, told5, told8, h2.1, h5.1, h8.1, h2.2, bit_at a 11 64 32 rfl, bit_at a 10 64 16 rfl, bit_at a 9 64 8 rfl, bit_at a 8 64 4 rfl, bit_at a 7 64 2 rfl, bit_at a 6 64 1 rfl]
  exact congrArg Int.ofNat (six (a / 64))
theorem fig1_eq (a : Nat) : fig1 (fmText (a : Int)) = ((a % 64 : Nat) : Int) := by
  unfold fig1
  have b := bit_01 a
  have h5 := half_bit _ _ (b 10) (b 3)
  have h8 := half_bit _ _ (b 9) (b 0)
  rw [told3, told4, told5, told6, told7, told8, h5.2, h8.2, bit_eq a 5 32 rfl, bit_eq a 4 16 rfl, bit_eq a 3 8 rfl, bit_eq a 2 4 rfl, bit_eq a 1 2 rfl, bit_eq a 0 1 rfl]
  exact congrArg Int.ofNat (six a)
end Mine
end
section
open PySem PySem.W PyProof.Rows
set_option maxRecDepth 100000
namespace Mine
theorem mode_nat (n : Int) : ∃ a : Nat, modeOf n = (a : Int) ∧ a < 1048576 := by
  have h : 0 ≤ modeOf n ∧ modeOf n < 1048576 := by
    unfold modeOf
    simp only [Int.fmod_eq_emod_of_nonneg _ (show (0 : Int) ≤ 1048576 by decide), Int.fmod_eq_emod_of_nonneg _ (show (0 : Int) ≤ 4 by decide), Int.fmod_eq_emod_of_nonneg _ (show (0 : Int) ≤ 64 by decide), Int.fdiv_eq_ediv_of_nonneg _ (show (0 : Int) ≤ 16 by decide), Int.fdiv_eq_ediv_of_nonneg _ (show (0 : Int) ≤ 64 by decide), Int.fdiv_eq_ediv_of_nonneg _ (show (0 : Int) ≤ 4 by decide), Int.fdiv_eq_ediv_of_nonneg _ (show (0 : Int) ≤ 4096 by decide)]
    split <;> split <;> omega
  exact ⟨(modeOf n).toNat, (Int.toNat_of_nonneg h.1).symm, by omega⟩
/-- the first sign by the kind -/
noncomputable def kindOf (k : Nat) : Str := match (tabL.getD 0 []).find? fun bc => ((k * 4096 : Nat) : Int) == bc.1 with
  | some bc => bc.2
  | none => Str.ofString "?"
theorem sgn_kind (a : Nat) : sgn (a : Int) 0 = kindOf (a / 4096 % 16) := by
  have h := bitAnd_nat a 61440
  rw [show ((61440 : Nat) : Int) = 61440 from rfl, and_high] at h
  unfold sgn sgnOf kindOf hit
  rw [h]
  rfl
theorem kind_table : ((List.range 16).all fun k => kindOf k == Txt.item kindS (k : Int)) = true := by decide +kernel
theorem slice_head {x : Str} (h : x.length = 10) : Txt.slice x none (some 1) = Txt.item x 0 := by
  obtain ⟨⟨l⟩⟩ := x
  match l, h with
  | [c0, c1, c2, c3, c4, c5, c6, c7, c8, c9], _ => rfl
theorem part_ok (a : Nat) : PartOk (a : Int) (fmText (a : Int)) where
  len := fm_len _
  pos := told_pos a
  e1 := e1_ok a
  e2 := e2_ok a
  e3 := by
    rw [slice_head (fm_len _), show (0 : Int) = ((0 : Nat) : Int) from rfl, fm_item _ _ (by decide), sgn_kind, Int.fdiv_eq_ediv_of_nonneg _ (by omega), Int.fmod_eq_emod_of_nonneg _ (by omega)]
    have := List.all_eq_true.mp kind_table (a / 4096 % 16) (List.mem_range.mpr (Nat.mod_lt _ (by decide)))
    exact this
end Mine
end
section
open PySem PySem.W PyProof.Rows
set_option maxRecDepth 100000
namespace Mine
noncomputable def b64tab : List UInt8 := [65, 66, 67, 68, 69, 70, 71, 72, 73, 74, 75, 76, 77, 78, 79, 80, 81, 82, 83, 84, 85, 86, 87, 88, 89, 90, 97, 98, 99, 100, 101, 102, 103, 104, 105, 106, 107, 108, 109, 110, 111, 112, 113, 114, 115, 116, 117, 118, 119, 120, 121, 122, 48, 49, 50, 51, 52, 53, 54, 55, 56, 57, 43, 47]
noncomputable def sg64 (f : Nat) : Int := ((b64tab.getD f 0).toNat : Int)
theorem sg64_byte (f : Nat) : 0 ≤ sg64 f ∧ sg64 f < 256 := by
  unfold sg64
  have := (b64tab.getD f 0).toNat_lt
  omega
/-- a byte more: the signs so far, the bits left, the last sixteen bits -/
noncomputable def b64step (st : List Int × Nat × Nat) (c : Nat) : List Int × Nat × Nat :=
  if st.2.1 = 0 then (st.1 ++ [sg64 ((st.2.2 % 256 * 256 + c) / 4 % 64)], 2, st.2.2 % 256 * 256 + c)
  else if st.2.1 = 2 then (st.1 ++ [sg64 ((st.2.2 % 256 * 256 + c) / 16 % 64)], 4, st.2.2 % 256 * 256 + c)
  else (st.1 ++ [sg64 ((st.2.2 % 256 * 256 + c) / 64 % 64)] ++ [sg64 ((st.2.2 % 256 * 256 + c) % 64)], 0, st.2.2 % 256 * 256 + c)
noncomputable def b64end (st : List Int × Nat × Nat) : List Int :=
  if st.2.1 = 2 then st.1 ++ [sg64 (st.2.2 % 4 * 16)] ++ [61] ++ [61]
  else if st.2.1 = 4 then st.1 ++ [sg64 (st.2.2 % 16 * 4)] ++ [61]
  else st.1
noncomputable def b64at (bs : List UInt8) (i : Nat) : List Int × Nat × Nat := (bs.take i).foldl (fun st c => b64step st c.toNat) ([], 0, 0)
noncomputable def b64of (bs : List UInt8) : List Int := b64end (b64at bs bs.length)
theorem b64at_succ {bs : List UInt8} {i : Nat} {c : UInt8} (h : bs[i]? = some c) : b64at bs (i + 1) = b64step (b64at bs i) c.toNat := by
  obtain ⟨hi, e⟩ := List.getElem?_eq_some_iff.mp h
  unfold b64at
  rw [List.take_succ_eq_append_getElem hi, List.foldl_append, e]
  rfl
noncomputable def b64ok (i : Nat) (st : List Int × Nat × Nat) : Prop := (st.2.1 = 0 ∨ st.2.1 = 2 ∨ st.2.1 = 4) ∧ st.2.2 ≤ 65535 ∧ st.1.length ≤ 2 * i ∧ ∀ x ∈ st.1, 0 ≤ x ∧ x < 256
theorem b64ok_step {i : Nat} {st : List Int × Nat × Nat} {c : Nat} (hc : c < 256) (h : b64ok i st) : b64ok (i + 1) (b64step st c) := by
  obtain ⟨h1, h2, h3, h4⟩ := h
  have g1 : ∀ (l : List Int) f, (∀ x ∈ l, 0 ≤ x ∧ x < 256) → ∀ x ∈ l ++ [sg64 f], 0 ≤ x ∧ x < 256 := by
    intro l f hl x hx
    rcases List.mem_append.mp hx with hx | hx
    · exact hl x hx
    · rw [List.mem_singleton.mp hx]; exact sg64_byte f
  have d1 : ∀ l : List Int, ∀ f, (l ++ [sg64 f]).length = l.length + 1 := fun l f => by rw [List.length_append]; rfl
  unfold b64step
  rcases h1 with h1 | h1 | h1
  · rw [if_pos h1]
    exact ⟨.inr (.inl rfl), by show _ % 256 * 256 + c ≤ 65535; omega, by rw [d1]; omega, g1 _ _ h4⟩
  · rw [if_neg (by omega), if_pos h1]
    exact ⟨.inr (.inr rfl), by show _ % 256 * 256 + c ≤ 65535; omega, by rw [d1]; omega, g1 _ _ h4⟩
  · rw [if_neg (by omega), if_neg (by omega)]
    exact ⟨.inl rfl, by show _ % 256 * 256 + c ≤ 65535; omega, by rw [d1, d1]; omega, g1 _ _ (g1 _ _ h4)⟩
theorem b64ok_at (bs : List UInt8) : ∀ i, i ≤ bs.length → b64ok i (b64at bs i)
  | 0, _ => ⟨.inl rfl, Nat.zero_le _, Nat.le_refl 0, fun x h => by cases h⟩
  | i + 1, h => by
    rw [b64at_succ (List.getElem?_eq_getElem h)]
    exact b64ok_step (UInt8.toNat_lt _) (b64ok_at bs i (Nat.le_of_succ_le h))
theorem b64of_byte (bs : List UInt8) : ∀ x ∈ b64of bs, 0 ≤ x ∧ x < 256 := by
  have g1 : ∀ (l : List Int) f, (∀ x ∈ l, 0 ≤ x ∧ x < 256) → (0 ≤ f ∧ f < 256) → ∀ x ∈ l ++ [f], 0 ≤ x ∧ x < 256 := by
    intro l f hl hf x hx
    rcases List.mem_append.mp hx with hx | hx
    · exact hl x hx
    · rw [List.mem_singleton.mp hx]; exact hf
  have h := (b64ok_at bs bs.length (Nat.le_refl _)).2.2.2
  unfold b64of b64end
  split
  · exact g1 _ _ (g1 _ _ (g1 _ _ h (sg64_byte _)) (by decide)) (by decide)
  · split
    · exact g1 _ _ (g1 _ _ h (sg64_byte _)) (by decide)
    · exact h
theorem b64of_len (bs : List UInt8) : (b64of bs).length ≤ 2 * bs.length + 3 := by
  have h := (b64ok_at bs bs.length (Nat.le_refl _)).2.2.1
  unfold b64of b64end
  split
  · simp only [List.length_append, List.length_singleton]; omega
  · split
    · simp only [List.length_append, List.length_singleton]; omega
    · omega
theorem step0 {st : List Int × Nat × Nat} {c : Nat} (h : st.2.1 = 0) : b64step st c = (st.1 ++ [sg64 ((st.2.2 % 256 * 256 + c) / 4 % 64)], 2, st.2.2 % 256 * 256 + c) := if_pos h
theorem step2 {st : List Int × Nat × Nat} {c : Nat} (h : st.2.1 = 2) : b64step st c = (st.1 ++ [sg64 ((st.2.2 % 256 * 256 + c) / 16 % 64)], 4, st.2.2 % 256 * 256 + c) := by
  unfold b64step
  rw [if_neg (by omega), if_pos h]
theorem step4 {st : List Int × Nat × Nat} {c : Nat} (h : st.2.1 = 4) : b64step st c = (st.1 ++ [sg64 ((st.2.2 % 256 * 256 + c) / 64 % 64)] ++ [sg64 ((st.2.2 % 256 * 256 + c) % 64)], 0, st.2.2 % 256 * 256 + c) := by
  unfold b64step
  rw [if_neg (by omega), if_neg (by omega)]
-- the walk's words
theorem bitOr_nat (a b : Nat) : Builtin.bitOr (a : Int) (b : Int) = ((a ||| b : Nat) : Int) := by
  unfold Builtin.bitOr Builtin.bitAnd Builtin.bitNot
  have e1 : ¬ (0 ≤ (-(a : Int) - 1)) := by omega
  have e2 : ¬ (0 ≤ (-(b : Int) - 1)) := by omega
  simp only [e1, e2, decide_false]
  have e3 : ∀ n : Nat, (-(-(n : Int) - 1) - 1) = n := fun n => by omega
  simp only [e3, Int.toNat_natCast]
theorem and_255 (a : Nat) : a &&& 255 = a % 256 := Nat.and_two_pow_sub_one_eq_mod a 8
theorem and_63 (a : Nat) : a &&& 63 = a % 64 := Nat.and_two_pow_sub_one_eq_mod a 6
theorem and_65535 (a : Nat) : a &&& 65535 = a % 65536 := Nat.and_two_pow_sub_one_eq_mod a 16
theorem and_3 (a : Nat) : a &&& 3 = a % 4 := Nat.and_two_pow_sub_one_eq_mod a 2
theorem and_15 (a : Nat) : a &&& 15 = a % 16 := Nat.and_two_pow_sub_one_eq_mod a 4
theorem or_low (a c : Nat) (h : c < 256) : a * 256 ||| c = a * 256 + c := by
  have := Nat.shiftLeft_add_eq_or_of_lt (i := 8) (b := c) h a
  rw [Nat.shiftLeft_eq] at this
  exact this.symm
/-- leftchar behind a byte -/
theorem w_char (lc c : Nat) (h : c < 256) : Builtin.bitAnd (Builtin.bitOr ((lc : Int) * 2 ^ Int.toNat 8) (c : Int)) 65535 = ((lc % 256 * 256 + c : Nat) : Int) := by
  have e : ((lc : Int) * 2 ^ Int.toNat 8) = ((lc * 256 : Nat) : Int) := by
    rw [show Int.toNat 8 = 8 from rfl, show ((2 : Int) ^ 8) = 256 by decide]; omega
  rw [e, bitOr_nat, or_low _ _ h, show (65535 : Int) = ((65535 : Nat) : Int) from rfl, bitAnd_nat, and_65535]
  have : (lc * 256 + c) % 65536 = lc % 256 * 256 + c := by omega
  rw [this]
theorem w_idx (x k p : Nat) (h : (2 : Nat) ^ k = p) : Builtin.bitAnd (Int.fdiv (x : Int) (2 ^ k)) 63 = ((x / p % 64 : Nat) : Int) := by
  have e : ((2 : Int) ^ k) = ((p : Nat) : Int) := by rw [← h]; simp
  rw [e, Int.fdiv_eq_ediv_of_nonneg _ (by omega), show ((x : Int) / (p : Int)) = ((x / p : Nat) : Int) from rfl, show (63 : Int) = ((63 : Nat) : Int) from rfl, bitAnd_nat, and_63]
end Mine
end
section
open PySem PySem.W PyProof.Rows PySem.Calls PySem.Spec
set_option Elab.async false
set_option maxRecDepth 100000
namespace Mine
section
variable {prog : Program} {w : World} {A : Around} {E : Value → Shared → Prop} {s : Shared} {h₀ : Heap} {L : Addr} {m : Str → Option Value} {news news' : List (Addr × Obj)} {D : Addr}
theorem pop_K {vs : List Value} {n : Nat} {y : Value} {Q : Value → Shared → Prop} (F : Fr h₀ L s.heap m) (N : News h₀ L s.heap news) (U : Upd D (listOf (vs ++ [y]).toArray n) (listOf vs.toArray (n + 1)) news news') (hz : vs.length ≤ 100000)
    (h : ∀ h', Fr h₀ L h' m → News h₀ L h' news' → Q y { s with heap := h' }) : wpAny (model prog w) A (call (.builtin "list.pop") [.ref D]) Q E s := by
  obtain ⟨pre, post, rfl, rfl, a, b⟩ := U.split
  have z := N (D, listOf (vs ++ [y]).toArray n) (List.mem_append.mpr (.inr (.head _)))
  have hsz : (vs ++ [y]).toArray.size ≤ sizeLine := by
    have : sizeLine = 16777216 := by decide
    simp; omega
  refine call_meets PySem.F.slot_list_pop ⟨_, z.1, rfl⟩ PySem.F.entry_list_pop (PySem.F.args_list_pop_1 _) (PySem.MeetsSeq.list_pop_last D (vs ++ [y]).toArray n y (by simp) hsz) ⟨z.1, ?_⟩
  have e : (vs ++ [y]).toArray.eraseIdxIfInBounds ((vs ++ [y]).toArray.size - 1) = vs.toArray := by
    simp [Array.eraseIdxIfInBounds]
    rw [List.eraseIdx_append_of_length_le (Nat.le_refl _)]
    simp
  refine h _ (F.change (Heap.SameBut.update ..) z.2.1 z.2.2) (news_set N a b (Heap.SameBut.update ..) ?_)
  rw [Heap.get?_update_self _ z.1 rfl]
  show some (Obj.mapSeq _ ⟨_, _, .seq (vs ++ [y]).toArray n, _⟩) = _
  unfold Obj.mapSeq
  dsimp only
  rw [e, if_neg (by simp)]
theorem append_V {vs : List Value} {n : Nat} {x : Value} {Q : Value → Shared → Prop} (F : Fr h₀ L s.heap m) (N : News h₀ L s.heap news) (U : Upd D (listOf vs.toArray n) (listOf (vs ++ [x]).toArray (n + 1)) news news') (hz : vs.length ≤ 100000)
    (h : ∀ h', Fr h₀ L h' m → News h₀ L h' news' → Q .none { s with heap := h' }) : wpAny (model prog w) A (call (.builtin "list.append") [.ref D, x]) Q E s := by
  have e : (vs ++ [x]).toArray = vs.toArray.push x := by simp
  rw [e] at U
  refine append_K F N U h ?_
  have : sizeLine = 16777216 := by decide
  simp; omega
theorem list_getN {name : Str} {id : String} {pl : Sem Bool} {its : Array Value} {n : Nat} {Q : Value × List Value → Shared → Prop} (slot : Slot "list" name id) (hty : typeOf (.builtin id) = pure (.type "method_descriptor")) (N : News h₀ L s.heap news) (hm : (D, listOf its n) ∈ news)
    (h : Q (.builtin id, [.ref D]) s) : wpAny (model prog w) A (getMethod (.ref D) name pl) Q E s := listMethod_K N hm slot hty h
end
end Mine
end
section
open PySem PySem.W PyProof.Rows PySem.Calls
set_option Elab.async false
set_option maxRecDepth 100000
namespace Mine
theorem seq_iadd : seqSlot? (.type "list") (dunderI "add") = pure (some (.builtin "list.__iadd__")) := PySem.seqSlot_of PySem.F.slot_list_iadd.lookup (by decide +kernel)
theorem nofill_iadd : fillsInplaceSlot (.type "list") "add" (Operator.Add == .Add) = pure false := by
  unfold fillsInplaceSlot
  show (typeLookup (.type "list") (dunderI "add") >>= fun fi => pure (fi.isSome && !isSeqSlot fi)) = pure false
  rw [PySem.F.slot_list_iadd.lookup]
  show (pure (!isSeqSlot (some (Value.builtin "list.__iadd__"))) : Sem Bool) = _
  rw [show isSeqSlot (some (Value.builtin "list.__iadd__")) = true by decide +kernel]
  rfl
section
variable {prog : Program} {w : World} {A : Around} {E : Value → Shared → Prop} {s : Shared} {h₀ : Heap} {L : Addr} {m : Str → Option Value} {news news' : List (Addr × Obj)} {D b : Addr}
theorem iadd_K {vs ws : List Value} {n k : Nat} {Q : Value → Shared → Prop} (F : Fr h₀ L s.heap m) (N : News h₀ L s.heap news) (hb : (b, listOf ws.toArray k) ∈ news) (U : Upd D (listOf vs.toArray n) (listOf (vs ++ ws).toArray (n + 1)) news news') (hw : ws.length ≠ 0) (hz : vs.length + ws.length ≤ 100000)
    (h : ∀ h', Fr h₀ L h' m → News h₀ L h' news' → Q (.ref D) { s with heap := h' }) : wpAny (model prog w) A (inplaceOp .Add (.ref D) (.ref b)) Q E s := by
  obtain ⟨pre, post, rfl, rfl, a, c⟩ := U.split
  have z := N (D, listOf vs.toArray n) (List.mem_append.mpr (.inr (.head _)))
  have zb := N _ hb
  have hl : s.TypeIs (.ref D) "list" := ⟨_, z.1, rfl⟩
  have hlb : s.TypeIs (.ref b) "list" := ⟨_, zb.1, rfl⟩
  have hs : sizeLine = 16777216 := by decide
  have hsz : vs.toArray.size + ws.toArray.size ≤ sizeLine := by simp; omega
  unfold inplaceOp
  refine wpAny_holding ?_
  refine wpAny_bind (wpAny_typeOf hl (wpAny_bind (wpAny_of_eq nofill_iadd ?_)))
  refine KFB.if_not rfl ?_
  refine wpAny_bind (wpAny_binaryOp1_none (nm := "add") hl hlb noFill_list_add ?_)
  refine wpAny_bind (wpAny_of_eq seq_iadd ?_)
  refine wpAny_bind (wpAny_rule ?_)
  refine call_meets PySem.F.slot_list_iadd hl PySem.F.entry_list_iadd (PySem.F.args_list_iadd_2 _ _) (AutoSeq1.list___iadd___list_list_0 D vs.toArray n b ws.toArray k (extend_door hsz) (by omega) (by omega)) ⟨z.1, zb.1, ?_⟩
  refine h _ (F.change (Heap.SameBut.update ..) z.2.1 z.2.2) (news_set N a c (Heap.SameBut.update ..) ?_)
  rw [Heap.get?_update_self _ z.1 rfl, mapSeq_app]
  have e : vs.toArray ++ ws.toArray = (vs ++ ws).toArray := by simp
  rw [e, if_neg (by simpa using hw)]
end
end Mine
end
section
open PySem PySem.W PyProof.Rows
set_option Elab.async false
set_option maxRecDepth 100000
set_option maxHeartbeats 4000000
namespace Mine
noncomputable def rowL (xs : List Str) : List Int := xs.flatMap fun x => [fig0 x, fig1 x]
noncomputable def rowOf (modes : List Int) (xs : List Str) : List Int := if modes.length % 2 = 1 then rowL xs ++ [Int.fmod (Int.fdiv (modes.getLast?.getD 0) 4096) 16 * 4] else rowL xs
theorem rowL_snoc {xs : List Str} {i : Nat} {x : Str} (h : xs[i]? = some x) : rowL (xs.take (i + 1)) = rowL (xs.take i) ++ [fig0 x, fig1 x] := by
  have hi := (List.getElem?_eq_some_iff.mp h).1
  have e := (List.getElem?_eq_some_iff.mp h).2
  unfold rowL
  rw [List.take_succ_eq_append_getElem hi, List.flatMap_append, e]
  simp
theorem list_last {prog : Program} {w : World} {A : Around} {E : Value → Shared → Prop} {s : Shared} {h₀ : Heap} {L D : Addr} {news : List (Addr × Obj)} {value slice : PySem.Expr} {vs : List Value} {ns : List Int} {u : Tok} {n : Nat} {Q : Value → Shared → Prop}
    (N : News h₀ L s.heap news) (hm : (D, ({ cls := .type "list", data := .seq vs.toArray n } : Obj)) ∈ news) (hi : IntsAre vs ns) (hne : 1 ≤ ns.length) (h : ∀ t, Q (.int (ns.getLast?.getD 0) t) s)
    (hs : subscripted slice false (.ref D) (.int (-1) u) = operate [.ref D, .int (-1) u] (getItem (.ref D) (.int (-1) u)) := by with_unfolding_all rfl) :
    wpAny (model prog w) A (subscriptTail value slice (.ref D) (.int (-1) u)) Q E s := by
  have hl : s.heap.IsList D vs.toArray := ⟨_, (N _ hm).1, rfl, n, rfl⟩
  have hg : ns[ns.length - 1]? = some (ns.getLast?.getD 0) := by
    rw [List.getLast?_eq_getElem?, List.getElem?_eq_getElem (by omega)]; rfl
  obtain ⟨t, ht⟩ := hi.get _ _ hg
  refine tail_any hl.typeIs slot_list_getitem.lookup (wpAny_getItem_list_neg hl (by omega) (by simp; rw [hi.length]; omega) (by omega) ?_ (h t)) hs
  rw [show ((-1 : Int) + (vs.toArray.size : Nat)).toNat = ns.length - 1 by simp [hi.length]; omega]
  simpa using ht
local macro_rules | `(tactic| walk_at "pyIter ref") => `(tactic| refine halt ?_)
local macro_rules | `(tactic| k_mem) => `(tactic| first | with_reducible assumption | exact List.Mem.head _ | (refine' List.Mem.tail _ ?_; k_mem))
local macro_rules | `(tactic| walk_at "call builtin:len") => `(tactic| (k_here; k_dflt (refine' len_N ?k1 ?k2 ?k3 ?k4 ?_; (case k1 => k_asm); (case k2 => k_mem); (case k3 => assumption); (case k4 => assumption); (intro t9 tk9; (try dsimp only)))))
theorem c_row (w : World) (ml ll : Addr) (ms ls : List Value) (k1 k2 : Nat) (modes : List Int) (xs : List Str) (news : List (Addr × Obj)) (m1 : (ml, listOf ms.toArray k1) ∈ news) (m2 : (ll, listOf ls.toArray k2) ∈ news) (hms : IntsAre ms modes) (hls : StrsAre ls xs) (hlen : modes.length = xs.length) (hle : modes.length ≤ 100) (hne : 1 ≤ modes.length)
   (hok : ∀ (i : Nat) n x, modes[i]? = some n → xs[i]? = some x → PartOk n x) : Called w 864 [.ref ml, .ref ll] news 6 (fun h₀ L m s Q => ∀ (rl : Addr) (rs : List Value) (k : Nat) h' tk', IntsAre rs (rowOf modes xs) → (∀ p ∈ news, p.1 < rl) → Fr h₀ L h' m → News h₀ L h' ((rl, listOf rs.toArray k) :: news) → Q (.ref rl) { s with heap := h', toks := tk' }) := by
  have hs1 : ms.toArray.size = modes.length := by rw [List.size_toArray, hms.length]
  have hs2 : modes.length ≤ 1000000 := by omega
  have hmsH : Halt (IntsAre ms modes) := hms
  dsimp only [Called, RetV, thePg]
  k_fill
  intros
  rename_i hret
  refine wpAny_call ?_
  k_dflt (refine' code_def (binds := [(Str.ofString "modes", .ref ml), (Str.ofString "listings", .ref ll)]) ?k1 ?k2 ?k3 ?k4 ?k5 ?kA ?kF ?kK ?k6 ?k7 ?k8 ?k9 ?kB ?_ ?c2 ?c3 ?c4 ?c5; (case kA => exact rfl); (case kF => exact rfl); (case kK => assumption); (case k1 => k_asm); (case k2 => k_asm); (case k3 => k_asm); (case k4 => k_asm); (case k5 => k_asm); (case k6 => k_is); (case k7 => k_is); (case k8 => ktr_room); (case k9 => first | exact BindsTo.of_eq rfl | exact binds_K (by k_in) rfl (by k_is) rfl rfl rfl); (case c5 => decide); (case kB => exact locs rfl); (case c2 => exact rfl); (case c3 => exact rfl); (case c4 => exact rfl); k_whole; intro g' L' h' FG' F' N' B' X' T'; (try dsimp only))
  refine let_all ?_
  intro v9 Q9 E9
  have st1 : Stop 836 := stop
  k_steps
  with_reducible rename Fr _ _ _ _ => F9
  with_reducible rename News _ _ _ _ => N9
  with_reducible rename Below _ _ _ _ => B9
  with_reducible rename Frag.In _ _ => X9
  with_reducible rename Top _ _ _ _ _ _ => T9
  with_reducible rename ∀ p ∈ news, _ => l9
  rename_i rl hA hB
  have hrl : ∀ p ∈ news, p.1 ≠ rl := fun p hp => Nat.ne_of_lt (l9 p hp)
  rw [frX_none (x := Str.ofString "listing") (m := (fun y => if y = Str.ofString "row" then some (Value.ref rl) else List.lookup y [(Str.ofString "modes", Value.ref ml), (Str.ofString "listings", Value.ref ll)].reverse)) (by rfl)] at F9
  refine halt' (loop_list (D := ll) (vs := ls) (oD := listOf ls.toArray k2) rfl ⟨k2, rfl⟩ rfl F9 N9 (.tail _ m2) (fun i m news' => (∃ vs k, news' = (rl, listOf vs.toArray k) :: news ∧ vs.length ≤ 2 * i ∧ IntsAre vs (rowL (xs.take i))) ∧ ∃ v, m = frX (Str.ofString "listing") v (fun y => if y = Str.ofString "row" then some (Value.ref rl) else List.lookup y [(Str.ofString "modes", Value.ref ml), (Str.ofString "listings", Value.ref ll)].reverse)) ?hJ ⟨⟨[], 0, rfl, Nat.le_refl _, .nil⟩, _, rfl⟩ ?step ?fin)
  case hJ =>
    rintro i m nw ⟨⟨vs, k, rfl, -⟩, -⟩
    exact .tail _ m2
  case step =>
    rintro i v m₁ news₁ I oI h tk hv ⟨⟨vs, k, rfl, hvl, hvs⟩, v', rfl⟩ off F N
    rw [frX_set] at F
    have hi : i < xs.length := by rw [← hls.length]; exact (List.getElem?_eq_some_iff.mp hv).1
    obtain ⟨n, hn⟩ : ∃ n, modes[i]? = some n := ⟨_, List.getElem?_eq_getElem (by omega)⟩
    obtain ⟨x, hx⟩ : ∃ x, xs[i]? = some x := ⟨_, List.getElem?_eq_getElem hi⟩
    have ok := hok i n x hn hx
    obtain ⟨tx, hlx⟩ := hls.get i x hx
    rw [hv] at hlx
    obtain rfl := Option.some.inj hlx
    unfold frX at F
    clear F9 N9 hlx hv
    k_steps
    refine halt' ?_
    refine c_fig w x _ _ ok.len ok.pos _ _ _ _ _ _ _ _ _ _ _ _ _ _ _ _ _ _ _ _ _ B9 F X9 N T9 rfl (by ktr_room) (by ktr_units) ?_
    intro D u0 u1 k9 h9 tk9 l8 F8 N8
    k_steps
    have hID : @Ne Nat I rl := Ne.symm (off (rl, listOf vs.toArray k) (.head _))
    have hD : @Ne Nat D rl := Nat.ne_of_gt (l8 (rl, listOf vs.toArray k) (.tail _ (.head _)))
    refine iadd_K (ws := [.int (fig0 x) u0, .int (fig1 x) u1]) F8 N8 (.head _) (.tail hD (.tail hID (.head hrl))) (by simp) (by simp; omega) ?_
    intro h7 F7 N7
    clear F8 N8
    k_steps
    with_reducible rename Fr _ _ _ _ => F5
    with_reducible rename News _ _ _ _ => N5
    have eF : (fun y => if y = Str.ofString "row" then some (Value.ref rl) else if y = Str.ofString "listing" then some (Value.str x tx) else (fun y => if y = Str.ofString "row" then some (Value.ref rl) else List.lookup y [(Str.ofString "modes", Value.ref ml), (Str.ofString "listings", Value.ref ll)].reverse) y) = frX (Str.ofString "listing") (some (Value.str x tx)) (fun y => if y = Str.ofString "row" then some (Value.ref rl) else List.lookup y [(Str.ofString "modes", Value.ref ml), (Str.ofString "listings", Value.ref ll)].reverse) := by
      funext y
      unfold frX
      by_cases e : y = Str.ofString "row"
      · subst e; rfl
      · simp only [if_neg e]
    rw [eF] at F5
    refine halt' ⟨_, _, _, (rl, listOf (vs ++ [Value.int (fig0 x) u0, Value.int (fig1 x) u1]).toArray (k + 1)) :: news, rfl, F5, fun p hp => N5 p (.tail _ hp), fun p hp => ?_, ⟨_, _, rfl, ?_, ?_⟩, _, rfl⟩
    · rcases List.mem_cons.mp hp with rfl | hp
      · exact Ne.symm hID
      · exact off p (.tail _ hp)
    · rw [List.length_append]; show _ + 2 ≤ _; omega
    · rw [rowL_snoc hx]
      exact hvs.append (.cons _ _ (.cons _ _ .nil))
  case fin =>
    rintro h' tk m' news' F N ⟨⟨vs, k, rfl, hvl, hvs⟩, v', rfl⟩
    unfold frX at F
    clear F9 N9
    have m1 : (ml, listOf ms.toArray k1) ∈ (rl, listOf vs.toArray k) :: news := .tail _ m1
    rw [hls.length, List.take_length] at hvs
    have hvl2 : vs.length ≤ 1000 := by rw [hls.length] at hvl; omega
    by_cases ho : modes.length % 2 = 1
    · have hc : (Int.fmod (modes.length : Int) 2 == 1) = true := by
        rw [Int.fmod_eq_emod_of_nonneg _ (by omega)]
        simp; omega
      k_steps
      refine' list_last N ?ma (show IntsAre ms modes from hmsH) hne ?_
      case ma => k_mem
      intro tl
      k_steps
      with_reducible rename Fr _ _ _ _ => F5
      with_reducible rename News _ _ _ _ => N5
      have e : rowOf modes xs = rowL xs ++ [Int.fmod (Int.fdiv (modes.getLast?.getD 0) 4096) 16 * 4] := if_pos ho
      rw [List.push_toArray] at N5
      exact hret _ _ _ _ _ (e ▸ hvs.append (.cons _ _ .nil)) l9 F5 N5
    · have hc : (Int.fmod (modes.length : Int) 2 == 1) = false := by
        rw [Int.fmod_eq_emod_of_nonneg _ (by omega)]
        simp; omega
      k_steps
      have e : rowOf modes xs = rowL xs := if_neg ho
      exact hret _ _ _ _ _ (e ▸ hvs) l9 (by k_asm) (by k_asm)
end Mine
end
example {M : Model} {A : Around} {E : Value → Shared → Prop} {s : Shared} {env : Env} {p : Pos} {Q : Flow → Shared → Prop} (h : wpAny M A (exec (.Pass p) env) Q E s) : wpAny M A (exec (.Pass p) env) Q E s := by first | (walk1; fail) | exact h
section
open PySem PySem.W PyProof.Rows
set_option Elab.async false
set_option maxRecDepth 100000
set_option maxHeartbeats 4000000
namespace Mine
noncomputable def imode (n : Int) : Int := Builtin.bitAnd n 4095
noncomputable def oct3 (v : Int) : List Int := [Int.fdiv v 65536, Int.fmod (Int.fdiv v 256) 256, Int.fmod v 256]
noncomputable def octV (modes : List Int) (k : Nat) : Int := Builtin.bitAnd (modes.getD (2 * k) 0) 4095 * 4096 + Builtin.bitAnd (modes.getD (2 * k + 1) 0) 4095
noncomputable def octPre (modes : List Int) (i : Nat) : List Int := (List.range i).flatMap fun k => oct3 (octV modes k)
noncomputable def octL (modes : List Int) : Int := Builtin.bitAnd (modes.getLast?.getD 0) 4095 * 16 + Int.fdiv (Builtin.bitAnd (modes.getLast?.getD 0) 61440) 4096
noncomputable def octsOf (modes : List Int) : List Int := if modes.length % 2 = 1 then octPre modes (modes.length / 2) ++ [Int.fdiv (octL modes) 256, Int.fmod (octL modes) 256] else octPre modes (modes.length / 2)
theorem octPre_succ (modes : List Int) (i : Nat) : octPre modes (i + 1) = octPre modes i ++ oct3 (octV modes i) := by
  unfold octPre
  rw [List.range_succ, List.flatMap_append]
  simp
theorem octPre_len (modes : List Int) : ∀ i, (octPre modes i).length = 3 * i
  | 0 => rfl
  | i + 1 => by rw [octPre_succ, List.length_append, octPre_len modes i]; show _ + 3 = _; omega
theorem two_size {n : Nat} (h : 1 ≤ n) : Builtin.Range.rangeSize 0 ((n : Int) - 1) 2 = ((n / 2 : Nat) : Int) := by
  unfold Builtin.Range.rangeSize
  rw [if_pos (by omega)]
  split <;> omega
theorem two_small {n : Nat} (h : 1 ≤ n) (h2 : n ≤ 1000) : Builtin.Range.small 0 ((n : Int) - 1) 2 = true := by
  unfold Builtin.Range.small
  rw [two_size h]
  unfold Builtin.Range.rangeFitsLong
  simp
  omega
local macro_rules | `(tactic| walk_at "pyIter ref") => `(tactic| refine halt ?_)
local macro_rules | `(tactic| k_mem) => `(tactic| first | with_reducible assumption | exact List.Mem.head _ | (refine' List.Mem.tail _ ?_; k_mem))
local macro_rules | `(tactic| walk_at "call builtin:len") => `(tactic| (k_here; k_dflt (refine' len_N ?k1 ?k2 ?k3 ?k4 ?_; (case k1 => k_asm); (case k2 => k_mem); (case k3 => assumption); (case k4 => assumption); (intro t9 tk9; (try dsimp only)))))
theorem c_oct (w : World) (ml : Addr) (ms : List Value) (k1 : Nat) (modes : List Int) (news : List (Addr × Obj)) (m1 : (ml, listOf ms.toArray k1) ∈ news) (hms : IntsAre ms modes) (hle : modes.length ≤ 100) (hne : 1 ≤ modes.length) (hby : ∀ o ∈ octsOf modes, 0 ≤ o ∧ o < 256) :
   Called w 857 [.ref ml] news 6 (RetV news fun t => .bytes (byteArr (octsOf modes)) t) := by
  have hs1 : ms.toArray.size = modes.length := by rw [List.size_toArray, hms.length]
  have hs2 : modes.length ≤ 1000000 := by omega
  have hmsH : Halt (IntsAre ms modes) := hms
  have hsz := two_size hne
  have hsm := two_small hne (by omega)
  clear hms
  dsimp only [Called, RetV, thePg]
  k_fill
  intros
  rename_i hret
  refine wpAny_call ?_
  k_dflt (refine' code_def (binds := [(Str.ofString "modes", .ref ml)]) ?k1 ?k2 ?k3 ?k4 ?k5 ?kA ?kF ?kK ?k6 ?k7 ?k8 ?k9 ?kB ?_ ?c2 ?c3 ?c4 ?c5; (case kA => exact rfl); (case kF => exact rfl); (case kK => assumption); (case k1 => k_asm); (case k2 => k_asm); (case k3 => k_asm); (case k4 => k_asm); (case k5 => k_asm); (case k6 => k_is); (case k7 => k_is); (case k8 => ktr_room); (case k9 => first | exact BindsTo.of_eq rfl | exact binds_K (by k_in) rfl (by k_is) rfl rfl rfl); (case c5 => decide); (case kB => exact locs rfl); (case c2 => exact rfl); (case c3 => exact rfl); (case c4 => exact rfl); k_whole; intro g' L' h' FG' F' N' B' X' T'; (try dsimp only))
  refine let_all ?_
  intro v9 Q9 E9
  have st1 : Stop 777 := stop
  have st2 : Stop 784 := stop
  k_steps
  with_reducible rename Fr _ _ _ _ => F9
  with_reducible rename News _ _ _ _ => N9
  with_reducible rename Below _ _ _ _ => B9
  with_reducible rename Frag.In _ _ => X9
  with_reducible rename Top _ _ _ _ _ _ => T9
  with_reducible rename ∀ p ∈ news, _ => l9
  rename_i ol hA hB
  have hol : ∀ p ∈ news, p.1 ≠ ol := fun p hp => Nat.ne_of_lt (l9 p hp)
  have m1b : (ml, listOf ms.toArray k1) ∈ (ol, listOf #[] 0) :: news := .tail _ m1
  k_steps
  with_reducible rename IsRange _ _ _ _ _ _ _ _ => R9
  with_reducible rename Fr _ _ _ _ => F9
  with_reducible rename News _ _ _ _ => N9
  rw [frX_none (x := Str.ofString "value") (m := (fun y => if y = Str.ofString "octets" then some (Value.ref ol) else List.lookup y [(Str.ofString "modes", Value.ref ml)].reverse)) (by rfl), frX_none (x := Str.ofString "k") (m := frX (Str.ofString "value") none (fun y => if y = Str.ofString "octets" then some (Value.ref ol) else List.lookup y [(Str.ofString "modes", Value.ref ml)].reverse)) (by rfl)] at F9
  refine halt' (loop_range R9 hsm hsz rfl F9 N9 (fun i m news' => (∃ vs k, news' = (ol, listOf vs.toArray k) :: news ∧ vs.length = 3 * i ∧ IntsAre vs (octPre modes i)) ∧ ∃ v v', m = frX (Str.ofString "k") v (frX (Str.ofString "value") v' (fun y => if y = Str.ofString "octets" then some (Value.ref ol) else List.lookup y [(Str.ofString "modes", Value.ref ml)].reverse))) ⟨⟨[], 0, rfl, rfl, .nil⟩, _, _, rfl⟩ ?step ?fin)
  case step =>
    rintro i u m₁ news₁ I oI h tk hi ⟨⟨vs, k, rfl, hvl, hvs⟩, v1, v2, rfl⟩ off F N
    rw [frX_set, show (0 + (i : Int) * 2) = ((2 * i : Nat) : Int) by omega] at F
    have hms : IntsAre ms modes := hmsH
    have m1c : (ml, listOf ms.toArray k1) ∈ (I, oI) :: (ol, listOf vs.toArray k) :: news := .tail _ (.tail _ m1)
    have hi2 : ((2 * i : Nat) : Int) + 1 < (modes.length : Int) := by omega
    have hi3 : (0 : Int) ≤ ((2 * i : Nat) : Int) := by omega
    unfold frX at F
    clear F9 N9 R9
    k_steps
    refine halt' ?_
    refine c_imode w _ _ _ _ _ _ _ _ _ _ _ _ _ _ _ _ _ _ _ _ _ _ _ _ B9 F X9 N T9 rfl (by ktr_room) (by ktr_units) ?_
    intro t9 h9 tk9 F1 N1
    k_steps
    refine halt' ?_
    refine c_imode w _ _ _ _ _ _ _ _ _ _ _ _ _ _ _ _ _ _ _ _ _ _ _ _ B9 F1 X9 N1 T9 rfl (by ktr_room) (by ktr_units) ?_
    intro t8 h8 tk8 F2 N2
    k_steps
    with_reducible rename Fr _ _ _ _ => F8
    with_reducible rename News _ _ _ _ => N8
    with_reducible rename _ ∧ _ => l8
    have hID : @Ne Nat I ol := Ne.symm (off (ol, listOf vs.toArray k) (.head _))
    rw [show (((2 * i : Nat) : Int) + 1).toNat = 2 * i + 1 by omega, show ((2 * i : Nat) : Int).toNat = 2 * i by omega] at N8
    refine iadd_K (ws := [.int (Int.fdiv (octV modes i) 65536) _, .int (Int.fmod (Int.fdiv (octV modes i) 256) 256) _, .int (Int.fmod (octV modes i) 256) _]) F8 N8 (.head _) (.tail (Nat.ne_of_gt l8.2.1) (.tail hID (.head hol))) (by simp) (by simp; omega) ?_
    intro h7 F7 N7
    clear F8 N8
    k_steps
    with_reducible rename Fr _ _ _ _ => F5
    with_reducible rename News _ _ _ _ => N5
    have eF : ∀ (a b : Value), (fun y => if y = Str.ofString "octets" then some (Value.ref ol) else if y = Str.ofString "value" then some a else if y = Str.ofString "k" then some b else (fun y => if y = Str.ofString "value" then v2 else (fun y => if y = Str.ofString "octets" then some (Value.ref ol) else List.lookup y [(Str.ofString "modes", Value.ref ml)].reverse) y) y) = frX (Str.ofString "k") (some b) (frX (Str.ofString "value") (some a) (fun y => if y = Str.ofString "octets" then some (Value.ref ol) else List.lookup y [(Str.ofString "modes", Value.ref ml)].reverse)) := by
      intro a b
      funext y
      unfold frX
      by_cases e1 : y = Str.ofString "octets"
      · subst e1; rfl
      · simp only [if_neg e1]
        by_cases e2 : y = Str.ofString "value"
        · subst e2; rfl
        · simp only [if_neg e2]
    rw [eF] at F5
    refine halt' ⟨_, _, _, (ol, _) :: news, rfl, F5, fun p hp => N5 p (.tail _ hp), fun p hp => ?_, ⟨_, _, rfl, ?_, ?_⟩, _, _, rfl⟩
    · rcases List.mem_cons.mp hp with rfl | hp
      · exact Ne.symm hID
      · exact off p (.tail _ hp)
    · simp; omega
    · rw [octPre_succ]
      exact hvs.append (.cons _ _ (.cons _ _ (.cons _ _ .nil)))
  case fin =>
    rintro h' tk m' news' F N ⟨⟨vs, k, rfl, hvl, hvs⟩, v1, v2, rfl⟩
    unfold frX at F
    clear F9 N9 R9
    have hms : IntsAre ms modes := hmsH
    have m1c : (ml, listOf ms.toArray k1) ∈ (ol, listOf vs.toArray k) :: news := .tail _ m1
    by_cases ho : modes.length % 2 = 1
    · have hc : (Int.fmod (modes.length : Int) 2 == 1) = true := by
        rw [Int.fmod_eq_emod_of_nonneg _ (by omega)]
        simp; omega
      clear hms
      k_steps
      refine' list_last N ?ma (show IntsAre ms modes from hmsH) hne ?_
      case ma => exact m1c
      intro tl
      k_steps
      refine halt' ?_
      refine c_imode w _ _ _ _ _ _ _ _ _ _ _ _ _ _ _ _ _ _ _ _ _ _ _ _ B9 F X9 N T9 rfl (by ktr_room) (by ktr_units) ?_
      intro t9 h9 tk9 F1 N1
      k_steps
      refine' list_last N1 ?ma (show IntsAre ms modes from hmsH) hne ?_
      case ma => exact m1c
      intro tl
      k_steps
      refine halt' ?_
      refine c_ifmt w _ _ _ _ _ _ _ _ _ _ _ _ _ _ _ _ _ _ _ _ _ _ _ _ B9 F1 X9 N1 T9 rfl (by ktr_room) (by ktr_units) ?_
      intro t8 h8 tk8 F2 N2
      k_steps
      with_reducible rename Fr _ _ _ _ => F8
      with_reducible rename News _ _ _ _ => N8
      with_reducible rename _ ∧ _ => l8
      have e : octsOf modes = octPre modes (modes.length / 2) ++ [Int.fdiv (octL modes) 256, Int.fmod (octL modes) 256] := if_pos ho
      refine iadd_K (ws := [.int (Int.fdiv (octL modes) 256) _, .int (Int.fmod (octL modes) 256) _]) F8 N8 (.head _) (.tail (Nat.ne_of_gt l8.1) (.head hol)) (by simp) (by simp; omega) ?_
      intro h7 F7 N7
      clear F8 N8
      k_steps
      with_reducible rename Fr _ _ _ _ => F5
      with_reducible rename News _ _ _ _ => N5
      refine bytes_K (ns := octsOf modes) F5 N5 ⟨_, (N5 _ (.tail _ (.head _))).1, rfl, _, rfl⟩ (e ▸ hvs.append (.cons _ _ (.cons _ _ .nil))) hby (by rw [PySem.sizeLine_eq]; simp; omega) rfl ?_
      intro h8 t8 k8 F6 N6 _
      k_steps
      with_reducible rename Fr _ _ _ _ => F4
      with_reducible rename News _ _ _ _ => N4
      exact hret _ _ _ F4 (news_tail (news_tail N4))
    · have hc : (Int.fmod (modes.length : Int) 2 == 1) = false := by
        rw [Int.fmod_eq_emod_of_nonneg _ (by omega)]
        simp; omega
      have e : octsOf modes = octPre modes (modes.length / 2) := if_neg ho
      clear hms
      k_steps
      with_reducible rename Fr _ _ _ _ => F8
      with_reducible rename News _ _ _ _ => N8
      refine bytes_K (ns := octsOf modes) F8 N8 ⟨_, (N8 _ (.head _)).1, rfl, _, rfl⟩ (e ▸ hvs) hby (by rw [PySem.sizeLine_eq]; omega) rfl ?_
      intro h8 t8 k8 F6 N6 _
      k_steps
      with_reducible rename Fr _ _ _ _ => F4
      with_reducible rename News _ _ _ _ => N4
      exact hret _ _ _ F4 (news_tail N4)
end Mine
end
example {M : Model} {A : Around} {E : Value → Shared → Prop} {s : Shared} {env : Env} {p : Pos} {Q : Flow → Shared → Prop} (h : wpAny M A (exec (.Pass p) env) Q E s) : wpAny M A (exec (.Pass p) env) Q E s := by first | (walk1; fail) | exact h
section
open PySem PySem.W PyProof.Rows
set_option maxRecDepth 100000
namespace Mine
noncomputable abbrev nints (l : List Nat) : List Int := l.map fun n : Nat => (n : Int)
noncomputable def three (A B : Nat) : List Nat := [(A * 4096 + B) / 65536, (A * 4096 + B) / 256 % 256, (A * 4096 + B) % 256]
noncomputable def encAll : List Nat → List Nat
  | a :: b :: r => three (a % 4096) (b % 4096) ++ encAll r
  | [a] => [(a % 4096 * 16 + a / 4096 % 16) / 256, (a % 4096 * 16 + a / 4096 % 16) % 256]
  | [] => []
noncomputable def rowAll : List Nat → List Nat
  | a :: b :: r => [a / 64 % 64, a % 64, b / 64 % 64, b % 64] ++ rowAll r
  | [a] => [a / 64 % 64, a % 64, a / 4096 % 16 * 4]
  | [] => []
theorem low_nat (a : Nat) : Builtin.bitAnd (a : Int) 4095 = ((a % 4096 : Nat) : Int) := by
  have h := bitAnd_nat a 4095
  rw [show ((4095 : Nat) : Int) = 4095 from rfl] at h
  rw [h, show (4095 : Nat) = 2 ^ 12 - 1 by decide, Nat.and_two_pow_sub_one_eq_mod]
theorem high_nat (a : Nat) : Builtin.bitAnd (a : Int) 61440 = ((a / 4096 % 16 * 4096 : Nat) : Int) := by
  have h := bitAnd_nat a 61440
  rw [show ((61440 : Nat) : Int) = 61440 from rfl, and_high] at h
  exact h
theorem oct3_nat (v : Nat) : oct3 (v : Int) = nints [v / 65536, v / 256 % 256, v % 256] := by
  unfold oct3 nints
  rw [Int.fdiv_eq_ediv_of_nonneg _ (by omega), Int.fdiv_eq_ediv_of_nonneg _ (by omega), Int.fmod_eq_emod_of_nonneg _ (by omega), Int.fmod_eq_emod_of_nonneg _ (by omega)]
  rfl
theorem octPre_two (x y : Int) (r : List Int) (i : Nat) : octPre (x :: y :: r) (i + 1) = oct3 (Builtin.bitAnd x 4095 * 4096 + Builtin.bitAnd y 4095) ++ octPre r i := by
  unfold octPre
  rw [List.range_succ_eq_map, List.flatMap_cons, List.flatMap_map]
  have e : (fun k => oct3 (octV (x :: y :: r) (Nat.succ k))) = fun k => oct3 (octV r k) := by
    funext k
    have : octV (x :: y :: r) (Nat.succ k) = octV r k := by
      unfold octV
      rw [show 2 * Nat.succ k = 2 * k + 1 + 1 by omega, show 2 * k + 1 + 1 + 1 = (2 * k + 1) + 1 + 1 by omega, List.getD_cons_succ, List.getD_cons_succ, List.getD_cons_succ, List.getD_cons_succ]
    rw [this]
  rw [e]
  rfl
theorem octs_two (x y : Int) (r : List Int) : octsOf (x :: y :: r) = oct3 (Builtin.bitAnd x 4095 * 4096 + Builtin.bitAnd y 4095) ++ octsOf r := by
  have hl : (x :: y :: r).length = r.length + 2 := rfl
  have hd : (r.length + 2) / 2 = r.length / 2 + 1 := by omega
  unfold octsOf
  rw [hl, hd, octPre_two]
  by_cases h : r.length % 2 = 1
  · rw [if_pos h, if_pos (by omega), List.append_assoc]
    have hL : octL (x :: y :: r) = octL r := by
      match r, h with
      | z :: r, _ => unfold octL; rw [List.getLast?_cons_cons, List.getLast?_cons_cons]
    rw [hL]
  · rw [if_neg h, if_neg (by omega)]
theorem oct_eq : ∀ as : List Nat, octsOf (nints as) = nints (encAll as)
  | [] => rfl
  | [a] => by
    unfold octsOf
    rw [show (nints [a]).length = 1 from rfl, if_pos (show 1 % 2 = 1 from rfl), show 1 / 2 = 0 from rfl]
    show octPre [(a : Int)] 0 ++ [Int.fdiv (octL [(a : Int)]) 256, Int.fmod (octL [(a : Int)]) 256] = _
    have e : octL [(a : Int)] = ((a % 4096 * 16 + a / 4096 % 16 : Nat) : Int) := by
      show Builtin.bitAnd (a : Int) 4095 * 16 + Int.fdiv (Builtin.bitAnd (a : Int) 61440) 4096 = _
      rw [low_nat, high_nat, Int.fdiv_eq_ediv_of_nonneg _ (by omega)]
      omega
    rw [e, Int.fdiv_eq_ediv_of_nonneg _ (by omega), Int.fmod_eq_emod_of_nonneg _ (by omega)]
    rfl
  | a :: b :: r => by
    show octsOf ((a : Int) :: (b : Int) :: nints r) = _
    rw [octs_two, oct_eq r, low_nat, low_nat]
    have e : (((a % 4096 : Nat) : Int) * 4096 + ((b % 4096 : Nat) : Int)) = ((a % 4096 * 4096 + b % 4096 : Nat) : Int) := by omega
    rw [e, oct3_nat]
    show _ = nints (three (a % 4096) (b % 4096) ++ encAll r)
    unfold three nints
    rw [List.map_append]
theorem enc_byte : ∀ as : List Nat, ∀ o ∈ encAll as, o < 256
  | [], o, h => by cases h
  | [a], o, h => by
    simp only [encAll, List.mem_cons, List.not_mem_nil, or_false] at h
    rcases h with rfl | rfl <;> omega
  | a :: b :: r, o, h => by
    rcases List.mem_append.mp h with h | h
    · simp only [three, List.mem_cons, List.not_mem_nil, or_false] at h
      rcases h with rfl | rfl | rfl <;> omega
    · exact enc_byte r o h
theorem enc_len : ∀ as : List Nat, (encAll as).length ≤ 3 * as.length
  | [] => Nat.le_refl 0
  | [a] => by show 2 ≤ 3; omega
  | a :: b :: r => by
    have := enc_len r
    show (three _ _ ++ encAll r).length ≤ 3 * (r.length + 2)
    rw [List.length_append]
    show 3 + _ ≤ _
    omega
theorem row_eq : ∀ as : List Nat, rowOf (nints as) ((nints as).map fmText) = nints (rowAll as)
  | [] => rfl
  | [a] => by
    show [fig0 (fmText (a : Int)), fig1 (fmText (a : Int))] ++ [Int.fmod (Int.fdiv (a : Int) 4096) 16 * 4] = _
    rw [fig0_eq, fig1_eq, Int.fdiv_eq_ediv_of_nonneg _ (by omega), Int.fmod_eq_emod_of_nonneg _ (by omega)]
    rfl
  | a :: b :: r => by
    have ih := row_eq r
    have e : rowOf (nints (a :: b :: r)) ((nints (a :: b :: r)).map fmText) = [fig0 (fmText (a : Int)), fig1 (fmText (a : Int)), fig0 (fmText (b : Int)), fig1 (fmText (b : Int))] ++ rowOf (nints r) ((nints r).map fmText) := by
      have hl : (nints (a :: b :: r)).length = (nints r).length + 2 := rfl
      unfold rowOf
      rw [hl]
      by_cases h : (nints r).length % 2 = 1
      · rw [if_pos h, if_pos (by omega)]
        have hL : (nints (a :: b :: r)).getLast? = (nints r).getLast? := by
          match r, h with
          | z :: r, _ => rfl
        rw [hL]
        rfl
      · rw [if_neg h, if_neg (by omega)]
        rfl
    rw [e, ih, fig0_eq, fig1_eq, fig0_eq, fig1_eq]
    rfl
theorem row_64 : ∀ as : List Nat, ∀ f ∈ rowAll as, f < 64
  | [], f, h => by cases h
  | [a], f, h => by
    simp only [rowAll, List.mem_cons, List.not_mem_nil, or_false] at h
    rcases h with rfl | rfl | rfl <;> omega
  | a :: b :: r, f, h => by
    rcases List.mem_append.mp h with h | h
    · simp only [List.mem_cons, List.not_mem_nil, or_false] at h
      rcases h with rfl | rfl | rfl | rfl <;> omega
    · exact row_64 r f h
theorem row_len : ∀ as : List Nat, (rowAll as).length = 2 * as.length + (if as.length % 2 = 1 then 1 else 0)
  | [] => rfl
  | [a] => rfl
  | a :: b :: r => by
    have ih := row_len r
    show ([_, _, _, _] ++ rowAll r).length = 2 * (r.length + 2) + (if (r.length + 2) % 2 = 1 then 1 else 0)
    rw [List.length_append, ih, Nat.add_mod_right]
    show 4 + _ = _
    omega
-- three bytes make four signs
theorem lo_hi (a : Nat) : a % 4096 / 64 = a / 64 % 64 := Nat.mod_mul_right_div_self a 64 64
theorem lo_lo (a : Nat) : a % 4096 % 64 = a % 64 := Nat.mod_mod_of_dvd a (show 64 ∣ 4096 by decide)
theorem v_hi (A B : Nat) (h : B < 4096) : (A * 4096 + B) / 4096 = A := by
  rw [Nat.mul_comm, Nat.mul_add_div (by decide), Nat.div_eq_of_lt h, Nat.add_zero]
theorem v_lo (A B : Nat) (h : B < 4096) : (A * 4096 + B) % 4096 = B := by
  rw [Nat.mul_comm, Nat.mul_add_mod, Nat.mod_eq_of_lt h]
theorem th1 (A B : Nat) (h : B < 4096) : (A * 4096 + B) / 65536 / 4 = A / 64 := by
  rw [Nat.div_div_eq_div_mul, show 65536 * 4 = 4096 * 64 from rfl, ← Nat.div_div_eq_div_mul, v_hi A B h]
theorem th2 (A B : Nat) (h : B < 4096) : (A * 4096 + B) / 65536 % 4 * 16 + (A * 4096 + B) / 256 % 256 / 16 = A % 64 := by
  rw [show 65536 = 4096 * 16 from rfl, ← Nat.div_div_eq_div_mul, v_hi A B h, show (A * 4096 + B) / 256 % 256 / 16 = A % 16 by
    rw [show (256 : Nat) = 16 * 16 from rfl, Nat.mod_mul_right_div_self, Nat.div_div_eq_div_mul, show 16 * 16 * 16 = 4096 from rfl, v_hi A B h], show (64 : Nat) = 16 * 4 from rfl, Nat.mod_mul, Nat.mul_comm, Nat.add_comm]
theorem th3 (A B : Nat) (h : B < 4096) : (A * 4096 + B) / 256 % 256 % 16 * 4 + (A * 4096 + B) % 256 / 64 = B / 64 := by
  have e1 : (A * 4096 + B) / 256 % 16 = B / 256 := by
    rw [← Nat.mod_mul_right_div_self, show 256 * 16 = 4096 from rfl, v_lo A B h]
  have e2 : (A * 4096 + B) % 256 = B % 256 := by
    rw [← Nat.mod_mod_of_dvd (A * 4096 + B) (show 256 ∣ 4096 by decide), v_lo A B h]
  rw [Nat.mod_mod_of_dvd _ (show 16 ∣ 256 by decide), e1, e2, show B % 256 / 64 = B / 64 % 4 from Nat.mod_mul_right_div_self B 64 4, show B / 256 = B / 64 / 4 by rw [Nat.div_div_eq_div_mul]]
  rw [Nat.mul_comm]; exact Nat.div_add_mod _ _
theorem th4 (A B : Nat) (h : B < 4096) : (A * 4096 + B) % 256 % 64 = B % 64 := by
  rw [Nat.mod_mod_of_dvd _ (show 64 ∣ 256 by decide), ← Nat.mod_mod_of_dvd (A * 4096 + B) (show 64 ∣ 4096 by decide), v_lo A B h]
theorem w_hi (A K : Nat) (h : K < 16) : (A * 16 + K) / 16 = A := by
  rw [Nat.mul_comm, Nat.mul_add_div (by decide), Nat.div_eq_of_lt h, Nat.add_zero]
theorem two_f1 (A K : Nat) (h : K < 16) : (A * 16 + K) / 256 / 4 = A / 64 := by
  rw [Nat.div_div_eq_div_mul, show 256 * 4 = 16 * 64 from rfl, ← Nat.div_div_eq_div_mul, w_hi A K h]
theorem two_f2 (A K : Nat) (h : K < 16) : (A * 16 + K) / 256 % 4 * 16 + (A * 16 + K) % 256 / 16 = A % 64 := by
  rw [show (256 : Nat) = 16 * 16 from rfl, Nat.mod_mul_right_div_self, ← Nat.div_div_eq_div_mul, w_hi A K h, show (64 : Nat) = 16 * 4 from rfl, Nat.mod_mul, Nat.mul_comm, Nat.add_comm]
theorem sx0 (x u : Nat) (h : u < 256) : (x % 256 * 256 + u) % 256 = u := by
  rw [Nat.mul_comm, Nat.mul_add_mod, Nat.mod_eq_of_lt h]
theorem sx1 (x v : Nat) (h : v < 256) : (x % 256 * 256 + v) / 4 % 64 = v / 4 := by
  rw [← Nat.mod_mul_right_div_self, show 4 * 64 = 256 from rfl, sx0 x v h]
theorem sx3 (x v : Nat) (h : v < 256) : (x % 256 * 256 + v) / 64 % 64 = x % 16 * 4 + v / 64 := by
  have e : (x % 256 * 256 + v) / 64 = x % 256 * 4 + v / 64 := by
    rw [show x % 256 * 256 = 64 * (x % 256 * 4) by rw [Nat.mul_comm 64, Nat.mul_assoc], Nat.mul_add_div (by decide)]
  have e2 : v / 64 < 4 := Nat.div_lt_of_lt_mul h
  rw [e, show (64 : Nat) = 4 * 16 from rfl, Nat.mod_mul, show 4 * 16 = 64 from rfl, Nat.mul_comm (x % 256) 4, Nat.mul_add_mod, Nat.mod_eq_of_lt e2, Nat.mul_add_div (by decide), Nat.div_eq_of_lt e2, Nat.add_zero, Nat.mod_mod_of_dvd _ (show 16 ∣ 256 by decide), Nat.mul_comm, Nat.add_comm]
theorem sx2 (x u v : Nat) (h : u < 256) (h2 : v < 256) : ((x % 256 * 256 + u) % 256 * 256 + v) / 16 % 64 = u % 4 * 16 + v / 16 := by
  rw [sx0 x u h]
  have e : (u * 256 + v) / 16 = u * 16 + v / 16 := by
    rw [show u * 256 = 16 * (u * 16) by rw [Nat.mul_comm 16, Nat.mul_assoc], Nat.mul_add_div (by decide)]
  have e2 : v / 16 < 16 := Nat.div_lt_of_lt_mul h2
  rw [e, show (64 : Nat) = 16 * 4 from rfl, Nat.mod_mul, Nat.mul_comm u 16, Nat.mul_add_mod, Nat.mod_eq_of_lt e2, Nat.mul_add_div (by decide), Nat.div_eq_of_lt e2, Nat.add_zero, Nat.mul_comm, Nat.add_comm]
theorem sx4 (x v : Nat) : (x % 256 * 256 + v) % 64 = v % 64 := by
  rw [show x % 256 * 256 = 64 * (x % 256 * 4) by rw [Nat.mul_comm 64, Nat.mul_assoc], Nat.mul_add_mod]
theorem sx6 (x v : Nat) : (x % 256 * 256 + v) % 16 = v % 16 := by
  rw [show x % 256 * 256 = 16 * (x % 256 * 16) by rw [Nat.mul_comm 16, Nat.mul_assoc], Nat.mul_add_mod]
theorem sx5 (x v : Nat) : (x % 256 * 256 + v) % 16 * 4 = v % 16 * 4 := by rw [sx6]
theorem step_three (st : List Int × Nat × Nat) (h : st.2.1 = 0) (A B : Nat) (hA : A < 4096) (hB : B < 4096) : ∃ lc, (three A B).foldl b64step st = (st.1 ++ [sg64 (A / 64), sg64 (A % 64), sg64 (B / 64), sg64 (B % 64)], 0, lc) := by
  have h1 : (A * 4096 + B) / 65536 < 256 := by omega
  have h2 : (A * 4096 + B) / 256 % 256 < 256 := Nat.mod_lt _ (by decide)
  have h3 : (A * 4096 + B) % 256 < 256 := Nat.mod_lt _ (by decide)
  have f1 := th1 A B hB
  have f2 := th2 A B hB
  have f3 := th3 A B hB
  have f4 := th4 A B hB
  unfold three
  generalize (A * 4096 + B) / 65536 = u at *
  generalize (A * 4096 + B) / 256 % 256 = v at *
  generalize (A * 4096 + B) % 256 = z at *
  refine ⟨((st.2.2 % 256 * 256 + u) % 256 * 256 + v) % 256 * 256 + z, ?_⟩
  show b64step (b64step (b64step st u) v) z = _
  rw [step0 h, step2 (st := (_, 2, _)) rfl, step4 (st := (_, 4, _)) rfl]
  dsimp only
  rw [sx1 _ _ h1, sx2 _ _ _ h1 h2, sx3 _ _ h3, sx4, sx6, f1, f2, f3, f4]
  simp only [List.append_assoc, List.cons_append, List.nil_append]
theorem enc_fold : ∀ (as : List Nat) (st : List Int × Nat × Nat), st.2.1 = 0 → b64end ((encAll as).foldl b64step st) = st.1 ++ (rowAll as).map sg64 ++ (if as.length % 2 = 1 then [61] else [])
  | [], st, h => by
    show b64end st = st.1 ++ [] ++ []
    unfold b64end
    rw [if_neg (by omega), if_neg (by omega)]
    simp
  | [a], st, h => by
    have h1 : (a % 4096 * 16 + a / 4096 % 16) / 256 < 256 := by omega
    have h2 : (a % 4096 * 16 + a / 4096 % 16) % 256 < 256 := Nat.mod_lt _ (by decide)
    have hk : a / 4096 % 16 < 16 := Nat.mod_lt _ (by decide)
    have g1 := lo_hi a
    have g2 := lo_lo a
    have f1 : (a % 4096 * 16 + a / 4096 % 16) / 256 / 4 = a / 64 % 64 := by rw [← g1]; exact two_f1 _ _ hk
    have f2 : (a % 4096 * 16 + a / 4096 % 16) / 256 % 4 * 16 + (a % 4096 * 16 + a / 4096 % 16) % 256 / 16 = a % 64 := by rw [← g2]; exact two_f2 _ _ hk
    have f3 : (a % 4096 * 16 + a / 4096 % 16) % 256 % 16 * 4 = a / 4096 % 16 * 4 := by rw [Nat.mod_mod_of_dvd _ (show 16 ∣ 256 by decide), Nat.mul_comm (a % 4096), Nat.mul_add_mod, Nat.mod_mod]
    show b64end ([(a % 4096 * 16 + a / 4096 % 16) / 256, (a % 4096 * 16 + a / 4096 % 16) % 256].foldl b64step st) = st.1 ++ [sg64 (a / 64 % 64), sg64 (a % 64), sg64 (a / 4096 % 16 * 4)] ++ [61]
    generalize (a % 4096 * 16 + a / 4096 % 16) / 256 = u at *
    generalize (a % 4096 * 16 + a / 4096 % 16) % 256 = v at *
    show b64end (b64step (b64step st u) v) = _
    rw [step0 h, step2 (st := (_, 2, _)) rfl]
    dsimp only
    rw [sx1 _ _ h1, sx2 _ _ _ h1 h2, f1, f2]
    show st.1 ++ [sg64 (a / 64 % 64)] ++ [sg64 (a % 64)] ++ [sg64 ((((st.2.2 % 256 * 256 + u) % 256 * 256 + v)) % 16 * 4)] ++ [61] = _
    rw [sx5, f3]
    simp only [List.append_assoc, List.cons_append, List.nil_append]
  | a :: b :: r, st, h => by
    obtain ⟨lc, e⟩ := step_three st h (a % 4096) (b % 4096) (Nat.mod_lt _ (by decide)) (Nat.mod_lt _ (by decide))
    show b64end ((three (a % 4096) (b % 4096) ++ encAll r).foldl b64step st) = _
    rw [List.foldl_append, e, enc_fold r _ rfl]
    rw [lo_hi, lo_lo, lo_hi, lo_lo]
    show _ = st.1 ++ ([sg64 (a / 64 % 64), sg64 (a % 64), sg64 (b / 64 % 64), sg64 (b % 64)] ++ (rowAll r).map sg64) ++ (if (r.length + 2) % 2 = 1 then [61] else [])
    rw [Nat.add_mod_right]
    simp only [List.append_assoc, List.cons_append, List.nil_append]
noncomputable def bytesOf (l : List Nat) : List UInt8 := l.map (·.toUInt8)
theorem b64_enc (as : List Nat) : b64of (bytesOf (encAll as)) = (rowAll as).map sg64 ++ (if as.length % 2 = 1 then [61] else []) := by
  unfold b64of b64at
  rw [List.take_length]
  have e : ∀ (l : List Nat) st, (∀ o ∈ l, o < 256) → (bytesOf l).foldl (fun st c => b64step st c.toNat) st = l.foldl b64step st := by
    intro l
    induction l with
    | nil => intro st _; rfl
    | cons o r ih =>
      intro st h
      have h0 : o.toUInt8.toNat = o := by
        show (UInt8.ofNat o).toNat = o
        rw [UInt8.toNat_ofNat']
        have := h o (.head _)
        omega
      show (bytesOf r).foldl _ (b64step st o.toUInt8.toNat) = r.foldl b64step (b64step st o)
      rw [h0, ih _ fun x hx => h x (.tail _ hx)]
  rw [e _ _ (enc_byte as), enc_fold as _ rfl]
  rfl
end Mine
end
section
open PySem PySem.W PyProof.Rows
set_option Elab.async false
set_option maxRecDepth 100000
set_option maxHeartbeats 4000000
namespace Mine
noncomputable def letters : Str := Str.ofString "ABCDEFGHIJKLMNOPQRSTUVWXYZabcdefghijklmnopqrstuvwxyz0123456789"
noncomputable def signsOf (pair : Str) (row : List Int) : List Str := row.map fun f => Txt.item (letters ++ pair) f
noncomputable def textOf (pair : Str) (row : List Int) : Str := if (Txt.join (Str.ofString "") (signsOf pair row)).length % 4 > 0 then Txt.join (Str.ofString "") (signsOf pair row) ++ Str.ofString "=" else Txt.join (Str.ofString "") (signsOf pair row)
theorem item_len {x : Str} {k : Int} (h0 : 0 ≤ k) (h1 : k < (x.length : Int)) : (Txt.item x k).length = 1 := rfl
theorem signs_len {pair : Str} {row : List Int} (hp : pair.length = 2) (hr : ∀ f ∈ row, 0 ≤ f ∧ f < 64) : (signsOf pair row).map (·.length) = row.map fun _ => 1 := by
  unfold signsOf
  rw [List.map_map]
  refine List.map_congr_left fun f hf => ?_
  obtain ⟨h0, h1⟩ := hr f hf
  have hl62 : letters.length = 62 := by decide +kernel
  exact item_len h0 (by rw [Str.length_append, hl62, hp]; omega)
theorem sum_ones {α : Type} : ∀ (l : List α), (l.map fun _ => 1).sum = l.length
  | [] => rfl
  | _ :: r => by rw [List.map_cons, List.sum_cons, sum_ones r, List.length_cons, Nat.add_comm]
theorem signs_sum {pair : Str} {row : List Int} (hp : pair.length = 2) (hle : row.length ≤ 100) (hr : ∀ f ∈ row, 0 ≤ f ∧ f < 64) : ((signsOf pair row).map (·.length)).sum + (signsOf pair row).length ≤ 1048576 := by
  rw [signs_len hp hr, sum_ones]
  unfold signsOf
  rw [List.length_map]
  omega
theorem sjoin_len : ∀ (l : List Str), (Str.join (Str.ofString "") l).length = (l.map (·.length)).sum
  | [] => rfl
  | [x] => by show x.length = [x.length].sum; simp
  | x :: y :: r => by
    show (x ++ Str.ofString "" ++ Str.join (Str.ofString "") (y :: r)).length = _
    have h0 : (Str.ofString "").length = 0 := by decide
    rw [Str.length_append, Str.length_append, sjoin_len (y :: r), h0]
    show x.length + 0 + _ = (x.length :: (y :: r).map (·.length)).sum
    rw [List.sum_cons, Nat.add_zero]
theorem join_len (l : List Str) : (Txt.join (Str.ofString "") l).length = (l.map (·.length)).sum := by
  show (PySem.Builtin.Str.glued (Str.ofString "") l).length = _
  rw [StrLaws.glued_eq_join, sjoin_len]
theorem join_le {pair : Str} {row : List Int} (hp : pair.length = 2) (hle : row.length ≤ 100) (hr : ∀ f ∈ row, 0 ≤ f ∧ f < 64) : (Txt.join (Str.ofString "") (signsOf pair row)).length ≤ 100 := by
  rw [join_len, signs_len hp hr, sum_ones]
  exact hle
theorem c_text (w : World) (rl : Addr) (pair : Str) (t : Tok) (rs : List Value) (k : Nat) (row : List Int) (news : List (Addr × Obj)) (m1 : (rl, listOf rs.toArray k) ∈ news) (hrs : IntsAre rs row) (hle : row.length ≤ 100) (hr : ∀ f ∈ row, 0 ≤ f ∧ f < 64) (hp : pair.length = 2) : Called w 869 [.ref rl, .str pair t] news 4 (RetV news fun t => .str (textOf pair row) t) := by
  have hl62 : letters.length = 62 := by decide +kernel
  have hsl : (letters ++ pair).length = 64 := by rw [Str.length_append, hl62, hp]
  unfold letters at hsl
  have hrsH : Halt (IntsAre rs row) := hrs
  clear hrs
  have hp2 : pair.length ≤ 16 := by omega
  dsimp only [Called, RetV, thePg]
  k_fill
  intros
  rename_i hret
  refine wpAny_call ?_
  k_dflt (refine' code_defC (binds := [(Str.ofString "row", .ref rl), (Str.ofString "pair", .str pair t)]) ?k1 ?k2 ?k3 ?k4 ?k5 ?kA ?kF ?kK ?k6 ?k7 ?k8 ?k9 ?kB ?kD ?_ ?c2 ?c3 ?c4; (case kA => exact rfl); (case kF => exact rfl); (case kK => assumption); (case k1 => k_asm); (case k2 => k_asm); (case k3 => k_asm); (case k4 => k_asm); (case k5 => k_asm); (case k6 => k_is); (case k7 => k_is); (case k8 => ktr_room); (case k9 => first | exact BindsTo.of_eq rfl | exact binds_K (by k_in) rfl (by k_is) rfl rfl rfl); (case kB => exact rfl); (case kD => decide +kernel); (case c2 => exact rfl); (case c3 => exact rfl); (case c4 => exact rfl); k_whole; intro g' L' h' tk' cells' FG' F' N' Y' B' X' T' l1; k_cells Y'; (try simp only [List.cons_append, List.nil_append] at N'); (try dsimp only))
  refine let_all ?_
  intro v9 Q9 E9
  have c1 : ∀ p ∈ news, p.1 ≠ L' + 1 := fun p hp => Nat.ne_of_lt (Nat.lt_succ_of_lt (l1 p hp))
  k_steps
  with_reducible rename Fr _ _ _ _ => F9
  with_reducible rename News _ _ _ _ => N9
  have hrs : IntsAre rs row := hrsH
  have hsz : rs.toArray.size = row.length := by rw [List.size_toArray, hrs.length]
  have hfit : rs.toArray.size ≤ sizeLine := by
    have : sizeLine = 16777216 := by decide
    omega
  refine halt' (LCg.CompSrc.ledger rfl F9 N9 (.tail _ m1) hfit ?_)
  intro g9
  rw [hsz]
  clear F9 N9
  refine comp_inv (fun i ys nw => nw = _ ∧ StrsAre ys ((row.take i).map fun f => Txt.item (letters ++ pair) f)) row.length ?step ?fin row.length 0 [] _ (by omega) ⟨rfl, .nil⟩
  case step =>
    rintro i ys nw v I oI C oC D m₂ h tk E' hi ⟨rfl, hys⟩ hv hC hk F N off ne
    obtain ⟨f, hf⟩ : ∃ f, row[i]? = some f := ⟨_, List.getElem?_eq_getElem hi⟩
    obtain ⟨tf, hvf⟩ := hrs.get i f hf
    have hv2 : rs[i]? = some v := by simpa using hv
    rw [hv2] at hvf
    obtain rfl := Option.some.inj hvf
    obtain ⟨hf0, hf1⟩ := hr f (List.mem_of_getElem? hf)
    have hmem : (rl, listOf rs.toArray k) ∈ news := m1
    clear hvf hv hv2 hrs
    k_steps
    with_reducible rename Fr _ _ _ _ => F8
    with_reducible rename News _ _ _ _ => N8
    refine halt' (LCg.CompEnd.intro F8 N8 _ (fun p hp => hp) off (.inr ⟨_, .tail _ m1, rfl, _, rfl⟩) ⟨rfl, ?_⟩)
    rw [List.take_succ_eq_append_getElem hi, List.map_append]
    have e : row[i] = f := (List.getElem?_eq_some_iff.mp hf).2
    rw [e]
    exact hys.append' (.cons _ _ .nil)
  case fin =>
    rintro ys nw ⟨rfl, hys⟩
    rw [List.take_length] at hys
    clear hrs
    k_steps
    with_reducible rename News _ _ _ _ => N8
    refine join_listW (items := ys.toArray) (ys := signsOf pair row) ⟨_, (N8 _ (.head _)).1, rfl, _, rfl⟩ (by unfold signsOf; simpa using hys) (by decide) (signs_sum hp hle hr) ?_
    intro t' k'
    have hN := N8
    clear N8
    have N9 := news_tail (news_tail hN)
    clear hN
    by_cases hm : (Txt.join (Str.ofString "") (signsOf pair row)).length % 4 > 0
    · have hc : (Int.fmod ((Txt.join (Str.ofString "") (signsOf pair row)).length : Int) 4) > 0 := by
        rw [Int.fmod_eq_emod_of_nonneg _ (by omega)]; omega
      have e : textOf pair row = Txt.join (Str.ofString "") (signsOf pair row) ++ Str.ofString "=" := if_pos hm
      have hjl := join_le hp hle hr
      k_steps
      rw [← e]
      exact hret _ _ _ (by k_asm) (by k_asm)
    · have hc : ¬ (Int.fmod ((Txt.join (Str.ofString "") (signsOf pair row)).length : Int) 4) > 0 := by
        rw [Int.fmod_eq_emod_of_nonneg _ (by omega)]; omega
      have e : textOf pair row = Txt.join (Str.ofString "") (signsOf pair row) := if_neg hm
      have hjl := join_le hp hle hr
      k_steps
      rw [← e]
      exact hret _ _ _ (by k_asm) (by k_asm)
end Mine
end
example {M : Model} {A : Around} {E : Value → Shared → Prop} {s : Shared} {env : Env} {p : Pos} {Q : Flow → Shared → Prop} (h : wpAny M A (exec (.Pass p) env) Q E s) : wpAny M A (exec (.Pass p) env) Q E s := by first | (walk1; fail) | exact h
section
open PySem PySem.W PyProof.Rows
set_option Elab.async false
set_option maxRecDepth 100000
set_option maxHeartbeats 8000000
namespace Mine
noncomputable def theSigns : Str := Str.ofString "+/-_()<>|&;.*?~@:"
noncomputable def pairOf (n : Int) : Str := Txt.item theSigns (Int.fmod n 17) ++ Txt.item theSigns (Int.fmod (Int.fmod n 17 + 1 + Int.fmod (Int.fdiv n 17) 16) 17)
theorem c_pair (w : World) (n : Int) (t : Tok) (news : List (Addr × Obj)) : Called w 916 [.int n t] news 1 (RetV news fun t => .str (pairOf n) t) := by
  dsimp only [Called, RetV, thePg]
  k_fill
  intros
  rename_i hret
  refine wpAny_call ?_
  k_dflt (refine' code_def (binds := [(Str.ofString "total", .int n t)]) ?k1 ?k2 ?k3 ?k4 ?k5 ?kA ?kF ?kK ?k6 ?k7 ?k8 ?k9 ?kB ?_ ?c2 ?c3 ?c4 ?c5; (case kA => exact rfl); (case kF => exact rfl); (case kK => assumption); (case k1 => k_asm); (case k2 => k_asm); (case k3 => k_asm); (case k4 => k_asm); (case k5 => k_asm); (case k6 => k_is); (case k7 => k_is); (case k8 => ktr_room); (case k9 => first | exact BindsTo.of_eq rfl | exact binds_K (by k_in) rfl (by k_is) rfl rfl rfl); (case c5 => decide); (case kB => exact locs rfl); (case c2 => exact rfl); (case c3 => exact rfl); (case c4 => exact rfl); k_whole; intro g' L' h' FG' F' N' B' X' T'; (try dsimp only))
  refine let_all ?_
  intro v9 Q9 E9
  k_steps
  all_goals exact hret _ _ _ (by k_asm) (by k_asm)
end Mine
end
example {M : Model} {A : Around} {E : Value → Shared → Prop} {s : Shared} {env : Env} {p : Pos} {Q : Flow → Shared → Prop} (h : wpAny M A (exec (.Pass p) env) Q E s) : wpAny M A (exec (.Pass p) env) Q E s := by first | (walk1; fail) | exact h
section
open PySem PySem.W PyProof.Rows
set_option maxRecDepth 100000
namespace Mine
theorem inS_one (c : Nat) (x : Str) : inS ⟨#[c]⟩ x = decide (c ∈ x.cps.toList) := StrLaws.found_one x c
/-- the signs that a writing may hold -/
noncomputable def allowed : List Nat := (letters ++ Str.ofString "+/-_()<>|&;.*?~@:=").cps.toList
noncomputable def goodB (c : Nat) : Bool := !((⟨#[c]⟩ : Str) == Str.ofString "\n") && !decide (c ∈ (Str.ofString " \t\r\n").cps.toList) && !decide (c ∈ (Str.ofString "#").cps.toList) && !decide (c ∈ (Str.ofString "'\"").cps.toList) && !decide (c ∈ (Str.ofString "\\").cps.toList) && !decide (c ∈ (Str.ofString "").cps.toList)
theorem allowed_good : (allowed.all goodB) = true := by decide +kernel
theorem good_of {c : Nat} (h : c ∈ allowed) : Good ⟨#[c]⟩ := by
  have g := List.all_eq_true.mp allowed_good c h
  simp only [goodB, Bool.and_eq_true, Bool.not_eq_true'] at g
  obtain ⟨⟨⟨⟨⟨g1, g2⟩, g3⟩, g4⟩, g5⟩, g6⟩ := g
  exact ⟨Nat.le_refl 1, Nat.le_refl 1, g1, by rw [inS_one]; exact g2, by rw [inS_one]; exact g3, by rw [inS_one]; exact g4, by rw [inS_one]; exact g5, by rw [inS_one]; exact g6⟩
end Mine
end
section
open PySem PySem.W PyProof.Rows PySem.Calls
set_option Elab.async false
set_option maxRecDepth 100000
set_option maxHeartbeats 4000000
namespace Mine
open PySem.Builtin
noncomputable def asBytes (x : Str) : Array UInt8 := (x.cps.toList.map (·.toUInt8)).toArray
theorem find_none {x : Str} (hx : ∀ c ∈ x.cps.toList, c < 128) : x.cps.findIdx? _codecs.asciiCodec.bad = none := by
  rw [Array.findIdx?_eq_none_iff]
  intro c hc
  have := hx c (by simpa using hc)
  show decide (c ≥ 128) = false
  simpa using this
theorem range_list {β : Type} (n : Nat) (f : Nat → β → Sem (ForInStep β)) (init : β) : forIn [:n] init f = forIn (List.range' 0 n) init f := by
  rw [Std.Legacy.Range.forIn_eq_forIn_range']
  show forIn (List.range' 0 ((n - 0 + 1 - 1) / 1) 1) init f = _
  rw [Nat.div_one, Nat.sub_zero, Nat.add_sub_cancel]
/-- a loop that does its work in the first turn -/
theorem loop_two {β : Type} (n : Nat) (f : Nat → β → Sem (ForInStep β)) (init b1 : β) (h0 : 1 ≤ n → f 0 init = pure (.yield b1)) (h1 : ∀ k, f k b1 = pure (.done b1)) : forIn [:n] init f = pure (if n = 0 then init else b1) := by
  rw [range_list]
  match n, h0 with
  | 0, _ => rfl
  | 1, h0 =>
    show forIn [0] init f = _
    rw [List.forIn_cons, h0 (by decide)]
    rfl
  | n + 2, h0 =>
    show forIn (0 :: 1 :: List.range' 2 n) init f = _
    rw [List.forIn_cons, h0 (by omega)]
    show forIn (1 :: List.range' 2 n) b1 f = _
    rw [List.forIn_cons, h1]
    rfl
theorem loop_all {β : Type} (n : Nat) (f : Nat → β → Sem (ForInStep β)) (st : Nat → β) (h : ∀ k, k < n → f k (st k) = pure (.yield (st (k + 1)))) : forIn [:n] (st 0) f = pure (st n) := by
  rw [range_list]
  have go : ∀ m i, i + m = n → forIn (List.range' i m) (st i) f = pure (st n) := by
    intro m
    induction m with
    | zero => intro i e; rw [← e]; rfl
    | succ m ih =>
      intro i e
      show forIn (i :: List.range' (i + 1) m) (st i) f = _
      rw [List.forIn_cons, h i (by omega)]
      exact ih (i + 1) (by omega)
  exact go n 0 (by omega)
theorem narrow_ascii {id : String} {self : Value} {x : Str} (hx : ∀ c ∈ x.cps.toList, c < 128) (hl : x.length ≤ 100000) : _codecs.encodeNarrow id _codecs.asciiCodec none self x = pure (asBytes x) := by
  have hf := find_none hx
  have hz : sizeLine = 16777216 := by decide
  unfold _codecs.encodeNarrow
  have hb : ∀ c ∈ x.cps.toList, (!_codecs.asciiCodec.bad c) = true := by
    intro c hc
    have := hx c hc
    show (!decide (c ≥ 128)) = true
    simp; omega
  have hs : (asBytes x).size = x.length := by unfold asBytes; simp [Str.length]
  refine (congrArg (· >>= _) (loop_two x.length _ _ (x.cps.size, asBytes x, {}) ?_ ?_)).trans ?_
  · intro h1
    have h1' : 0 < x.cps.size := h1
    dsimp only
    rw [if_neg (by decide), Array.getElem?_eq_getElem h1']
    dsimp only
    rw [if_pos (hb _ (by simp))]
    have e : x.cps.extract 0 = x.cps := by simp
    rw [e, hf]
    have e2 : (x.cps.extract 0 (none.getD x.cps.size)) = x.cps := by simp
    rw [e2]
    have e3 : Array.foldl (fun acc y => acc ++ (_codecs.asciiCodec.bytesOf y).toArray) #[] x.cps = asBytes x := by
      rw [← Array.foldl_toList]
      unfold asBytes
      have : ∀ (l : List Nat) (acc : Array UInt8), List.foldl (fun acc y => acc ++ (_codecs.asciiCodec.bytesOf y).toArray) acc l = acc ++ (l.map (·.toUInt8)).toArray := by
        intro l
        induction l with
        | nil => intro acc; simp
        | cons c r ih =>
          intro acc
          rw [List.foldl_cons, ih]
          show acc ++ [c.toUInt8].toArray ++ _ = _
          simp
      rw [this]; simp
    rw [e3]
    show pure (ForInStep.yield (0 + x.cps.size, asBytes x, _)) = _
    rw [Nat.zero_add]
  · intro k
    dsimp only
    rw [if_neg (by rw [hs, hz]; omega), Array.getElem?_eq_none (Nat.le_refl _)]
  · by_cases h0 : x.length = 0
    · rw [if_pos h0]
      have : asBytes x = #[] := by
        have : x.cps.toList = [] := List.eq_nil_of_length_eq_zero (by simpa [Str.length] using h0)
        unfold asBytes
        rw [this]; rfl
      rw [this]
      rfl
    · rw [if_neg h0]
      rfl
theorem enc_arg (u : Tok) : Str.codecArg "str.encode" "encode" "'encoding'" (some (.str (Str.ofString "ascii") u)) = pure (some (Str.ofString "ascii")) := by kernel_rfl
theorem enc_road (id : String) (self : Value) (x : Str) : _codecs.encodeRoad id self x (Str.ofString "ascii") none = (do mkBytes (← _codecs.encodeNarrow id _codecs.asciiCodec none self x)) := by kernel_rfl
theorem enc_arg0 (x : Str) (t u : Tok) : «str.encode» ⟨[.str x t, .str (Str.ofString "ascii") u], []⟩ = (do
  let e ← Str.codecArg "str.encode" "encode" "'encoding'" (some (.str (Str.ofString "ascii") u))
  ret (← _codecs.encodeRoad "str.encode" (.str x t) x (e.getD "utf-8") none)) := rfl
theorem enc_eq (x : Str) (t u : Tok) (hx : ∀ c ∈ x.cps.toList, c < 128) (hl : x.length ≤ 100000) : «str.encode» ⟨[.str x t, .str (Str.ofString "ascii") u], []⟩ = (mkBytes (asBytes x) >>= fun v => ret v) := by
  rw [enc_arg0, enc_arg]
  show (_codecs.encodeRoad "str.encode" (.str x t) x (Str.ofString "ascii") none >>= fun v => ret v) = _
  rw [enc_road, narrow_ascii hx hl]
  rfl
theorem enc_meets (x : Str) (t u : Tok) (hx : ∀ c ∈ x.cps.toList, c < 128) (hl : x.length ≤ 100000) : Meets («str.encode» ⟨[.str x t, .str (Str.ofString "ascii") u], []⟩) (fun _ R s => R (.ok (.ret (.bytes (asBytes x) s.toks))) { s with toks := s.toks + 1 }) := by
  refine .of_wp fun prog w A R s h => ?_
  rw [enc_eq x t u hx hl]
  refine wpAny_bind (wpAny_mkBytes (wpAny_pure ⟨_, rfl, h⟩) ?_)
  have hs : (asBytes x).size = x.length := by unfold asBytes; simp [Str.length]
  have hz : sizeLine = 16777216 := by decide
  omega
noncomputable def txtOf (b : List UInt8) : Str := ⟨(b.map (·.toNat)).toArray⟩
theorem run_ascii {id : String} {b : List UInt8} (hb : ∀ c ∈ b, c.toNat < 128) (hl : b.length ≤ 100000) : _codecs.runDecoder id _codecs.asciiDecoder none true b.toArray 0 [] = pure ((txtOf b).cps, b.length) := by
  have hz : sizeLine = 16777216 := by decide
  unfold _codecs.runDecoder
  refine (congrArg (· >>= _) (loop_all (β := Nat × Array Nat × _codecs.Faults) b.toArray.size _ (fun k => (k, ((b.take k).map (·.toNat)).toArray, ({ held := [] } : _codecs.Faults))) ?_)).trans ?_
  · intro k hk
    have hk' : k < b.length := by simpa using hk
    dsimp only
    rw [if_neg (by simp; omega), if_neg (by simp; omega)]
    have e : _codecs.asciiDecoder.find true b.toArray k = .char (b[k]).toNat (k + 1) := by
      show (if (b.toArray.getD k 0).toNat < 128 then _ else _) = _
      have : b.toArray.getD k 0 = b[k] := by simp [hk']
      rw [this, if_pos (hb _ (List.getElem_mem hk'))]
    rw [e]
    show pure (ForInStep.yield (k + 1, _ ++ [(b[k]).toNat].toArray, _)) = _
    rw [List.take_succ_eq_append_getElem hk', List.map_append]
    simp
  · show (pure ((((b.take b.toArray.size).map (·.toNat)).toArray, b.toArray.size)) : Sem _) = _
    simp [txtOf]
theorem dec_eq (c : UInt8) (cs : List UInt8) (t u : Tok) : «bytes.decode» ⟨[.bytes (c :: cs).toArray t, .str (Str.ofString "ascii") u], []⟩ = (mkStr (PySem.Str.ofString "utf-8") >>= fun _ => mkStr (PySem.Str.ofString "ascii") >>= fun e => mkStr (PySem.Str.ofString "bytes.decode") >>= fun d =>
    call (.builtin "_codecs.decode.text") [.bytes (c :: cs).toArray t, e, .none, d] >>= fun v => ret v) := by kernel_rfl
theorem droad_eq {id : String} {b : Array UInt8} : _codecs.decodeRoad id b (PySem.Str.ofString "ascii") none [] = (_codecs.runDecoder id _codecs.asciiDecoder none true b 0 [] >>= fun r => mkStr ⟨r.1⟩) := by kernel_rfl
theorem dtext_meets {b : List UInt8} {t t1 t2 : Tok} {d : PySem.Str} (hb : ∀ c ∈ b, c.toNat < 128) (hl : b.length ≤ 100000) :
    Meets («_codecs.decode.text» ⟨[.bytes b.toArray t, .str (PySem.Str.ofString "ascii") t1, .none, .str d t2], []⟩) (fun _ R s => R (.ok (.ret (.str (txtOf b) s.toks))) { s with toks := s.toks + 1 }) := by
  refine .of_wp fun prog w A R s h => ?_
  show wpAny _ _ (Bytes.bytesLike _ (.bytes b.toArray t) >>= fun r => _) _ _ s
  refine wpAny_bind (wpAny_of_eq KBd.like_eq ?_)
  refine wpAny_bind (wpAny_of_eq KBd.held_eq ?_)
  show wpAny _ _ (_codecs.decodeRoad _ b.toArray (PySem.Str.ofString "ascii") none [] >>= fun v => _) _ _ s
  rw [droad_eq, run_ascii hb hl]
  refine wpAny_bind (wpAny_bind (wpAny_pure ?_))
  refine wpAny_mkStr (wpAny_pure ⟨_, rfl, h⟩) ?_
  have hz : sizeLine = 16777216 := by decide
  show (txtOf b).length ≤ _
  unfold txtOf Str.length
  simp; omega
theorem dec_meets {c : UInt8} {cs : List UInt8} {t u : Tok} (hb : ∀ d ∈ c :: cs, d.toNat < 128) (hl : (c :: cs).length ≤ 100000) :
    Meets («bytes.decode» ⟨[.bytes (c :: cs).toArray t, .str (Str.ofString "ascii") u], []⟩) (fun _ R s => ∀ t' k, R (.ok (.ret (.str (txtOf (c :: cs)) t'))) { s with toks := k }) := by
  refine .of_wp fun prog w A R s h => ?_
  rw [dec_eq]
  refine wpAny_bind (wpAny_mkStr ?_ (by decide))
  refine wpAny_bind (wpAny_mkStr ?_ (by decide))
  refine wpAny_bind (wpAny_mkStr ?_ (by decide))
  exact wpAny_bind (call_function_meets KBd.kind_text KBd.plain_text KBd.entry_text (KBd.args_text _ _ _ _) (dtext_meets hb hl) (wpAny_pure ⟨_, rfl, h _ _⟩))
theorem enc_args (a b : Value) : argsOk "str.encode" ⟨[a, b], []⟩ := by unfold argsOk; kernel_rfl
theorem dec_args (a b : Value) : argsOk "bytes.decode" ⟨[a, b], []⟩ := by unfold argsOk; kernel_rfl
section
variable {prog : Program} {w : World} {A : Around} {E : Value → Shared → Prop} {s : Shared}
theorem enc_call {x : Str} {t u : Tok} {Q : Value → Shared → Prop} (hx : ∀ c ∈ x.cps.toList, c < 128) (hl : x.length ≤ 100000) (h : ∀ t' k, Q (.bytes (asBytes x) t') { s with toks := k }) :
    wpAny (model prog w) A (call (.builtin "str.encode") [.str x t, .str (Str.ofString "ascii") u]) Q E s :=
  call_meets PySem.F.slot_str_encode (typeIs_str _ _ _) PySem.F.entry_str_encode (enc_args _ _) (enc_meets x t u hx hl) (h _ _)
theorem dec_call {b : List UInt8} {t u : Tok} {Q : Value → Shared → Prop} (hb : ∀ d ∈ b, d.toNat < 128) (hl : b.length ≤ 100000) (hne : b ≠ []) (h : ∀ t' k, Q (.str (txtOf b) t') { s with toks := k }) :
    wpAny (model prog w) A (call (.builtin "bytes.decode") [.bytes b.toArray t, .str (Str.ofString "ascii") u]) Q E s := by
  match b, hne, hb, hl, h with
  | c :: cs, _, hb, hl, h => exact call_meets FB.slot_bytes_decode (typeIs_bytes _ _ _) FB.entry_bytes_decode (dec_args _ _) (dec_meets hb hl) h
end
end Mine
end
section
open PySem PySem.W PyProof.Rows PySem.Calls Builtin Builtin.ObjectAttr Builtin.Getset_descriptor
set_option Elab.async false
set_option maxRecDepth 100000
set_option maxHeartbeats 4000000
namespace Mine
/-- what a __new__ of the text's own hands back -/
noncomputable def NewBack (M : Model) (A : Around) (C : Addr) (init : Value) (rest : List Value) (kw : List (Str × Value)) (R : Result → Shared → Prop) (v : Value) (s' : Shared) : Prop :=
  ∃ x ox, v = .ref x ∧ s'.heap.get? x = some ox ∧ ox.cls = .ref C ∧ Looks M s'.heap (isSubtype (.ref C) (.ref C)) true ∧ Looks M s'.heap (typeLookup (.ref C) "__init__") (some init) ∧ Looks M s'.heap (bindSpecial init (.ref x)) (init, [.ref x]) ∧
    codeAny M A (.call init ⟨.ref x :: rest, kw⟩) (InitBack x R) s'
theorem make_coreN {prog : Program} {w : World} {A : Around} {C : Addr} {R : Result → Shared → Prop} {h : Heap} {g : Array GenState} {d : Drawn} {t : Nat} {os : OsState} {rest : List Value} {kw : List (Str × Value)} {init : Value} {fN : Addr} {oc : Value} {od : Option Addr} {cd : ClassData} {sl : Array (Option Value)}
    (hC : h.get? C = some ⟨oc, od, .cls cd, sl⟩) (e4 : cd.mro.isEmpty = false) (made : Looks (model prog w) h (Bind.madeBy (.ref C)) none) (ga : ∀ (A : Around) (Q E : Value → Shared → Prop), Q (.ref fN) ⟨h, g, d, t + 1, os⟩ → wpAny (model prog w) A (getAttr (.ref C) "__new__") Q E ⟨h, g, d, t, os⟩)
    (call : Looks (model prog w) h (specialOf (.ref C) "__call__") (some (.builtin "type.__call__"))) (typ : Looks (model prog w) h (isInstance (.ref C) (.type "type")) true)
    (hq : codeAny (model prog w) (A.under (.builtin "type.__call__" ⟨.ref C :: rest, kw⟩)) (.call (.ref fN) ⟨.ref C :: rest, kw⟩) (fun r s' => match r with | .ok (.ret v) => NewBack (model prog w) (A.under (.builtin "type.__call__" ⟨.ref C :: rest, kw⟩)) C init rest kw R v s' | .ok _ => False | .error e => R (.error e) s') ⟨h, g, d, t + 1, os⟩) :
    codeAny (model prog w) A (.call (.ref C) ⟨rest, kw⟩) R ⟨h, g, d, t, os⟩ := by
  refine codeAny_of_tree ?_
  show wpAny _ _ (callAny (.ref C) _) _ _ _
  refine nd_load hC ?_
  show wpAny _ _ (callAny.viaDunder (.ref C) _) _ _ _
  unfold callAny.viaDunder
  refine wpAny_bind (call.at ?_)
  dsimp only
  rw [tc_bind]
  refine wpAny_bind (wpAny_pure (wpAny_bind (wpAny_pure ?_)))
  refine wpAny_pure (a := Fin.again (.call (.builtin "type.__call__") ⟨.ref C :: rest, kw⟩)) (And.intro rfl ?_)
  refine codeAny_call_builtin_at (Code.quiet_builtin _ (by decide +kernel)) entry_typeCall (check_slot tc_kind tc_split typ (tc_args _ _ _) ?_)
  unfold Builtin.«type.__call__»
  have hm : Looks (model prog w) h (mroOf (.ref C)) cd.mro := ((Looks.ld (part := none) hC).andThen .now).andThen .now
  repeat (first | simp only [e4, Bool.false_eq_true, if_false] | with_reducible refine wpAny_call ?_ | (refine wpAny_bind (ga _ _ _ ?_)) | lk)
  refine codeAny_mono hq fun r s' z => ?_
  rcases r with e | (v | _ | _ | _) <;> first | exact z | exact z.elim | skip
  obtain ⟨x, ox, rfl, hx, hcl, self, hi, hb, z⟩ := z
  obtain ⟨h', g', d', t', os'⟩ := s'
  dsimp only at hx self hi hb z ⊢
  have t1 : Looks (model prog w) h' (typeOf (.ref x)) (.ref C) := (Looks.ld hx).andThen (Looks.of_pure (by rw [hcl]))
  unfold isInstance callSpecial? specialOf
  repeat (first | with_reducible refine wpAny_call ?_ | lk)
  refine codeAny_mono z fun r s' z => ?_
  rcases r with e | (v | _ | _ | _) <;> first | exact z | exact z.elim | skip
  obtain ⟨rfl, z⟩ := z
  exact wpAny_pure (wpAny_pure z)
theorem new_KN {prog : Program} {w : World} {A : Around} {C : Addr} {R : Result → Shared → Prop} {h : Heap} {g : Array GenState} {d : Drawn} {t : Nat} {os : OsState} {oc : Value} {od : Option Addr} {cd : ClassData} {sl : Array (Option Value)}
    (hC : h.get? C = some ⟨oc, od, .cls cd, sl⟩) (e1 : cd.abstract = false) (e2 : cd.hasDel = false) (base : Looks (model prog w) h (Bind.staticBase (.ref C)) (.type "object")) (made : Looks (model prog w) h (Bind.madeBy (.type "object")) (some "object.__new__"))
    (self : Looks (model prog w) h (isSubtype (.ref C) (.ref C)) true) (top : Looks (model prog w) h (isSubtype (.ref C) (.type "object")) true) (typ : Looks (model prog w) h (isInstance (.ref C) (.type "type")) true)
    (hq : R (.ok (.ret (.ref (h.objs.size + 1)))) ⟨(h.push emptyDict).push (instObj C h.objs.size), g, d, t, os⟩) :
    codeAny (model prog w) A (.call (.builtin "object.__new__") ⟨[.ref C], []⟩) R ⟨h, g, d, t, os⟩ := by
  have F := PySem.F.objNew
  refine codeAny_call_builtin_code (Code.quiet_builtin _ F.quiet) ?_
  simp only [checkBuiltinCall, F.kind, F.split, F.row]
  have here : Looks (model prog w) h (Bind.madeHere "object.__new__" (.ref C)) () := base.andThen (made.andThen (Looks.of_pure (by simp only [Option.map_some, bne_self_eq_false, Bool.false_eq_true, if_false])))
  have args : Bind.checkArgs "object.__new__" ⟨.hand, "object.__new__", "__new__", .cls, []⟩ ⟨[.ref C], []⟩ = pure () := by kernel_rfl
  rw [args]
  repeat (first | simp only [bne_self_eq_false, Bool.false_eq_true, if_false] | lk)
  refine codeAny_builtin F.entry ?_
  unfold Builtin.«object.__new__»
  have fin : ∀ A', wpAny (model prog w) A' (do
      let d ← if typeHasDict (.ref C) then some <$> alloc { cls := .type "dict", data := .dict #[] } else pure none
      ret (← newObj (.ref C) .plain d)) (fun fin s' => match fin with | .done f => R (.ok f) s' | .again c' => c'.quiet = true ∧ codeAny (model prog w) A c' R s') (fun e s' => R (.error e) s') ⟨h, g, d, t, os⟩ := by
    intro A'
    show wpAny _ _ ((alloc emptyDict >>= fun x => pure (some x)) >>= _) _ _ _
    refine wpAny_bind (wpAny_bind (wpAny_alloc (wpAny_pure (wpAny_bind ?_))))
    show wpAny _ _ (newObjAsIs _ _ _) _ _ _
    unfold newObjAsIs classHasDel
    refine wpAny_bind (wpAny_alloc (wpAny_bind (wpAny_bind (wpAny_load (Heap.get?_push_of_some _ (Heap.get?_push_of_some _ hC)) (wpAny_pure ?_)))))
    rw [e2]
    refine wpAny_pure (wpAny_pure ?_)
    show R _ _
    rw [Heap.size_push]
    exact hq
  repeat (first | simp only [e1, Bool.false_eq_true, if_false] | exact fin _ | lk)
end Mine
end
section
open PySem PySem.W PyProof.Rows
set_option Elab.async false
set_option maxRecDepth 100000
set_option maxHeartbeats 8000000
namespace Mine
theorem sio_made (P : Params) : peek (theK P) ⟨thePg, P⟩ (Bind.madeBy (.ref 587)) = some none := by kernel_rfl
theorem sio_base (P : Params) : peek (theK P) ⟨thePg, P⟩ (Bind.staticBase (.ref 587)) = some (.type "object") := by kernel_rfl
theorem sio_t (P : Params) : typeIn (theK P) (.ref 587) = some (.type "type") := by kernel_rfl
theorem sio_r (P : Params) : readsIn (theK P) 587 (.type "type") = true := by kernel_rfl
theorem sio_f (P : Params) : findCls (theK P) (.ref 587) (.type "type") "__new__" = some (.get (.builtin "staticmethod.__get__") (.ref 84) .none (.ref 587)) := by kernel_rfl
theorem sio_rec (P : Params) : recIn (theK P) 84 "staticmethod" = some [.ref 80] := by kernel_rfl
theorem obj_made (P : Params) : peek (theK P) ⟨thePg, P⟩ (Bind.madeBy (.type "object")) = some (some "object.__new__") := by kernel_rfl
theorem sio_call (P : Params) : specialIn (theK P) (.ref 587) "__call__" = some (some (.builtin "type.__call__")) := by kernel_rfl
theorem sio_typ (P : Params) : instIn (theK P) (.ref 587) (.type "type") = some true := by kernel_rfl
theorem sio_top (P : Params) : mroIn (theK P) 587 (.type "object") = some true := by kernel_rfl
theorem sio_self (P : Params) : mroIn (theK P) 587 (.ref 587) = some true := by kernel_rfl
theorem sio_obj (P : Params) : (theK P).lookup 587 = some (ob587 P) := by kernel_rfl
theorem sio_init (P : Params) : findIn (theK P) (.ref 587) "__init__" = some (some (.ref 357)) := by kernel_rfl
theorem fn357 (P : Params) : typeIn (theK P) (.ref 357) = some (.type "function") := by kernel_rfl
section
variable {w : World} {A : Around} {R : Result → Shared → Prop} {h₀ : Heap} {L : Addr} {m : Str → Option Value} {s : Shared}
theorem sio_make {rest : List Value} {kw : List (Str × Value)} (F : Fr h₀ L s.heap m) (X₀ : (theK w.params).In h₀)
    (hq : codeAny (model thePg w) (A.under (.builtin "type.__call__" ⟨.ref 587 :: rest, kw⟩)) (.call (.ref 80) ⟨.ref 587 :: rest, kw⟩) (fun r s' => match r with | .ok (.ret v) => NewBack (model thePg w) (A.under (.builtin "type.__call__" ⟨.ref 587 :: rest, kw⟩)) 587 (.ref 357) rest kw R v s' | .ok _ => False | .error e => R (.error e) s') { s with toks := s.toks + 1 }) :
    codeAny (model thePg w) A (.call (.ref 587) ⟨rest, kw⟩) R s := by
  have X := X₀.keeps F.keep
  obtain ⟨h, g, d, t, os⟩ := s
  exact make_coreN (fN := 80) (init := .ref 357) (X _ _ (sio_obj _)) rfl (Looks.of_peek X (sio_made _)) (fun A' Q' E' q => cls_sm F X₀ (sio_t _) (sio_r _) (sio_f _) (sio_rec _) rfl q) (looks_specialIn X (sio_call _)) (looks_instIn X (sio_typ _)) hq
theorem sio_new {news : List (Addr × Obj)} {Q E : Value → Shared → Prop} (F : Fr h₀ L s.heap m) (X₀ : (theK w.params).In h₀) (N : News h₀ L s.heap news)
    (h : ∀ x dx h', Fr h₀ L h' m → News h₀ L h' ((x, instObj 587 dx) :: (dx, emptyDict) :: news) → (∀ p ∈ news, p.1 < dx) → dx < x → Q (.ref x) { s with heap := h' }) :
    wpAny (model thePg w) A (call (.builtin "object.__new__") [.ref 587]) Q E s := by
  have X := X₀.keeps F.keep
  refine wpAny_call ?_
  obtain ⟨hh, g, d, t, os⟩ := s
  have N' := (N.push F emptyDict).push (F.push _) (instObj 587 hh.objs.size)
  rw [Heap.size_push] at N'
  exact new_KN (X _ _ (sio_obj _)) rfl rfl (Looks.of_peek X (sio_base _)) (Looks.of_peek X (obj_made _)) (looks_mroIn X (sio_self _)) (looks_mroIn X (sio_top _)) (looks_instIn X (sio_typ _)) (h _ hh.objs.size _ ((F.push _).push _) N' (fun p hp => Heap.lt_size (N p hp).1) (Nat.lt_succ_self _))
end
theorem allLt_mem {d : Addr} : ∀ {l : List (Addr × Obj)}, AllLt d l → ∀ p ∈ l, p.1 < d
  | [], _, _, hp => nomatch hp
  | _ :: _, h, p, hp => by
    rcases List.mem_cons.mp hp with rfl | hp
    · exact h.1
    · exact allLt_mem h.2 p hp
theorem news_drop2 {h₀ h : Heap} {L : Addr} {a b c d : Addr × Obj} {l : List (Addr × Obj)} (N : News h₀ L h (a :: b :: c :: d :: l)) : News h₀ L h (a :: b :: l) := fun p hp => N p (by
  simp only [List.mem_cons] at hp ⊢
  rcases hp with h | h | h <;> simp [h])
local macro_rules | `(tactic| walk_at "call builtin:object.__new__") => `(tactic| (k_here; k_dflt (refine' sio_new ?k1 ?k2 ?k3 ?_; (case k1 => k_asm); (case k2 => k_asm); (case k3 => k_asm); k_whole); intro x' dx' h' F' N' l1 l2; (try k_lt l1); (try k_lt2 l2)))
local macro_rules | `(tactic| walk_at "NewBack") => `(tactic| refine halt ?_)
theorem c_sio (w : World) (x : Str) (t : Tok) (news : List (Addr × Obj)) (hx : x.length ≤ 900) : Called w 587 [.str x t] news 6
    (fun h₀ L m s Q => ∀ (sx sdx : Addr) (t1 t2 t3 t4 t5 t6 : Tok) (h' : Heap) (tk' : Nat), (∀ p ∈ news, p.1 < sdx) → @LT.lt Nat _ sdx sx → Fr h₀ L h' m → News h₀ L h' ((sx, instObj 587 sdx) :: (sdx, dictOf [ent w.params "_StringIO__newline" t1 (.str (Str.ofString "\n") t2), ent w.params "_StringIO__buf" t3 (.str x t4), ent w.params "_StringIO__pos" t5 (.int 0 t6)] 3) :: news) → Q (.ref sx) { s with heap := h', toks := tk' }) := by
  dsimp only [Called, RetV, thePg]
  k_fill
  intros
  rename_i hret
  with_reducible rename Below _ _ _ _ => B0
  refine wpAny_call ?_
  refine sio_make (by assumption) (by assumption) ?_
  k_dflt (refine' kp_both ?k1 ?k2 ?k3 ?k4 ?k5 ?kA ?kF ?kK ?k6 ?k7 ?k8 ?kV ?kX ?kQ ?kM ?kN ?kD ?kR ?kP ?kS ?kT ?kB ?_ ?c2 ?c3 ?c4 ?c5; (case kA => exact rfl); (case kF => exact rfl); (case kK => assumption); (case k1 => k_asm); (case k2 => k_asm); (case k3 => k_asm); (case k4 => k_asm); (case k5 => k_asm); (case k6 => k_is); (case k7 => k_is); (case k8 => ktr_room); (case kV => kp_lit); (case kX => kp_lit); (case kQ => exact rfl); (case kM => exact rfl); (case kN => exact rfl); (case kD => kp_flats); (case kR => exact rfl); (case kP => exact rfl); (case kS => exact fun _ => rfl); (case kT => exact fun _ _ => rfl); (case kB => exact fun _ _ => locs rfl); (case c5 => decide); (case c2 => exact rfl); (case c3 => exact rfl); (case c4 => exact rfl); k_whole; intro C' D' o' g' L' h' tk' l1 l2 lo' hs' fs' FG' F' N' B' X' T'; (try dsimp only))
  k_steps
  with_reducible rename Fr _ _ _ _ => F9
  with_reducible rename News _ _ _ _ => N9
  with_reducible rename Frag.In _ _ => X9
  with_reducible rename Top _ _ _ _ _ _ => T9
  with_reducible rename _ ∧ _ => l9
  with_reducible rename @LT.lt Nat _ _ _ => l8
  obtain ⟨-, -, l9⟩ := l9
  have N8 := news_drop2 N9
  clear N9
  have X8 := X9.keeps F9.keep
  refine halt' ?_
  refine ⟨_, _, rfl, (N8 _ (.head _)).1, rfl, looks_mroIn X8 (sio_self _), looks_findIn X8 (sio_init _), bind_fn X8 _ (fn357 _), ?_⟩
  clear X8
  with_reducible rename AllLt _ _ => l7
  k_dflt (refine' code_def ?k1 ?k2 ?k3 ?k4 ?k5 ?kA ?kF ?kK ?k6 ?k7 ?k8 ?k9 ?kB ?_ ?c2 ?c3 ?c4 ?c5; (case kA => exact rfl); (case kF => exact rfl); (case kK => assumption); (case k1 => exact B0); (case k2 => exact F9); (case k3 => exact X9); (case k4 => exact N8); (case k5 => exact T9); (case k6 => k_is); (case k7 => k_is); (case k8 => ktr_room); (case k9 => first | exact BindsTo.of_eq rfl | exact binds_K (by k_in) rfl (by k_is) rfl rfl rfl); (case c5 => decide); (case kB => exact locs rfl); (case c2 => exact rfl); (case c3 => exact rfl); (case c4 => exact rfl); k_whole; intro g' L' h' FG' F' N' B' X' T'; (try dsimp only))
  refine let_all ?_
  intro v9 Q9 E9
  k_steps
  with_reducible rename Fr _ _ _ _ => F5
  with_reducible rename News _ _ _ _ => N5
  dsimp only at N5 F5
  exact hret _ _ _ _ _ _ _ _ _ _ (allLt_mem l7) l8 F5 N5
end Mine
end
example {M : Model} {A : Around} {E : Value → Shared → Prop} {s : Shared} {env : Env} {p : Pos} {Q : Flow → Shared → Prop} (h : wpAny M A (exec (.Pass p) env) Q E s) : wpAny M A (exec (.Pass p) env) Q E s := by first | (walk1; fail) | exact h
section
open PySem PySem.W PyProof.Rows
set_option Elab.async false
set_option maxRecDepth 100000
set_option maxHeartbeats 8000000
namespace Mine
theorem dq_newN {prog : Program} {w : World} {A : Around} {E : Value → Shared → Prop} {s : Shared} {h₀ : Heap} {L : Addr} {m : Str → Option Value} {news : List (Addr × Obj)} {Q : Value → Shared → Prop} (F : Fr h₀ L s.heap m) (N : News h₀ L s.heap news)
    (h : ∀ a h', Fr h₀ L h' m → News h₀ L h' ((a, deqOf [] 0) :: news) → (∀ p ∈ news, p.1 < a) → Q (.ref a) { s with heap := h' }) : wpAny (model prog w) A (call (.type "collections.deque") []) Q E s := by
  refine dq_call_new fun h' hs ho => ?_
  have F1 := F.push (deqOf [] 0)
  have N1 := N.push F (deqOf [] 0)
  have z := N1 _ (.head _)
  refine h _ h' (F1.change hs z.2.1 z.2.2) (fun p hp => ?_) (fun p hp => Heap.lt_size (N p hp).1)
  rcases List.mem_cons.mp hp with rfl | hp
  · exact ⟨ho, z.2⟩
  · have y := N1 p (.tail _ hp)
    exact ⟨hs.extBut _ _ (Nat.ne_of_lt (Heap.lt_size (N p hp).1)) y.1, y.2⟩
noncomputable def wordsP : Str := Str.ofString "abcdfeghijklmnopqrstuvwxyzABCDEFGHIJKLMNOPQRSTUVWXYZ0123456789_"
end Mine
end
section
open PySem PySem.W PyProof.Rows
set_option Elab.async false
set_option maxRecDepth 100000
set_option maxHeartbeats 8000000
namespace Mine
set_option genInjectivity false
set_option genSizeOf false
noncomputable abbrev envI (L' : Addr) : Env := envOf (Str.ofString "shlex.__init__") (md 19 0).2.2 L' 646 (.ref 645)
/-- the place of a walk within shlex.__init__ -/
structure Ci where
  w : World
  g : Heap
  L' : Addr
  m : Str → Option Value
  A : Around
  s : Shared
  E : Value → Shared → Prop
noncomputable abbrev Ci.at (k : Ci) (h : Heap) (tk : Nat) : Shared := ⟨h, k.s.gens, k.s.drawn, tk, k.s.os⟩
/-- the first n entries -/
noncomputable def esI (w : World) (n : Nat) (c : LexC) : List DictEntry := (es w c (.str (Str.ofString " ") (c.tk 31)) (.str (Str.ofString "") (c.tk 35))).take n
noncomputable def dqI (n : Nat) (c : LexC) : List (Addr × Obj) := if n ≤ 12 then [] else if n ≤ 16 then [(c.pb, deqOf [] 0)] else match c.pc with
  | none => [(c.fs, deqOf [] 0), (c.pb, deqOf [] 0)]
  | some pc => [(pc, deqOf [] 0), (c.fs, deqOf [] 0), (c.pb, deqOf [] 0)]
noncomputable def ledI (w : World) (n : Nat) (c : LexC) : List (Addr × Obj) :=
  dqI n c ++ ((c.sx, instObj 587 c.sdx) :: (c.sdx, dictOf (sioEs w.params c.tk c.buf (.int 0 (c.tk 45))) 3) :: (c.x, instObj 722 c.dx) :: (c.dx, dictOf (esI w n c) n) :: c.rest)
/-- what stands, n entries set; c.te and the tokens may change, and the deques' places till they are made -/
structure ISt (k : Ci) (n : Nat) (c : LexC) (h : Heap) : Prop where
  F : Fr k.g k.L' h k.m
  X : (theK k.w.params).In k.g
  N : News k.g k.L' h (ledI k.w n c)
  a1 : @LT.lt Nat _ c.dx c.x
  a2 : @LT.lt Nat _ c.x c.sdx
  a3 : @LT.lt Nat _ c.sdx c.sx
  r : ∀ p ∈ c.rest, @LT.lt Nat _ p.1 c.dx
  q : ∀ p ∈ dqI n c, @LT.lt Nat _ c.sx p.1
/-- the tokens at n0 (the name's) and m (the value's), and the words -/
noncomputable def updG (n0 m : Nat) (c : LexC) (t t2 : Tok) (W : Str) : LexC := { c with tk := fun i => if i = n0 then t else if i = m then t2 else c.tk i, te := if n0 = 3 then t2 else c.te, words := W }
noncomputable def IVal (k : Ci) (n : Nat) (C : LexC → Prop) (e : Expr) (P : LexC → Value → Prop) : Prop :=
  ∀ (Q : Value → Shared → Prop) c h tk, C c → ISt k n c h → (∀ u h' tk', P c u → ISt k n c h' → Q u (k.at h' tk')) → wpAny (model thePg k.w) k.A (eval e (envI k.L')) Q k.E (k.at h tk)
noncomputable def IEx (k : Ci) (n : Nat) (C : LexC → Prop) (st : Stmt) (Q : Flow → Shared → Prop) : Prop :=
  ∀ c h tk, C c → ISt k n c h → wpAny (model thePg k.w) k.A (exec st (envI k.L')) Q k.E (k.at h tk)
noncomputable def IExs (k : Ci) (n : Nat) (C : LexC → Prop) (sts : List Stmt) (Q : Flow → Shared → Prop) : Prop :=
  ∀ c h tk, C c → ISt k n c h → wpAny (model thePg k.w) k.A (execs sts (envI k.L')) Q k.E (k.at h tk)
noncomputable def IDone (k : Ci) (n : Nat) (C : LexC → Prop) (Q : Flow → Shared → Prop) : Prop := ∀ c h tk, C c → ISt k n c h → Q .next (k.at h tk)
section
variable {k : Ci} {n : Nat} {C : LexC → Prop} {Q : Flow → Shared → Prop}
theorem ie_one {st : Stmt} (h : IEx k n C st Q) : IExs k n C [st] Q := fun c hp tk hc a => execs_one (h c hp tk hc a)
theorem ie_nil (h : IDone k n C Q) : IExs k n C [] Q := fun c hp tk hc a => wpAny_execs_nil (h c hp tk hc a)
theorem ie_then {st : Stmt} {rest : List Stmt} (h : IEx k n C st (Then (model thePg k.w) k.A (envI k.L') k.E rest Q)) : IExs k n C (st :: rest) Q := fun c hp tk hc a => execs_then (h c hp tk hc a)
theorem id_then {rest : List Stmt} (h : IExs k n C rest Q) : IDone k n C (Then (model thePg k.w) k.A (envI k.L') k.E rest Q) := fun c hp tk hc a => h c hp tk hc a
theorem esI_len (w : World) (n : Nat) (c : LexC) (h : n ≤ 20) : (esI w n c).length ≤ 1000 := by
  unfold esI
  rw [List.length_take]
  exact Nat.le_trans (Nat.min_le_left _ _) (Nat.le_trans h (by decide))
theorem sio_upd (w : World) {n m : Nat} (c : LexC) (t t2 : Tok) (W : Str) (hn : n < 39) (hm : m < 39) : sioEs w.params (updG n m c t t2 W).tk c.buf (.int 0 ((updG n m c t t2 W).tk 45)) = sioEs w.params c.tk c.buf (.int 0 (c.tk 45)) := by
  have z : ∀ i, 39 ≤ i → (updG n m c t t2 W).tk i = c.tk i := fun i hi => by
    show (if i = n then t else if i = m then t2 else c.tk i) = _
    rw [if_neg (by omega), if_neg (by omega)]
  unfold sioEs
  rw [z 40 (by decide), z 41 (by decide), z 42 (by decide), z 43 (by decide), z 44 (by decide), z 45 (by decide)]
theorem ist_inst {c : LexC} {h : Heap} (a : ISt k n c h) : InstAt h c.x (instObj 722 c.dx) 722 (some (dictOf (esI k.w n c) n)) := InstAt.of_news a.N (List.mem_append_right _ (.tail _ (.tail _ (.head _)))) (List.mem_append_right _ (.tail _ (.tail _ (.tail _ (.head _)))))
/-- a store -/
theorem i_store {n' n0 m : Nat} {name : Str} {u : Value} {c : LexC} {h : Heap} {tk : Nat} {t2 : Tok} {W : Str} {Q : Unit → Shared → Prop} {A : Around} {E : Value → Shared → Prop} (hn : n0 < 39) (hm : m < 39) (hn' : n' ≤ 20) (a : ISt k n c h) (pl : lexSet (theK k.w.params) name = true) (hg : (getL name (esI k.w n c)).isSome = true)
    (he : (putL name (PyData.keyHash k.w.params name) (.str name (tk + 1)) u (esI k.w n c), putN name (esI k.w n c) n) = (esI k.w n' (updG n0 m c (tk + 1) t2 W), n')) (hq : dqI n' (updG n0 m c (tk + 1) t2 W) = dqI n c)
    (hQ : ∀ h', ISt k n' (updG n0 m c (tk + 1) t2 W) h' → Q () (k.at h' (tk + 2))) : wpAny (model thePg k.w) A (setAttr (.ref c.x) name u) Q E (k.at h tk) := by
  have es := sio_upd k.w c (tk + 1) t2 W hn hm
  have U : Upd c.dx (dictOf (esI k.w n c) n) (dictOf (esI k.w n' (updG n0 m c (tk + 1) t2 W)) n') (ledI k.w n c) (ledI k.w n' (updG n0 m c (tk + 1) t2 W)) := by
    unfold ledI
    rw [hq]
    have b1 := Nat.lt_trans a.a1 a.a2
    have b2 := Nat.lt_trans b1 a.a3
    show Upd c.dx _ _ _ (dqI n c ++ ((c.sx, instObj 587 c.sdx) :: (c.sdx, dictOf (sioEs k.w.params (updG n0 m c (tk + 1) t2 W).tk c.buf (.int 0 ((updG n0 m c (tk + 1) t2 W).tk 45))) 3) :: (c.x, instObj 722 c.dx) :: (c.dx, dictOf (esI k.w n' (updG n0 m c (tk + 1) t2 W)) n') :: c.rest))
    rw [es]
    exact upd_app (fun p hp => Nat.ne_of_gt (Nat.lt_trans b2 (a.q p hp))) (.tail (Nat.ne_of_gt b2) (.tail (Nat.ne_of_gt b1) (.tail (Nat.ne_of_gt a.a1) (.head fun p hp => Nat.ne_of_lt (a.r p hp)))))
  unfold lexSet at pl
  rw [Bool.and_eq_true, Bool.and_eq_true, Bool.and_eq_true] at pl
  exact set_dict (s := k.at h tk) a.F a.X a.N (ist_inst a) rfl (beq_iff_eq.mp pl.1.1.1) pl.1.1.2 (beq_iff_eq.mp pl.1.2) pl.2 hg he U (esI_len _ _ _ hn') fun h9 F9 N9 => hQ h9 ⟨F9, a.X, N9, a.a1, a.a2, a.a3, a.r, by rw [hq]; exact a.q⟩
/-- an attribute's read -/
theorem i_get {name : Str} {u : Value} {c : LexC} {h : Heap} {tk : Nat} {Q : Value → Shared → Prop} {A : Around} {E : Value → Shared → Prop} {expr : Bool} (a : ISt k n c h) (pl : lexPlain (theK k.w.params) name = true) (hl : getL name (esI k.w n c) = some (some u)) (hv : handedIn u = true) (hQ : Q u (k.at h (tk + 1))) :
    wpAny (model thePg k.w) A (getAttr (.ref c.x) name expr) Q E (k.at h tk) := by
  unfold lexPlain at pl
  cases ha : findIn (theK k.w.params) (.ref 722) name with
  | none => rw [ha] at pl; simp at pl
  | some z =>
    rw [ha, Bool.and_eq_true, Bool.and_eq_true] at pl
    exact get_own (s := k.at h tk) a.F a.X (ist_inst a) pl.1.1 pl.1.2 ha pl.2 hl hv hQ
/-- self.name = e, the n-th attribute -/
theorem i_set (m : Nat) {C' : LexC → Prop} {name : Str} {e : Expr} {P : LexC → Value → Prop} {p1 p2 p4 : Pos} (hn : n < 20) (hm : m < 39) (hx : ∀ c, C c → k.m (Str.ofString "self") = some (.ref c.x))
    (y : IVal k n C e P) (pl : lexSet (theK k.w.params) name = true)
    (hp : ∀ c u t, C c → P c u → (getL name (esI k.w n c)).isSome = true ∧ ∃ t2, (putL name (PyData.keyHash k.w.params name) (.str name t) u (esI k.w n c), putN name (esI k.w n c) n) = (esI k.w (n + 1) (updG n m c t t2 c.words), n + 1) ∧ dqI (n + 1) (updG n m c t t2 c.words) = dqI n c ∧ C' (updG n m c t t2 c.words))
    (h : IDone k (n + 1) C' Q)
    (hw : swapsWith e (some (.Attribute (.Name (Str.ofString "self") p1) name p2)) p4.line (envI k.L') = pure false := by rfl) : IEx k n C (.Assign [.Attribute (.Name (Str.ofString "self") p1) name p2] e p4) Q := fun c hp' tk hc a =>
  plainObj_wpAny_Assign_Attribute (y _ c hp' tk hc a fun u h' tk' hu a' => by
    obtain ⟨hg, t2, he, hq, hc'⟩ := hp c u (tk' + 1) hc hu
    exact nameX_L a'.F (hx c hc) (i_store (Nat.lt_trans hn (by decide)) hm hn a' pl hg he hq fun h9 a9 => h _ h9 _ hc' a9)) hw
/-- self.wordchars += y -/
theorem i_words {C' : LexC → Prop} {y : Str} {i : Nat} {p1 p2 p3 p4 : Pos} (hn' : n ≤ 20) (hx : ∀ c, C c → k.m (Str.ofString "self") = some (.ref c.x)) (pl : lexSet (theK k.w.params) (Str.ofString "wordchars") = true)
    (hp : ∀ c t t2, C c → c.words.length + y.length ≤ 1000 ∧ getL (Str.ofString "wordchars") (esI k.w n c) = some (some (.str c.words (c.tk 25))) ∧ (putL (Str.ofString "wordchars") (PyData.keyHash k.w.params (Str.ofString "wordchars")) (.str (Str.ofString "wordchars") t) (.str (c.words ++ y) t2) (esI k.w n c), putN (Str.ofString "wordchars") (esI k.w n c) n) = (esI k.w n (updG 20 25 c t t2 (c.words ++ y)), n) ∧ dqI n (updG 20 25 c t t2 (c.words ++ y)) = dqI n c ∧ C' (updG 20 25 c t t2 (c.words ++ y)))
    (h : IDone k n C' Q) : IEx k n C (.AugAssign (.Attribute (.Name (Str.ofString "self") p1) (Str.ofString "wordchars") p2) .Add (.Constant (.str y) i p3) p4) Q := fun c hp' tk hc a => by
  obtain ⟨-, hl, -⟩ := hp c 0 0 hc
  refine wpAny_AugAssign_AttributeAny (nameX_L a.F (hx c hc) (i_get a (pl_words _) hl rfl (wpAny_Constant_str (s := k.at hp' (tk + 1)) (iadd_str (fun t9 tk9 => ?_) ?_))))
  · obtain ⟨-, -, he, hq, hc'⟩ := hp c (tk9 + 1) t9 hc
    exact i_store (by decide) (by decide) hn' a pl (by rw [hl]; rfl) he hq fun h9 a9 => h _ h9 _ hc' a9
  · obtain ⟨hz, -⟩ := hp c 0 0 hc
    have : sizeLine = 16777216 := by decide
    omega
theorem iv_str {y : Str} {i : Nat} {p1 : Pos} : IVal k n C (.Constant (.str y) i p1) (fun _ => IsStr y) := fun Q c hp tk hc a h => wpAny_Constant_str (s := k.at hp tk) (h _ _ _ ⟨_, rfl⟩ a)
theorem iv_int {y : Int} {i : Nat} {p1 : Pos} : IVal k n C (.Constant (.int y) i p1) (fun _ u => ∃ t, u = .int y t) := fun Q c hp tk hc a h => wpAny_Constant_int (s := k.at hp tk) (h _ _ _ ⟨_, rfl⟩ a)
theorem iv_none {i : Nat} {p1 : Pos} : IVal k n C (.Constant .none i p1) (fun _ u => u = .none) := fun Q c hp tk hc a h => wpAny_Constant_none (h _ _ _ rfl a)
theorem iv_bool {b : Bool} {i : Nat} {p1 : Pos} : IVal k n C (.Constant (.bool b) i p1) (fun _ u => u = .bool b) := fun Q c hp tk hc a h => wpAny_Constant_bool (h _ _ _ rfl a)
theorem iv_name {x : Str} {V : LexC → Value} {p1 : Pos} (hx : ∀ c, C c → k.m x = some (V c)) (hk : (envI k.L').kindOf x = some .local := by rfl) (hd : (x == ("__debug__" : Str)) = false := by decide) : IVal k n C (.Name x p1) (fun c u => u = V c) := fun Q c hp tk hc a h =>
  nameX_L a.F (hx c hc) (h _ _ _ rfl a) rfl hk hd
end
noncomputable def setQ (j : Nat) (c : LexC) (a : Addr) : LexC := { c with pb := if j = 0 then a else c.pb, fs := if j = 1 then a else c.fs, pc := if j = 2 then some a else c.pc }
local macro_rules | `(tactic| walk_at "call type:collections.deque") => `(tactic| refine halt ?_)
/-- a deque as the n-th attribute -/
theorem i_deq {k : Ci} {n : Nat} {C C' : LexC → Prop} {Q : Flow → Shared → Prop} (j : Nat) {loose : List Str} {mean : ExcName → Option Value} {mg mb : Str → Option Value} (T : Top theQ loose mean mg mb k.g) {name : Str} {p1 p2 p3 p4 p5 : Pos} (hn : n < 20)
    (hx : ∀ c, C c → k.m (Str.ofString "self") = some (.ref c.x)) (pl : lexSet (theK k.w.params) name = true) (hg : ∀ c, C c → (getL name (esI k.w n c)).isSome = true)
    (hp : ∀ c a t, C c → (putL name (PyData.keyHash k.w.params name) (.str name t) (.ref a) (esI k.w n c), putN name (esI k.w n c) n) = (esI k.w (n + 1) (setQ j (updG n n c t t c.words) a), n + 1) ∧ dqI (n + 1) (setQ j (updG n n c t t c.words) a) = (a, deqOf [] 0) :: dqI n c ∧ ((∀ p ∈ ledI k.w n c, @LT.lt Nat _ p.1 a) → C' (setQ j (updG n n c t t c.words) a)))
    (h : IDone k (n + 1) C' Q) : IEx k n C (.Assign [.Attribute (.Name (Str.ofString "self") p1) name p2] (.Call (.Name (Str.ofString "deque") p5) [] [] p3) p4) Q := fun c hp' tk hc a => by
  refine plainObj_wpAny_Assign_Attribute ?_
  have hp := fun a t => hp c a t hc
  have hx := hx c hc
  have hg := hg c hc
  obtain ⟨w, g, L', m, A, s, E⟩ := k
  obtain ⟨F, X, N, a1, a2, a3, r, q⟩ := a
  dsimp only at *
  have fill : PySem.Challenge.rw_nq0262_01.prog = PySem.Challenge.rw_nq0262_01.prog ∧ theK w.params = theK w.params := by k_fill; exact ⟨rfl, rfl⟩
  clear fill
  k_steps
  refine halt' (dq_newN F N ?_)
  intro d h9 F9 N9 lt
  obtain ⟨he, hq, hc'⟩ := hp d (tk + 1)
  have es := sio_upd w c (tk + 1) (tk + 1) c.words (Nat.lt_trans hn (by decide)) (Nat.lt_trans hn (by decide) : n < 39)
  have hsd : @LT.lt Nat _ c.sx d := lt (c.sx, instObj 587 c.sdx) (List.mem_append_right _ (.head _))
  have b1 := Nat.lt_trans a1 a2
  have b2 := Nat.lt_trans b1 a3
  have hq' : ∀ p ∈ dqI (n + 1) (setQ j (updG n n c (tk + 1) (tk + 1) c.words) d), @LT.lt Nat _ c.sx p.1 := fun p hp => by
    rw [hq] at hp
    rcases List.mem_cons.mp hp with rfl | hp
    · exact hsd
    · exact q p hp
  have U : Upd c.dx (dictOf (esI w n c) n) (dictOf (esI w (n + 1) (setQ j (updG n n c (tk + 1) (tk + 1) c.words) d)) (n + 1)) ((d, deqOf [] 0) :: ledI w n c) (ledI w (n + 1) (setQ j (updG n n c (tk + 1) (tk + 1) c.words) d)) := by
    unfold ledI
    show Upd c.dx _ _ _ (dqI (n + 1) (setQ j (updG n n c (tk + 1) (tk + 1) c.words) d) ++ ((c.sx, instObj 587 c.sdx) :: (c.sdx, dictOf (sioEs w.params (updG n n c (tk + 1) (tk + 1) c.words).tk c.buf (.int 0 ((updG n n c (tk + 1) (tk + 1) c.words).tk 45))) 3) :: (c.x, instObj 722 c.dx) :: (c.dx, dictOf (esI w (n + 1) (setQ j (updG n n c (tk + 1) (tk + 1) c.words) d)) (n + 1)) :: c.rest))
    rw [hq] at hq' ⊢
    rw [es]
    exact upd_app (l := (d, deqOf [] 0) :: dqI n c) (fun p hp => Nat.ne_of_gt (Nat.lt_trans b2 (hq' p hp))) (.tail (Nat.ne_of_gt b2) (.tail (Nat.ne_of_gt b1) (.tail (Nat.ne_of_gt a1) (.head fun p hp => Nat.ne_of_lt (r p hp)))))
  unfold lexSet at pl
  rw [Bool.and_eq_true, Bool.and_eq_true, Bool.and_eq_true] at pl
  have I : InstAt h9 c.x (instObj 722 c.dx) 722 (some (dictOf (esI w n c) n)) := InstAt.of_news N9 (.tail _ (List.mem_append_right _ (.tail _ (.tail _ (.head _))))) (.tail _ (List.mem_append_right _ (.tail _ (.tail _ (.tail _ (.head _))))))
  refine nameX_L F9 hx ?_
  exact set_dict (s := ⟨h9, s.gens, s.drawn, tk, s.os⟩) F9 X N9 I rfl (beq_iff_eq.mp pl.1.1.1) pl.1.1.2 (beq_iff_eq.mp pl.1.2) pl.2 hg he U (esI_len _ _ _ hn) fun h8 F8 N8 => h _ h8 _ (hc' lt) ⟨F8, X, N8, a1, a2, a3, r, hq'⟩
end Mine
end
example {M : Model} {A : Around} {E : Value → Shared → Prop} {s : Shared} {env : Env} {p : Pos} {Q : Flow → Shared → Prop} (h : wpAny M A (exec (.Pass p) env) Q E s) : wpAny M A (exec (.Pass p) env) Q E s := by first | (walk1; fail) | exact h
section
open PySem PySem.W PyProof.Rows
set_option Elab.async false
set_option maxRecDepth 100000
set_option maxHeartbeats 8000000
namespace Mine
set_option genInjectivity false
set_option genSizeOf false
/-- what is fixed ahead of the walk -/
structure Cf where
  x : Addr
  dx : Addr
  sx : Addr
  rest : List (Addr × Obj)
  buf : Str
  b : Bool
noncomputable def ordI (j : Nat) (c : LexC) : Prop := match j with
  | 0 => c.pc = none
  | 1 => c.pc = none ∧ @LT.lt Nat _ c.sx c.pb
  | 2 => c.pc = none ∧ @LT.lt Nat _ c.sx c.pb ∧ @LT.lt Nat _ c.pb c.fs
  | _ => ∃ pc, c.pc = some pc ∧ @LT.lt Nat _ c.sx c.pb ∧ @LT.lt Nat _ c.pb c.fs ∧ @LT.lt Nat _ c.fs pc
noncomputable def CI (f : Cf) (W pch : Str) (j : Nat) (c : LexC) : Prop := (c.x = f.x ∧ c.dx = f.dx ∧ c.sx = f.sx ∧ c.rest = f.rest ∧ c.buf = f.buf ∧ c.posix = f.b ∧ c.split = false) ∧ c.words = W ∧ c.pch = pch ∧ ordI j c
theorem CI.upd {f : Cf} {W W' pch : Str} {j n m : Nat} {c : LexC} {t t2 : Tok} (h : CI f W pch j c) : CI f W' pch j (updG n m c t t2 W') := ⟨h.1, rfl, h.2.2⟩
theorem CI.upd' {f : Cf} {W pch : Str} {j n m : Nat} {c : LexC} {t t2 : Tok} (h : CI f W pch j c) : CI f W pch j (updG n m c t t2 c.words) := ⟨h.1, h.2.1, h.2.2⟩
noncomputable abbrev putI (w : World) (n n' : Nat) (name : Str) (t : Tok) (u : Value) (c c' : LexC) : Prop := (getL name (esI w n c)).isSome = true ∧ (putL name (PyData.keyHash w.params name) (.str name t) u (esI w n c), putN name (esI w n c) n) = (esI w n' c', n') ∧ dqI n' c' = dqI n c
section
variable {k : Ci} {f : Cf} {n : Nat} {W pch : Str} {j : Nat} {Q : Flow → Shared → Prop} {p1 p2 p3 p4 : Pos} {i : Nat} {name : Str} (hx : k.m (Str.ofString "self") = some (.ref f.x))
include hx
theorem i_str (m : Nat) {y : Str} (pl : lexSet (theK k.w.params) name = true) (hn : n < 20) (hm : m < 39) (hp : ∀ c t t2, CI f W pch j c → putI k.w n (n + 1) name t (.str y t2) c (updG n m c t t2 c.words)) (h : IDone k (n + 1) (CI f W pch j) Q)
    (hw : swapsWith (.Constant (.str y) i p3) (some (.Attribute (.Name (Str.ofString "self") p1) name p2)) p4.line (envI k.L') = pure false := by rfl) : IEx k n (CI f W pch j) (.Assign [.Attribute (.Name (Str.ofString "self") p1) name p2] (.Constant (.str y) i p3) p4) Q :=
  i_set m hn hm (fun c hc => by rw [hc.1.1]; exact hx) iv_str pl (fun c u t hc ⟨t2, e⟩ => by
    subst e
    obtain ⟨h1, h2, h3⟩ := hp c t t2 hc
    exact ⟨h1, t2, h2, h3, hc.upd'⟩) h hw
theorem i_val {e : Expr} {P : LexC → Value → Prop} (y : IVal k n (CI f W pch j) e P) (pl : lexSet (theK k.w.params) name = true) (m : Nat) (hn : n < 20) (hm : m < 39) (hp : ∀ c u t, CI f W pch j c → P c u → ∃ t2, putI k.w n (n + 1) name t u c (updG n m c t t2 c.words)) (h : IDone k (n + 1) (CI f W pch j) Q)
    (hw : swapsWith e (some (.Attribute (.Name (Str.ofString "self") p1) name p2)) p4.line (envI k.L') = pure false := by rfl) : IEx k n (CI f W pch j) (.Assign [.Attribute (.Name (Str.ofString "self") p1) name p2] e p4) Q :=
  i_set m hn hm (fun c hc => by rw [hc.1.1]; exact hx) y pl (fun c u t hc hu => by
    obtain ⟨t2, h1, h2, h3⟩ := hp c u t hc hu
    exact ⟨h1, t2, h2, h3, hc.upd'⟩) h hw
end
noncomputable def iniB : List Stmt := (md 19 0).2.1
theorem ps_all (P : Params) : (["instream", "infile", "posix", "eof", "commenters", "wordchars", "whitespace", "whitespace_split", "quotes", "escape", "escapedquotes", "state", "pushback", "lineno", "debug", "token", "filestack", "source", "_punctuation_chars", "_pushback_chars"].all fun s => lexSet (theK P) (Str.ofString s)) = true := by kernel_rfl
theorem ps_of (P : Params) {s : String} (h : s ∈ ["instream", "infile", "posix", "eof", "commenters", "wordchars", "whitespace", "whitespace_split", "quotes", "escape", "escapedquotes", "state", "pushback", "lineno", "debug", "token", "filestack", "source", "_punctuation_chars", "_pushback_chars"]) : lexSet (theK P) (Str.ofString s) = true := List.all_eq_true.mp (ps_all P) s h
/-- a test gives b -/
noncomputable def ITst (k : Ci) (n : Nat) (C : LexC → Prop) (e : Expr) (b : Bool) : Prop :=
  ∀ (Q : Bool → Shared → Prop) c h tk, C c → ISt k n c h → (∀ h' tk', ISt k n c h' → Q b (k.at h' tk')) → wpAny (model thePg k.w) k.A (isTrue e (envI k.L') (eval e (envI k.L'))) Q k.E (k.at h tk)
section
variable {k : Ci} {n : Nat} {C : LexC → Prop} {Q : Flow → Shared → Prop} {test : Expr} {body orelse : List Stmt} {pos p1 p2 p3 p4 : Pos} {b : Bool}
theorem ie_tt (t : ITst k n C test b) (hb : b = true) (h : IExs k n C body Q) : IEx k n C (.If test body orelse pos) Q := fun c hp tk hc a => by
  subst hb
  exact wpAny_If (t _ c hp tk hc a fun h' tk' a' => h c h' tk' hc a')
theorem ie_ff (t : ITst k n C test b) (hb : b = false) (h : IExs k n C orelse Q) : IEx k n C (.If test body orelse pos) Q := fun c hp tk hc a => by
  subst hb
  exact wpAny_If (t _ c hp tk hc a fun h' tk' a' => h c h' tk' hc a')
theorem it_bool {e : Expr} (y : IVal k n C e (fun _ u => u = .bool b)) (he : ∀ whole, isTrue e (envI k.L') whole = (do let v ← whole; standAt e.pos; holding [v] (truthy v))) : ITst k n C e b := fun Q c hp tk hc a h =>
  isTrue_plain (y _ c hp tk hc a fun u h' tk' e a' => by
    subst e
    exact wpAny_truthy_bool (h _ _ a')) (he _)
theorem it_not {e : Expr} {b : Bool} (t : ITst k n C e b) : ITst k n C (.UnaryOp .Not e p1) (!b) := fun Q c hp tk hc a h =>
  isTrue_not (t _ c hp tk hc a fun h' tk' a' => h _ _ a')
theorem it_str {e : Expr} {y : Str} (v : IVal k n C e (fun _ => IsStr y)) (hb : ((y.length : Int) != 0) = b) (hl : y.length ≤ 16777216) (he : ∀ whole, isTrue e (envI k.L') whole = (do let v ← whole; standAt e.pos; holding [v] (truthy v))) : ITst k n C e b := fun Q c hp tk hc a h =>
  isTrue_plain (v _ c hp tk hc a fun u h' tk' e a' => by
    obtain ⟨t, rfl⟩ := e
    exact KXt.truthy (s := k.at h' tk') hb hl fun _ => h _ _ a') (he _)
/-- e is not None -/
theorem it_isnot {e : Expr} {i : Nat} (y : IVal k n C e (fun _ u => ∃ a, u = .ref a)) : ITst k n C (.Compare e [.IsNot] [.Constant .none i p1] p2) true := fun Q c hp tk hc a h =>
  wpAny_isTrue_Compare1 (y _ c hp tk hc a fun u h' tk' e a' => by
    obtain ⟨d, rfl⟩ := e
    exact wpAny_Constant_none (isnot_ref_none (wpAny_truthy_bool (h _ _ a'))))
/-- x = "y" -/
theorem i_name {x y : Str} {i : Nat} (hk : (envI k.L').kindOf x = some .local) (h : ∀ t, IDone { k with m := fun z => if z = x then some (.str y t) else k.m z } n C Q)
    (hs : swapsWith (.Constant (.str y) i p2) (some (.Name x p1)) p3.line (envI k.L') = pure false := by rfl) : IEx k n C (.Assign [.Name x p1] (.Constant (.str y) i p2) p3) Q := fun c hp tk hc a =>
  wpAny_Assign_Name (iv_str (C := C) _ c hp tk hc a fun u h' tk' e a' => by
    obtain ⟨t, rfl⟩ := e
    exact storeX_L (s := k.at h' tk') a'.F a'.N (fun h9 F9 N9 => h t c h9 _ hc ⟨F9, a'.X, N9, a'.a1, a'.a2, a'.a3, a'.r, a'.q⟩) rfl hk) hs
theorem iv_attr {name : Str} {V : LexC → Value} (hx : ∀ c, C c → k.m (Str.ofString "self") = some (.ref c.x)) (pl : lexPlain (theK k.w.params) name = true) (hl : ∀ c, C c → getL name (esI k.w n c) = some (some (V c)) ∧ handedIn (V c) = true) : IVal k n C (.Attribute (.Name (Str.ofString "self") p1) name p2) (fun c u => u = V c) := fun Q c hp tk hc a h =>
  Attribute_Name_ (nameX_L a.F (hx c hc) (i_get a pl (hl c hc).1 (hl c hc).2 (h _ _ _ rfl a)))
theorem iv_imp {e : Expr} {P P' : LexC → Value → Prop} (y : IVal k n C e P) (hi : ∀ c u, C c → P c u → P' c u) : IVal k n C e P' := fun Q c hp tk hc a h => y Q c hp tk hc a fun u h' tk' hu a' => h u h' tk' (hi c u hc hu) a'
end
/-- from `self.whitespace = ..` to `self.source = None` -/
theorem ini_tail {k : Ci} {f : Cf} {W pch : Str} {Q : Flow → Shared → Prop} {loose : List Str} {mean : ExcName → Option Value} {mg mb : Str → Option Value} (T : Top theQ loose mean mg mb k.g) (hx : k.m (Str.ofString "self") = some (.ref f.x)) (h : IExs k 18 (CI f W pch 2) (iniB.drop 19) Q) : IExs k 6 (CI f W pch 0) (iniB.drop 7) Q := by
  have hxc : ∀ j c, CI f W pch j c → k.m (Str.ofString "self") = some (.ref c.x) := fun j c hc => by rw [hc.1.1]; exact hx
  refine ie_then (i_str hx 26 (ps_of _ (by decide)) (by decide) (by decide) (fun c t t2 _ => ⟨by kernel_rfl, by kernel_rfl, rfl⟩) (id_then (ie_then ?_)))
  refine i_val hx iv_bool (ps_of _ (by decide)) 7 (by decide) (by decide) (fun c u t hc e => ⟨t, ?_⟩) (id_then (ie_then ?_))
  · obtain ⟨tk, posix, te, words, split, pch, x, dx, sx, sdx, pb, fs, pc, buf, rest⟩ := c
    obtain rfl : split = false := hc.1.2.2.2.2.2.2
    subst e
    exact ⟨by kernel_rfl, by kernel_rfl, rfl⟩
  refine i_str hx 28 (ps_of _ (by decide)) (by decide) (by decide) (fun c t t2 _ => ⟨by kernel_rfl, by kernel_rfl, rfl⟩) (id_then (ie_then ?_))
  refine i_str hx 29 (ps_of _ (by decide)) (by decide) (by decide) (fun c t t2 _ => ⟨by kernel_rfl, by kernel_rfl, rfl⟩) (id_then (ie_then ?_))
  refine i_str hx 30 (ps_of _ (by decide)) (by decide) (by decide) (fun c t t2 _ => ⟨by kernel_rfl, by kernel_rfl, rfl⟩) (id_then (ie_then ?_))
  refine i_str hx 31 (ps_of _ (by decide)) (by decide) (by decide) (fun c t t2 _ => ⟨by kernel_rfl, by kernel_rfl, rfl⟩) (id_then (ie_then ?_))
  refine i_deq (C' := CI f W pch 1) 0 T (by decide) (hxc 0) (ps_of _ (by decide)) (fun c hc => by kernel_rfl) (fun c a t hc => ⟨by kernel_rfl, by kernel_rfl, fun lt => ⟨hc.1, hc.2.1, hc.2.2.1, hc.2.2.2, lt (c.sx, instObj 587 c.sdx) (List.mem_append_right _ (.head _))⟩⟩) (id_then (ie_then ?_))
  refine i_val hx iv_int (ps_of _ (by decide)) 33 (by decide) (by decide) (fun c u t hc ⟨t2, e⟩ => ⟨t2, by subst e; exact ⟨by kernel_rfl, by kernel_rfl, rfl⟩⟩) (id_then (ie_then ?_))
  refine i_val hx iv_int (ps_of _ (by decide)) 34 (by decide) (by decide) (fun c u t hc ⟨t2, e⟩ => ⟨t2, by subst e; exact ⟨by kernel_rfl, by kernel_rfl, rfl⟩⟩) (id_then (ie_then ?_))
  refine i_str hx 35 (ps_of _ (by decide)) (by decide) (by decide) (fun c t t2 _ => ⟨by kernel_rfl, by kernel_rfl, rfl⟩) (id_then (ie_then ?_))
  refine i_deq (C' := CI f W pch 2) 1 T (by decide) (hxc 1) (ps_of _ (by decide)) (fun c hc => by kernel_rfl) (fun c a t hc => ?_) (id_then (ie_then ?_))
  · obtain ⟨tk, posix, te, words, split, pch, x, dx, sx, sdx, pb, fs, pc, buf, rest⟩ := c
    obtain rfl : pc = none := hc.2.2.2.1
    exact ⟨by kernel_rfl, by kernel_rfl, fun lt => ⟨hc.1, hc.2.1, hc.2.2.1, rfl, hc.2.2.2.2, lt (pb, deqOf [] 0) (List.mem_append_left _ (.head _))⟩⟩
  exact i_val hx iv_none (ps_of _ (by decide)) 17 (by decide) (by decide) (fun c u t hc e => ⟨t, by subst e; exact ⟨by kernel_rfl, by kernel_rfl, rfl⟩⟩) (id_then h)
/-- the frame's names at the entry; then with the reader in place of the text -/
noncomputable abbrev mI (x : Addr) (ins : Value) (b : Bool) (pv : Value) : Str → Option Value := fun y => List.lookup y [(Str.ofString "self", Value.ref x), (Str.ofString "instream", ins), (Str.ofString "infile", .none), (Str.ofString "posix", .bool b), (Str.ofString "punctuation_chars", pv)].reverse
noncomputable def wordsX : Str := Str.ofString "ßàáâãäåæçèéêëìíîïðñòóôõöøùúûüýþÿÀÁÂÃÄÅÆÇÈÉÊËÌÍÎÏÐÑÒÓÔÕÖØÙÚÛÜÝÞ"
/-- from `if instream is not None` to `if self.posix` -/
theorem ini_head {k : Ci} {f : Cf} {pch : Str} {Q : Flow → Shared → Prop} (hx : k.m (Str.ofString "self") = some (.ref f.x)) (hi : k.m (Str.ofString "instream") = some (.ref f.sx)) (hf : k.m (Str.ofString "infile") = some .none) (hb : k.m (Str.ofString "posix") = some (.bool f.b))
    (h : IExs k 6 (CI f (if f.b then wordsP ++ wordsX else wordsP) pch 0) (iniB.drop 7) Q) : IExs k 0 (CI f wordsP pch 0) (iniB.drop 1) Q := by
  have vi : ∀ n (p1 : Pos), IVal k n (CI f wordsP pch 0) (.Name (Str.ofString "instream") p1) (fun c u => u = .ref c.sx) := fun n p1 => iv_name fun c hc => by rw [hc.1.2.2.1]; exact hi
  have vb : ∀ n (p1 : Pos), IVal k n (CI f wordsP pch 0) (.Name (Str.ofString "posix") p1) (fun c u => u = .bool c.posix) := fun n p1 => iv_name fun c hc => by rw [hc.1.2.2.2.2.2.1]; exact hb
  refine ie_then (ie_tt (it_isnot (iv_imp (vi _ _) fun c u _ e => ⟨_, e⟩)) rfl (ie_then ?_))
  refine i_val hx (vi _ _) (ps_of _ (by decide)) 0 (by decide) (by decide) (fun c u t hc e => ⟨t, by subst e; exact ⟨by kernel_rfl, by kernel_rfl, rfl⟩⟩) (id_then (ie_one ?_))
  refine i_val hx (iv_name (V := fun _ => .none) fun c hc => hf) (ps_of _ (by decide)) 1 (by decide) (by decide) (fun c u t hc e => ⟨t, by subst e; exact ⟨by kernel_rfl, by kernel_rfl, rfl⟩⟩) (id_then (ie_then ?_))
  refine i_val hx (vb _ _) (ps_of _ (by decide)) 2 (by decide) (by decide) (fun c u t hc e => ⟨t, by subst e; exact ⟨by kernel_rfl, by kernel_rfl, rfl⟩⟩) (id_then (ie_then ?_))
  have hF : IExs k 4 (CI f wordsP pch 0) (iniB.drop 4) Q := by
    refine ie_then (i_str hx 24 (ps_of _ (by decide)) (by decide) (by decide) (fun c t t2 _ => ⟨by kernel_rfl, by kernel_rfl, rfl⟩) (id_then (ie_then ?_)))
    refine i_str hx 25 (ps_of _ (by decide)) (by decide) (by decide) (fun c t t2 hc => ?_) (id_then (ie_then ?_))
    · obtain ⟨tk, posix, te, words, split, pch, x, dx, sx, sdx, pb, fs, pc, buf, rest⟩ := c
      obtain rfl : words = wordsP := hc.2.1
      exact ⟨by kernel_rfl, by kernel_rfl, rfl⟩
    have tp : ∀ p1 p2, ITst k 6 (CI f wordsP pch 0) (.Attribute (.Name (Str.ofString "self") p1) (Str.ofString "posix") p2) f.b := fun p1 p2 => it_bool (iv_imp (iv_attr (V := fun c => .bool c.posix) (fun c hc => by rw [hc.1.1]; exact hx) (pl_posix _) fun c hc => ⟨by kernel_rfl, rfl⟩) fun c u hc e => by rw [e, hc.1.2.2.2.2.2.1]) fun _ => rfl
    cases e : f.b with
    | false =>
      rw [e] at h
      exact ie_ff (tp _ _) e (ie_nil (id_then h))
    | true =>
      rw [e, if_pos rfl] at h
      refine ie_tt (tp _ _) e (ie_one (i_words (y := wordsX) (C' := CI f (wordsP ++ wordsX) pch 0) (by decide) (fun c hc => by rw [hc.1.1]; exact hx) (ps_of _ (by decide)) (fun c t t2 hc => ?_) (id_then h)))
      have hw := hc.2.1
      refine ⟨by rw [hw]; decide +kernel, by kernel_rfl, by kernel_rfl, rfl, ⟨hc.1, by show c.words ++ wordsX = _; rw [hw], hc.2.2⟩⟩
  have tb : ∀ p1, ITst k 3 (CI f wordsP pch 0) (.Name (Str.ofString "posix") p1) f.b := fun p1 => it_bool (iv_imp (vb _ _) fun c u hc e => by rw [e, hc.1.2.2.2.2.2.1]) fun _ => rfl
  cases e : f.b with
  | false =>
    refine ie_ff (tb _) e (ie_one (i_str hx 23 (ps_of _ (by decide)) (by decide) (by decide) (fun c t t2 hc => ?_) (id_then hF)))
    obtain ⟨tk, posix, te, words, split, pch, x, dx, sx, sdx, pb, fs, pc, buf, rest⟩ := c
    obtain rfl : posix = false := hc.1.2.2.2.2.2.1.trans e
    exact ⟨by kernel_rfl, by kernel_rfl, rfl⟩
  | true =>
    refine ie_tt (tb _) e (ie_one (i_val hx iv_none (ps_of _ (by decide)) 23 (by decide) (by decide) (fun c u t hc eu => ⟨t, ?_⟩) (id_then hF)))
    obtain ⟨tk, posix, te, words, split, pch, x, dx, sx, sdx, pb, fs, pc, buf, rest⟩ := c
    obtain rfl : posix = true := hc.1.2.2.2.2.2.1.trans e
    subst eu
    exact ⟨by kernel_rfl, by kernel_rfl, rfl⟩
end Mine
end
section
open PySem PySem.W PyProof.Rows PySem.Calls
set_option Elab.async false
set_option maxRecDepth 100000
set_option maxHeartbeats 4000000
namespace Mine
section
variable {prog : Program} {w : World} {A : Around} {E : Value → Shared → Prop} {s : Shared} {d : Addr} {f : Int → Option Value}
theorem look_hit {c : Nat} {Q : Builtin.Str.Mapped → Shared → Prop} (hm : s.heap.MapOf (intKind prog w) d f) (hv : f (c : Int) = some .none) (h : ∀ tk, Q .drop { s with toks := tk }) :
    wpAny (model prog w) A (Builtin.Str.tableLookup (.ref d) c) Q E s := by
  unfold Builtin.Str.tableLookup
  refine wpAny_bind (wpAny_attempt (wpAny_bind (wpAny_mkInt ?_)))
  refine wpAny_getItem_intMap (s := { s with toks := _ }) hm.intMap hv ?_
  exact wpAny_pure (h _)
theorem sub_key : isSubtype (.type "KeyError") (.type "LookupError") = pure true := by rw [isSubtype_type]; kernel_rfl
theorem look_miss {c : Nat} {Q : Builtin.Str.Mapped → Shared → Prop} (hd : (d == sysModules) = false) (hh : A.handled = none) (hm : s.heap.MapOf (intKind prog w) d f) (hv : f (c : Int) = none)
    (h : ∀ h' tk, (∀ b o, s.heap.get? b = some o → h'.get? b = some o) → Q .keep { s with heap := h', toks := tk }) :
    wpAny (model prog w) A (Builtin.Str.tableLookup (.ref d) c) Q E s := by
  unfold Builtin.Str.tableLookup
  refine wpAny_bind (wpAny_attempt (wpAny_bind (wpAny_mkInt ?_)))
  refine wpAny_getItem_missing_of (knd := intKind prog w) (s := { s with toks := _ }) (k := (c : Int)) (by simp [intKind, Value.isInt]) hd hh hm hv fun h' e hn => ?_
  have hT : Shared.TypeIs { s with heap := h', toks := s.toks + 1 + 1 } (.ref e) "KeyError" := by
    obtain ⟨ob, t, h1, h2, -⟩ := hn.there
    exact ⟨ob, h1, h2⟩
  refine wpAny_bind (wpAny_isInstance hT sub_key ?_)
  exact wpAny_bind (wpAny_rule (wpAny_pure (h _ _ hn.keeps)))
noncomputable def Kept (f : Int → Option Value) (l : List Nat) : List Nat := l.filter fun c => (f (c : Int)).isNone
theorem translate_meets {x : Str} {t : Tok} (hd : (d == sysModules) = false) (hf : ∀ c : Nat, f (c : Int) = none ∨ f (c : Int) = some .none) (ha : x.cps.all (· < 128) = true) (hl : x.length ≤ 1000) (hne : x.length ≠ 0) :
    MeetsIn prog w (Builtin.«str.translate» ⟨[.str x t, .ref d], []⟩) (fun A R s => A.handled = none ∧ s.heap.MapOf (intKind prog w) d f ∧ ∀ h' tk u, (∀ b o, s.heap.get? b = some o → h'.get? b = some o) → R (.ok (.ret (.str ⟨(Kept f x.cps.toList).toArray⟩ u))) { s with heap := h', toks := tk }) :=
  .of_wp fun A R s ⟨hh, hm, h⟩ => by
    unfold Builtin.«str.translate» Builtin.Str.strOneArg
    refine wpAny_bind ?_
    show wpAny _ _ (pure (Value.str x t, x, Value.ref d)) _ _ s
    refine wpAny_pure ?_
    dsimp only
    have fin : ∀ (l : List Nat) h' tk, (∀ b o, s.heap.get? b = some o → h'.get? b = some o) → l = Kept f x.cps.toList → wpAny (model prog w) A.in1 (retStr { cps := List.foldl (fun acc p => acc ++ p.cps) #[] ((l.map fun c => (⟨#[c]⟩ : Str)).reverse).reverse }) (fun fin s' => ∃ v, fin = Fin.done (Flow.ret v) ∧ R (Except.ok (Flow.ret v)) s') (fun e s' => R (Except.error e) s') { s with heap := h', toks := tk } := by
      rintro l h' tk hk rfl
      rw [List.reverse_reverse]
      have e : List.foldl (fun (acc : Array Nat) (p : Str) => acc ++ p.cps) #[] ((Kept f x.cps.toList).map fun c => (⟨#[c]⟩ : Str)) = (Kept f x.cps.toList).toArray := by
        have : ∀ (l : List Nat) (acc : Array Nat), List.foldl (fun (acc : Array Nat) (p : Str) => acc ++ p.cps) acc (l.map fun c => (⟨#[c]⟩ : Str)) = acc ++ l.toArray := by
          intro l
          induction l with
          | nil => intro acc; simp
          | cons c r ih => intro acc; rw [List.map_cons, List.foldl_cons, ih]; simp
        rw [this]; simp
      rw [e]
      unfold retStr
      refine wpAny_bind (wpAny_mkStr ?_ ?_)
      · exact wpAny_pure ⟨_, rfl, h _ _ _ hk⟩
      · have h1 : (Kept f x.cps.toList).length ≤ x.cps.toList.length := List.length_filter_le ..
        have h2 : x.cps.toList.length = x.length := by simp [Str.length]
        have : sizeLine = 16777216 := by decide
        show (Kept f x.cps.toList).toArray.size ≤ _
        rw [List.size_toArray]
        omega
    have tl : ∀ (l r : List Nat), x.cps.toList = l ++ r → ¬ (Builtin.Str.tooLong (Kept f l).length = true) := by
      intro l r e
      have h1 : (Kept f l).length ≤ l.length := List.length_filter_le ..
      have h2 : x.cps.toList.length = x.length := by simp [Str.length]
      rw [e, List.length_append] at h2
      unfold Builtin.Str.tooLong
      have : sizeLine = 16777216 := by decide
      simp only [decide_eq_true_eq]
      omega
    rw [if_neg (by simpa using hne)]
    refine wpAny_bind (wpAny_forIn_array' _ (fun rest b s' => ∃ (done : List Nat) (h' : Heap) (tk : Nat) (known : List (Nat × Option Nat)), x.cps.toList = done ++ rest ∧ s' = { s with heap := h', toks := tk } ∧ (∀ b o, s.heap.get? b = some o → h'.get? b = some o) ∧
      b = (((Kept f done).map fun c => (⟨#[c]⟩ : Str)).reverse, (Kept f done).length, true, known, false) ∧ ∀ (c : Nat) (a : Option Nat), List.lookup c known = some a → a = if (f (c : Int)).isNone then some c else none) _ ?turn ?fin _ _ ?start)
    case start => exact ⟨[], s.heap, s.toks, [], rfl, rfl, fun _ _ e => e, by rw [ha]; rfl, fun c a e => by simp at e⟩
    case fin =>
      rintro b s' ⟨done, h', tk, known, e, rfl, hk, rfl, -⟩
      rw [List.append_nil] at e
      dsimp only
      rw [if_neg (tl done [] (by rw [e, List.append_nil]))]
      exact fin _ _ _ hk (by rw [e])
    case turn =>
      rintro c rest b s' ⟨done', h', tk, known, e, rfl, hk, rfl, hkn⟩
      dsimp only
      rw [if_neg (tl done' _ e), if_pos rfl]
      have next : ∀ h2 tk2 (kn : List (Nat × Option Nat)), (∀ b o, s.heap.get? b = some o → h2.get? b = some o) → (∀ (c : Nat) (a : Option Nat), List.lookup c kn = some a → a = if (f (c : Int)).isNone then some c else none) →
          ∃ (done : List Nat) (h' : Heap) (tk : Nat) (known : List (Nat × Option Nat)), x.cps.toList = done ++ rest ∧ ({ s with heap := h2, toks := tk2 } : Shared) = { s with heap := h', toks := tk } ∧ (∀ b o, s.heap.get? b = some o → h'.get? b = some o) ∧
            (if (f (c : Int)).isNone then ((⟨#[c]⟩ : Str) :: ((Kept f done').map fun c => (⟨#[c]⟩ : Str)).reverse, (Kept f done').length + 1, true, kn, false) else (((Kept f done').map fun c => (⟨#[c]⟩ : Str)).reverse, (Kept f done').length, true, kn, false)) = (((Kept f done).map fun c => (⟨#[c]⟩ : Str)).reverse, (Kept f done).length, true, known, false) ∧ ∀ (c : Nat) (a : Option Nat), List.lookup c known = some a → a = if (f (c : Int)).isNone then some c else none := by
        intro h2 tk2 kn q1 q2
        refine ⟨done' ++ [c], h2, tk2, kn, by rw [e]; simp, rfl, q1, ?_, q2⟩
        by_cases hc : (f (c : Int)).isNone = true
        · rw [if_pos hc]; simp [Kept, hc]
        · rw [if_neg hc]; simp [Kept, hc]
      cases hlk : List.lookup c known with
      | some a =>
        dsimp only
        have ea := hkn c a hlk
        refine wpAny_bind (wpAny_pure ?_)
        by_cases hc : (f (c : Int)).isNone = true
        · rw [if_pos hc] at ea
          subst ea
          have := next h' tk known hk hkn
          rw [if_pos hc] at this
          exact wpAny_pure this
        · rw [if_neg hc] at ea
          subst ea
          have := next h' tk known hk hkn
          rw [if_neg hc] at this
          exact wpAny_pure this
      | none =>
        dsimp only
        have hkn2 : ∀ (a0 : Option Nat), a0 = (if (f (c : Int)).isNone then some c else none) → ∀ (c1 : Nat) (a : Option Nat), List.lookup c1 ((c, a0) :: known) = some a → a = if (f (c1 : Int)).isNone then some c1 else none := by
          intro a0 h0 c1 a hq
          rw [List.lookup_cons] at hq
          cases hb : (c1 == c) with
          | true =>
            rw [hb] at hq
            obtain rfl : c1 = c := by simpa using hb
            cases hq
            exact h0
          | false =>
            rw [hb] at hq
            exact hkn c1 a hq
        have hm2 : h'.MapOf (intKind prog w) d f := by
          obtain ⟨o, es, ep, ho, r⟩ := hm
          exact ⟨o, es, ep, hk _ _ ho, r⟩
        rcases hf c with hc | hc
        · refine wpAny_bind (look_miss (s := { s with heap := h', toks := tk }) hd hh hm2 hc fun h2 tk2 hk2 => ?_)
          have := next h2 tk2 ((c, some c) :: known) (fun b o q => hk2 b o (hk b o q)) (hkn2 _ (by rw [hc]; rfl))
          rw [if_pos (by rw [hc]; rfl)] at this
          exact wpAny_bind (wpAny_pure (wpAny_pure this))
        · refine wpAny_bind (look_hit (s := { s with heap := h', toks := tk }) hm2 hc fun tk2 => ?_)
          have := next h' tk2 ((c, none) :: known) hk (hkn2 _ (by rw [hc]; rfl))
          rw [if_neg (by rw [hc]; decide)] at this
          exact wpAny_bind (wpAny_pure (wpAny_pure this))
end
end Mine
end
section
open PySem PySem.W PyProof.Rows PySem.Calls
set_option Elab.async false
set_option maxRecDepth 100000
set_option maxHeartbeats 4000000
namespace Mine
theorem mk_look : typeLookup (.type "str") "maketrans" = pure (some (.builtin "str.maketrans")) := by rw [typeLookup_type, builtinLookup_eq_fast]; kernel_rfl
theorem mk_type : typeOf (.builtin "str.maketrans") = pure (.type "builtin_function_or_method") := by show builtinType _ = _; rw [builtinType_eq_fast]; kernel_rfl
theorem bf_get : typeLookup (.type "builtin_function_or_method") "__get__" = pure none := by rw [typeLookup_type, builtinLookup_eq_fast]; kernel_rfl
theorem bf_set : typeLookup (.type "builtin_function_or_method") "__set__" = pure none := by rw [typeLookup_type, builtinLookup_eq_fast]; kernel_rfl
theorem bf_del : typeLookup (.type "builtin_function_or_method") "__delete__" = pure none := by rw [typeLookup_type, builtinLookup_eq_fast]; kernel_rfl
theorem mk_meets (x : Str) (t u : Tok) : Meets (Builtin.«object.__getattribute__» ⟨[.str x t, .str (Str.ofString "maketrans") u], []⟩) (fun _ R s => R (.ok (.ret (.builtin "str.maketrans"))) s) :=
  Meets.of_wp fun prog w A R s hs => by
    obtain ⟨hp, g, d, tk, os⟩ := s
    have hT : ∀ s' : Shared, s'.TypeIs (.str x t) "str" := fun _ => rfl
    have f4 := mk_look
    have f5 := mk_type
    have f6 := bf_get
    have f7 := bf_set
    have f8 := bf_del
    have hT5 : ∀ s' : Shared, s'.TypeIs (.builtin "str.maketrans") "builtin_function_or_method" := fun _ => mk_type
    unfold Builtin.«object.__getattribute__»
    repeat (any_goals (first | assumption | wp_step))
    exact ⟨_, rfl, hs⟩
theorem mk_getAttr {prog : Program} {w : World} {A : Around} {E : Value → Shared → Prop} {s : Shared} {x : Str} {t : Tok} {b : Bool} {Q : Value → Shared → Prop} (h : Q (.builtin "str.maketrans") { s with toks := s.toks + 1 }) :
    wpAny (model prog w) A (getAttr (.str x t) (Str.ofString "maketrans") b) Q E s := by
  obtain ⟨hp, g, d, tk, os⟩ := s
  have hT : ∀ s' : Shared, s'.TypeIs (.str x t) "str" := fun _ => rfl
  have f3 := PySem.F.slot_str_getattribute.lookup
  have f4 := PySem.F.slot_str_getattribute.bind (.str x t)
  unfold getAttr getAttrBy
  repeat (any_goals (first | assumption | ((with_reducible show wpAny _ _ (call (Value.builtin "object.__getattribute__") _ _) _ _ _); refine call_meets PySem.F.slot_str_getattribute (hT _) PySem.F.entry_object_getattribute (PySem.F.args_object_getattribute_2 _ _) (mk_meets x t _) ?_) | wp_step))
  rw [show (b && onTheHeap (Value.builtin "object.__getattribute__")) = false by cases b <;> rfl]
  unfold boundAndCalled
  repeat (any_goals (first | assumption | ((with_reducible show wpAny _ _ (call (Value.builtin "object.__getattribute__") _ _) _ _ _); refine call_meets PySem.F.slot_str_getattribute (hT _) PySem.F.entry_object_getattribute (PySem.F.args_object_getattribute_2 _ _) (mk_meets x t _) ?_) | wp_step))
  show wpAny _ _ (handedOut _) _ _ _
  repeat (any_goals (first | assumption | wp_step))
theorem str_nogetattr : typeLookup (.type "str") "__getattr__" = pure none := by rw [typeLookup_type, builtinLookup_eq_fast]; kernel_rfl
theorem str_ga : (Manifest.canonical "object.__getattribute__" != "object.__getattribute__") = false := by decide +kernel
theorem mk_getMethod {prog : Program} {w : World} {A : Around} {E : Value → Shared → Prop} {s : Shared} {x : Str} {t : Tok} {pl : Sem Bool} {Q : Value × List Value → Shared → Prop} (h : Q (.builtin "str.maketrans", []) { s with toks := s.toks + 1 }) :
    wpAny (model prog w) A (getMethod (.str x t) (Str.ofString "maketrans") pl) Q E s := by
  have hT : ∀ s' : Shared, s'.TypeIs (.str x t) "str" := fun _ => rfl
  have f3 := PySem.F.slot_str_getattribute.lookup
  have f4 := mk_look
  have f5 := mk_type
  have f6 := str_nogetattr
  unfold getMethod
  refine wpAny_bind ?_
  apply wpAny_specialOf (hT _) f3
  dsimp only
  rw [str_ga, if_neg (by decide)]
  refine wpAny_bind ?_
  apply wpAny_specialOf (hT _) f6
  rw [if_neg (by decide)]
  refine wpAny_bind ?_
  apply wpAny_specialOf (hT _) f4
  dsimp only
  refine wpAny_bind (wpAny_of_eq f5 ?_)
  rw [if_pos (by decide)]
  exact wpAny_bind (mk_getAttr (wpAny_pure h))
theorem d0_type : checkTypeCall "dict" ⟨[], []⟩ = pure () := by kernel_rfl
theorem d0_new : checkBuiltinCall "dict.__new__" ⟨[.type "dict"], []⟩ = pure () := by kernel_rfl
theorem d0_args (a : Value) : argsOk "dict.__init__" ⟨[a], []⟩ := by unfold argsOk; kernel_rfl
section
variable {prog : Program} {w : World} {A : Around} {E : Value → Shared → Prop} {s : Shared}
theorem d0_code {Q₁ : Value → Shared → Prop} (h : Q₁ (.ref s.heap.objs.size) { s with heap := s.heap.push { cls := .type "dict", data := .dict #[] } }) :
    codeAny (model prog w) A (.call (.builtin "dict.__new__") ⟨[.type "dict"], []⟩) (wants Q₁ E) s := by
  refine codeAny_call_builtin PySem.F.kt_plain_dict_new PySem.F.kt_entry_dict_new (wpAny_of_eq d0_new ?_)
  have hsub := PySem.F.kt_sub_dict
  have hmro := PySem.F.kt_mro_dict
  obtain ⟨hp, g, d, tk, os⟩ := s
  unfold Builtin.«dict.__new__»
  wp_walk
  exact h
theorem d0_call {Q : Value → Shared → Prop} (h : Q (.ref s.heap.objs.size) { s with heap := s.heap.push { cls := .type "dict", data := .dict #[] } }) :
    wpAny (model prog w) A (call (.type "dict") []) Q E s := by
  refine callType_codes (Q₁ := fun obj s₁ => obj = .ref s.heap.objs.size ∧ s₁ = { s with heap := s.heap.push { cls := .type "dict", data := .dict #[] } }) PySem.F.kt_called_dict d0_type PySem.F.entry_dict_init (d0_code ⟨rfl, rfl⟩) ?_
  rintro obj s₁ ⟨rfl, rfl⟩
  have hnew : (s.heap.push { cls := .type "dict", data := .dict #[] }).DictOf (strKind prog w) s.heap.objs.size [] := Heap.DictOf.new s.heap
  refine ⟨hnew.typeIs, d0_args _, ?_⟩
  unfold Builtin.«dict.__init__»
  refine wpAny_bind ?_
  unfold Builtin.Dict.selfAndRest
  refine wpAny_bind (wpAny_notOrdered_dict hnew.typeIs ?_)
  show wpAny _ _ (pure (s.heap.objs.size, [])) _ _ _
  refine wpAny_pure ?_
  show wpAny _ _ (Builtin.Dict.updateCommon "dict.__init__" "dict" s.heap.objs.size [] []) _ _ _
  unfold Builtin.Dict.updateCommon
  exact wpAny_bind (wpAny_pure (wpAny_pure ⟨rfl, h⟩))
end
end Mine
end
section
open PySem PySem.W PyProof.Rows PySem.Calls
set_option Elab.async false
set_option maxRecDepth 100000
set_option maxHeartbeats 4000000
namespace Mine
noncomputable def chars (l : List Nat) : List Str := l.map fun c => ⟨#[c]⟩
noncomputable def nonesS (l : List Nat) : List (Str × Value) := l.map fun c => (⟨#[c]⟩, .none)
noncomputable def nonesI (l : List Nat) : List (Int × Value) := l.map fun (c : Nat) => ((c : Int), .none)
theorem stored_new {K : Type} [DecidableEq K] {kvs : List (K × Value)} {k : K} {v : Value} (h : k ∉ kvs.map (·.1)) : stored kvs k v = kvs ++ [(k, v)] := by
  unfold stored
  rw [if_neg]
  rw [List.any_eq_true]
  rintro ⟨kv, hkv, he⟩
  exact h (List.mem_map.mpr ⟨kv, hkv, of_decide_eq_true he⟩)
theorem fk_entry : entryFor table "dict.fromkeys" = some Builtin.«dict.fromkeys» := entryFor_of_tree (by kernel_rfl)
theorem fk_quiet {as : Args} : (Code.builtin "dict.fromkeys" as).quiet = true := Code.quiet_builtin _ (by decide +kernel)
theorem fl_entry : entryFor table "dict.fromkeys.loop" = some Builtin.«dict.fromkeys.loop» := entryFor_of_tree (by kernel_rfl)
theorem fl_plain : plainId "dict.fromkeys.loop" = true := by decide +kernel
theorem fk_plain : plainId "dict.fromkeys" = true := by decide +kernel
section
variable {prog : Program} {w : World} {A : Around} {E : Value → Shared → Prop} {s : Shared}
theorem fk_loop {I d : Addr} {x : Str} {St : Nat → Heap → Prop} {R : Result → Shared → Prop} (W : Walks prog w A.in1 I [I] [I] x.cps.size (SignAt x) St) (hne : d ≠ I) (hnd : x.cps.toList.Nodup) (hl : x.cps.size ≤ 1000) : ∀ (k i : Nat) (s : Shared), i + k = x.cps.size → St i s.heap → s.heap.DictOf (strKind prog w) d (nonesS (x.cps.toList.take i)) →
    (∀ h' tk, h'.DictOf (strKind prog w) d (nonesS x.cps.toList) → (∀ b o, b ≠ I → b ≠ d → s.heap.get? b = some o → h'.get? b = some o) → R (.ok (.ret (.ref d))) { s with heap := h', toks := tk }) →
    codeAny (model prog w) A (.builtin "dict.fromkeys.loop" ⟨[.ref d, .ref I, .none], []⟩) R s
  | 0, i, s, e, hst, hm, hR => by
    refine codeAny_builtin fl_entry ?_
    rw [Around.under_plainId fl_plain _]
    show wpAny _ A.in1 (pyNext (.ref I) >>= _) _ _ s
    obtain rfl : i = x.cps.size := by omega
    refine wpAny_bind (W.done s _ _ hst fun h' tk hk => ?_)
    refine wpAny_pure (hR h' tk ?_ fun b o h1 _ q => hk b o (by simpa using h1) q)
    rw [List.take_of_length_le (by simp)] at hm
    obtain ⟨o, es, ep, ho, r⟩ := hm
    exact ⟨o, es, ep, hk _ _ (by simpa using hne) ho, r⟩
  | k + 1, i, s, e, hst, hm, hR => by
    have hi : i < x.cps.toList.length := by simp; omega
    refine codeAny_builtin fl_entry ?_
    rw [Around.under_plainId fl_plain _]
    show wpAny _ A.in1 (pyNext (.ref I) >>= _) _ _ s
    refine wpAny_bind (W.item i s _ _ (by omega) hst fun v h' tk hP hst' hk => ?_)
    obtain ⟨c, u, hc, rfl⟩ := hP
    have hm' : h'.DictOf (strKind prog w) d (nonesS (x.cps.toList.take i)) := by
      obtain ⟨o, es, ep, ho, r⟩ := hm
      exact ⟨o, es, ep, hk _ _ (by simpa using hne) ho, r⟩
    have hcl : x.cps.toList[i] = c := by
      have : x.cps.toList[i]? = some c := by simpa using hc
      exact (List.getElem?_eq_some_iff.mp this).2
    have hnew : (⟨#[c]⟩ : Str) ∉ (nonesS (x.cps.toList.take i)).map (·.1) := by
      intro hmem
      simp only [nonesS, List.map_map, List.mem_map, Function.comp] at hmem
      obtain ⟨c', hc', e'⟩ := hmem
      have e'' : c' = c := by simpa using e'
      subst e''
      obtain ⟨j, hj, ej⟩ := List.mem_iff_getElem.mp hc'
      have hji : j < i := by simp at hj; omega
      rw [List.getElem_take] at ej
      have := (List.getElem_inj hnd).mp (ej.trans hcl.symm)
      omega
    have hts : x.cps.toList.take (i + 1) = x.cps.toList.take i ++ [c] := by
      rw [List.take_succ_eq_append_getElem hi, hcl]
    have hsz : (nonesS (x.cps.toList.take i)).length ≤ sizeLine := by
      have : sizeLine = 16777216 := by decide
      simp [nonesS]; omega
    show wpAny _ A.in1 (typeOf (.ref d) >>= _) _ _ _
    refine wpAny_bind (wpAny_typeOf (s := { s with heap := h', toks := tk }) hm'.typeIs ?_)
    rw [if_pos (by decide)]
    refine wpAny_bind (m := Builtin.Dict.addrOf (.ref d)) (wpAny_pure ?_)
    refine wpAny_bind (wpAny_holding (wpAny_dictSet_pairs (knd := strKind prog w) (s := { s with heap := h', toks := tk }) (k := ⟨#[c]⟩) (by simp [PySem.strKind, Value.isStrOf]) hm' (fun h2 hm2 hs2 => ?_) hsz))
    refine wpAny_pure ⟨plainId_quiet fl_plain _, fk_loop W hne hnd hl k (i + 1) _ (by omega) (W.frame _ _ _ hst' ?_) ?_ ?_⟩
    · intro b hb o q
      obtain rfl : b = I := by simpa using hb
      exact (hs2.2 _ (Ne.symm hne)).trans q
    · rw [stored_new hnew] at hm2
      rw [hts]
      simpa [nonesS] using hm2
    · intro h3 tk3 hm3 hk3
      refine hR h3 tk3 hm3 fun b o h1 h2' q => hk3 b o h1 h2' ?_
      exact (hs2.2 _ h2').trans (hk b o (by simpa using h1) q)
theorem fk_isType : isType (.type "dict") = pure true := by first | rfl | kernel_rfl | (unfold isType; rw [isSubtype_type]; kernel_rfl)
theorem fk_tree {x : Str} {t : Tok} {R : Result → Shared → Prop} (hh : A.handled = none) (ha : x.cps.all (· < 128) = true) (hnd : x.cps.toList.Nodup) (hl : x.cps.size ≤ 1000)
    (hR : ∀ h' tk, h'.DictOf (strKind prog w) s.heap.objs.size (nonesS x.cps.toList) → (∀ b o, s.heap.get? b = some o → h'.get? b = some o) → R (.ok (.ret (.ref s.heap.objs.size))) { s with heap := h', toks := tk }) :
    codeAny (model prog w) A (.builtin "dict.fromkeys" ⟨[.type "dict", .str x t], []⟩) R s := by
  refine codeAny_builtin fk_entry ?_
  rw [Around.under_plainId fk_plain _]
  unfold Builtin.«dict.fromkeys»
  refine wpAny_bind (wpAny_of_eq (a := true) fk_isType ?_)
  refine KFB.if_not rfl ?_
  refine wpAny_bind (wpAny_of_eq (a := true) PySem.F.kt_sub_dict ?_)
  refine KFB.if_not rfl ?_
  refine KFB.if_not rfl ?_
  dsimp only
  refine wpAny_bind (wpAny_rule ?_)
  refine wpAny_bind (wpAny_pure ?_)
  dsimp only
  refine wpAny_bind (d0_call ?_)
  have hnew : (s.heap.push { cls := .type "dict", data := .dict #[] }).DictOf (strKind prog w) s.heap.objs.size [] := Heap.DictOf.new s.heap
  refine wpAny_holding ?_
  refine wpAny_bind (wpAny_of_eq (a := .type "str") rfl ?_)
  refine wpAny_bind (wpAny_typeOf (s := { s with heap := s.heap.push { cls := .type "dict", data := .dict #[] } }) hnew.typeIs ?_)
  refine KFB.if_not (by decide) ?_
  refine wpAny_bind (wpAny_typeOf (s := { s with heap := s.heap.push { cls := .type "dict", data := .dict #[] } }) hnew.typeIs ?_)
  refine KFB.if_not (by decide) ?_
  refine wpAny_bind (wpAny_pyIter_ascii ha ?_)
  refine wpAny_pure ⟨plainId_quiet fl_plain _, ?_⟩
  refine fk_loop (x := x) (Walks.strAscii (A := A.in1) hh _ x t) ?_ hnd hl x.cps.size 0 _ (by omega) ⟨_, Heap.get?_push_size _ rfl, rfl, rfl⟩ (hnew.push _) ?_
  · show s.heap.objs.size ≠ (s.heap.push _).objs.size
    rw [Heap.size_push]
    exact Nat.ne_of_lt (Nat.lt_succ_self _)
  · intro h' tk hm hk
    refine hR h' tk hm fun b o q => hk b o ?_ ?_ (Heap.get?_push_of_some _ (Heap.get?_push_of_some _ q))
    · rw [Heap.size_push]
      exact Nat.ne_of_lt (Nat.lt_succ_of_lt (Heap.lt_size q))
    · exact Nat.ne_of_lt (Heap.lt_size q)
end
end Mine
end
section
open PySem PySem.W PyProof.Rows PySem.Calls
set_option Elab.async false
set_option maxRecDepth 100000
set_option maxHeartbeats 4000000
namespace Mine
theorem mt_check (d : Addr) : checkBuiltinCall "str.maketrans" ⟨[.ref d], []⟩ = pure () := by kernel_rfl
theorem mt_entry : entryFor table "str.maketrans" = some Builtin.«str.maketrans» := entryFor_of_tree (by kernel_rfl)
theorem mt_plain : plainId "str.maketrans" = true := by decide +kernel
section
variable {prog : Program} {w : World} {A : Around} {E : Value → Shared → Prop} {s : Shared}
theorem mt_call {d : Addr} {l : List Nat} {Q : Value → Shared → Prop} (hd : (d == sysModules) = false) (hm : s.heap.DictOf (PySem.strKind prog w) d (nonesS l)) (hnd : l.Nodup) (hl : l.length ≤ 1000)
    (hQ : ∀ h' tk, h'.DictOf (intKind prog w) s.heap.objs.size (nonesI l) → (∀ b o, s.heap.get? b = some o → h'.get? b = some o) → Q (.ref s.heap.objs.size) { s with heap := h', toks := tk }) :
    wpAny (model prog w) A (call (.builtin "str.maketrans") [.ref d]) Q E s := by
  refine wpAny_call (codeAny_call_builtin mt_plain mt_entry (wpAny_of_eq (mt_check d) ?_))
  unfold Builtin.«str.maketrans»
  refine wpAny_bind (wpAny_of_eq (a := ()) (by rfl) ?_)
  refine wpAny_bind (wpAny_of_eq (a := ()) (by rfl) ?_)
  refine wpAny_bind (wpAny_of_eq (a := none) (by rfl) ?_)
  refine wpAny_bind (wpAny_of_eq (a := none) (by rfl) ?_)
  refine wpAny_bind (wpAny_newObj_type ?_ (by size_fits))
  have hT : (s.heap.push { cls := .type "dict", data := .dict #[] }).DictOf (intKind prog w) s.heap.objs.size [] := Heap.DictOf.new s.heap
  have hm' : (s.heap.push { cls := .type "dict", data := .dict #[] }).DictOf (PySem.strKind prog w) d (nonesS l) := hm.push _
  refine wpAny_bind (wpAny_holding ?_)
  refine wpAny_bind (wpAny_typeOf (s := { s with heap := s.heap.push { cls := .type "dict", data := .dict #[] } }) hm'.typeIs ?_)
  refine wpAny_bind (wpAny_of_eq (a := ()) (by rfl) ?_)
  refine wpAny_bind (wpAny_typeOf (s := { s with heap := s.heap.push { cls := .type "dict", data := .dict #[] } }) hm'.typeIs ?_)
  refine KFB.if_not (by decide) ?_
  refine wpAny_bind ?_
  unfold notTheModulesDict
  refine KFB.if_not hd (wpAny_pure ?_)
  obtain ⟨o, es, ep, ho, hex, hdat, hko, hp, -⟩ := hm'
  refine wpAny_bind (wpAny_dictEntries (s := { s with heap := s.heap.push { cls := .type "dict", data := .dict #[] } }) ho hdat ?_)
  refine wpAny_bind ?_
  refine wpAny_forIn_array' _ (fun rest _ s' => ∃ (done left : List Nat) (h' : Heap) (tk : Nat), l = done ++ left ∧ Pairs (PySem.strKind prog w) rest (nonesS left) ∧ s' = { s with heap := h', toks := tk } ∧ h'.DictOf (intKind prog w) s.heap.objs.size (nonesI done) ∧ (∀ b o, s.heap.get? b = some o → h'.get? b = some o)) _ ?turn ?fin _ _ ?start
  case start => exact ⟨[], l, _, _, rfl, hp, rfl, hT, fun b o q => Heap.get?_push_of_some _ q⟩
  case fin =>
    rintro b s' ⟨done, left, h', tk, e, hp, rfl, hm, hk⟩
    obtain rfl : left = [] := by
      cases left with
      | nil => rfl
      | cons c r => cases hp
    rw [List.append_nil] at e
    subst e
    exact wpAny_pure (wpAny_pure (hQ _ _ hm hk))
  case turn =>
    rintro e rest b s' ⟨done, left, h', tk, el, hp, rfl, hm, hk⟩
    cases left with
    | nil => cases hp
    | cons c left =>
      cases hp with
      | cons hkey hval hp =>
        obtain ⟨t, hke⟩ := Value.isStrOf_shape hkey
        rw [hke, hval]
        have hnew : (c : Int) ∉ (nonesI done).map (·.1) := by
          intro hmem
          simp only [nonesI, List.map_map, List.mem_map, Function.comp] at hmem
          obtain ⟨c', hc', e'⟩ := hmem
          have e'' : c' = c := by omega
          subst e''
          rw [el] at hnd
          exact (List.nodup_append.mp hnd).2.2 c' hc' c' (by simp) rfl
        have hsz : (nonesI done).length ≤ sizeLine := by
          have : sizeLine = 16777216 := by decide
          have h1 : l.length = done.length + (c :: left).length := by rw [el, List.length_append]
          simp only [nonesI, List.length_map]
          omega
        refine wpAny_bind (wpAny_of_eq (a := some ⟨#[c]⟩) (by rfl) ?_)
        dsimp only
        refine wpAny_bind (wpAny_mkInt ?_)
        refine wpAny_bind (wpAny_dictSet_pairs (knd := intKind prog w) (s := { s with heap := h', toks := tk + 1 }) (k := (c : Int)) (key := .int (c : Int) tk) (by simp [intKind, Value.isInt]) hm (fun h2 hm2 hs2 => ?_) hsz)
        refine wpAny_pure ⟨done ++ [c], left, h2, _, by rw [el]; simp, hp, rfl, ?_, fun b o q => ?_⟩
        · rw [stored_new hnew] at hm2
          simpa [nonesI] using hm2
        · exact (hs2.2 b (Nat.ne_of_lt (Heap.lt_size q))).trans (hk b o q)
end
end Mine
end
section
open PySem PySem.W PyProof.Rows PySem.Calls
set_option Elab.async false
set_option maxRecDepth 100000
set_option maxHeartbeats 4000000
namespace Mine
noncomputable abbrev fkObj : Obj := { cls := .type "builtin_function_or_method", data := .fields #[.builtin "dict.fromkeys", .type "dict"] }
theorem fk_type : typeOf (.builtin "dict.fromkeys") = pure (.type "classmethod_descriptor") := by show builtinType _ = _; rw [builtinType_eq_fast]; kernel_rfl
theorem fk_owner : (kfb_private% "ownerAndName") "dict.fromkeys" = ("dict", "fromkeys") := by first | decide +kernel | kernel_rfl
section
variable {prog : Program} {w : World} {M : Model} {A : Around} {E : Value → Shared → Prop} {s : Shared} {K : Frag} {h₀ : Heap} {L : Addr} {m : PySem.Str → Option Value} {news : List (Addr × Obj)}
theorem fk_get {P : Fin → Shared → Prop} (h : P (.done (.ret (.ref s.heap.objs.size))) { s with heap := s.heap.push fkObj }) :
    wpAny M A (Builtin.«classmethod_descriptor.__get__» ⟨[.builtin "dict.fromkeys", .none, .type "dict"], []⟩) P E s := by
  unfold Builtin.«classmethod_descriptor.__get__»
  refine wpAny_bind (wpAny_of_eq (a := (.builtin "dict.fromkeys", none, some (.type "dict"))) (by first | rfl | kernel_rfl) ?_)
  simp only [fk_owner]
  refine wpAny_bind (wpAny_of_eq (a := .type "dict") rfl ?_)
  refine wpAny_bind (wpAny_of_eq (a := true) fk_isType ?_)
  refine KFB.if_not rfl ?_
  refine wpAny_bind (wpAny_of_eq (a := true) PySem.F.kt_sub_dict ?_)
  refine KFB.if_not rfl ?_
  exact wpAny_bind (wpAny_newObj_type (wpAny_pure h))
theorem fk_getm {pl : Sem Bool} {Q : Value × List Value → Shared → Prop} (F : Fr h₀ L s.heap m) (N : News h₀ L s.heap news) (X₀ : K.In h₀)
    (e : findCls K (.type "dict") (.type "type") (PySem.Str.ofString "fromkeys") = some (.get (.builtin "classmethod_descriptor.__get__") (.builtin "dict.fromkeys") .none (.type "dict")))
    (h : ∀ x h', Fr h₀ L h' m → News h₀ L h' ((x, fkObj) :: news) → Q (.ref x, []) { s with heap := h', toks := s.toks + 1 }) :
    wpAny (model prog w) A (getMethod (.type "dict") (PySem.Str.ofString "fromkeys") pl) Q E s := by
  have X := X₀.keeps F.keep
  have hstub : opaqueClassAbove (.type "dict") = pure none := by unfold opaqueClassAbove; dsimp only; rw [show Manifest.isStub "dict" = false by decide +kernel]; rfl
  have ht : typeOf (.type "dict") = pure (.type "type") := by first | rfl | kernel_rfl
  have L0 : Looks (model prog w) s.heap (typeOf (.type "dict")) (.type "type") := Looks.of_pure ht
  have hg : findIn K (.type "type") "__getattribute__" = some (some (.builtin "type.__getattribute__")) := type_tga
  unfold getMethod specialOf
  refine wpAny_bind (wpAny_bind (L0.here ((looks_findIn X hg).here ?_)))
  dsimp only
  rw [if_pos canon_tga]
  refine wpAny_bind (wpAny_mono (Q := fun v => Q (v, [])) (E := E) ?_ (fun _ _ z => wpAny_pure z) fun _ _ z => z)
  have LO : Looks (model prog w) s.heap (opaqueClassAbove (.type "dict")) none := Looks.of_pure hstub
  refine cls_open X LO L0 hg (looks_hook X (r := none) (by rfl)) (by show subIn K _ _ = _; rfl) e ?_
  show wpAny _ _ (holding [.builtin "dict.fromkeys"] (call (.builtin "classmethod_descriptor.__get__") [.builtin "dict.fromkeys", .none, .type "dict"]) >>= fun v => ret v) _ _ _
  refine wpAny_bind (wpAny_holding (wpAny_call_entry KFB.slot_get fk_type KFB.entry_get (fk_get ⟨_, rfl, wpAny_pure (wpAny_pure (h _ _ (F.push _) (News.push F N _)))⟩) (KFB.args_get _ _ _)))
theorem fk_callWith {pos : Pos} {u : Addr} {first : List Value} {env : Env} {e : Expr} {rest : List Expr} {Q : Value → Shared → Prop}
    (h : wpAny M A (spliced (backTo pos (starEach (e :: rest) env))) (fun vs s₁ => Halt (s₁.heap.get? u = some fkObj ∧ wpAny M A (call (.ref u) (first ++ vs)) Q E s₁)) E s)
    (he : starEach (e :: rest) env = (false, eval e env) :: starEach rest env := by rfl) (hplain : (backTo pos (starEach rest env)).any (·.1) = false := by rfl) :
    wpAny M A (callWith pos (.ref u) first (backTo pos (starEach (e :: rest) env)) []) Q E s := by
  rw [he] at h ⊢
  have hp : (backTo pos ((false, eval e env) :: starEach rest env)).any (·.1) = false := by show (false || (backTo pos (starEach rest env)).any (·.1)) = false; rw [hplain]; rfl
  have h2 : wpAny M A (evalArgs (.ref u) true (backTo pos ((false, eval e env) :: starEach rest env)) []) (fun x s₁ => s₁.heap.get? u = some fkObj ∧ wpAny M A (call (.ref u) (first ++ x.pos) x.kw) Q E s₁) E s := by
    refine evalArgs_plain ?_
    exact h
  unfold callWith
  refine wpAny_bind (wpAny_holding (wpAny_mono h2 (fun x s₁ h₁ => wpAny_bind (wpAny_standAt ?_)) fun _ _ x => x))
  obtain ⟨ho, hcall⟩ := h₁
  simp only [hp, List.any_nil, Bool.or_false]
  refine wpAny_bind (m := keeperOf (.ref u)) ?_
  unfold keeperOf
  refine wpAny_bind (wpAny_load ho ?_)
  simp only [show (Value.type "builtin_function_or_method" != Value.type "method") = true by decide, show (Value.type "builtin_function_or_method" == Value.type "builtin_function_or_method" || Value.type "builtin_function_or_method" == Value.type "method-wrapper") = true by decide, if_true]
  refine wpAny_pure ?_
  exact wpAny_bind (wpAny_mono hcall (fun r s₂ hr => wpAny_bind (wpAny_holding (wpAny_point (wpAny_pure hr)))) fun _ _ x => x)
theorem fk_check {x : Str} {t : Tok} : checkBoundCall "dict.fromkeys" ⟨[.type "dict", .str x t], []⟩ = pure () := by first | kernel_rfl | rfl
theorem fk_call {u : Addr} {x : Str} {t : Tok} {Q : Value → Shared → Prop} (ho : s.heap.get? u = some fkObj) (hh : A.handled = none) (ha : x.cps.all (· < 128) = true) (hnd : x.cps.toList.Nodup) (hl : x.cps.size ≤ 1000)
    (hR : ∀ h' tk, h'.DictOf (PySem.strKind prog w) s.heap.objs.size (nonesS x.cps.toList) → (∀ b o, s.heap.get? b = some o → h'.get? b = some o) → Q (.ref s.heap.objs.size) { s with heap := h', toks := tk }) :
    wpAny (model prog w) A (call (.ref u) [.str x t]) Q E s := by
  refine wpAny_call (codeAny_of_tree ?_)
  show wpAny _ A.in1 (callAny (.ref u) ⟨[.str x t], []⟩) _ _ s
  simp only [callAny]
  refine wpAny_bind (wpAny_load ho ?_)
  simp only [show (Value.type "builtin_function_or_method" == Value.type "method" || Value.type "builtin_function_or_method" == Value.type "builtin_function_or_method" || Value.type "builtin_function_or_method" == Value.type "method-wrapper") = true by decide, if_true]
  refine KFB.if_so (by decide) ?_
  refine wpAny_bind (wpAny_of_eq (a := ()) fk_check ?_)
  refine wpAny_bind (wpAny_pure (wpAny_pure ?_))
  exact ⟨fk_quiet, fk_tree hh ha hnd hl hR⟩
theorem tr_call {d : Addr} {f : Int → Option Value} {x : Str} {t : Tok} {Q : Value → Shared → Prop} (hd : (d == sysModules) = false) (hf : ∀ c : Nat, f (c : Int) = none ∨ f (c : Int) = some .none) (ha : x.cps.all (· < 128) = true) (hl : x.length ≤ 1000) (hne : x.length ≠ 0)
    (hh : A.handled = none) (hm : s.heap.MapOf (intKind prog w) d f)
    (h : ∀ h' tk u, (∀ b o, s.heap.get? b = some o → h'.get? b = some o) → Q (.str ⟨(Kept f x.cps.toList).toArray⟩ u) { s with heap := h', toks := tk }) :
    wpAny (model prog w) A (call (.builtin "str.translate") [.str x t, .ref d]) Q E s :=
  call_meetsIn PySem.F.slot_str_translate rfl PySem.F.entry_str_translate (PySem.F.args_str_translate_2 _ _) (translate_meets (f := f) hd hf ha hl hne) ⟨hh, hm, h⟩
theorem valueAt_nones (l : List Nat) (k : Int) : valueAt (nonesI l) k = if k ∈ l.map (fun c : Nat => (c : Int)) then some .none else none := by
  induction l with
  | nil => rfl
  | cons c r ih =>
    by_cases h : (c : Int) = k
    · subst h; simp [valueAt, nonesI]
    · have : valueAt (nonesI (c :: r)) k = valueAt (nonesI r) k := by simp [valueAt, nonesI, List.find?_cons, h]
      rw [this, ih]
      have h' : ¬ (k = (c : Int)) := fun e => h e.symm
      simp [h']
end
end Mine
end
section
open PySem PySem.W PyProof.Rows
set_option Elab.async false
set_option maxRecDepth 100000
set_option maxHeartbeats 8000000
namespace Mine
/-- a dict by its object -/
noncomputable def DObj {prog : Program} {w : World} {K : Type} [DecidableEq K] (knd : KeyKind prog w K) (o : Obj) (kvs : List (K × Value)) : Prop := ∃ es ep, o.ExactDict ∧ o.data = .dict es ep ∧ KeysOf knd es ∧ Pairs knd es.toList kvs ∧ (kvs.map (·.1)).Nodup
section
variable {prog : Program} {w : World} {A : Around} {E : Value → Shared → Prop} {s : Shared} {h₀ : Heap} {L : Addr} {m : Str → Option Value} {news : List (Addr × Obj)} {Q : Value → Shared → Prop}
theorem DObj.at {K : Type} [DecidableEq K] {knd : KeyKind prog w K} {o : Obj} {kvs : List (K × Value)} {h : Heap} {d : Addr} (z : DObj knd o kvs) (e : h.get? d = some o) : h.DictOf knd d kvs :=
  let ⟨es, ep, r⟩ := z; ⟨o, es, ep, e, r⟩
theorem news_new {h h' : Heap} {o : Obj} (F : Fr h₀ L h m) (N : News h₀ L h news) (hk : ∀ b o, h.get? b = some o → h'.get? b = some o) (e : h'.get? h.objs.size = some o) : News h₀ L h' ((h.objs.size, o) :: news) := fun p hp => by
  rcases List.mem_cons.mp hp with rfl | hp
  · exact ⟨e, Nat.ne_of_gt F.ns.lt, next_is_new F⟩
  · exact ⟨hk _ _ (N p hp).1, (N p hp).2⟩
theorem fk_callN {u : Addr} {x : Str} {t : Tok} (F : Fr h₀ L s.heap m) (N : News h₀ L s.heap news) (ho : s.heap.get? u = some fkObj) (hh : A.handled = none) (ha : x.cps.all (· < 128) = true) (hnd : x.cps.toList.Nodup) (hl : x.cps.size ≤ 1000)
    (h : ∀ d o h' tk, Fr h₀ L h' m → News h₀ L h' ((d, o) :: news) → (∀ p ∈ news, p.1 < d) → DObj (PySem.strKind prog w) o (nonesS x.cps.toList) → Q (.ref d) { s with heap := h', toks := tk }) :
    wpAny (model prog w) A (call (.ref u) [.str x t]) Q E s :=
  fk_call ho hh ha hnd hl fun h' tk hm hk => by
    obtain ⟨o, es, ep, e, r⟩ := hm
    exact h _ o h' tk (F.keeps hk) (news_new F N hk e) (fun p hp => Heap.lt_size (N p hp).1) ⟨es, ep, r⟩
theorem mt_callN {d : Addr} {o : Obj} {l : List Nat} (F : Fr h₀ L s.heap m) (N : News h₀ L s.heap ((d, o) :: news)) (hd : (d == sysModules) = false) (hm : DObj (PySem.strKind prog w) o (nonesS l)) (hnd : l.Nodup) (hl : l.length ≤ 1000)
    (h : ∀ d' o' h' tk, Fr h₀ L h' m → News h₀ L h' ((d', o') :: news) → (∀ p ∈ news, p.1 < d') → DObj (intKind prog w) o' (nonesI l) → Q (.ref d') { s with heap := h', toks := tk }) :
    wpAny (model prog w) A (call (.builtin "str.maketrans") [.ref d]) Q E s :=
  mt_call hd (hm.at (N _ (.head _)).1) hnd hl fun h' tk hm hk => by
    obtain ⟨o, es, ep, e, r⟩ := hm
    exact h _ o h' tk (F.keeps hk) (news_new F (news_tail N) hk e) (fun p hp => Heap.lt_size (N p (.tail _ hp)).1) ⟨es, ep, r⟩
theorem nones_or (l : List Nat) (c : Nat) : valueAt (nonesI l) (c : Int) = none ∨ valueAt (nonesI l) (c : Int) = some .none := by
  rw [valueAt_nones]
  split
  · exact .inr rfl
  · exact .inl rfl
/-- x without the signs of y -/
noncomputable def without (x y : Str) : Str := ⟨(Kept (valueAt (nonesI y.cps.toList)) x.cps.toList).toArray⟩
theorem tr_callN {d : Addr} {o : Obj} {x y : Str} {t : Tok} (F : Fr h₀ L s.heap m) (N : News h₀ L s.heap ((d, o) :: news)) (hd : (d == sysModules) = false) (hm : DObj (intKind prog w) o (nonesI y.cps.toList)) (ha : x.cps.all (· < 128) = true) (hl : x.length ≤ 1000) (hne : x.length ≠ 0) (hh : A.handled = none)
    (h : ∀ u h' tk, Fr h₀ L h' m → News h₀ L h' news → Q (.str (without x y) u) { s with heap := h', toks := tk }) :
    wpAny (model prog w) A (call (.builtin "str.translate") [.str x t, .ref d]) Q E s :=
  tr_call (f := valueAt (nonesI y.cps.toList)) hd (nones_or _) ha hl hne hh (hm.at (N _ (.head _)).1).mapOf fun h' tk u hk => h u h' tk (F.keeps hk) fun p hp => ⟨hk _ _ (N p (.tail _ hp)).1, (N p (.tail _ hp)).2⟩
end
theorem tr_getMethod {M : Model} {A : Around} {E : Value → Shared → Prop} {s : Shared} {x : Str} {t : Tok} {pl : Sem Bool} {Q : Value × List Value → Shared → Prop} (h : Q (.builtin "str.translate", [.str x t]) s) : wpAny M A (getMethod (.str x t) (Str.ofString "translate") pl) Q E s := by
  with_reducible refine getMethod_builtin (T := "str") ?ma F.plainAttrs_str F.slot_str_translate F.type_str_translate ?mb h
  case ma => rfl
  case mb => exact fun _ e => nomatch e
theorem sys_ne {x sdx sx d : Addr} (h : @LT.lt Nat _ sdx d) (h2 : @LT.lt Nat _ sdx sx) (h3 : @LT.lt Nat _ x sdx) : (d == sysModules) = false := by
  refine beq_eq_false_iff_ne.mpr fun e => ?_
  subst e
  have : sysModules = 1 := rfl
  rw [this] at h
  exact absurd (Nat.lt_of_le_of_lt (Nat.zero_le _) h3) (by have : @LT.lt Nat _ sdx 1 := h; omega)
theorem dict_fk (P : Params) : findCls (theK P) (.type "dict") (.type "type") (PySem.Str.ofString "fromkeys") = some (.get (.builtin "classmethod_descriptor.__get__") (.builtin "dict.fromkeys") .none (.type "dict")) := by kernel_rfl
end Mine
end
section
open PySem PySem.W PyProof.Rows
set_option Elab.async false
set_option maxRecDepth 100000
set_option maxHeartbeats 8000000
namespace Mine
theorem ini_sio (w : World) (x dx : Addr) (buf : Str) (tb : Tok) (b : Bool) (pv : Value) (pch : Str) (news : List (Addr × Obj)) (hn : ∀ p ∈ news, p.1 < dx) (hdx : @LT.lt Nat _ dx x) (hb : buf.length ≤ 900)
    {loose : List Str} {mean : ExcName → Option Value} {mg mb : Str → Option Value} {dp un : Nat} {gd : Option (List Code)} {cn : Str} {cs : Scope} {L : Addr} {a : Addr} {ccd : Value} {cl : List (Str × Addr)} {outer : List Env} {base g : Heap} {L' : Addr} {s : Shared} {Q : Flow → Shared → Prop} {E : Value → Shared → Prop}
    (B : Below (ktrTop dp un gd cn cs L a ccd cl outer) base (envX cn cs L a ccd cl :: outer) g) (F : Fr g L' s.heap (mI x (.str buf tb) b pv)) (X : (theK w.params).In g) (T : Top theQ loose mean mg mb g) (N : News g L' s.heap ((x, instObj 722 dx) :: (dx, emptyDict) :: news)) (hd : dp + 8 < recursionLimit) (hu : un + 64 < cLine)
    (h : ∀ sx, IDone ⟨w, g, L', fun y => if y = Str.ofString "instream" then some (.ref sx) else mI x (.str buf tb) b pv y, (ktrTop dp un gd cn cs L a ccd cl outer).deeper (envI L'), s, E⟩ 0 (CI ⟨x, dx, sx, news, buf, b⟩ wordsP pch 0) Q) :
    wpAny (model thePg w) ((ktrTop dp un gd cn cs L a ccd cl outer).deeper (envI L')) (exec (nthS iniB 0) (envI L')) Q E s := by
  have fill : PySem.Challenge.rw_nq0262_01.prog = PySem.Challenge.rw_nq0262_01.prog ∧ theK w.params = theK w.params := by k_fill; exact ⟨rfl, rfl⟩
  clear fill
  change wpAny _ _ (exec (Stmt.If _ _ _ _) _) _ _ _
  have st1 : Stop 587 := stop
  k_steps
  with_reducible rename Fr _ _ _ _ => F9
  with_reducible rename News _ _ _ _ => N9
  with_reducible rename Below _ _ _ _ => B9
  with_reducible rename Frag.In _ _ => X9
  with_reducible rename Top _ _ _ _ _ _ => T9
  refine halt' ?_
  refine c_sio w buf tb _ hb _ _ _ _ _ _ _ _ _ _ _ _ _ _ _ _ _ _ _ _ _ B9 F9 X9 N9 T9 rfl (by ktr_room) (by ktr_units) ?_
  intro sx sdx t1 t2 t3 t4 t5 t6 h8 tk8 l1 l2 F8 N8
  clear F9 N9
  k_steps
  with_reducible rename Fr _ _ _ _ => F5
  with_reducible rename News _ _ _ _ => N5
  have e : ((sx, instObj 587 sdx) :: (sdx, dictOf [ent w.params "_StringIO__newline" t1 (Value.str (Str.ofString "\n") t2), ent w.params "_StringIO__buf" t3 (Value.str buf t4), ent w.params "_StringIO__pos" t5 (Value.int 0 t6)] 3) :: (x, instObj 722 dx) :: (dx, emptyDict) :: news) = ledI w 0 ⟨fun i => if i = 40 then t1 else if i = 41 then t2 else if i = 42 then t3 else if i = 43 then t4 else if i = 44 then t5 else t6, b, 0, wordsP, false, pch, x, dx, sx, sdx, 0, 0, none, buf, news⟩ := by kernel_rfl
  rw [e] at N5
  exact h sx ⟨fun i => if i = 40 then t1 else if i = 41 then t2 else if i = 42 then t3 else if i = 43 then t4 else if i = 44 then t5 else t6, b, 0, wordsP, false, pch, x, dx, sx, sdx, 0, 0, none, buf, news⟩ _ _ ⟨⟨rfl, rfl, rfl, rfl, rfl, rfl, rfl⟩, rfl, rfl, rfl⟩ ⟨F5, X9, N5, hdx, l1 _ (.head _), l2, hn, fun p hp => absurd hp List.not_mem_nil⟩
local macro_rules | `(tactic| walk_at "getMethod str") => `(tactic| with_reducible refine mk_getMethod ?_)
local macro_rules | `(tactic| walk_at "callWith ref") => `(tactic| refine fk_callWith ?_)
local macro_rules | `(tactic| walk_at "getAttr ref") => `(tactic| refine halt ?_)
local macro_rules | `(tactic| walk_at "setAttr ref") => `(tactic| refine halt ?_)
local macro_rules | `(tactic| walk_at "eval Name") => `(tactic| (k_here; k_dflt (refine' nameX_L ?F ?v ?_ ?a ?b; (case F => k_asm); (case a => rfl); (case b => rfl); (case v => assumption); k_whole)))
theorem words_ok : (wordsP ++ Str.ofString "~-./*?=" : Str).cps.all (· < 128) = true ∧ (wordsP ++ Str.ofString "~-./*?=" : Str).length = 70 := by decide +kernel
/-- the punctuation's signs go out of the words -/
theorem ini_trans {k : Ci} {f : Cf} {pch : Str} {t : Tok} {Q : Flow → Shared → Prop} {loose : List Str} {mean : ExcName → Option Value} {mg mb : Str → Option Value} (T : Top theQ loose mean mg mb k.g) (hA : k.A.handled = none) (hx : k.m (Str.ofString "self") = some (.ref f.x)) (hc : k.m (Str.ofString "punctuation_chars") = some (.str pch t))
    (hpl : pch.length ≤ 1000) (hpa : pch.cps.all (· < 128) = true) (hpd : pch.cps.toList.Nodup)
    (h : ∀ u, IDone { k with m := fun z => if z = Str.ofString "t" then some u else k.m z } 20 (CI f (without (wordsP ++ Str.ofString "~-./*?=") pch) pch 3) Q) : IExs k 20 (CI f (wordsP ++ Str.ofString "~-./*?=") pch 3) ((thenOf (nthS iniB 21)).drop 2) Q := fun c hp tk hC a => by
  have hgw : getL (Str.ofString "wordchars") (esI k.w 20 c) = some (some (.str c.words (c.tk 25))) := by kernel_rfl
  have hw := hC.2.1
  have hx' : k.m (Str.ofString "self") = some (.ref c.x) := by rw [hC.1.1]; exact hx
  have hsz : pch.cps.size ≤ 1000 := hpl
  obtain ⟨w, g, L', m, A, s, E⟩ := k
  dsimp only at *
  have fill : PySem.Challenge.rw_nq0262_01.prog = PySem.Challenge.rw_nq0262_01.prog ∧ theK w.params = theK w.params := by k_fill; exact ⟨rfl, rfl⟩
  clear fill
  have a' := a
  obtain ⟨F, X, N, a1, a2, a3, r, q⟩ := a'
  dsimp only at F X N
  change wpAny _ _ (execs (Stmt.Assign _ _ _ :: Stmt.Assign _ _ _ :: []) _) _ _ _
  k_steps
  refine halt' (i_get a (pl_words _) hgw rfl ?_)
  k_steps
  refine fk_getm (s := ⟨hp, s.gens, s.drawn, _, s.os⟩) F N X (dict_fk _) ?_
  intro u h1 F1 N1
  k_steps
  refine halt' ⟨(N1 _ (.head _)).1, ?_⟩
  refine fk_callN (x := pch) F1 (news_tail N1) (N1 _ (.head _)).1 hA hpa hpd hsz ?_
  intro d o h2 tk2 F2 N2 l3 D
  have hd1 : (d == sysModules) = false := sys_ne (l3 (c.sdx, _) (List.mem_append_right _ (.tail _ (.head _)))) a3 a2
  clear F1 N1
  k_steps
  refine mt_callN (s := ⟨h2, s.gens, s.drawn, _, s.os⟩) F2 N2 hd1 D hpd (by simpa using hsz) ?_
  intro Tb oT h3 tk3 F3 N3 l4 DT
  have hd2 : (Tb == sysModules) = false := sys_ne (l4 (c.sdx, _) (List.mem_append_right _ (.tail _ (.head _)))) a3 a2
  clear F2 N2 l3 l4 D hd1 F N
  k_steps
  with_reducible rename Fr _ _ _ _ => F4
  with_reducible rename News _ _ _ _ => N4
  refine halt' (i_get (k := ⟨w, g, L', _, A, s, E⟩) (c := c) ⟨F4, X, news_tail N4, a1, a2, a3, r, q⟩ (pl_words _) hgw rfl ?_)
  k_steps
  refine tr_getMethod ?_
  k_steps
  rw [hw]
  refine tr_callN (s := ⟨_, s.gens, s.drawn, _, s.os⟩) (x := wordsP ++ Str.ofString "~-./*?=") (y := pch) F4 N4 hd2 DT words_ok.1 (by rw [words_ok.2]; decide) (by rw [words_ok.2]; decide) hA ?_
  intro u7 h5 tk5 F5 N5
  clear DT hd2 N4 F4
  k_steps
  refine halt' ?_
  refine i_store (k := ⟨w, g, L', fun z => if z = Str.ofString "t" then some (.ref Tb) else m z, A, s, E⟩) (n := 20) (n' := 20) (n0 := 20) (m := 25) (t2 := u7) (W := without (wordsP ++ Str.ofString "~-./*?=") pch) (by decide) (by decide) (by decide) ⟨F5, X, N5, a1, a2, a3, r, q⟩ (ps_of _ (by decide)) (by rw [hgw]; rfl) (by kernel_rfl) (by kernel_rfl) fun h9 a9 => ?_
  exact h _ _ h9 _ hC.upd a9
section
variable {k : Ci} {f : Cf} {W pch : Str} {Q : Flow → Shared → Prop} (hx : k.m (Str.ofString "self") = some (.ref f.x))
include hx
/-- self._punctuation_chars = punctuation_chars -/
theorem i_pun {t : Tok} {p1 p2 p3 p4 : Pos} (hp : k.m (Str.ofString "punctuation_chars") = some (.str pch t)) (h : IDone k 19 (CI f W pch 2) Q)
    (hw : swapsWith (.Name (Str.ofString "punctuation_chars") p3) (some (.Attribute (.Name (Str.ofString "self") p1) (Str.ofString "_punctuation_chars") p2)) p4.line (envI k.L') = pure false := by rfl) : IEx k 18 (CI f W pch 2) (.Assign [.Attribute (.Name (Str.ofString "self") p1) (Str.ofString "_punctuation_chars") p2] (.Name (Str.ofString "punctuation_chars") p3) p4) Q :=
  i_val hx (iv_name (V := fun _ => .str pch t) fun _ _ => hp) (ps_of _ (by decide)) 38 (by decide) (by decide) (fun c u tt hc e => ⟨t, by
    obtain ⟨tk, posix, te, words, split, pch', x, dx, sx, sdx, pb, fs, pc, buf, rest⟩ := c
    have e1 : pch' = pch := hc.2.2.1
    obtain rfl : pc = none := hc.2.2.2.1
    rw [← e1] at e
    subst e
    exact ⟨by kernel_rfl, by kernel_rfl, rfl⟩⟩) h hw
theorem ini_P {Q : Flow → Shared → Prop} (hp : k.m (Str.ofString "punctuation_chars") = some (.bool false)) (h : ∀ t, IDone { k with m := fun z => if z = Str.ofString "punctuation_chars" then some (.str (Str.ofString "") t) else k.m z } 19 (CI f W (Str.ofString "") 2) Q) : IExs k 18 (CI f W (Str.ofString "") 2) (iniB.drop 19) Q := by
  refine ie_then (ie_tt (it_not (it_bool (b := false) (iv_name (V := fun _ => .bool false) fun _ _ => hp) fun _ => rfl)) rfl (ie_one (i_name rfl fun t => id_then (ie_then ?_))))
  refine i_pun (k := { k with m := fun z => if z = Str.ofString "punctuation_chars" then some (.str (Str.ofString "") t) else k.m z }) (t := t) hx rfl (id_then (ie_one ?_))
  exact ie_ff (it_str (b := false) (iv_imp (iv_name (V := fun _ => .str (Str.ofString "") t) fun _ _ => rfl) fun _ _ _ e => ⟨t, e⟩) rfl (by decide +kernel) fun _ => rfl) rfl (ie_nil (h t))
/-- with signs that are punctuation: behind `if not punctuation_chars` -/
theorem ini_Q {loose : List Str} {mean : ExcName → Option Value} {mg mb : Str → Option Value} {t : Tok} (T : Top theQ loose mean mg mb k.g) (hA : k.A.handled = none) (hp : k.m (Str.ofString "punctuation_chars") = some (.str pch t)) (hpp : 1 ≤ pch.length) (hpl : pch.length ≤ 1000) (hpa : pch.cps.all (· < 128) = true) (hpd : pch.cps.toList.Nodup)
    (h : ∀ u, IDone { k with m := fun z => if z = Str.ofString "t" then some u else k.m z } 20 (CI f (without (wordsP ++ Str.ofString "~-./*?=") pch) pch 3) Q) : IExs k 18 (CI f wordsP pch 2) (iniB.drop 20) Q := by
  have hxc : ∀ W j c, CI f W pch j c → k.m (Str.ofString "self") = some (.ref c.x) := fun W j c hc => by rw [hc.1.1]; exact hx
  refine ie_then (i_pun (t := t) hx hp (id_then (ie_one ?_)))
  refine ie_tt (it_str (b := true) (iv_imp (iv_name (V := fun _ => .str pch t) fun _ _ => hp) fun _ _ _ e => ⟨t, e⟩) (bne_iff_ne.mpr (by omega)) (by omega) fun _ => rfl) rfl (ie_then ?_)
  refine i_deq (C' := CI f wordsP pch 3) 2 T (by decide) (hxc _ 2) (ps_of _ (by decide)) (fun c hc => ?_) (fun c a t hc => ?_) (id_then (ie_then ?_))
  · obtain ⟨tk, posix, te, words, split, pch, x, dx, sx, sdx, pb, fs, pc, buf, rest⟩ := c
    obtain rfl : pc = none := hc.2.2.2.1
    kernel_rfl
  · obtain ⟨tk, posix, te, words, split, pch, x, dx, sx, sdx, pb, fs, pc, buf, rest⟩ := c
    obtain rfl : pc = none := hc.2.2.2.1
    exact ⟨by kernel_rfl, by kernel_rfl, fun lt => ⟨hc.1, hc.2.1, hc.2.2.1, a, rfl, hc.2.2.2.2.1, hc.2.2.2.2.2, lt (fs, deqOf [] 0) (List.mem_append_left _ (.head _))⟩⟩
  refine i_words (C' := CI f (wordsP ++ Str.ofString "~-./*?=") pch 3) (by decide) (hxc _ 3) (ps_of _ (by decide)) (fun c t t2 hc => ?_) (id_then (ini_trans T hA hx hp hpl hpa hpd h))
  have hw := hc.2.1
  have hs : c.words.length + (Str.ofString "~-./*?=").length ≤ 1000 := by rw [hw]; decide +kernel
  obtain ⟨tk, posix, te, words, split, pch, x, dx, sx, sdx, pb, fs, pc, buf, rest⟩ := c
  obtain ⟨h1, h2, h3, pc', rfl, h4⟩ := hc
  exact ⟨hs, by kernel_rfl, by kernel_rfl, rfl, h1, by rw [← hw]; rfl, h3, pc', rfl, h4⟩
end
end Mine
end
example {M : Model} {A : Around} {E : Value → Shared → Prop} {s : Shared} {env : Env} {p : Pos} {Q : Flow → Shared → Prop} (h : wpAny M A (exec (.Pass p) env) Q E s) : wpAny M A (exec (.Pass p) env) Q E s := by first | (walk1; fail) | exact h
section
open PySem PySem.W PyProof.Rows
set_option Elab.async false
set_option maxRecDepth 100000
set_option maxHeartbeats 8000000
namespace Mine
noncomputable def usual : Str := Str.ofString "();<>|&"
theorem led_IP {w : World} {tk : Nat → Tok} {posix : Bool} {te : Tok} {eof : Value} {x dx sx sdx pb fs : Addr} {words buf : Str} {rest : List (Addr × Obj)} (e : eofOf posix te = eof) :
    ledI w 19 ⟨tk, posix, te, words, false, Str.ofString "", x, dx, sx, sdx, pb, fs, none, buf, rest⟩ = ledP w.params tk posix eof words x dx sx sdx pb fs buf [] 0 (.int 0 (tk 45)) (.str (Str.ofString " ") (tk 31)) (.str (Str.ofString "") (tk 35)) rest := by
  subst e
  kernel_rfl
theorem led_IQ {w : World} {tk : Nat → Tok} {te : Tok} {x dx sx sdx pb fs pc : Addr} {words pch buf : Str} {rest : List (Addr × Obj)} :
    ledI w 20 ⟨tk, false, te, words, false, pch, x, dx, sx, sdx, pb, fs, some pc, buf, rest⟩ = ledQ w.params tk false (.str (Str.ofString "") te) words pch x dx sx sdx pb fs pc buf [] 0 (.int 0 (tk 45)) (.str (Str.ofString " ") (tk 31)) (.str (Str.ofString "") (tk 35)) rest := by
  kernel_rfl
theorem fin_P {k : Ci} {f : Cf} {W : Str} {c : LexC} {h : Heap} (hC : CI f W (Str.ofString "") 2 c) (a : ISt k 19 c h) : ∃ (tk : Nat → Tok) (te tp ts tt : Tok) (sdx pb fs : Addr), @LT.lt Nat _ f.x sdx ∧ @LT.lt Nat _ sdx f.sx ∧ @LT.lt Nat _ f.sx pb ∧ @LT.lt Nat _ pb fs ∧
    ledI k.w 19 c = ledP k.w.params tk f.b (eofOf f.b te) W f.x f.dx f.sx sdx pb fs f.buf [] 0 (.int 0 tp) (.str (Str.ofString " ") ts) (.str (Str.ofString "") tt) f.rest := by
  obtain ⟨tk, posix, te, words, split, pch, x, dx, sx, sdx, pb, fs, pc, buf, rest⟩ := c
  obtain ⟨x', dx', sx', rest', buf', b'⟩ := f
  obtain ⟨⟨rfl, rfl, rfl, rfl, rfl, rfl, rfl⟩, rfl, rfl, rfl, o1, o2⟩ := hC
  exact ⟨tk, te, _, _, _, sdx, pb, fs, a.a2, a.a3, o1, o2, led_IP rfl⟩
theorem fin_Q {k : Ci} {f : Cf} {W pch : Str} {c : LexC} {h : Heap} (hC : CI f W pch 3 c) (hb : f.b = false) (a : ISt k 20 c h) : ∃ (tk : Nat → Tok) (te tp ts tt : Tok) (sdx pb fs pc : Addr), @LT.lt Nat _ f.x sdx ∧ @LT.lt Nat _ sdx f.sx ∧ @LT.lt Nat _ f.sx pb ∧ @LT.lt Nat _ pb fs ∧ @LT.lt Nat _ fs pc ∧
    ledI k.w 20 c = ledQ k.w.params tk false (.str (Str.ofString "") te) W pch f.x f.dx f.sx sdx pb fs pc f.buf [] 0 (.int 0 tp) (.str (Str.ofString " ") ts) (.str (Str.ofString "") tt) f.rest := by
  obtain ⟨tk, posix, te, words, split, pch, x, dx, sx, sdx, pb, fs, pc, buf, rest⟩ := c
  obtain ⟨x', dx', sx', rest', buf', b'⟩ := f
  obtain ⟨⟨rfl, rfl, rfl, rfl, rfl, rfl, rfl⟩, rfl, rfl, pc', rfl, o1, o2, o3⟩ := hC
  obtain rfl : posix = false := hb
  exact ⟨tk, te, _, _, _, sdx, pb, fs, pc', a.a2, a.a3, o1, o2, o3, led_IQ⟩
section
variable {k : Ci} {n : Nat} {C : LexC → Prop} {p1 p2 : Pos} {i : Nat} {e : Expr}
/-- e is True -/
theorem it_isT (y : IVal k n C e (fun _ u => u = .bool true)) : ITst k n C (.Compare e [.Is] [.Constant (.bool true) i p1] p2) true := fun Q c hp tk hc a h =>
  wpAny_isTrue_Compare1 (y _ c hp tk hc a fun u h' tk' e a' => by
    subst e
    exact wpAny_Constant_bool (is_bool (wpAny_truthy_bool (h _ _ a'))))
theorem it_isS {x : Str} (y : IVal k n C e (fun _ => IsStr x)) : ITst k n C (.Compare e [.Is] [.Constant (.bool true) i p1] p2) false := fun Q c hp tk hc a h =>
  wpAny_isTrue_Compare1 (y _ c hp tk hc a fun u h' tk' e a' => by
    obtain ⟨t, rfl⟩ := e
    exact wpAny_Constant_bool (wpAny_is_other rfl (fun e => nomatch e) (wpAny_truthy_bool (h _ _ a'))))
end
theorem c_ini0 (w : World) (x dx : Addr) (buf : Str) (tb : Tok) (news : List (Addr × Obj)) (hn : ∀ p ∈ news, p.1 < dx) (hd : @LT.lt Nat _ dx x) (hb : buf.length ≤ 900) :
    CalledC w 646 ⟨[.ref x, .str buf tb], [(Str.ofString "posix", .bool false)]⟩ ((x, instObj 722 dx) :: (dx, emptyDict) :: news) 8 (fun h₀ L m s Q => ∀ (tk : Nat → Tok) (te tp ts tt : Tok) (sx sdx pb fs : Addr) (h' : Heap) (tk' : Nat), @LT.lt Nat _ x sdx → @LT.lt Nat _ sdx sx → @LT.lt Nat _ sx pb → @LT.lt Nat _ pb fs → Fr h₀ L h' m → News h₀ L h' (ledP w.params tk false (.str (Str.ofString "") te) wordsP x dx sx sdx pb fs buf [] 0 (.int 0 tp) (.str (Str.ofString " ") ts) (.str (Str.ofString "") tt) news) → Q .none { s with heap := h', toks := tk' }) := by
  dsimp only [CalledC, thePg]
  k_fill
  intros
  rename_i hret
  k_dflt (refine' code_def (binds := [(Str.ofString "self", .ref x), (Str.ofString "instream", .str buf tb), (Str.ofString "infile", .none), (Str.ofString "posix", .bool false), (Str.ofString "punctuation_chars", .bool false)]) ?k1 ?k2 ?k3 ?k4 ?k5 ?kA ?kF ?kK ?k6 ?k7 ?k8 ?k9 ?kB ?_ ?c2 ?c3 ?c4 ?c5; (case kA => exact rfl); (case kF => exact rfl); (case kK => assumption); (case k1 => k_asm); (case k2 => k_asm); (case k3 => k_asm); (case k4 => k_asm); (case k5 => k_asm); (case k6 => k_is); (case k7 => k_is); (case k8 => ktr_room); (case k9 => first | exact BindsTo.of_eq rfl | exact binds_K (by k_in) rfl (by k_is) rfl rfl rfl); (case c5 => decide); (case kB => exact locs rfl); (case c2 => exact rfl); (case c3 => exact rfl); (case c4 => exact rfl); k_whole; intro g' L' h' FG' F' N' B' X' T'; (try dsimp only))
  refine let_all ?_
  intro v9 Q9 E9
  refine execs_then (ini_sio w x dx buf tb false (.bool false) (Str.ofString "") news hn hd hb B' F' X' T' N' (by ktr_room) (by ktr_units) fun sx => id_then (ini_head rfl rfl rfl rfl (ini_tail T' rfl ?_)))
  refine ini_P rfl rfl fun t c h9 tk9 hC a9 => leaveK_ a9.F a9.N fun kF kN => ?_
  obtain ⟨tk, te, tp, ts, tt, sdx, pb, fs, o1, o2, o3, o4, e⟩ := fin_P hC a9
  rw [e] at kN
  exact hret tk te tp ts tt sx sdx pb fs _ _ o1 o2 o3 o4 kF kN
theorem c_ini1 (w : World) (x dx : Addr) (buf : Str) (tb : Tok) (news : List (Addr × Obj)) (hn : ∀ p ∈ news, p.1 < dx) (hd : @LT.lt Nat _ dx x) (hb : buf.length ≤ 900) :
    CalledC w 646 ⟨[.ref x, .str buf tb], [(Str.ofString "posix", .bool true)]⟩ ((x, instObj 722 dx) :: (dx, emptyDict) :: news) 8 (fun h₀ L m s Q => ∀ (tk : Nat → Tok) (tp ts tt : Tok) (sx sdx pb fs : Addr) (h' : Heap) (tk' : Nat), @LT.lt Nat _ x sdx → @LT.lt Nat _ sdx sx → @LT.lt Nat _ sx pb → @LT.lt Nat _ pb fs → Fr h₀ L h' m → News h₀ L h' (ledP w.params tk true .none (wordsP ++ wordsX) x dx sx sdx pb fs buf [] 0 (.int 0 tp) (.str (Str.ofString " ") ts) (.str (Str.ofString "") tt) news) → Q .none { s with heap := h', toks := tk' }) := by
  dsimp only [CalledC, thePg]
  k_fill
  intros
  rename_i hret
  k_dflt (refine' code_def (binds := [(Str.ofString "self", .ref x), (Str.ofString "instream", .str buf tb), (Str.ofString "infile", .none), (Str.ofString "posix", .bool true), (Str.ofString "punctuation_chars", .bool false)]) ?k1 ?k2 ?k3 ?k4 ?k5 ?kA ?kF ?kK ?k6 ?k7 ?k8 ?k9 ?kB ?_ ?c2 ?c3 ?c4 ?c5; (case kA => exact rfl); (case kF => exact rfl); (case kK => assumption); (case k1 => k_asm); (case k2 => k_asm); (case k3 => k_asm); (case k4 => k_asm); (case k5 => k_asm); (case k6 => k_is); (case k7 => k_is); (case k8 => ktr_room); (case k9 => first | exact BindsTo.of_eq rfl | exact binds_K (by k_in) rfl (by k_is) rfl rfl rfl); (case c5 => decide); (case kB => exact locs rfl); (case c2 => exact rfl); (case c3 => exact rfl); (case c4 => exact rfl); k_whole; intro g' L' h' FG' F' N' B' X' T'; (try dsimp only))
  refine let_all ?_
  intro v9 Q9 E9
  refine execs_then (ini_sio w x dx buf tb true (.bool false) (Str.ofString "") news hn hd hb B' F' X' T' N' (by ktr_room) (by ktr_units) fun sx => id_then (ini_head rfl rfl rfl rfl (ini_tail T' rfl ?_)))
  refine ini_P rfl rfl fun t c h9 tk9 hC a9 => leaveK_ a9.F a9.N fun kF kN => ?_
  obtain ⟨tk, te, tp, ts, tt, sdx, pb, fs, o1, o2, o3, o4, e⟩ := fin_P hC a9
  rw [e] at kN
  exact hret tk tp ts tt sx sdx pb fs _ _ o1 o2 o3 o4 kF kN
theorem c_ini2 (w : World) (x dx : Addr) (buf pch : Str) (tb tc : Tok) (news : List (Addr × Obj)) (hn : ∀ p ∈ news, p.1 < dx) (hd : @LT.lt Nat _ dx x) (hb : buf.length ≤ 900) (hpp : 1 ≤ pch.length) (hpl : pch.length ≤ 1000) (hpa : pch.cps.all (· < 128) = true) (hpd : pch.cps.toList.Nodup) :
    CalledC w 646 ⟨[.ref x, .str buf tb], [(Str.ofString "punctuation_chars", .str pch tc)]⟩ ((x, instObj 722 dx) :: (dx, emptyDict) :: news) 8 (fun h₀ L m s Q => ∀ (tk : Nat → Tok) (te tp ts tt : Tok) (sx sdx pb fs pc : Addr) (h' : Heap) (tk' : Nat), @LT.lt Nat _ x sdx → @LT.lt Nat _ sdx sx → @LT.lt Nat _ sx pb → @LT.lt Nat _ pb fs → @LT.lt Nat _ fs pc → Fr h₀ L h' m → News h₀ L h' (ledQ w.params tk false (.str (Str.ofString "") te) (without (wordsP ++ Str.ofString "~-./*?=") pch) pch x dx sx sdx pb fs pc buf [] 0 (.int 0 tp) (.str (Str.ofString " ") ts) (.str (Str.ofString "") tt) news) → Q .none { s with heap := h', toks := tk' }) := by
  dsimp only [CalledC, thePg]
  k_fill
  intros
  rename_i hret
  k_dflt (refine' code_def (binds := [(Str.ofString "self", .ref x), (Str.ofString "instream", .str buf tb), (Str.ofString "infile", .none), (Str.ofString "posix", .bool false), (Str.ofString "punctuation_chars", .str pch tc)]) ?k1 ?k2 ?k3 ?k4 ?k5 ?kA ?kF ?kK ?k6 ?k7 ?k8 ?k9 ?kB ?_ ?c2 ?c3 ?c4 ?c5; (case kA => exact rfl); (case kF => exact rfl); (case kK => assumption); (case k1 => k_asm); (case k2 => k_asm); (case k3 => k_asm); (case k4 => k_asm); (case k5 => k_asm); (case k6 => k_is); (case k7 => k_is); (case k8 => ktr_room); (case k9 => first | exact BindsTo.of_eq rfl | exact binds_K (by k_in) rfl (by k_is) rfl rfl rfl); (case c5 => decide); (case kB => exact locs rfl); (case c2 => exact rfl); (case c3 => exact rfl); (case c4 => exact rfl); k_whole; intro g' L' h' FG' F' N' B' X' T'; (try dsimp only))
  refine let_all ?_
  intro v9 Q9 E9
  refine execs_then (ini_sio w x dx buf tb false (.str pch tc) pch news hn hd hb B' F' X' T' N' (by ktr_room) (by ktr_units) fun sx => id_then (ini_head rfl rfl rfl rfl (ini_tail T' rfl ?_)))
  refine ie_then (ie_ff (it_not (it_str (b := true) (iv_imp (iv_name (V := fun _ => .str pch tc) fun _ _ => rfl) fun _ _ _ e => ⟨tc, e⟩) (bne_iff_ne.mpr (by omega)) (by omega) fun _ => rfl)) rfl (ie_one (ie_ff (it_isS (iv_imp (iv_name (V := fun _ => .str pch tc) fun _ _ => rfl) fun _ _ _ e => ⟨tc, e⟩)) rfl (ie_nil (id_then ?_)))))
  refine ini_Q rfl T' rfl rfl hpp hpl hpa hpd fun u c h9 tk9 hC a9 => leaveK_ a9.F a9.N fun kF kN => ?_
  obtain ⟨tk, te, tp, ts, tt, sdx, pb, fs, pc, o1, o2, o3, o4, o5, e⟩ := fin_Q hC rfl a9
  rw [e] at kN
  exact hret tk te tp ts tt sx sdx pb fs pc _ _ o1 o2 o3 o4 o5 kF kN
theorem c_ini3 (w : World) (x dx : Addr) (buf : Str) (tb : Tok) (news : List (Addr × Obj)) (hn : ∀ p ∈ news, p.1 < dx) (hd : @LT.lt Nat _ dx x) (hb : buf.length ≤ 900) :
    CalledC w 646 ⟨[.ref x, .str buf tb], [(Str.ofString "punctuation_chars", .bool true)]⟩ ((x, instObj 722 dx) :: (dx, emptyDict) :: news) 8 (fun h₀ L m s Q => ∀ (tk : Nat → Tok) (te tp ts tt : Tok) (sx sdx pb fs pc : Addr) (h' : Heap) (tk' : Nat), @LT.lt Nat _ x sdx → @LT.lt Nat _ sdx sx → @LT.lt Nat _ sx pb → @LT.lt Nat _ pb fs → @LT.lt Nat _ fs pc → Fr h₀ L h' m → News h₀ L h' (ledQ w.params tk false (.str (Str.ofString "") te) (without (wordsP ++ Str.ofString "~-./*?=") usual) usual x dx sx sdx pb fs pc buf [] 0 (.int 0 tp) (.str (Str.ofString " ") ts) (.str (Str.ofString "") tt) news) → Q .none { s with heap := h', toks := tk' }) := by
  dsimp only [CalledC, thePg]
  k_fill
  intros
  rename_i hret
  k_dflt (refine' code_def (binds := [(Str.ofString "self", .ref x), (Str.ofString "instream", .str buf tb), (Str.ofString "infile", .none), (Str.ofString "posix", .bool false), (Str.ofString "punctuation_chars", .bool true)]) ?k1 ?k2 ?k3 ?k4 ?k5 ?kA ?kF ?kK ?k6 ?k7 ?k8 ?k9 ?kB ?_ ?c2 ?c3 ?c4 ?c5; (case kA => exact rfl); (case kF => exact rfl); (case kK => assumption); (case k1 => k_asm); (case k2 => k_asm); (case k3 => k_asm); (case k4 => k_asm); (case k5 => k_asm); (case k6 => k_is); (case k7 => k_is); (case k8 => ktr_room); (case k9 => first | exact BindsTo.of_eq rfl | exact binds_K (by k_in) rfl (by k_is) rfl rfl rfl); (case c5 => decide); (case kB => exact locs rfl); (case c2 => exact rfl); (case c3 => exact rfl); (case c4 => exact rfl); k_whole; intro g' L' h' FG' F' N' B' X' T'; (try dsimp only))
  refine let_all ?_
  intro v9 Q9 E9
  refine execs_then (ini_sio w x dx buf tb false (.bool true) usual news hn hd hb B' F' X' T' N' (by ktr_room) (by ktr_units) fun sx => id_then (ini_head rfl rfl rfl rfl (ini_tail T' rfl ?_)))
  refine ie_then (ie_ff (it_not (it_bool (b := true) (iv_name (V := fun _ => .bool true) fun _ _ => rfl) fun _ => rfl)) rfl (ie_one (ie_tt (it_isT (iv_name (V := fun _ => .bool true) fun _ _ => rfl)) rfl (ie_one (i_name rfl fun t => id_then ?_)))))
  have ho : 1 ≤ usual.length ∧ usual.length ≤ 1000 ∧ usual.cps.all (· < 128) = true ∧ usual.cps.toList.Nodup := by decide +kernel
  refine ini_Q (t := t) rfl T' rfl rfl ho.1 ho.2.1 ho.2.2.1 ho.2.2.2 fun u c h9 tk9 hC a9 => leaveK_ a9.F a9.N fun kF kN => ?_
  obtain ⟨tk, te, tp, ts, tt, sdx, pb, fs, pc, o1, o2, o3, o4, o5, e⟩ := fin_Q hC rfl a9
  rw [e] at kN
  exact hret tk te tp ts tt sx sdx pb fs pc _ _ o1 o2 o3 o4 o5 kF kN
end Mine
end
section
open PySem PySem.W PyProof.Rows
set_option maxRecDepth 100000
namespace Mine
noncomputable def asU (c : LexC) : List Addr := (match c.pc with
  | none => []
  | some pc => [pc]) ++ [c.fs, c.pb, c.sx, c.sdx, c.x, c.dx]
noncomputable def OwnU (w : World) (c : LexC) (ts : List Str) (own : List (Addr × Obj)) : Prop := ∃ v, own = led w c v ∧ IsStr (Str.ofString "") v.tok ∧ Rem c v ts
theorem led_as (w : World) (c : LexC) (v : LexV) (hc : c.rest = []) : (led w c v).map (·.1) = asU c := by
  unfold led dqs asU
  rw [hc]
  cases c.pc <;> rfl
theorem led_rest (w : World) (c : LexC) (v : LexV) (hc : c.rest = []) (rest : List (Addr × Obj)) : led w c v ++ rest = led w { c with rest := rest } v := by
  unfold led
  rw [hc, List.append_assoc]
  rfl
theorem ok_rest {c : LexC} (ok : LexOk c) {rest : List (Addr × Obj)} (hr : ∀ p ∈ rest, p.1 ∉ asU c) : LexOk { c with rest := rest } where
  a1 := ok.a1
  a2 := ok.a2
  a3 := ok.a3
  a4 := ok.a4
  a5 := ok.a5
  r := fun p hp => by
    have h := hr p hp
    unfold asU at h
    simp only [List.mem_append, List.mem_cons, List.not_mem_nil, or_false, not_or] at h
    exact ⟨h.2.2.2.2.2.1, h.2.2.2.2.2.2, h.2.2.2.1, h.2.2.2.2.1, h.2.2.1, h.2.1⟩
  md := by
    have md := ok.md
    have h := fun p hp => hr p hp
    unfold asU at h
    show match c.pc with
      | none => _
      | some pc => _
    revert md h
    cases c.pc with
    | none => exact fun md _ => md
    | some pc => exact fun md h => ⟨md.1, md.2.1, fun p hp e => h p hp (List.mem_append_left _ (e ▸ .head _)), md.2.2.2⟩
  pl := ok.pl
  bl := ok.bl
theorem lexerU (w : World) (c : LexC) (hc : c.rest = []) (ok : LexOk c) (bo : BufOk c) : Lexer w c.x c.dx (asU c) (isEndP c.posix) (OwnU w c) where
  inst := by
    rintro ts own ⟨v, rfl, -⟩
    exact m_x
  dict := by
    rintro ts own ⟨v, rfl, -⟩
    exact ⟨_, _, m_dx, noget_get _ _ _ _⟩
  at_ := by
    rintro ts own ⟨v, rfl, -⟩ a
    rw [← led_as w c v hc, List.mem_map]
    exact ⟨fun ⟨p, hp, e⟩ => ⟨p.2, e ▸ hp⟩, fun ⟨o, ho⟩ => ⟨_, ho, rfl⟩⟩
  get := by
    rintro ts own rest ⟨v, rfl, ht, hr⟩ hrest
    rw [led_rest w c v hc rest]
    intro loose mean mg mb dp un gd cn cs a ccd cl outer A₀ base h₀ L m s Q E B F X N T hk hd hu hret
    refine c_getU w { c with rest := rest } v ts (ok_rest ok hrest) ⟨bo.good, bo.dis⟩ hr ht loose mean mg mb dp un gd cn cs a ccd cl outer A₀ base h₀ L m s Q E B F X N T hk hd hu fun u v' h' tk' hG F' N' => ?_
    rw [← led_rest w c v' hc rest] at N'
    obtain ⟨h1, ⟨tok, t, ts', rfl, -, -, e, h2⟩ | ⟨rfl, e, h2⟩⟩ := hG
    · exact hret u _ h' tk' ⟨t, e⟩ ⟨v', rfl, h1, h2⟩ F' N'
    · exact hret u _ h' tk' e ⟨v', rfl, h1, h2⟩ F' N'
end Mine
end
section
open PySem PySem.W PyProof.Rows
set_option Elab.async false
set_option maxRecDepth 100000
set_option maxHeartbeats 4000000
namespace Mine
theorem shl_makes (P : Params) : makesIn (theK P) 722 = true := by kernel_rfl
theorem shl_init (P : Params) : findIn (theK P) (.ref 722) "__init__" = some (some (.ref 646)) := by kernel_rfl
theorem shl_fn (P : Params) : isFn (theK P) (.ref 646) = true := by kernel_rfl
/-- a lexer at x, by the objects own at the places as, from which ts is to come -/
noncomputable def IsLexer (w : World) (x : Addr) (as : List Addr) (isEnd : Value → Prop) (ts : List Str) (own : List (Addr × Obj)) : Prop := ∃ dx Own, Lexer w x dx as isEnd Own ∧ Own ts own
theorem sg0 (buf : Str) (kd : Str → Nat) : cut kd none (sg buf 0 (buf.length - 0)) = cut kd none (sg buf 0 buf.length) := by rw [Nat.sub_zero]
theorem tc_weight (vs : List Value) (kw : List (Str × Value)) : Code.weight (.builtin "type.__call__" ⟨.ref 722 :: vs, kw⟩) = 1 := by kernel_rfl
theorem tc_units (args : Args) : Code.cUnits (.builtin "type.__call__" args) = 1 := by kernel_rfl
theorem cut_congr {kd kd' : Str → Nat} : ∀ (l : List Str) (m : Option (Nat × Str)), (∀ c ∈ l, kd c = kd' c) → cut kd m l = cut kd' m l
  | [], none, _ => rfl
  | [], some _, _ => rfl
  | c :: r, none, h => by
    show (if kd c = 0 then c :: cut kd none r else cut kd (some (kd c, c)) r) = if kd' c = 0 then c :: cut kd' none r else cut kd' (some (kd' c, c)) r
    rw [h c (.head _), cut_congr r none fun x hx => h x (.tail _ hx), cut_congr r _ fun x hx => h x (.tail _ hx)]
  | c :: r, some (k, tok), h => by
    show (if kd c = k then cut kd (some (k, tok ++ c)) r else if kd c = 0 then tok :: c :: cut kd none r else tok :: cut kd (some (kd c, c)) r) = if kd' c = k then cut kd' (some (k, tok ++ c)) r else if kd' c = 0 then tok :: c :: cut kd' none r else tok :: cut kd' (some (kd' c, c)) r
    rw [h c (.head _), cut_congr r (some (k, tok ++ c)) fun x hx => h x (.tail _ hx), cut_congr r none fun x hx => h x (.tail _ hx), cut_congr r (some (kd' c, c)) fun x hx => h x (.tail _ hx)]
theorem sg_at (buf : Str) : ∀ n p c, c ∈ sg buf p n → ∃ k, p ≤ k ∧ k < p + n ∧ c = signAt buf k
  | 0, _, _, h => nomatch h
  | n + 1, p, c, h => by
    rcases List.mem_cons.mp h with rfl | h
    · exact ⟨p, Nat.le_refl _, by omega, rfl⟩
    · obtain ⟨k, h1, h2, e⟩ := sg_at buf n (p + 1) c h
      exact ⟨k, by omega, by omega, e⟩
theorem cut_PQ {buf words : Str} (good : ∀ k, k < buf.length → Good (signAt buf k)) : cut (kdQ words (Str.ofString "") false) none (sg buf 0 (buf.length - 0)) = cut (kdP words) none (sg buf 0 buf.length) := by
  rw [Nat.sub_zero]
  refine cut_congr _ _ fun c hc => ?_
  obtain ⟨k, -, h, rfl⟩ := sg_at _ _ _ _ hc
  unfold kdQ kdP
  rw [(good k (by omega)).hpe]
  rfl
theorem led_P {w : World} {tk : Nat → Tok} {posix : Bool} {te : Tok} {eof : Value} {x dx sx sdx pb fs : Addr} {words buf : Str} {bk : List Value} {kb : Int} {pos st tok : Value} {rest : List (Addr × Obj)} (e : eofOf posix te = eof) :
    ledP w.params tk posix eof words x dx sx sdx pb fs buf bk kb pos st tok rest = led w ⟨tk, posix, te, words, false, Str.ofString "", x, dx, sx, sdx, pb, fs, none, buf, []⟩ ⟨bk, kb, pos, st, tok⟩ ++ rest := by
  subst e
  kernel_rfl
theorem led_Q {w : World} {tk : Nat → Tok} {split : Bool} {te : Tok} {x dx sx sdx pb fs pc : Addr} {words pch buf : Str} {bk : List Value} {kb : Int} {pos st tok : Value} {rest : List (Addr × Obj)} :
    ledQ w.params tk split (.str (Str.ofString "") te) words pch x dx sx sdx pb fs pc buf bk kb pos st tok rest = led w ⟨tk, false, te, words, split, pch, x, dx, sx, sdx, pb, fs, some pc, buf, []⟩ ⟨bk, kb, pos, st, tok⟩ ++ rest := by
  kernel_rfl
/-- a lexer without punctuation, packed -/
theorem lexP {w : World} {tk : Nat → Tok} {posix : Bool} {te tp ts tt : Tok} {x dx sx sdx pb fs : Addr} {words buf : Str} (hb : buf.length ≤ 900) (good : ∀ k, k < buf.length → Good (signAt buf k)) (a1 : @LT.lt Nat _ dx x) (a2 : @LT.lt Nat _ x sdx) (a3 : @LT.lt Nat _ sdx sx) (a4 : @LT.lt Nat _ sx pb) (a5 : @LT.lt Nat _ pb fs) :
    IsLexer w x [fs, pb, sx, sdx, x, dx] (isEndP posix) (cut (kdP words) none (sg buf 0 buf.length)) (led w ⟨tk, posix, te, words, false, Str.ofString "", x, dx, sx, sdx, pb, fs, none, buf, []⟩ ⟨[], 0, .int 0 tp, .str (Str.ofString " ") ts, .str (Str.ofString "") tt⟩) :=
  ⟨dx, _, lexerU w ⟨tk, posix, te, words, false, Str.ofString "", x, dx, sx, sdx, pb, fs, none, buf, []⟩ rfl ⟨a1, a2, a3, a4, a5, fun _ hp => absurd hp List.not_mem_nil, ⟨rfl, rfl⟩, by show (Str.ofString "").length ≤ 1000; decide, hb⟩ ⟨good, fun p hp _ => (good p hp).hpe⟩,
    _, rfl, ⟨_, rfl⟩, 0, tp, rfl, Nat.zero_le _, .inl ⟨rfl, ⟨_, rfl⟩, (cut_PQ good).symm⟩⟩
section
variable (w : World) (buf : Str) (tb : Tok) (news : List (Addr × Obj)) (hb : buf.length ≤ 900) (good : ∀ k, k < buf.length → Good (signAt buf k))
include hb good
theorem c_mk0 : CalledKw w 722 [.str buf tb] [(Str.ofString "posix", .bool false)] news 9 (fun h₀ L m s Q => ∀ x as own h' tk', IsLexer w x as (isEndP false) (cut (kdP wordsP) none (sg buf 0 buf.length)) own → (∀ p ∈ news, p.1 ∉ as) → Fr h₀ L h' m → News h₀ L h' (own ++ news) → Q (.ref x) { s with heap := h', toks := tk' }) := by
  intro loose mean mg mb dp un gd cn cs a ccd cl outer A₀ base h₀ L m s Q E B F X N T hk hd hu hret
  refine call_cls F X N (shl_makes _) (shl_init _) (shl_fn _) fun x dx h' F' N' l1 l2 => ?_
  refine c_ini0 w x dx buf tb news l1 l2 hb loose mean mg mb _ _ _ cn cs a ccd cl outer A₀ base h₀ L m { s with heap := h' } _ B F' X N' T hk ?_ ?_ ?_
  
  · show dp + Code.weight _ + 8 < _
    rw [tc_weight]; omega
  · show un + Code.cUnits _ + 8 * 8 < _
    rw [tc_units]; omega
  intro tk te tp ts tt sx sdx pb fs h8 tk8 a2 a3 a4 a5 F8 N8
  rw [led_P (eof := .str (Str.ofString "") te) (te := te) rfl] at N8
  refine ⟨rfl, hret x _ _ _ _ (lexP (tk := tk) (te := te) (tp := tp) (ts := ts) (tt := tt) hb good l2 a2 a3 a4 a5) ?_ F8 N8⟩
  intro p hp
  have hlt : @LT.lt Nat _ p.1 dx := l1 p hp
  have hlt2 : @LT.lt Nat _ dx x := l2
  simp only [List.mem_cons, List.not_mem_nil, or_false, not_or]
  exact ⟨@Nat.ne_of_lt _ _ (by omega), @Nat.ne_of_lt _ _ (by omega), @Nat.ne_of_lt _ _ (by omega), @Nat.ne_of_lt _ _ (by omega), @Nat.ne_of_lt _ _ (by omega), @Nat.ne_of_lt _ _ (by omega)⟩
theorem c_mk1 : CalledKw w 722 [.str buf tb] [(Str.ofString "posix", .bool true)] news 9 (fun h₀ L m s Q => ∀ x as own h' tk', IsLexer w x as (isEndP true) (cut (kdP (wordsP ++ wordsX)) none (sg buf 0 buf.length)) own → (∀ p ∈ news, p.1 ∉ as) → Fr h₀ L h' m → News h₀ L h' (own ++ news) → Q (.ref x) { s with heap := h', toks := tk' }) := by
  intro loose mean mg mb dp un gd cn cs a ccd cl outer A₀ base h₀ L m s Q E B F X N T hk hd hu hret
  refine call_cls F X N (shl_makes _) (shl_init _) (shl_fn _) fun x dx h' F' N' l1 l2 => ?_
  refine c_ini1 w x dx buf tb news l1 l2 hb loose mean mg mb _ _ _ cn cs a ccd cl outer A₀ base h₀ L m { s with heap := h' } _ B F' X N' T hk ?_ ?_ ?_
  
  · show dp + Code.weight _ + 8 < _
    rw [tc_weight]; omega
  · show un + Code.cUnits _ + 8 * 8 < _
    rw [tc_units]; omega
  intro tk tp ts tt sx sdx pb fs h8 tk8 a2 a3 a4 a5 F8 N8
  rw [led_P (eof := .none) (te := 0) rfl] at N8
  refine ⟨rfl, hret x _ _ _ _ (lexP (tk := tk) (te := 0) (tp := tp) (ts := ts) (tt := tt) hb good l2 a2 a3 a4 a5) ?_ F8 N8⟩
  intro p hp
  have hlt : @LT.lt Nat _ p.1 dx := l1 p hp
  have hlt2 : @LT.lt Nat _ dx x := l2
  simp only [List.mem_cons, List.not_mem_nil, or_false, not_or]
  exact ⟨@Nat.ne_of_lt _ _ (by omega), @Nat.ne_of_lt _ _ (by omega), @Nat.ne_of_lt _ _ (by omega), @Nat.ne_of_lt _ _ (by omega), @Nat.ne_of_lt _ _ (by omega), @Nat.ne_of_lt _ _ (by omega)⟩
theorem lex_pack (split : Bool) {tk : Nat → Tok} {te tp ts tt : Tok} {x dx sx sdx pb fs pc : Addr} {words pch : Str} (l0 : ∀ p ∈ news, p.1 < dx) (a1 : @LT.lt Nat _ dx x) (a2 : @LT.lt Nat _ x sdx) (a3 : @LT.lt Nat _ sdx sx) (a4 : @LT.lt Nat _ sx pb) (a5 : @LT.lt Nat _ pb fs) (a6 : @LT.lt Nat _ fs pc) (hpp : 1 ≤ pch.length) (hpl : pch.length ≤ 1000) (dis : ∀ p, p < buf.length → inS (signAt buf p) words = true → inS (signAt buf p) pch = false) :
    IsLexer w x [pc, fs, pb, sx, sdx, x, dx] (isEndP false) (cut (kdQ words pch split) none (sg buf 0 buf.length)) (ledQ w.params tk split (.str (Str.ofString "") te) words pch x dx sx sdx pb fs pc buf [] 0 (.int 0 tp) (.str (Str.ofString " ") ts) (.str (Str.ofString "") tt) []) ∧ ∀ p ∈ news, p.1 ∉ [pc, fs, pb, sx, sdx, x, dx] := by
  refine ⟨⟨dx, _, lexerU w ⟨tk, false, te, words, split, pch, x, dx, sx, sdx, pb, fs, some pc, buf, []⟩ rfl ⟨a1, a2, a3, a4, a5, fun _ hp => absurd hp List.not_mem_nil, ⟨hpp, a6, fun _ hp => absurd hp List.not_mem_nil, rfl⟩, hpl, hb⟩ ⟨good, dis⟩,
    ⟨[], 0, .int 0 tp, .str (Str.ofString " ") ts, .str (Str.ofString "") tt⟩, rfl, ⟨_, rfl⟩, 0, tp, rfl, Nat.zero_le _, .inl ⟨rfl, ⟨_, rfl⟩, (sg0 _ _).symm⟩⟩, ?_⟩
  intro p hp
  have hlt : @LT.lt Nat _ p.1 dx := l0 p hp
  simp only [List.mem_cons, List.not_mem_nil, or_false, not_or]
  refine ⟨?_, ?_, ?_, ?_, ?_, ?_, ?_⟩ <;> exact @Nat.ne_of_lt _ _ (by omega)
omit good in
theorem c_mk2 (pch : Str) (tc : Tok) (hpp : 1 ≤ pch.length) (hpl : pch.length ≤ 1000) (hpa : pch.cps.all (· < 128) = true) (hpd : pch.cps.toList.Nodup) : CalledKw w 722 [.str buf tb] [(Str.ofString "punctuation_chars", .str pch tc)] news 9 (fun h₀ L m s Q => ∀ (tk : Nat → Tok) (te tp ts tt : Tok) (x dx sx sdx pb fs pc : Addr) (h' : Heap) (tk' : Nat), (∀ p ∈ news, p.1 < dx) → @LT.lt Nat _ dx x → @LT.lt Nat _ x sdx → @LT.lt Nat _ sdx sx → @LT.lt Nat _ sx pb → @LT.lt Nat _ pb fs → @LT.lt Nat _ fs pc → Fr h₀ L h' m →
    News h₀ L h' (ledQ w.params tk false (.str (Str.ofString "") te) (without (wordsP ++ Str.ofString "~-./*?=") pch) pch x dx sx sdx pb fs pc buf [] 0 (.int 0 tp) (.str (Str.ofString " ") ts) (.str (Str.ofString "") tt) news) → Q (.ref x) { s with heap := h', toks := tk' }) := by
  intro loose mean mg mb dp un gd cn cs a ccd cl outer A₀ base h₀ L m s Q E B F X N T hk hd hu hret
  refine call_cls F X N (shl_makes _) (shl_init _) (shl_fn _) fun x dx h' F' N' l1 l2 => ?_
  refine c_ini2 w x dx buf pch tb tc news l1 l2 hb hpp hpl hpa hpd loose mean mg mb _ _ _ cn cs a ccd cl outer A₀ base h₀ L m { s with heap := h' } _ B F' X N' T hk ?_ ?_ ?_
  · show dp + Code.weight _ + 8 < _
    rw [tc_weight]; omega
  · show un + Code.cUnits _ + 8 * 8 < _
    rw [tc_units]; omega
  intro tk te tp ts tt sx sdx pb fs pc h8 tk8 a2 a3 a4 a5 a6 F8 N8
  exact ⟨rfl, hret tk te tp ts tt x dx sx sdx pb fs pc _ _ l1 l2 a2 a3 a4 a5 a6 F8 N8⟩
omit good in
theorem c_mk3 : CalledKw w 722 [.str buf tb] [(Str.ofString "punctuation_chars", .bool true)] news 9 (fun h₀ L m s Q => ∀ (tk : Nat → Tok) (te tp ts tt : Tok) (x dx sx sdx pb fs pc : Addr) (h' : Heap) (tk' : Nat), (∀ p ∈ news, p.1 < dx) → @LT.lt Nat _ dx x → @LT.lt Nat _ x sdx → @LT.lt Nat _ sdx sx → @LT.lt Nat _ sx pb → @LT.lt Nat _ pb fs → @LT.lt Nat _ fs pc → Fr h₀ L h' m →
    News h₀ L h' (ledQ w.params tk false (.str (Str.ofString "") te) (without (wordsP ++ Str.ofString "~-./*?=") usual) usual x dx sx sdx pb fs pc buf [] 0 (.int 0 tp) (.str (Str.ofString " ") ts) (.str (Str.ofString "") tt) news) → Q (.ref x) { s with heap := h', toks := tk' }) := by
  intro loose mean mg mb dp un gd cn cs a ccd cl outer A₀ base h₀ L m s Q E B F X N T hk hd hu hret
  refine call_cls F X N (shl_makes _) (shl_init _) (shl_fn _) fun x dx h' F' N' l1 l2 => ?_
  refine c_ini3 w x dx buf tb news l1 l2 hb loose mean mg mb _ _ _ cn cs a ccd cl outer A₀ base h₀ L m { s with heap := h' } _ B F' X N' T hk ?_ ?_ ?_
  · show dp + Code.weight _ + 8 < _
    rw [tc_weight]; omega
  · show un + Code.cUnits _ + 8 * 8 < _
    rw [tc_units]; omega
  intro tk te tp ts tt sx sdx pb fs pc h8 tk8 a2 a3 a4 a5 a6 F8 N8
  exact ⟨rfl, hret tk te tp ts tt x dx sx sdx pb fs pc _ _ l1 l2 a2 a3 a4 a5 a6 F8 N8⟩
end
end Mine
end
section
open PySem PySem.W PyProof.Rows
set_option Elab.async false
set_option maxRecDepth 100000
set_option maxHeartbeats 8000000
namespace Mine
local macro_rules | `(tactic| walk_at "compareOp In str str") => `(tactic| refine in_strI ?_)
noncomputable def kdL (words runs : Str) (c : Str) : Nat := if inS c runs then 2 else if inS c words then 1 else 0
noncomputable def kindName (k : Nat) : Str := if k = 2 then Str.ofString "run" else if k = 1 then Str.ofString "word" else Str.ofString "alone"
theorem c_kind (w : World) (c words runs : Str) (t1 t2 t3 : Tok) (news : List (Addr × Obj)) : Called w 876 [.str c t1, .str words t2, .str runs t3] news 1 (RetV news fun t => .str (kindName (kdL words runs c)) t) := by
  dsimp only [Called, RetV, thePg]
  k_fill
  intros
  rename_i hret
  refine wpAny_call ?_
  k_dflt (refine' code_def (binds := [(Str.ofString "sign", .str c t1), (Str.ofString "words", .str words t2), (Str.ofString "runs", .str runs t3)]) ?k1 ?k2 ?k3 ?k4 ?k5 ?kA ?kF ?kK ?k6 ?k7 ?k8 ?k9 ?kB ?_ ?c2 ?c3 ?c4 ?c5; (case kA => exact rfl); (case kF => exact rfl); (case kK => assumption); (case k1 => k_asm); (case k2 => k_asm); (case k3 => k_asm); (case k4 => k_asm); (case k5 => k_asm); (case k6 => k_is); (case k7 => k_is); (case k8 => ktr_room); (case k9 => exact BindsTo.of_eq rfl); (case c5 => decide); (case kB => exact locs rfl); (case c2 => exact rfl); (case c3 => exact rfl); (case c4 => exact rfl); k_whole; intro g' L' h' FG' F' N' B' X' T'; (try dsimp only))
  refine let_all ?_
  intro v9 Q9 E9
  k_steps
  all_goals (refine cb_retS hret ?e1 ?e2 ?e3; (case e2 => k_asm); (case e3 => k_asm); (case e1 => (unfold kindName kdL; simp only [*, if_true, if_false, Bool.false_eq_true, ite_true, ite_false]; first | rfl | done)))
/-- what the loop of _law_cut has, ahead of the i-th sign -/
noncomputable def CutAt (kd : Str → Nat) (x : Str) (i : Nat) (ts : List Str) (kb : Nat) : Prop :=
  (kb = 0 ∧ cut kd none (sg x 0 x.length) = ts ++ cut kd none (sg x i (x.length - i))) ∨
  (1 ≤ kb ∧ kb ≤ 2 ∧ ∃ init last, ts = init ++ [last] ∧ last.length ≤ i ∧ cut kd none (sg x 0 x.length) = init ++ cut kd (some (kb, last)) (sg x i (x.length - i)))
theorem CutAt.last {kd : Str → Nat} {x : Str} {ts : List Str} {kb : Nat} (h : CutAt kd x x.length ts kb) : ts = cut kd none (sg x 0 x.length) := by
  rcases h with ⟨-, e⟩ | ⟨-, -, init, last, rfl, -, e⟩
  · rw [e, Nat.sub_self]; show ts = ts ++ []; rw [List.append_nil]
  · rw [e, Nat.sub_self]; rfl
theorem CutAt.grow {kd : Str → Nat} {x : Str} {i : Nat} {init : List Str} {last : Str} {kb : Nat} (hi : i < x.length) (h : CutAt kd x i (init ++ [last]) kb) (h0 : kb ≠ 0) (hk : kd (signAt x i) = kb) (hl : (signAt x i).length ≤ 1) : CutAt kd x (i + 1) (init ++ [last ++ signAt x i]) kb := by
  rcases h with ⟨e, -⟩ | ⟨h1, h2, init', last', e, hle, ec⟩
  · exact absurd e h0
  · obtain ⟨q1, q2⟩ := List.append_inj' e rfl
    subst q1
    obtain rfl : last = last' := by simpa using q2
    refine .inr ⟨h1, h2, init, _, rfl, by rw [Str.length_append]; omega, ?_⟩
    rw [ec, show x.length - i = (x.length - (i + 1)) + 1 by omega]
    show _ ++ cut kd (some (kb, last)) (signAt x i :: _) = _
    rw [cut_some_same hk]
theorem CutAt.next {kd : Str → Nat} {x : Str} {i : Nat} {ts : List Str} {kb : Nat} (hi : i < x.length) (h : CutAt kd x i ts kb) (h0 : kd (signAt x i) ≠ kb ∨ kd (signAt x i) = 0) (h2 : kd (signAt x i) ≤ 2) (hl : (signAt x i).length ≤ 1) : CutAt kd x (i + 1) (ts ++ [signAt x i]) (kd (signAt x i)) := by
  have e : cut kd none (sg x 0 x.length) = ts ++ cut kd none (signAt x i :: sg x (i + 1) (x.length - (i + 1))) := by
    have es : sg x i (x.length - i) = signAt x i :: sg x (i + 1) (x.length - (i + 1)) := by
      rw [show x.length - i = (x.length - (i + 1)) + 1 by omega]; rfl
    rcases h with ⟨e, ec⟩ | ⟨g1, g2, init, last, rfl, hle, ec⟩
    · rw [ec, es]
    · rw [ec, es, cut_some_other (by rcases h0 with h | h <;> omega), List.append_assoc]; rfl
  rw [cut_none_cons] at e
  by_cases hz : kd (signAt x i) = 0
  · rw [if_pos hz] at e
    exact .inl ⟨hz, by rw [e, List.append_assoc]; rfl⟩
  · rw [if_neg hz] at e
    exact .inr ⟨by omega, h2, ts, _, rfl, by omega, e⟩
theorem kdL_le (words runs c : Str) : kdL words runs c ≤ 2 := by
  unfold kdL; split
  · decide
  · split <;> decide
theorem strs_split {vs : List Value} {a : List Str} {b : Str} (h : StrsAre vs (a ++ [b])) : ∃ us v, vs = us ++ [v] ∧ StrsAre us a ∧ ∃ t, v = .str b t := by
  have e := h.length
  rw [List.length_append, List.length_singleton] at e
  have h1 := h.take' a.length
  have h2 := h.drop' a.length
  rw [List.take_left'] at h1
  rw [List.drop_left'] at h2
  obtain ⟨t, vs', e1, e2⟩ := h2.cons_inv
  rw [e2.nil_inv] at e1
  refine ⟨vs.take a.length, .str b t, ?_, h1, t, rfl⟩
  rw [← e1, List.take_append_drop]
  all_goals rfl
theorem sign_len {x : Str} {i : Nat} (h : i < x.length) : (signAt x i).length = 1 := by
  obtain ⟨⟨l⟩⟩ := x
  have h' : i < l.length := h
  unfold signAt
  show ((l.drop i).take 1).toArray.size = 1
  rw [List.drop_eq_getElem_cons h']; rfl
theorem kind_alone {k : Nat} (h : k ≤ 2) (h0 : k ≠ 0) : (kindName k == Str.ofString "alone") = false := by
  have : k = 1 ∨ k = 2 := by omega
  rcases this with rfl | rfl <;> decide +kernel
theorem kind_same (k : Nat) : (kindName k == kindName k) = true := beq_self_eq_true _
theorem kind_ne {a b : Nat} (ha : a ≤ 2) (hb : b ≤ 2) (h : a ≠ b) : (kindName a == kindName b) = false := by
  have h1 : a = 0 ∨ a = 1 ∨ a = 2 := by omega
  have h2 : b = 0 ∨ b = 1 ∨ b = 2 := by omega
  rcases h1 with rfl | rfl | rfl <;> rcases h2 with rfl | rfl | rfl <;> first | exact absurd rfl h | decide +kernel
theorem kind_zero : (kindName 0 == Str.ofString "alone") = true := by decide +kernel
theorem kind_zero' : (kindName 0 != Str.ofString "alone") = false := by decide +kernel
theorem CutAt.le {kd : Str → Nat} {x : Str} {i : Nat} {ts : List Str} {kb : Nat} (h : CutAt kd x i ts kb) : kb ≤ 2 := by
  rcases h with ⟨e, -⟩ | ⟨-, h2, -⟩
  · omega
  · exact h2
end Mine
end
example {M : Model} {A : Around} {E : Value → Shared → Prop} {s : Shared} {env : Env} {p : Pos} {Q : Flow → Shared → Prop} (h : wpAny M A (exec (.Pass p) env) Q E s) : wpAny M A (exec (.Pass p) env) Q E s := by first | (walk1; fail) | exact h
section
open PySem PySem.W PyProof.Rows
set_option maxRecDepth 100000
namespace Mine
theorem allowed_128 : (allowed.all (· < 128)) = true := by decide +kernel
theorem lt_128 {c : Nat} (h : c ∈ allowed) : c < 128 := by simpa using List.all_eq_true.mp allowed_128 c h
theorem sign_one {x : Str} {k : Nat} (h : k < x.length) : ∃ c, c ∈ x.cps.toList ∧ signAt x k = ⟨#[c]⟩ := by
  have h' : k < x.cps.toList.length := by simpa [Str.length] using h
  refine ⟨x.cps.toList[k], List.getElem_mem h', ?_⟩
  unfold signAt
  rw [List.drop_eq_getElem_cons h']
  rfl
theorem sg_mem {x : Str} : ∀ n p, p + n ≤ x.length → ∀ s ∈ sg x p n, ∃ c, c ∈ x.cps.toList ∧ s = ⟨#[c]⟩
  | 0, _, _, s, h => by cases h
  | n + 1, p, hp, s, h => by
    rcases List.mem_cons.mp h with rfl | h
    · exact sign_one (by omega)
    · exact sg_mem n (p + 1) (by omega) s h
theorem sg_len {x : Str} : ∀ n p, (sg x p n).length = n
  | 0, _ => rfl
  | n + 1, p => by show (sg x (p + 1) n).length + 1 = _; rw [sg_len n]
theorem cut_len {kd : Str → Nat} : ∀ (l : List Str) (o : Option (Nat × Str)), (cut kd o l).length ≤ l.length + (if o.isSome then 1 else 0)
  | [], none => Nat.le_refl 0
  | [], some _ => Nat.le_refl 1
  | c :: r, none => by
    show (if kd c = 0 then c :: cut kd none r else cut kd (some (kd c, c)) r).length ≤ r.length + 1 + 0
    have h1 := cut_len (kd := kd) r none
    have h2 := cut_len (kd := kd) r (some (kd c, c))
    simp only [Option.isSome, if_true, if_false, Bool.false_eq_true] at h1 h2
    split
    · rw [List.length_cons]; omega
    · omega
  | c :: r, some (k, tok) => by
    show (if kd c = k then cut kd (some (k, tok ++ c)) r else if kd c = 0 then tok :: c :: cut kd none r else tok :: cut kd (some (kd c, c)) r).length ≤ r.length + 1 + 1
    have h1 := cut_len (kd := kd) r none
    have h2 := cut_len (kd := kd) r (some (kd c, c))
    have h3 := cut_len (kd := kd) r (some (k, tok ++ c))
    simp only [Option.isSome, if_true, if_false, Bool.false_eq_true] at h1 h2 h3
    split
    · omega
    · split <;> simp only [List.length_cons] <;> omega
theorem cut_small {kd : Str → Nat} {x : Str} (h : x.length ≤ 100) : (cut kd none (sg x 0 x.length)).length ≤ 100 := by
  have := cut_len (kd := kd) (sg x 0 x.length) none
  rw [sg_len] at this
  simp only [Option.isSome, if_false, Bool.false_eq_true] at this
  omega
theorem cut_eq {kd kd' : Str → Nat} {x : Str} (h : ∀ c ∈ x.cps.toList, kd ⟨#[c]⟩ = kd' ⟨#[c]⟩) : cut kd none (sg x 0 x.length) = cut kd' none (sg x 0 x.length) :=
  cut_congr _ _ fun s hs => by
    obtain ⟨c, hc, rfl⟩ := sg_mem _ _ (by omega) s hs
    exact h c hc
/-- a writing's text: its signs are allowed -/
noncomputable def Wri (x : Str) : Prop := ∀ c ∈ x.cps.toList, c ∈ allowed
theorem Wri.good {x : Str} (h : Wri x) : ∀ k, k < x.length → Good (signAt x k) := fun k hk => by
  obtain ⟨c, hc, e⟩ := sign_one hk
  rw [e]
  exact good_of (h c hc)
theorem Wri.lt {x : Str} (h : Wri x) : ∀ c ∈ x.cps.toList, c < 128 := fun c hc => lt_128 (h c hc)
theorem back_id {x : Str} {b : List UInt8} (h : Wri x) (e : b.toArray = asBytes x) : txtOf b = x := by
  have e1 : b = x.cps.toList.map (·.toUInt8) := by
    have := congrArg Array.toList e
    simpa [asBytes] using this
  subst e1
  unfold txtOf
  obtain ⟨cps⟩ := x
  obtain ⟨l⟩ := cps
  have : ∀ l : List Nat, (∀ c ∈ l, c < 128) → ((l.map (·.toUInt8)).map (·.toNat)) = l := by
    intro l
    induction l with
    | nil => intro _; rfl
    | cons c r ih =>
      intro hl
      have hc := hl c (.head _)
      rw [List.map_cons, List.map_cons, ih fun d hd => hl d (.tail _ hd)]
      have : c.toUInt8.toNat = c := by
        show (UInt8.ofNat c).toNat = c
        rw [UInt8.toNat_ofNat']
        omega
      rw [this]
  show Str.mk ((l.map (·.toUInt8)).map (·.toNat)).toArray = _
  rw [this l h.lt]
theorem low_of {x : Str} {b : List UInt8} (h : Wri x) (e : b.toArray = asBytes x) : ∀ c ∈ b, c.toNat < 128 := by
  intro c hc
  have := back_id h e
  have e2 : c.toNat ∈ (txtOf b).cps.toList := by
    unfold txtOf
    simp only [List.mem_map]
    exact ⟨c, hc, rfl⟩
  rw [this] at e2
  exact h.lt _ e2
-- the kinds
theorem kdP_word {c : Nat} (h : c ∈ allowed) : kdL (letters ++ Str.ofString "_") (Str.ofString "") ⟨#[c]⟩ = kdP wordsP ⟨#[c]⟩ := by
  have g : (allowed.all fun c => decide (c ∈ (letters ++ Str.ofString "_").cps.toList) == decide (c ∈ wordsP.cps.toList)) = true := by decide +kernel
  have g2 := List.all_eq_true.mp g c h
  unfold kdL kdP
  rw [inS_one, inS_one, inS_one, eq_of_beq g2]
  rfl
theorem kdP_wordX {c : Nat} (h : c ∈ allowed) : kdL (letters ++ Str.ofString "_") (Str.ofString "") ⟨#[c]⟩ = kdP (wordsP ++ wordsX) ⟨#[c]⟩ := by
  have g : (allowed.all fun c => decide (c ∈ (letters ++ Str.ofString "_").cps.toList) == decide (c ∈ (wordsP ++ wordsX).cps.toList)) = true := by decide +kernel
  have g2 := List.all_eq_true.mp g c h
  unfold kdL kdP
  rw [inS_one, inS_one, inS_one, eq_of_beq g2]
  rfl
noncomputable abbrev wordsQ : Str := wordsP ++ Str.ofString "~-./*?="
theorem mem_without {x y : Str} {c : Nat} : c ∈ (without x y).cps.toList ↔ c ∈ x.cps.toList ∧ c ∉ y.cps.toList := by
  unfold without Kept
  simp only [List.mem_filter]
  rw [valueAt_nones]
  have e : (c : Int) ∈ y.cps.toList.map (fun n : Nat => (n : Int)) ↔ c ∈ y.cps.toList := by
    rw [List.mem_map]
    constructor
    · rintro ⟨a, ha, e⟩
      have : a = c := by omega
      rw [← this]; exact ha
    · intro h
      exact ⟨c, h, rfl⟩
  by_cases h : c ∈ y.cps.toList
  · rw [if_pos (e.mpr h)]; simp [h]
  · rw [if_neg (fun z => h (e.mp z))]; simp [h]
theorem in_without {x y : Str} {c : Nat} : inS ⟨#[c]⟩ (without x y) = (decide (c ∈ x.cps.toList) && !decide (c ∈ y.cps.toList)) := by
  rw [inS_one, decide_eq_decide.mpr mem_without, Bool.decide_and, decide_not]
theorem kdQ_usual {c : Nat} (h : c ∈ allowed) : kdL (letters ++ Str.ofString "_~-./*?=") (Str.ofString "()<>|&;") ⟨#[c]⟩ = kdQ (without wordsQ usual) usual false ⟨#[c]⟩ := by
  have g : (allowed.all fun c => decide ((if decide (c ∈ (Str.ofString "()<>|&;").cps.toList) then 2 else if decide (c ∈ (letters ++ Str.ofString "_~-./*?=").cps.toList) then 1 else 0) = (if (decide (c ∈ wordsQ.cps.toList) && !decide (c ∈ usual.cps.toList)) then 1 else if decide (c ∈ usual.cps.toList) then 2 else 0 : Nat))) = true := by decide +kernel
  unfold kdL kdQ
  rw [in_without, inS_one, inS_one, inS_one]
  exact of_decide_eq_true (List.all_eq_true.mp g c h)
theorem kdQ_split {c : Nat} (h : c ∈ allowed) {x : Str} (hx : c ∈ x.cps.toList) : kdL x (Str.ofString "()<>|&;") ⟨#[c]⟩ = kdQ (without wordsQ usual) usual true ⟨#[c]⟩ := by
  have g : (allowed.all fun c => decide ((if decide (c ∈ (Str.ofString "()<>|&;").cps.toList) then 2 else 1) = (if (decide (c ∈ wordsQ.cps.toList) && !decide (c ∈ usual.cps.toList)) then 1 else if decide (c ∈ usual.cps.toList) then 2 else 1 : Nat))) = true := by decide +kernel
  have hin : inS ⟨#[c]⟩ x = true := by rw [inS_one]; simpa using hx
  unfold kdL kdQ
  rw [hin, in_without, inS_one, inS_one]
  exact of_decide_eq_true (List.all_eq_true.mp g c h)
theorem kdQ_pair {c : Nat} {pair : Str} (h : c ∈ (letters ++ Str.ofString "=").cps.toList ∨ c ∈ pair.cps.toList) : kdL (letters ++ Str.ofString "=") pair ⟨#[c]⟩ = kdQ (without wordsQ pair) pair false ⟨#[c]⟩ := by
  have g : ((letters ++ Str.ofString "=").cps.toList.all fun c => decide (c ∈ wordsQ.cps.toList)) = true := by decide +kernel
  unfold kdL kdQ
  rw [inS_one, inS_one, inS_one]
  by_cases hp : c ∈ pair.cps.toList
  · have : ¬ c ∈ (without wordsQ pair).cps.toList := fun e => (mem_without.mp e).2 hp
    simp [hp, this]
  · have hl := h.resolve_right hp
    have hq : c ∈ wordsQ.cps.toList := by simpa using List.all_eq_true.mp g c hl
    have : c ∈ (without wordsQ pair).cps.toList := mem_without.mpr ⟨hq, hp⟩
    simp [hp, this, hl]
theorem dis_of {x words pch : Str} : ∀ p, p < x.length → inS (signAt x p) (without words pch) = true → inS (signAt x p) pch = false := by
  intro p hp h
  obtain ⟨c, -, e⟩ := sign_one hp
  rw [e, inS_one] at h ⊢
  have := (mem_without.mp (by simpa using h)).2
  simpa using this
end Mine
end
section
open PySem PySem.W PyProof.Rows
set_option Elab.async false
set_option maxRecDepth 100000
set_option maxHeartbeats 8000000
namespace Mine
noncomputable abbrev frC (tl : Addr) (x words runs : Str) (tx tw tr : Tok) (bv : Value) (nv sv : Option Value) : Str → Option Value := fun y => if y = Str.ofString "before" then some bv else if y = Str.ofString "now" then nv else if y = Str.ofString "sign" then sv else if y = Str.ofString "tokens" then some (.ref tl) else List.lookup y [(Str.ofString "text", Value.str x tx), (Str.ofString "words", Value.str words tw), (Str.ofString "runs", Value.str runs tr)].reverse
section
variable (tl : Addr) (x words runs : Str) (tx tw tr : Tok) (bv : Value) (nv sv : Option Value)
theorem frC_start : (fun y => if y = Str.ofString "before" then some bv else if y = Str.ofString "tokens" then some (.ref tl) else List.lookup y [(Str.ofString "text", Value.str x tx), (Str.ofString "words", Value.str words tw), (Str.ofString "runs", Value.str runs tr)].reverse) = frC tl x words runs tx tw tr bv none none := by
  funext y
  by_cases h : y = Str.ofString "before"
  · simp only [frC, if_pos h]
  · by_cases h1 : y = Str.ofString "now"
    · subst h1; rfl
    · by_cases h2 : y = Str.ofString "sign"
      · subst h2; rfl
      · simp only [frC, if_neg h, if_neg h1, if_neg h2]
theorem frC_sign (v : Value) : (fun y => if y = Str.ofString "sign" then some v else frC tl x words runs tx tw tr bv nv sv y) = frC tl x words runs tx tw tr bv nv (some v) := by
  funext y
  by_cases h2 : y = Str.ofString "sign"
  · subst h2; rfl
  · simp only [frC, if_neg h2]
theorem frC_end (v v' : Value) : (fun y => if y = Str.ofString "before" then some v else if y = Str.ofString "now" then some v' else frC tl x words runs tx tw tr bv nv sv y) = frC tl x words runs tx tw tr v (some v') sv := by
  funext y
  by_cases h : y = Str.ofString "before"
  · simp only [frC, if_pos h]
  · by_cases h1 : y = Str.ofString "now"
    · subst h1; rfl
    · simp only [frC, if_neg h, if_neg h1]
end
local macro_rules | `(tactic| walk_at "getMethod ref") => `(tactic| (k_here; k_dflt (first
  | (refine' list_getN PySem.F.slot_list_append PySem.F.type_list_append ?k1 ?k2 ?_; (case k1 => k_asm); (case k2 => k_mem); k_whole)
  | (refine' list_getN PySem.F.slot_list_pop PySem.F.type_list_pop ?k1 ?k2 ?_; (case k1 => k_asm); (case k2 => k_mem); k_whole))))
local macro_rules | `(tactic| walk_at "call builtin:list.append") => `(tactic| (k_here; k_dflt (refine' append_V ?k1 ?k2 ?k3 ?k4 ?_; (case k1 => k_asm); (case k2 => k_asm); (case k3 => k_upd); (case k4 => assumption); k_whole); intro h' F' N'; (try k_sweep)))
local macro_rules | `(tactic| walk_at "call builtin:list.pop") => `(tactic| (k_here; k_dflt (refine' pop_K ?k1 ?k2 ?k3 ?k4 ?_; (case k1 => k_asm); (case k2 => k_asm); (case k3 => k_upd); (case k4 => assumption); k_whole); intro h' F' N'; (try k_sweep)))
local macro_rules | `(tactic| walk_at "exec For") => `(tactic| (k_here; (rename Fr _ _ _ _ => lF'); (with_unfolding_all refine' For_invVF lF' ?k1 ?k2 ?_; (case k1 => exact rfl); (case k2 => exact rfl); k_whole)))
local macro_rules | `(tactic| walk_at "pyIter str") => `(tactic| refine halt ?_)
theorem c_cut (w : World) (x words runs : Str) (tx tw tr : Tok) (news : List (Addr × Obj)) (hx : x.length ≤ 900) : Called w 883 [.str x tx, .str words tw, .str runs tr] news 3
    (fun h₀ L m s Q => ∀ (tl : Addr) (tvs : List Value) (k : Nat) (h' : Heap) (tk' : Nat), StrsAre tvs (cut (kdL words runs) none (sg x 0 x.length)) → (∀ p ∈ news, p.1 < tl) → Fr h₀ L h' m → News h₀ L h' ((tl, listOf tvs.toArray k) :: news) → Q (.ref tl) { s with heap := h', toks := tk' }) := by
  dsimp only [Called, RetV, thePg]
  k_fill
  intros
  rename_i hret
  refine wpAny_call ?_
  k_dflt (refine' code_def (binds := [(Str.ofString "text", .str x tx), (Str.ofString "words", .str words tw), (Str.ofString "runs", .str runs tr)]) ?k1 ?k2 ?k3 ?k4 ?k5 ?kA ?kF ?kK ?k6 ?k7 ?k8 ?k9 ?kB ?_ ?c2 ?c3 ?c4 ?c5; (case kA => exact rfl); (case kF => exact rfl); (case kK => assumption); (case k1 => k_asm); (case k2 => k_asm); (case k3 => k_asm); (case k4 => k_asm); (case k5 => k_asm); (case k6 => k_is); (case k7 => k_is); (case k8 => ktr_room); (case k9 => exact BindsTo.of_eq rfl); (case c5 => decide); (case kB => exact locs rfl); (case c2 => exact rfl); (case c3 => exact rfl); (case c4 => exact rfl); k_whole; intro g' L' h' FG' F' N' B' X' T'; (try dsimp only))
  refine let_all ?_
  intro v9 Q9 E9
  have st9 : Stop 876 := stop
  k_steps
  with_reducible rename Fr _ _ _ _ => F9
  with_reducible rename News _ _ _ _ => N9
  refine halt' ?_
  rw [frC_start] at F9
  with_reducible rename ∀ p ∈ news, _ => l1
  rename_i tl hh9 hh8 hh7 hh6
  have nl : ∀ p ∈ news, p.1 ≠ tl := fun p hp => Nat.ne_of_lt (l1 p hp)
  refine loop_str rfl F9 N9 (fun i m₁ news₁ => ∃ (ts : List Str) (tvs : List Value) (kk kb : Nat) (tb : Tok) (nv sv : Option Value), m₁ = frC tl x words runs tx tw tr (.str (kindName kb) tb) nv sv ∧ news₁ = (tl, listOf tvs.toArray kk) :: news ∧ StrsAre tvs ts ∧ ts.length ≤ i ∧ CutAt (kdL words runs) x i ts kb) ⟨[], [], 0, 0, _, none, none, rfl, rfl, .nil, Nat.le_refl _, .inl ⟨rfl, rfl⟩⟩ ?step ?fin
  case step =>
    rintro i u m₁ news₁ I oI h tk hi ⟨ts, tvs, kk, kb, tb, nv, sv, rfl, rfl, hts, htl, hcut⟩ off F₁ N₁
    rw [frC_sign] at F₁
    have hI : @Ne Nat tl I := off _ (.head _)
    have hl1 := sign_len hi
    have hl2 : tvs.length ≤ 100000 := by rw [hts.length]; omega
    have el : x.length - i = (x.length - (i + 1)) + 1 := by omega
    have off2 : ∀ (o : Obj), ∀ p ∈ (tl, o) :: news, p.1 ≠ I := fun o p hp => by
      rcases List.mem_cons.mp hp with rfl | hp
      · exact hI
      · exact off p (.tail _ hp)
    by_cases hs : kdL words runs (signAt x i) = kb ∧ kb ≠ 0
    · obtain ⟨hk, hk0⟩ := hs
      obtain ⟨init, last, rfl, hlast⟩ : ∃ init last, ts = init ++ [last] ∧ last.length ≤ i := by
        rcases hcut with ⟨e, -⟩ | ⟨-, -, init, last, rfl, hle, -⟩
        · exact absurd e hk0
        · exact ⟨init, last, rfl, hle⟩
      obtain ⟨ivs, lv, rfl, hiv, hlv⟩ := strs_split hts
      obtain ⟨tt, rfl⟩ := hlv
      have hl3 : ivs.length ≤ 100000 := by rw [List.length_append] at hl2; omega
      have e1 : (kindName (kdL words runs (signAt x i)) == kindName kb) = true := hk ▸ kind_same _
      have e2 : (kindName (kdL words runs (signAt x i)) != Str.ofString "alone") = true := congrArg (!·) (kind_alone (kdL_le ..) (hk ▸ hk0))
      have hg := hcut.grow hi hk0 hk (Nat.le_of_eq hl1)
      have hl4 : last.length ≤ 1000 := by omega
      have hl5 : (signAt x i).length ≤ 1000 := by omega
      clear hcut
      generalize signAt x i = c at *
      k_steps
      all_goals (try (refine halt' ?_; (k_dflt (refine' c_kind _ _ _ _ _ _ _ _ _ _ _ _ _ _ _ _ _ _ _ _ _ _ _ _ _ _ _ _ _ ?k1 ?k2 ?k3 ?k4 ?k5 ?kK ?kd ?ku ?_; (case k1 => k_asm); (case k2 => k_asm); (case k3 => k_asm); (case k4 => k_asm); (case k5 => k_asm); (case kK => exact rfl); (case kd => ktr_room); (case ku => ktr_units); (intro t9 h9 tk9 F9 N9; (try dsimp only); (try k_fold)))); k_steps))
      with_reducible rename Fr _ _ _ _ => F5
      with_reducible rename News _ _ _ _ => N5
      refine halt' ?_
      rw [frC_end] at F5
      refine ⟨_, _, _, (tl, _) :: news, rfl, F5, N5, off2 _, _, _, _, _, _, _, _, rfl, rfl, hiv.append' (.cons _ _ .nil), ?_, ?_⟩
      · simp only [List.length_append, List.length_singleton] at htl ⊢
        omega
      · rw [hk]
        exact hg
    · have hn : kdL words runs (signAt x i) ≠ kb ∨ kdL words runs (signAt x i) = 0 := by
        by_cases q : kdL words runs (signAt x i) = kb
        · exact .inr (Decidable.byContradiction fun z => hs ⟨q, fun e => z (q.trans e)⟩)
        · exact .inl q
      have hg := hcut.next hi hn (kdL_le ..) (Nat.le_of_eq hl1)
      have hbl := hcut.le
      have hfin : ts.length + 1 ≤ i + 1 := by omega
      clear hs
      rcases hn with hn | hn
      · have e1 : (kindName (kdL words runs (signAt x i)) == kindName kb) = false := kind_ne (kdL_le ..) hbl hn
        clear hcut hn
        generalize signAt x i = c at *
        k_steps
        all_goals (try (refine halt' ?_; (k_dflt (refine' c_kind _ _ _ _ _ _ _ _ _ _ _ _ _ _ _ _ _ _ _ _ _ _ _ _ _ _ _ _ _ ?k1 ?k2 ?k3 ?k4 ?k5 ?kK ?kd ?ku ?_; (case k1 => k_asm); (case k2 => k_asm); (case k3 => k_asm); (case k4 => k_asm); (case k5 => k_asm); (case kK => exact rfl); (case kd => ktr_room); (case ku => ktr_units); (intro t9 h9 tk9 F9 N9; (try dsimp only); (try k_fold)))); k_steps))
        with_reducible rename Fr _ _ _ _ => F5
        with_reducible rename News _ _ _ _ => N5
        refine halt' ?_
        rw [frC_end] at F5
        exact ⟨_, _, _, (tl, _) :: news, rfl, F5, N5, off2 _, _, _, _, _, _, _, _, rfl, rfl, hts.append' (.cons _ _ .nil), by rw [List.length_append]; exact hfin, hg⟩
      · have e2 : (kindName (kdL words runs (signAt x i)) != Str.ofString "alone") = false := by
          rw [hn]
          exact kind_zero'
        clear hcut hn
        generalize signAt x i = c at *
        k_steps
        all_goals (try (refine halt' ?_; (k_dflt (refine' c_kind _ _ _ _ _ _ _ _ _ _ _ _ _ _ _ _ _ _ _ _ _ _ _ _ _ _ _ _ _ ?k1 ?k2 ?k3 ?k4 ?k5 ?kK ?kd ?ku ?_; (case k1 => k_asm); (case k2 => k_asm); (case k3 => k_asm); (case k4 => k_asm); (case k5 => k_asm); (case kK => exact rfl); (case kd => ktr_room); (case ku => ktr_units); (intro t9 h9 tk9 F9 N9; (try dsimp only); (try k_fold)))); k_steps))
        all_goals (
          with_reducible rename Fr _ _ _ _ => F5
          with_reducible rename News _ _ _ _ => N5
          refine halt' ?_
          rw [frC_end] at F5
          exact ⟨_, _, _, (tl, _) :: news, rfl, F5, N5, off2 _, _, _, _, _, _, _, _, rfl, rfl, hts.append' (.cons _ _ .nil), by rw [List.length_append]; exact hfin, hg⟩)
  case fin =>
    rintro h' tk m' news' F N ⟨ts, tvs, kk, kb, tb, nv, sv, rfl, rfl, hts, htl, hcut⟩
    have e := hcut.last
    subst e
    clear hcut
    k_steps
    exact hret tl tvs kk _ _ hts l1 (by k_asm) (by k_asm)
end Mine
end
example {M : Model} {A : Around} {E : Value → Shared → Prop} {s : Shared} {env : Env} {p : Pos} {Q : Flow → Shared → Prop} (h : wpAny M A (exec (.Pass p) env) Q E s) : wpAny M A (exec (.Pass p) env) Q E s := by first | (walk1; fail) | exact h
section
open PySem PySem.W PyProof.Rows
set_option Elab.async false
set_option maxRecDepth 100000
set_option maxHeartbeats 4000000
namespace Mine
section
variable {prog : Program} {w : World} {A : Around} {E : Value → Shared → Prop} {s : Shared} {h₀ : Heap} {env : Env} {x : Str} {body : List Stmt} {Q : Flow → Shared → Prop} {m : Str → Option Value} {news : List (Addr × Obj)}
/-- a loop over the ints of a bytes -/
theorem loop_bytes {b : Array UInt8} {t : Tok} (hh : A.handled = none) (F : Fr h₀ env.locals s.heap m) (N : News h₀ env.locals s.heap news)
    (J : Nat → (Str → Option Value) → List (Addr × Obj) → Prop) (h0 : J 0 m news)
    (step : ∀ (i : Nat) c u m₁ news₁ I oI h tk, b[i]? = some c → J i m₁ news₁ → (∀ p ∈ news₁, p.1 ≠ I) → Fr h₀ env.locals h (fun y => if y = x then some (.int (c.toNat : Int) u) else m₁ y) → News h₀ env.locals h ((I, oI) :: news₁) →
      wpAny (model prog w) A (execs body env) (TurnEnd h₀ env.locals I oI (J (i + 1)) { s with heap := h, toks := tk } (fun v s' => Q (.ret v) s') fun s' => Q .next s') E { s with heap := h, toks := tk })
    (fin : ∀ h' tk m' news', Fr h₀ env.locals h' m' → News h₀ env.locals h' news' → J b.size m' news' → Q .next { s with heap := h', toks := tk }) :
    wpAny (model prog w) A (pyIter (.bytes b t)) (fun it s₂ => LoopAtV prog w A h₀ env x body Q E it s₂) E s := by
  refine KBw.pyIter_bytes ?_
  have up : ∀ (o : Obj) b o', s.heap.get? b = some o' → (s.heap.push o).get? b = some o' := fun o b o' e => Heap.get?_push_of_some _ e
  refine loop_one (KBw.walks hh s.heap.objs.size b t) (fun i h st => let ⟨o, ho, _⟩ := st; ⟨o, ho⟩) (Nat.ne_of_lt F.ns.lt) (next_is_new F) (fun p hp => Nat.ne_of_lt (Heap.lt_size (N p hp).1)) ⟨_, Heap.get?_push_size _ rfl, rfl, rfl⟩ (F.keeps (up _)) (N.grown (up _)) J h0 ?_ fin
  rintro i v m₁ news₁ oI h tk hi ⟨c, u, hc, rfl⟩ hJ off F₁ N₁
  exact step i c u m₁ news₁ _ oI h tk hc hJ off F₁ N₁
end
noncomputable abbrev frB (bs : List UInt8) (t : Tok) (ol : Addr) (lb lc : Value) (bv : Option Value) : Str → Option Value := fun y => if y = Str.ofString "leftchar" then some lc else if y = Str.ofString "leftbits" then some lb else if y = Str.ofString "b" then bv else if y = Str.ofString "out" then some (.ref ol) else if y = Str.ofString "newline" then some (.bool false) else if y = Str.ofString "bin_data" then some (.bytes bs.toArray t) else List.lookup y [(Str.ofString "data", Value.bytes bs.toArray t), (Str.ofString "newline", .bool false)].reverse
theorem frB_start {bs : List UInt8} {t : Tok} {ol : Addr} {lb lc : Value} : (fun y => if y = Str.ofString "leftchar" then some lc else if y = Str.ofString "leftbits" then some lb else if y = Str.ofString "out" then some (.ref ol) else if y = Str.ofString "newline" then some (.bool false) else if y = Str.ofString "bin_data" then some (.bytes bs.toArray t) else List.lookup y [(Str.ofString "data", Value.bytes bs.toArray t), (Str.ofString "newline", .bool false)].reverse) = frB bs t ol lb lc none := by
  funext y
  by_cases h : y = Str.ofString "b"
  · subst h; rfl
  · simp only [frB, if_neg h]
theorem frB_b {bs : List UInt8} {t : Tok} {ol : Addr} {lb lc v : Value} {bv : Option Value} : (fun y => if y = Str.ofString "b" then some v else frB bs t ol lb lc bv y) = frB bs t ol lb lc (some v) := by
  funext y
  unfold frB
  by_cases h : y = Str.ofString "b"
  · subst h; rfl
  · simp only [if_neg h]
theorem frB_turn {bs : List UInt8} {t : Tok} {ol : Addr} {lb lc a a' b : Value} {bv : Option Value} : (fun y => if y = Str.ofString "leftbits" then some a else if y = Str.ofString "leftbits" then some a' else if y = Str.ofString "leftchar" then some b else frB bs t ol lb lc bv y) = frB bs t ol a b bv := by
  funext y
  unfold frB
  by_cases h : y = Str.ofString "leftbits"
  · subst h; rfl
  · simp only [if_neg h]
    by_cases h2 : y = Str.ofString "leftchar"
    · subst h2; rfl
    · simp only [if_neg h2]
theorem frB_turn2 {bs : List UInt8} {t : Tok} {ol : Addr} {lb lc a a' a'' b : Value} {bv : Option Value} : (fun y => if y = Str.ofString "leftbits" then some a else if y = Str.ofString "leftbits" then some a' else if y = Str.ofString "leftbits" then some a'' else if y = Str.ofString "leftchar" then some b else frB bs t ol lb lc bv y) = frB bs t ol a b bv := by
  rw [← frB_turn (a := a) (a' := a'') (lb := lb) (lc := lc)]
  funext y
  by_cases h : y = Str.ofString "leftbits"
  · simp only [if_pos h]
  · simp only [if_neg h]
theorem and3 {lc : Nat} : Builtin.bitAnd (lc : Int) 3 = ((lc % 4 : Nat) : Int) := by
  rw [show (3 : Int) = ((3 : Nat) : Int) from rfl, bitAnd_nat, and_3]
theorem and15 {lc : Nat} : Builtin.bitAnd (lc : Int) 15 = ((lc % 16 : Nat) : Int) := by
  rw [show (15 : Int) = ((15 : Nat) : Int) from rfl, bitAnd_nat, and_15]
theorem w_end2 {lc : Nat} : Builtin.bitAnd (lc : Int) 3 * 2 ^ Int.toNat 4 = ((lc % 4 * 16 : Nat) : Int) := by
  rw [show (3 : Int) = ((3 : Nat) : Int) from rfl, bitAnd_nat, and_3, show Int.toNat 4 = 4 from rfl, show ((2 : Int) ^ 4) = 16 by decide]; omega
theorem w_end4 {lc : Nat} : Builtin.bitAnd (lc : Int) 15 * 2 ^ Int.toNat 2 = ((lc % 16 * 4 : Nat) : Int) := by
  rw [show (15 : Int) = ((15 : Nat) : Int) from rfl, bitAnd_nat, and_15, show Int.toNat 2 = 2 from rfl, show ((2 : Int) ^ 2) = 4 by decide]; omega
theorem of0 {bs : List UInt8} (h : (b64at bs bs.length).2.1 = 0) : b64of bs = (b64at bs bs.length).1 := by
  unfold b64of b64end
  rw [if_neg (by omega), if_neg (by omega)]
theorem of2 {bs : List UInt8} (h : (b64at bs bs.length).2.1 = 2) : b64of bs = (b64at bs bs.length).1 ++ [sg64 ((b64at bs bs.length).2.2 % 4 * 16)] ++ [61] ++ [61] := by
  unfold b64of b64end
  rw [if_pos h]
theorem of4 {bs : List UInt8} (h : (b64at bs bs.length).2.1 = 4) : b64of bs = (b64at bs bs.length).1 ++ [sg64 ((b64at bs bs.length).2.2 % 16 * 4)] ++ [61] := by
  unfold b64of b64end
  rw [if_neg (by omega), if_pos h]
local macro_rules | `(tactic| walk_at "call type:type") => `(tactic| ((with_reducible show wpAny _ _ (call _ [Value.bytes _ _]) _ _ _); refine call_type_of (Tx := "bytes") rfl (by decide +kernel) ?_))
local macro_rules | `(tactic| walk_at "exec For Name Name cons nil") => `(tactic| (k_here; (rename Fr _ _ _ _ => lF'); (with_unfolding_all refine' For_invVF lF' ?k1 ?k2 ?_; (case k1 => exact rfl); (case k2 => exact rfl); k_whole)))
local macro_rules | `(tactic| walk_at "pyIter bytes") => `(tactic| refine halt ?_)
local macro_rules | `(tactic| walk_at "call type:bytes") => `(tactic| refine halt ?_)
local macro_rules | `(tactic| walk_at "subscriptTail") => `(tactic| ((with_reducible show wpAny _ _ (subscriptTail _ _ (Value.bytes _ _) _) _ _ _); refine halt ?_))
local macro_rules | `(tactic| walk_at "getMethod ref") => `(tactic| (k_here; k_dflt (refine' list_getN PySem.F.slot_list_append PySem.F.type_list_append ?k1 ?k2 ?_; (case k1 => k_asm); (case k2 => k_mem); k_whole)))
local macro_rules | `(tactic| walk_at "call builtin:list.append") => `(tactic| (k_here; k_dflt (refine' append_V ?k1 ?k2 ?k3 ?k4 ?_; (case k1 => k_asm); (case k2 => k_asm); (case k3 => k_upd); (case k4 => first | assumption | (simp only [List.length_append, List.length_cons, List.length_nil]; omega)); k_whole); intro h' F' N'; (try k_sweep)))
theorem item64 {prog : Program} {w : World} {A : Around} {E : Value → Shared → Prop} {s : Shared} {value slice : PySem.Expr} {t ui : Tok} {Q : Value → Shared → Prop} {f : Nat} (hf : f < 64) (h : ∀ t' tk, Q (.int (sg64 f) t') { s with toks := tk })
    (hs : subscripted slice false (.bytes b64tab.toArray t) (.int (f : Int) ui) = operate [.bytes b64tab.toArray t, .int (f : Int) ui] (getItem (.bytes b64tab.toArray t) (.int (f : Int) ui)) := by with_unfolding_all rfl)
    (ht : ∀ r, letTemporaryGo value (.bytes b64tab.toArray t) r = pure () := by intro _; with_unfolding_all rfl) :
    wpAny (model prog w) A (subscriptTail value slice (.bytes b64tab.toArray t) (.int (f : Int) ui)) Q E s :=
  KBy.item_N (by decide) (by omega) (by show (f : Int) < 64; omega) (h _ _) hs ht
theorem c_b2a (w : World) (bs : List UInt8) (t : Tok) (news : List (Addr × Obj)) (hle : bs.length ≤ 1000) :
   CalledKw w 748 [.bytes bs.toArray t] [(Str.ofString "newline", .bool false)] news 6 (RetV news fun t => .bytes (byteArr (b64of bs)) t) := by
  dsimp only [CalledKw, RetV, thePg]
  k_fill
  intros
  rename_i hret
  refine wpAny_call ?_
  k_dflt (refine' code_def (binds := [(Str.ofString "data", .bytes bs.toArray t), (Str.ofString "newline", .bool false)]) ?k1 ?k2 ?k3 ?k4 ?k5 ?kA ?kF ?kK ?k6 ?k7 ?k8 ?k9 ?kB ?_ ?c2 ?c3 ?c4 ?c5; (case kA => exact rfl); (case kF => exact rfl); (case kK => assumption); (case k1 => k_asm); (case k2 => k_asm); (case k3 => k_asm); (case k4 => k_asm); (case k5 => k_asm); (case k6 => k_is); (case k7 => k_is); (case k8 => ktr_room); (case k9 => first | exact BindsTo.of_eq rfl | exact binds_K (by k_in) rfl (by k_is) rfl rfl rfl); (case c5 => decide); (case kB => exact locs rfl); (case c2 => exact rfl); (case c3 => exact rfl); (case c4 => exact rfl); k_whole; intro g' L' h' FG' F' N' B' X' T'; (try dsimp only))
  refine let_all ?_
  intro v9 Q9 E9
  k_steps
  with_reducible rename Fr _ _ _ _ => F9
  with_reducible rename News _ _ _ _ => N9
  with_reducible rename Below _ _ _ _ => B9
  with_reducible rename Frag.In _ _ => X9
  with_reducible rename Top _ _ _ _ _ _ => T9
  with_reducible rename ∀ p ∈ news, _ => l9
  rename_i ol q1 q2 q3 q4 q5 q6 q7
  have hol : ∀ p ∈ news, p.1 ≠ ol := fun p hp => Nat.ne_of_lt (l9 p hp)
  rw [frB_start] at F9
  have hok := b64ok_at bs
  refine halt' (loop_bytes rfl F9 N9 (fun i m news' => ∃ (lb lc : Nat) (t1 t2 : Tok) (bv : Option Value) (vs : List Value) (k : Nat), lb = (b64at bs i).2.1 ∧ lc = (b64at bs i).2.2 ∧ IntsAre vs (b64at bs i).1 ∧ news' = (ol, listOf vs.toArray k) :: news ∧ m = frB bs t ol (.int (lb : Int) t1) (.int (lc : Int) t2) bv) ⟨0, 0, _, _, none, [], 0, rfl, rfl, .nil, rfl, rfl⟩ ?step ?fin)
  case step =>
    rintro i c u m₁ news₁ I oI h tk hc ⟨lb, lc, t1, t2, bv, vs, k, hlb, hlc, hvs, rfl, rfl⟩ off F N
    have hc' : bs[i]? = some c := by simpa using hc
    have hi : i < bs.length := (List.getElem?_eq_some_iff.mp hc').1
    obtain ⟨o1, o2, o3, -⟩ := hok i (Nat.le_of_lt hi)
    have hst := b64at_succ hc'
    generalize b64at bs i = st at *
    have hz : vs.length ≤ 100000 := by rw [hvs.length]; omega
    have hvsH : Halt (IntsAre vs st.1) := hvs
    have h4 : c.toNat < 256 := c.toNat_lt
    have g1 : (0 : Int) ≤ (lc : Int) := by omega
    have g2 : (lc : Int) ≤ 65535 := by omega
    have g3 : (0 : Int) ≤ (c.toNat : Int) := by omega
    have g4 : (c.toNat : Int) < 256 := by omega
    have hID : @Ne Nat I ol := Ne.symm (off (ol, listOf vs.toArray k) (.head _))
    clear hvs F9 N9 hok
    rw [frB_b] at F
    have eo : ∀ (vs' : List Value) k', ∀ p ∈ (ol, listOf vs'.toArray k') :: news, p.1 ≠ I := fun vs' k' p hp => by
      rcases List.mem_cons.mp hp with rfl | hp
      · exact Ne.symm hID
      · exact off p (.tail _ hp)
    rcases (hlb ▸ o1 : lb = 0 ∨ lb = 2 ∨ lb = 4) with e | e | e
    · subst e
      rw [show ((0 : Nat) : Int) = 0 from rfl] at F
      k_steps
      with_reducible rename Fr _ _ _ _ => F8
      rw [w_char lc c.toNat h4] at F8
      rw [w_char lc c.toNat h4, w_idx (lc % 256 * 256 + c.toNat) _ 4 (by decide)]
      refine halt' (item64 (Nat.mod_lt _ (by decide)) ?_)
      intro u1 tk1
      k_steps
      with_reducible rename Fr _ _ _ _ => F7
      with_reducible rename News _ _ _ _ => N7
      rw [frB_turn] at F7
      rw [step0 hlb.symm, ← hlc] at hst
      refine halt' ⟨_, _, _, (ol, _) :: news, rfl, F7, N7, eo _ _, 2, _, _, _, _, _, _, by rw [hst], by rw [hst], by rw [hst]; exact hvsH.append (.cons _ _ .nil), rfl, rfl⟩
    · subst e
      rw [show ((2 : Nat) : Int) = 2 from rfl] at F
      k_steps
      with_reducible rename Fr _ _ _ _ => F8
      rw [w_char lc c.toNat h4] at F8
      rw [w_char lc c.toNat h4, w_idx (lc % 256 * 256 + c.toNat) _ 16 (by decide)]
      refine halt' (item64 (Nat.mod_lt _ (by decide)) ?_)
      intro u1 tk1
      k_steps
      with_reducible rename Fr _ _ _ _ => F7
      with_reducible rename News _ _ _ _ => N7
      rw [frB_turn] at F7
      rw [step2 hlb.symm, ← hlc] at hst
      refine halt' ⟨_, _, _, (ol, _) :: news, rfl, F7, N7, eo _ _, 4, _, _, _, _, _, _, by rw [hst], by rw [hst], by rw [hst]; exact hvsH.append (.cons _ _ .nil), rfl, rfl⟩
    · subst e
      rw [show ((4 : Nat) : Int) = 4 from rfl] at F
      k_steps
      with_reducible rename Fr _ _ _ _ => F8
      rw [w_char lc c.toNat h4] at F8
      rw [w_char lc c.toNat h4, w_idx (lc % 256 * 256 + c.toNat) _ 64 (by decide)]
      refine halt' (item64 (Nat.mod_lt _ (by decide)) ?_)
      intro u1 tk1
      have hz2 : (vs ++ [Value.int (sg64 ((lc % 256 * 256 + c.toNat) / 64 % 64)) u1]).length ≤ 100000 := by rw [List.length_append, hvsH.length]; show _ + 1 ≤ _; omega
      k_steps
      rw [w_idx (lc % 256 * 256 + c.toNat) _ 1 (by decide), Nat.div_one]
      refine halt' (item64 (Nat.mod_lt _ (by decide)) ?_)
      intro u2 tk2
      k_steps
      with_reducible rename Fr _ _ _ _ => F7
      with_reducible rename News _ _ _ _ => N7
      rw [frB_turn2] at F7
      rw [step4 hlb.symm, ← hlc] at hst
      refine halt' ⟨_, _, _, (ol, _) :: news, rfl, F7, N7, eo _ _, 0, _, _, _, _, _, _, by rw [hst], by rw [hst], by rw [hst]; exact (hvsH.append (.cons _ _ .nil)).append (.cons _ _ .nil), rfl, rfl⟩
  case fin =>
    rintro h' tk m' news' F N ⟨lb, lc, t1, t2, bv, vs, k, hlb, hlc, hvs, rfl, rfl⟩
    have hsz : bs.toArray.size = bs.length := by simp
    rw [hsz] at hlb hlc hvs
    obtain ⟨o1, o2, o3, -⟩ := hok bs.length (Nat.le_refl _)
    have hby := b64of_byte bs
    have hln := b64of_len bs
    have hz : vs.length ≤ 100000 := by rw [hvs.length]; omega
    have hvsH : Halt (IntsAre vs (b64at bs bs.length).1) := hvs
    have g1 : (0 : Int) ≤ (lc : Int) := by omega
    have g2 : (lc : Int) ≤ 65535 := by omega
    clear hvs F9 N9 hok
    have hz9 : vs.length ≤ 9000 := by rw [hvsH.length]; omega
    rcases (hlb ▸ o1 : lb = 0 ∨ lb = 2 ∨ lb = 4) with e | e | e
    · subst e
      rw [show ((0 : Nat) : Int) = 0 from rfl] at F
      k_steps
      with_reducible rename Fr _ _ _ _ => F7
      with_reducible rename News _ _ _ _ => N7
      rw [of0 hlb.symm] at hby hln hret
      refine halt' (bytes_K (ns := (b64at bs bs.length).1) F7 N7 ⟨_, (N7 _ (.head _)).1, rfl, _, rfl⟩ hvsH hby (by rw [PySem.sizeLine_eq]; first | omega | (have := hln; simp only [List.length_append, List.length_cons, List.length_nil] at this ⊢; omega)) rfl ?_)
      intro h8 t8 k8 F6 N6 _
      k_steps
      with_reducible rename Fr _ _ _ _ => F4
      with_reducible rename News _ _ _ _ => N4
      exact hret _ _ _ F4 (news_tail N4)
    · subst e
      rw [show ((2 : Nat) : Int) = 2 from rfl] at F
      have q1 : (0 : Int) ≤ Builtin.bitAnd (lc : Int) 3 := by rw [and3]; omega
      have q2 : Builtin.bitAnd (lc : Int) 3 ≤ 3 := by rw [and3]; omega
      k_steps
      rw [w_end2]
      refine halt' (item64 (by omega) ?_)
      intro u1 tk1
      k_steps
      with_reducible rename Fr _ _ _ _ => F7
      with_reducible rename News _ _ _ _ => N7
      have e := of2 hlb.symm
      rw [← hlc] at e
      rw [e] at hby hln hret
      refine halt' (bytes_K (ns := (b64at bs bs.length).1 ++ [sg64 (lc % 4 * 16)] ++ [61] ++ [61]) F7 N7 ⟨_, (N7 _ (.head _)).1, rfl, _, rfl⟩ (((hvsH.append (.cons _ _ .nil)).append (.cons _ _ .nil)).append (.cons _ _ .nil)) hby (by rw [PySem.sizeLine_eq]; first | omega | (have := hln; simp only [List.length_append, List.length_cons, List.length_nil] at this ⊢; omega)) rfl ?_)
      intro h8 t8 k8 F6 N6 _
      k_steps
      with_reducible rename Fr _ _ _ _ => F4
      with_reducible rename News _ _ _ _ => N4
      exact hret _ _ _ F4 (news_tail N4)
    · subst e
      rw [show ((4 : Nat) : Int) = 4 from rfl] at F
      have q1 : (0 : Int) ≤ Builtin.bitAnd (lc : Int) 15 := by rw [and15]; omega
      have q2 : Builtin.bitAnd (lc : Int) 15 ≤ 15 := by rw [and15]; omega
      k_steps
      rw [w_end4]
      refine halt' (item64 (by omega) ?_)
      intro u1 tk1
      k_steps
      with_reducible rename Fr _ _ _ _ => F7
      with_reducible rename News _ _ _ _ => N7
      have e := of4 hlb.symm
      rw [← hlc] at e
      rw [e] at hby hln hret
      refine halt' (bytes_K (ns := (b64at bs bs.length).1 ++ [sg64 (lc % 16 * 4)] ++ [61]) F7 N7 ⟨_, (N7 _ (.head _)).1, rfl, _, rfl⟩ ((hvsH.append (.cons _ _ .nil)).append (.cons _ _ .nil)) hby (by rw [PySem.sizeLine_eq]; first | omega | (have := hln; simp only [List.length_append, List.length_cons, List.length_nil] at this ⊢; omega)) rfl ?_)
      intro h8 t8 k8 F6 N6 _
      k_steps
      with_reducible rename Fr _ _ _ _ => F4
      with_reducible rename News _ _ _ _ => N4
      exact hret _ _ _ F4 (news_tail N4)
end Mine
end
example {M : Model} {A : Around} {E : Value → Shared → Prop} {s : Shared} {env : Env} {p : Pos} {Q : Flow → Shared → Prop} (h : wpAny M A (exec (.Pass p) env) Q E s) : wpAny M A (exec (.Pass p) env) Q E s := by first | (walk1; fail) | exact h
section
open PySem PySem.W PyProof.Rows
set_option Elab.async false
set_option maxRecDepth 100000
set_option maxHeartbeats 4000000
namespace Mine
theorem enc_method {M : Model} {A : Around} {E : Value → Shared → Prop} {s : Shared} {x : Str} {t : Tok} {pl : Sem Bool} {Q : Value × List Value → Shared → Prop} (h : Q (.builtin "str.encode", [.str x t]) s) : wpAny M A (getMethod (.str x t) (Str.ofString "encode") pl) Q E s := by
  with_reducible refine getMethod_builtin (T := "str") ?ma F.plainAttrs_str F.slot_str_encode F.type_str_encode ?mb h
  case ma => rfl
  case mb => exact fun _ e => nomatch e
theorem cut_P {tx : Str} (hal : Wri tx) : cut (kdP wordsP) none (sg tx 0 tx.length) = cut (kdL (letters ++ Str.ofString "_") (Str.ofString "")) none (sg tx 0 tx.length) := (cut_eq fun c hc => kdP_word (hal c hc)).symm
theorem cut_PX {tx : Str} (hal : Wri tx) : cut (kdP (wordsP ++ wordsX)) none (sg tx 0 tx.length) = cut (kdL (letters ++ Str.ofString "_") (Str.ofString "")) none (sg tx 0 tx.length) := (cut_eq fun c hc => kdP_wordX (hal c hc)).symm
theorem news_mid {h₀ h : Heap} {L : Addr} {p : Addr × Obj} {own news : List (Addr × Obj)} (N : News h₀ L h (p :: (own ++ news))) : News h₀ L h (own ++ (p :: news)) := fun q hq => N q (by simp only [List.mem_append, List.mem_cons] at hq ⊢; rcases hq with h | h | h <;> simp [h])
theorem news_drop {h₀ h : Heap} {L : Addr} {own news : List (Addr × Obj)} (N : News h₀ L h (own ++ news)) : News h₀ L h news := fun q hq => N q (List.mem_append_right _ hq)
theorem end_eq (posix : Bool) : ∀ v u, isEndP posix v → isEndP posix u → PySem.MeetsSeq.EqGives v u true := by
  intro v u hv hu
  cases posix with
  | true =>
    obtain rfl : v = .none := hv
    obtain rfl : u = .none := hu
    intro prog w A E s Q h
    unfold eqBool
    refine wpAny_holding ?_
    rw [if_pos (by rfl)]
    exact wpAny_bind (wpAny_rule (wpAny_pure h))
  | false =>
    obtain ⟨t, rfl⟩ : ∃ t, v = .str (Str.ofString "") t := hv
    obtain ⟨t', rfl⟩ : ∃ t, u = .str (Str.ofString "") t := hu
    exact eqGives_str _ _ _
theorem off_all {w : World} {x dx : Addr} {as : List Addr} {isEnd : Value → Prop} {Own : List Str → List (Addr × Obj) → Prop} (LX : Lexer w x dx as isEnd Own) {ts : List Str} {own news : List (Addr × Obj)} (hO : Own ts own) (hoff : ∀ p ∈ news, p.1 ∉ as) {tl : Addr} {o : Obj} (hlt : ∀ p ∈ own ++ news, p.1 < tl) : ∀ p ∈ (tl, o) :: news, p.1 ∉ as := by
  intro p hp
  rcases List.mem_cons.mp hp with rfl | hp
  · intro ha
    obtain ⟨o', ho'⟩ := (LX.at_ _ _ hO tl).mp ha
    exact absurd (hlt _ (List.mem_append_left _ ho')) (Nat.lt_irrefl _)
  · exact hoff p hp
local macro_rules | `(tactic| walk_at "call ref") => `(tactic| first | (refine halt_call (by with_reducible assumption) ?_) | (refine halt_callW (by with_reducible assumption) ?_))
local macro_rules | `(tactic| walk_at "call type:type") => `(tactic| ((with_reducible show wpAny _ _ (call _ [Value.bytes _ _]) _ _ _); refine call_type_of (Tx := "bytes") rfl (by decide +kernel) ?_))
theorem c_plain0 (w : World) (tx : Str) (wb : List UInt8) (t u : Tok) (news : List (Addr × Obj)) (hw : wb.toArray = asBytes tx) (hal : Wri tx) (hlen : tx.length ≤ 100) (hne : wb ≠ []) :
   Called w 902 [.bytes wb.toArray t, .str tx u, .bool false] news 20 (RetV news fun _ => .bool true) := by
  have hcmp : (wb.toArray.toList != (asBytes tx).toList) = false := by rw [hw]; simp
  have hwl : wb.length ≤ 100000 := by
    have e := congrArg Array.size hw
    rw [List.size_toArray] at e
    have e2 : (asBytes tx).size = tx.length := by unfold asBytes; simp [Str.length]
    omega
  have st1 : Stop 722 := stop
  have st2 : Stop 883 := stop
  have st3 : Stop 895 := stop
  dsimp only [Called, RetV, thePg]
  k_fill
  intros
  rename_i hret
  refine wpAny_call ?_
  k_dflt (refine' code_def (binds := [(Str.ofString "writing", .bytes wb.toArray t), (Str.ofString "text", .str tx u), (Str.ofString "posix", .bool false)]) ?k1 ?k2 ?k3 ?k4 ?k5 ?kA ?kF ?kK ?k6 ?k7 ?k8 ?k9 ?kB ?_ ?c2 ?c3 ?c4 ?c5; (case kA => exact rfl); (case kF => exact rfl); (case kK => assumption); (case k1 => k_asm); (case k2 => k_asm); (case k3 => k_asm); (case k4 => k_asm); (case k5 => k_asm); (case k6 => k_is); (case k7 => k_is); (case k8 => ktr_room); (case k9 => first | exact BindsTo.of_eq rfl | exact binds_K (by k_in) rfl (by k_is) rfl rfl rfl); (case c5 => decide); (case kB => exact locs rfl); (case c2 => exact rfl); (case c3 => exact rfl); (case c4 => exact rfl); k_whole; intro g' L' h' FG' F' N' B' X' T'; (try dsimp only))
  refine let_all ?_
  intro v9 Q9 E9
  k_steps
  refine enc_method ?_
  k_steps
  refine enc_call hal.lt (by omega) ?_
  intro t1 k1
  k_steps
  refine dec_call (low_of hal hw) hwl hne ?_
  intro t2 k2
  rw [back_id hal hw]
  k_steps
  with_reducible rename Fr _ _ _ _ => F9
  with_reducible rename News _ _ _ _ => N9
  with_reducible rename Below _ _ _ _ => B9
  with_reducible rename Frag.In _ _ => X9
  with_reducible rename Top _ _ _ _ _ _ => T9
  refine halt' ?_
  refine c_mk0 w tx t2 news (by omega) hal.good _ _ _ _ _ _ _ _ _ _ _ _ _ _ _ _ _ _ _ _ _ B9 F9 X9 N9 T9 rfl (by ktr_room) (by ktr_units) ?_
  intro x as own h9 tk9 hL hoff F8 N8
  clear F9 N9
  rw [cut_P hal] at hL
  k_steps
  with_reducible rename Fr _ _ _ _ => F9
  with_reducible rename News _ _ _ _ => N9
  refine halt' ?_
  refine c_cut w tx (letters ++ Str.ofString "_") (Str.ofString "") _ _ _ (own ++ news) (by omega) _ _ _ _ _ _ _ _ _ _ _ _ _ _ _ _ _ _ _ _ _ B9 F9 X9 N9 T9 rfl (by ktr_room) (by ktr_units) ?_
  intro tl tvs k h7 tk7 htv hlt F7 N7
  clear F9 N9
  k_steps
  have N9 := news_mid N7
  clear N7
  with_reducible rename Fr _ _ _ _ => F9
  obtain ⟨dx, Own, LX, hO⟩ := hL
  refine halt' ?_
  refine c_same w x dx as (isEndP false) Own LX _ own ((tl, listOf tvs.toArray k) :: news) hO (off_all LX hO hoff hlt) (cut_small hlen) tl tvs k (.head _) htv _ ⟨_, rfl⟩ (end_eq false) _ _ _ _ _ _ _ _ _ _ _ _ _ _ _ _ _ _ _ _ _ B9 F9 X9 N9 T9 rfl (by ktr_room) (by ktr_units) ?_
  intro own' h5 tk5 hO5 F5 N5
  have N6 := news_tail (news_drop N5)
  clear F9 N9 N5 htv hlt LX hO hO5
  k_steps
  exact hret 0 _ _ (by k_asm) (by k_asm)
theorem c_plain1 (w : World) (tx : Str) (wb : List UInt8) (t u : Tok) (news : List (Addr × Obj)) (hw : wb.toArray = asBytes tx) (hal : Wri tx) (hlen : tx.length ≤ 100) (hne : wb ≠ []) :
   Called w 902 [.bytes wb.toArray t, .str tx u, .bool true] news 20 (RetV news fun _ => .bool true) := by
  have hcmp : (wb.toArray.toList != (asBytes tx).toList) = false := by rw [hw]; simp
  have hwl : wb.length ≤ 100000 := by
    have e := congrArg Array.size hw
    rw [List.size_toArray] at e
    have e2 : (asBytes tx).size = tx.length := by unfold asBytes; simp [Str.length]
    omega
  have st1 : Stop 722 := stop
  have st2 : Stop 883 := stop
  have st3 : Stop 895 := stop
  dsimp only [Called, RetV, thePg]
  k_fill
  intros
  rename_i hret
  refine wpAny_call ?_
  k_dflt (refine' code_def (binds := [(Str.ofString "writing", .bytes wb.toArray t), (Str.ofString "text", .str tx u), (Str.ofString "posix", .bool true)]) ?k1 ?k2 ?k3 ?k4 ?k5 ?kA ?kF ?kK ?k6 ?k7 ?k8 ?k9 ?kB ?_ ?c2 ?c3 ?c4 ?c5; (case kA => exact rfl); (case kF => exact rfl); (case kK => assumption); (case k1 => k_asm); (case k2 => k_asm); (case k3 => k_asm); (case k4 => k_asm); (case k5 => k_asm); (case k6 => k_is); (case k7 => k_is); (case k8 => ktr_room); (case k9 => first | exact BindsTo.of_eq rfl | exact binds_K (by k_in) rfl (by k_is) rfl rfl rfl); (case c5 => decide); (case kB => exact locs rfl); (case c2 => exact rfl); (case c3 => exact rfl); (case c4 => exact rfl); k_whole; intro g' L' h' FG' F' N' B' X' T'; (try dsimp only))
  refine let_all ?_
  intro v9 Q9 E9
  k_steps
  refine enc_method ?_
  k_steps
  refine enc_call hal.lt (by omega) ?_
  intro t1 k1
  k_steps
  refine dec_call (low_of hal hw) hwl hne ?_
  intro t2 k2
  rw [back_id hal hw]
  k_steps
  with_reducible rename Fr _ _ _ _ => F9
  with_reducible rename News _ _ _ _ => N9
  with_reducible rename Below _ _ _ _ => B9
  with_reducible rename Frag.In _ _ => X9
  with_reducible rename Top _ _ _ _ _ _ => T9
  refine halt' ?_
  refine c_mk1 w tx t2 news (by omega) hal.good _ _ _ _ _ _ _ _ _ _ _ _ _ _ _ _ _ _ _ _ _ B9 F9 X9 N9 T9 rfl (by ktr_room) (by ktr_units) ?_
  intro x as own h9 tk9 hL hoff F8 N8
  clear F9 N9
  rw [cut_PX hal] at hL
  k_steps
  with_reducible rename Fr _ _ _ _ => F9
  with_reducible rename News _ _ _ _ => N9
  refine halt' ?_
  refine c_cut w tx (letters ++ Str.ofString "_") (Str.ofString "") _ _ _ (own ++ news) (by omega) _ _ _ _ _ _ _ _ _ _ _ _ _ _ _ _ _ _ _ _ _ B9 F9 X9 N9 T9 rfl (by ktr_room) (by ktr_units) ?_
  intro tl tvs k h7 tk7 htv hlt F7 N7
  clear F9 N9
  k_steps
  have N9 := news_mid N7
  clear N7
  with_reducible rename Fr _ _ _ _ => F9
  obtain ⟨dx, Own, LX, hO⟩ := hL
  refine halt' ?_
  refine c_same w x dx as (isEndP true) Own LX _ own ((tl, listOf tvs.toArray k) :: news) hO (off_all LX hO hoff hlt) (cut_small hlen) tl tvs k (.head _) htv _ rfl (end_eq true) _ _ _ _ _ _ _ _ _ _ _ _ _ _ _ _ _ _ _ _ _ B9 F9 X9 N9 T9 rfl (by ktr_room) (by ktr_units) ?_
  intro own' h5 tk5 hO5 F5 N5
  have N6 := news_tail (news_drop N5)
  clear F9 N9 N5 htv hlt LX hO hO5
  k_steps
  exact hret 0 _ _ (by k_asm) (by k_asm)
end Mine
end
example {M : Model} {A : Around} {E : Value → Shared → Prop} {s : Shared} {env : Env} {p : Pos} {Q : Flow → Shared → Prop} (h : wpAny M A (exec (.Pass p) env) Q E s) : wpAny M A (exec (.Pass p) env) Q E s := by first | (walk1; fail) | exact h
section
open PySem PySem.W PyProof.Rows
set_option Elab.async false
set_option maxRecDepth 100000
set_option maxHeartbeats 4000000
namespace Mine
noncomputable abbrev GivesLexer (w : World) (kd : Str → Nat) (buf : Str) (news : List (Addr × Obj)) : Heap → Addr → (Str → Option Value) → Shared → (Value → Shared → Prop) → Prop := fun h₀ L m s Q => ∀ x as own h' tk', IsLexer w x as (isEndP false) (cut kd none (sg buf 0 buf.length)) own → (∀ p ∈ news, p.1 ∉ as) → Fr h₀ L h' m → News h₀ L h' (own ++ news) → Q (.ref x) { s with heap := h', toks := tk' }
theorem c_mkA (w : World) (buf : Str) (tb : Tok) (news : List (Addr × Obj)) (hb : buf.length ≤ 900) (good : ∀ k, k < buf.length → Good (signAt buf k)) (pch : Str) (tc : Tok) (hpp : 1 ≤ pch.length) (hpl : pch.length ≤ 1000) (hpa : pch.cps.all (· < 128) = true) (hpd : pch.cps.toList.Nodup) :
    CalledKw w 722 [.str buf tb] [(Str.ofString "punctuation_chars", .str pch tc)] news 9 (GivesLexer w (kdQ (without wordsQ pch) pch false) buf news) := by
  intro loose mean mg mb dp un gd cn cs a ccd cl outer A₀ base h₀ L m s Q E B F X N T hk hd hu hret
  refine c_mk2 w buf tb news hb pch tc hpp hpl hpa hpd _ _ _ _ _ _ _ _ _ _ _ _ _ _ _ _ _ _ _ _ _ B F X N T hk hd hu ?_
  intro tk te tp ts tt x dx sx sdx pb fs pc h' tk' l0 a1 a2 a3 a4 a5 a6 F8 N8
  obtain ⟨h1, h2⟩ := lex_pack w buf news hb good false (tk := tk) (te := te) (tp := tp) (ts := ts) (tt := tt) l0 a1 a2 a3 a4 a5 a6 hpp hpl (dis_of (words := wordsQ) (pch := pch))
  exact hret x _ _ _ _ h1 h2 F8 N8
theorem c_mkB (w : World) (buf : Str) (tb : Tok) (news : List (Addr × Obj)) (hb : buf.length ≤ 900) (good : ∀ k, k < buf.length → Good (signAt buf k)) :
    CalledKw w 722 [.str buf tb] [(Str.ofString "punctuation_chars", .bool true)] news 9 (GivesLexer w (kdQ (without wordsQ usual) usual false) buf news) := by
  intro loose mean mg mb dp un gd cn cs a ccd cl outer A₀ base h₀ L m s Q E B F X N T hk hd hu hret
  refine c_mk3 w buf tb news hb _ _ _ _ _ _ _ _ _ _ _ _ _ _ _ _ _ _ _ _ _ B F X N T hk hd hu ?_
  intro tk te tp ts tt x dx sx sdx pb fs pc h' tk' l0 a1 a2 a3 a4 a5 a6 F8 N8
  obtain ⟨h1, h2⟩ := lex_pack w buf news hb good false (tk := tk) (te := te) (tp := tp) (ts := ts) (tt := tt) l0 a1 a2 a3 a4 a5 a6 (by decide +kernel) (by decide +kernel) (dis_of (words := wordsQ) (pch := usual))
  exact hret x _ _ _ _ h1 h2 F8 N8
local macro_rules | `(tactic| walk_at "call ref") => `(tactic| first | (refine halt_call (by with_reducible assumption) ?_) | (refine halt_callW (by with_reducible assumption) ?_))
local macro_rules | `(tactic| walk_at "call type:type") => `(tactic| ((with_reducible show wpAny _ _ (call _ [Value.bytes _ _]) _ _ _); refine call_type_of (Tx := "bytes") rfl (by decide +kernel) ?_))
theorem c_runs (w : World) (tx pair : Str) (wb : List UInt8) (t u v : Tok) (news : List (Addr × Obj)) (hw : wb.toArray = asBytes tx) (hal : Wri tx) (hlen : tx.length ≤ 100) (hne : wb ≠ [])
   (hpr : ∀ c ∈ tx.cps.toList, c ∈ (letters ++ Str.ofString "=").cps.toList ∨ c ∈ pair.cps.toList) (hpp : 1 ≤ pair.length) (hpl : pair.length ≤ 1000) (hpa : pair.cps.all (· < 128) = true) (hpd : pair.cps.toList.Nodup) :
   Called w 909 [.bytes wb.toArray t, .str tx u, .str pair v] news 22 (RetV news fun _ => .bool true) := by
  have hcmp : (wb.toArray.toList != (asBytes tx).toList) = false := by rw [hw]; simp
  have hwl : wb.length ≤ 100000 := by
    have e := congrArg Array.size hw
    rw [List.size_toArray] at e
    have e2 : (asBytes tx).size = tx.length := by unfold asBytes; simp [Str.length]
    omega
  have st1 : Stop 722 := stop
  have st2 : Stop 883 := stop
  have st3 : Stop 895 := stop
  dsimp only [Called, RetV, thePg]
  k_fill
  intros
  rename_i hret
  refine wpAny_call ?_
  k_dflt (refine' code_def (binds := [(Str.ofString "writing", .bytes wb.toArray t), (Str.ofString "text", .str tx u), (Str.ofString "pair", .str pair v)]) ?k1 ?k2 ?k3 ?k4 ?k5 ?kA ?kF ?kK ?k6 ?k7 ?k8 ?k9 ?kB ?_ ?c2 ?c3 ?c4 ?c5; (case kA => exact rfl); (case kF => exact rfl); (case kK => assumption); (case k1 => k_asm); (case k2 => k_asm); (case k3 => k_asm); (case k4 => k_asm); (case k5 => k_asm); (case k6 => k_is); (case k7 => k_is); (case k8 => ktr_room); (case k9 => first | exact BindsTo.of_eq rfl | exact binds_K (by k_in) rfl (by k_is) rfl rfl rfl); (case c5 => decide); (case kB => exact locs rfl); (case c2 => exact rfl); (case c3 => exact rfl); (case c4 => exact rfl); k_whole; intro g' L' h' FG' F' N' B' X' T'; (try dsimp only))
  refine let_all ?_
  intro v9 Q9 E9
  k_steps
  refine enc_method ?_
  k_steps
  refine enc_call hal.lt (by omega) ?_
  intro t1 k1
  k_steps
  refine dec_call (low_of hal hw) hwl hne ?_
  intro t2 k2
  rw [back_id hal hw]
  k_steps
  with_reducible rename Fr _ _ _ _ => F9
  with_reducible rename News _ _ _ _ => N9
  with_reducible rename Below _ _ _ _ => B9
  with_reducible rename Frag.In _ _ => X9
  with_reducible rename Top _ _ _ _ _ _ => T9
  refine halt' ?_
  refine c_mkA w tx t2 news (by omega) hal.good pair v hpp hpl hpa hpd _ _ _ _ _ _ _ _ _ _ _ _ _ _ _ _ _ _ _ _ _ B9 F9 X9 N9 T9 rfl (by ktr_room) (by ktr_units) ?_
  intro x as own h9 tk9 hL hoff F8 N8
  clear F9 N9
  rw [← cut_eq fun c hc => kdQ_pair (hpr c hc)] at hL
  k_steps
  with_reducible rename Fr _ _ _ _ => F9
  with_reducible rename News _ _ _ _ => N9
  refine halt' ?_
  refine c_cut w tx (letters ++ Str.ofString "=") pair _ _ _ (own ++ news) (by omega) _ _ _ _ _ _ _ _ _ _ _ _ _ _ _ _ _ _ _ _ _ B9 F9 X9 N9 T9 rfl (by ktr_room) (by ktr_units) ?_
  intro tl tvs k h7 tk7 htv hlt F7 N7
  clear F9 N9
  k_steps
  have N9 := news_mid N7
  clear N7
  with_reducible rename Fr _ _ _ _ => F9
  obtain ⟨dx, Own, LX, hO⟩ := hL
  refine halt' ?_
  refine c_same w x dx as (isEndP false) Own LX _ own ((tl, listOf tvs.toArray k) :: news) hO (off_all LX hO hoff hlt) (cut_small hlen) tl tvs k (.head _) htv _ ⟨_, rfl⟩ (end_eq false) _ _ _ _ _ _ _ _ _ _ _ _ _ _ _ _ _ _ _ _ _ B9 F9 X9 N9 T9 rfl (by ktr_room) (by ktr_units) ?_
  intro own' h5 tk5 hO5 F5 N5
  have N6 := news_tail (news_drop N5)
  clear F9 N9 N5 htv hlt LX hO hO5
  k_steps
  with_reducible rename Fr _ _ _ _ => F9
  with_reducible rename News _ _ _ _ => N9
  refine halt' ?_
  refine c_mkB w tx t2 news (by omega) hal.good _ _ _ _ _ _ _ _ _ _ _ _ _ _ _ _ _ _ _ _ _ B9 F9 X9 N9 T9 rfl (by ktr_room) (by ktr_units) ?_
  intro x as own h9 tk9 hL hoff F8 N8
  clear F9 N9
  rw [← cut_eq fun c hc => kdQ_usual (hal c hc)] at hL
  k_steps
  with_reducible rename Fr _ _ _ _ => F9
  with_reducible rename News _ _ _ _ => N9
  refine halt' ?_
  refine c_cut w tx (letters ++ Str.ofString "_~-./*?=") (Str.ofString "()<>|&;") _ _ _ (own ++ news) (by omega) _ _ _ _ _ _ _ _ _ _ _ _ _ _ _ _ _ _ _ _ _ B9 F9 X9 N9 T9 rfl (by ktr_room) (by ktr_units) ?_
  intro tl tvs k h7 tk7 htv hlt F7 N7
  clear F9 N9
  k_steps
  have N9 := news_mid N7
  clear N7
  with_reducible rename Fr _ _ _ _ => F9
  obtain ⟨dx, Own, LX, hO⟩ := hL
  refine halt' ?_
  refine c_same w x dx as (isEndP false) Own LX _ own ((tl, listOf tvs.toArray k) :: news) hO (off_all LX hO hoff hlt) (cut_small hlen) tl tvs k (.head _) htv _ ⟨_, rfl⟩ (end_eq false) _ _ _ _ _ _ _ _ _ _ _ _ _ _ _ _ _ _ _ _ _ B9 F9 X9 N9 T9 rfl (by ktr_room) (by ktr_units) ?_
  intro own' h5 tk5 hO5 F5 N5
  have N6 := news_tail (news_drop N5)
  clear F9 N9 N5 htv hlt LX hO hO5
  k_steps
  with_reducible rename Fr _ _ _ _ => F9
  with_reducible rename News _ _ _ _ => N9
  refine halt' ?_
  refine c_mk3 w tx t2 news (by omega) _ _ _ _ _ _ _ _ _ _ _ _ _ _ _ _ _ _ _ _ _ B9 F9 X9 N9 T9 rfl (by ktr_room) (by ktr_units) ?_
  intro tkf te tp ts tt x dx sx sdx pb fs pc h9 tk9 l0 a1 a2 a3 a4 a5 a6 F8 N8
  clear F9 N9
  k_steps
  with_reducible rename Fr _ _ _ _ => F9
  with_reducible rename News _ _ _ _ => N9
  obtain ⟨hL, hoff⟩ := lex_pack w tx news (by omega) hal.good true (tk := tkf) (te := te) (tp := tp) (ts := ts) (tt := tt) l0 a1 a2 a3 a4 a5 a6 (by decide +kernel) (by decide +kernel) (dis_of (words := wordsQ) (pch := usual))
  rw [← cut_eq (kd := kdL tx (Str.ofString "()<>|&;")) fun c hc => kdQ_split (hal c hc) hc] at hL
  have N8 := N9
  change News _ _ _ (ledQ w.params tkf true (.str (Str.ofString "") te) (without wordsQ usual) usual x dx sx sdx pb fs pc tx [] 0 (.int 0 tp) (.str (Str.ofString " ") ts) (.str (Str.ofString "") tt) [] ++ news) at N8
  generalize ledQ w.params tkf true (.str (Str.ofString "") te) (without wordsQ usual) usual x dx sx sdx pb fs pc tx [] 0 (.int 0 tp) (.str (Str.ofString " ") ts) (.str (Str.ofString "") tt) [] = own at hL N8
  generalize [pc, fs, pb, sx, sdx, x, dx] = as at hL hoff
  clear N9 l0 a1 a2 a3 a4 a5 a6
  refine halt' ?_
  refine c_cut w tx tx (Str.ofString "()<>|&;") _ _ _ (own ++ news) (by omega) _ _ _ _ _ _ _ _ _ _ _ _ _ _ _ _ _ _ _ _ _ B9 F9 X9 N8 T9 rfl (by ktr_room) (by ktr_units) ?_
  intro tl tvs k h7 tk7 htv hlt F7 N7
  clear F9 N8
  k_steps
  have N9 := news_mid N7
  clear N7
  with_reducible rename Fr _ _ _ _ => F9
  obtain ⟨dx, Own, LX, hO⟩ := hL
  refine halt' ?_
  refine c_same w x dx as (isEndP false) Own LX _ own ((tl, listOf tvs.toArray k) :: news) hO (off_all LX hO hoff hlt) (cut_small hlen) tl tvs k (.head _) htv _ ⟨_, rfl⟩ (end_eq false) _ _ _ _ _ _ _ _ _ _ _ _ _ _ _ _ _ _ _ _ _ B9 F9 X9 N9 T9 rfl (by ktr_room) (by ktr_units) ?_
  intro own' h5 tk5 hO5 F5 N5
  have N6 := news_tail (news_drop N5)
  clear F9 N9 N5 htv hlt LX hO hO5
  k_steps
  exact hret 0 _ _ (by k_asm) (by k_asm)
end Mine
end
example {M : Model} {A : Around} {E : Value → Shared → Prop} {s : Shared} {env : Env} {p : Pos} {Q : Flow → Shared → Prop} (h : wpAny M A (exec (.Pass p) env) Q E s) : wpAny M A (exec (.Pass p) env) Q E s := by first | (walk1; fail) | exact h
section
open PySem PySem.W PyProof.Rows PySem.Calls
set_option Elab.async false
set_option maxRecDepth 100000
set_option maxHeartbeats 4000000
namespace Mine
open PySem.Builtin
/-- the table that puts p1 for + and p2 for / -/
noncomputable def tabOf (p1 p2 : UInt8) : Array UInt8 := (((Array.range 256).map (·.toUInt8)).setIfInBounds 43 p1).setIfInBounds 47 p2
theorem tabOf_size (p1 p2 : UInt8) : (tabOf p1 p2).size = 256 := by unfold tabOf; simp
theorem bmt_plain : plainId "bytes.maketrans" = true := by decide +kernel
theorem bmt_entry : entryFor table "bytes.maketrans" = some Builtin.«bytes.maketrans» := entryFor_of_tree (by kernel_rfl)
theorem bmt_check {p q : Array UInt8} {t u : Tok} : checkBuiltinCall "bytes.maketrans" ⟨[.bytes p t, .bytes q u], []⟩ = pure () := by first | rfl | kernel_rfl
section
variable {prog : Program} {w : World} {A : Around} {E : Value → Shared → Prop} {s : Shared}
theorem bmt_call {p1 p2 : UInt8} {t u : Tok} {Q : Value → Shared → Prop} (h : ∀ t' k, Q (.bytes (tabOf p1 p2) t') { s with toks := k }) :
    wpAny (model prog w) A (call (.builtin "bytes.maketrans") [.bytes #[43, 47] t, .bytes #[p1, p2] u]) Q E s := by
  refine wpAny_call (codeAny_call_builtin bmt_plain bmt_entry (wpAny_of_eq bmt_check ?_))
  unfold Builtin.«bytes.maketrans» Bytes.maketransM
  refine wpAny_bind (wpAny_of_eq (a := ()) (by rfl) ?_)
  refine wpAny_bind (wpAny_of_eq (a := ()) (by rfl) ?_)
  refine wpAny_bind (wpAny_of_eq KBd.like_eq ?_)
  refine wpAny_bind (wpAny_of_eq KBd.like_eq ?_)
  refine wpAny_bind (wpAny_mkBytes (wpAny_pure (h _ _)) ?_)
  have : sizeLine = 16777216 := by decide
  show (tabOf p1 p2).size ≤ _
  rw [tabOf_size]; omega
theorem slot_btr : Slot "bytes" "translate" "bytes.translate" :=
  .of (owner := "bytes") (n := "translate") (by rw [typeLookup_type, builtinLookup_eq_fast]; kernel_rfl) (by decide +kernel) (by decide +kernel) (by decide +kernel)
    (by first | exact .inl (by decide +kernel) | exact .inr (by decide +kernel)) (by rw [isSubtype_type]; kernel_rfl)
theorem type_btr : typeOf (.builtin "bytes.translate") = pure (.type "method_descriptor") := by show builtinType _ = _; rw [builtinType_eq_fast]; kernel_rfl
theorem entry_btr : entryFor table "bytes.translate" = some Builtin.«bytes.translate» := entryFor_of_tree (by kernel_rfl)
theorem args_btr (a b : Value) : argsOk "bytes.translate" ⟨[a, b], []⟩ := by unfold argsOk; kernel_rfl
noncomputable def transOf (tab : Array UInt8) (b : List UInt8) : List UInt8 := b.map fun c => tab.getD c.toNat c
theorem btr_meets {b : List UInt8} {tab : Array UInt8} {t u : Tok} (ht : tab.size = 256) (hl : b.length ≤ 100000) :
    Meets («bytes.translate» ⟨[.bytes b.toArray t, .bytes tab u], []⟩) (fun _ R s => ∀ t' k, R (.ok (.ret (.bytes (transOf tab b).toArray t'))) { s with toks := k }) := by
  refine .of_wp fun prog w A R s h => ?_
  have hz : sizeLine = 16777216 := by decide
  unfold «bytes.translate» Bytes.translateM
  dsimp only
  rw [if_neg (show ¬ ([Value.bytes tab u].length + ([] : List (PySem.Str × Value)).length > 2) from (by decide : ¬ (1 + 0 > 2))), if_neg (by decide), if_neg (by rw [show (Value.bytes tab u == Value.none) = false from rfl]; decide)]
  refine wpAny_bind (wpAny_of_eq KBd.like_eq ?_)
  rw [if_neg (by rw [ht]; decide)]
  refine wpAny_bind (wpAny_pure ?_)
  show wpAny _ _ ((pure (#[] : Array UInt8) : Sem _) >>= fun _ => _) _ _ _
  refine wpAny_bind (wpAny_pure ?_)
  refine wpAny_bind (wpAny_of_eq (a := b.toArray) rfl ?_)
  have e : Array.map (fun c => match (some tab : Option (Array UInt8)) with | some t => t.getD c.toNat c | none => c) (Array.filter (fun x => !(#[] : Array UInt8).contains x) b.toArray) = (transOf tab b).toArray := by
    have e1 : Array.filter (fun x => !(#[] : Array UInt8).contains x) b.toArray = b.toArray := by simp
    rw [e1]
    simp [transOf]
  rw [e]
  by_cases hs : ((transOf tab b).toArray == b.toArray) = true
  · rw [if_pos hs]
    have e2 : (transOf tab b).toArray = b.toArray := by simpa using hs
    refine wpAny_bind (wpAny_rule ?_)
    unfold Bytes.Kind.same
    rw [if_pos (by rfl)]
    refine wpAny_bind (wpAny_bind (wpAny_typeOf (s := s) (typeIs_bytes _ _ _) ?_))
    rw [if_pos (by rfl)]
    exact wpAny_pure (wpAny_pure ⟨_, rfl, e2 ▸ h _ _⟩)
  · rw [if_neg hs]
    refine wpAny_bind (wpAny_mkBytes (wpAny_pure ⟨_, rfl, h _ _⟩) ?_)
    show (transOf tab b).toArray.size ≤ _
    simp [transOf]; omega
theorem btr_method {M : Model} {b : Array UInt8} {t : Tok} {pl : Sem Bool} {Q : Value × List Value → Shared → Prop} (h : Q (.builtin "bytes.translate", [.bytes b t]) s) : wpAny M A (getMethod (.bytes b t) (Str.ofString "translate") pl) Q E s := by
  with_reducible exact KBd.method_of (.bytes b t) (typeIs_bytes _ _ _) slot_btr type_btr KBd.noRef h
theorem btr_call {b : List UInt8} {tab : Array UInt8} {t u : Tok} {Q : Value → Shared → Prop} (ht : tab.size = 256) (hl : b.length ≤ 100000) (h : ∀ t' k, Q (.bytes (transOf tab b).toArray t') { s with toks := k }) :
    wpAny (model prog w) A (call (.builtin "bytes.translate") [.bytes b.toArray t, .bytes tab u]) Q E s :=
  call_meets slot_btr (typeIs_bytes _ _ _) entry_btr (args_btr _ _) (btr_meets ht hl) h
end
end Mine
end
section
open PySem PySem.W PyProof.Rows
set_option Elab.async false
set_option maxRecDepth 100000
set_option maxHeartbeats 4000000
namespace Mine
noncomputable def b64s (bs : List UInt8) : List UInt8 := (b64of bs).map fun n => n.toNat.toUInt8
theorem b64s_len (bs : List UInt8) : (b64s bs).length ≤ 2 * bs.length + 3 := by
  unfold b64s
  rw [List.length_map]
  exact b64of_len bs
theorem bytes_mk (P : Params) : findCls (theK P) (.type "bytes") (.type "type") (PySem.Str.ofString "maketrans") = some (.val (.builtin "bytes.maketrans")) := by kernel_rfl
local macro_rules | `(tactic| walk_at "call ref") => `(tactic| first | (refine halt_call (by with_reducible assumption) ?_) | (refine halt_callW (by with_reducible assumption) ?_))
local macro_rules | `(tactic| walk_at "exec Assert") => `(tactic| refine wpAny_Assert_holds ?_)
theorem c_b64 (w : World) (bs : List UInt8) (t : Tok) (news : List (Addr × Obj)) (hle : bs.length ≤ 1000) :
   Called w 756 [.bytes bs.toArray t] news 8 (RetV news fun t => .bytes (b64s bs).toArray t) := by
  dsimp only [Called, RetV, thePg]
  k_fill
  intros
  rename_i hret
  refine wpAny_call ?_
  k_dflt (refine' code_def (binds := [(Str.ofString "s", .bytes bs.toArray t), (Str.ofString "altchars", .none)]) ?k1 ?k2 ?k3 ?k4 ?k5 ?kA ?kF ?kK ?k6 ?k7 ?k8 ?k9 ?kB ?_ ?c2 ?c3 ?c4 ?c5; (case kA => exact rfl); (case kF => exact rfl); (case kK => assumption); (case k1 => k_asm); (case k2 => k_asm); (case k3 => k_asm); (case k4 => k_asm); (case k5 => k_asm); (case k6 => k_is); (case k7 => k_is); (case k8 => ktr_room); (case k9 => first | exact BindsTo.of_eq rfl | exact binds_K (by k_in) rfl (by k_is) rfl rfl rfl); (case c5 => decide); (case kB => exact locs rfl); (case c2 => exact rfl); (case c3 => exact rfl); (case c4 => exact rfl); k_whole; intro g' L' h' FG' F' N' B' X' T'; (try dsimp only))
  refine let_all ?_
  intro v9 Q9 E9
  have st1 : Stop 748 := stop
  k_steps
  with_reducible rename Fr _ _ _ _ => F9
  with_reducible rename News _ _ _ _ => N9
  with_reducible rename Below _ _ _ _ => B9
  with_reducible rename Frag.In _ _ => X9
  with_reducible rename Top _ _ _ _ _ _ => T9
  refine halt' ?_
  refine c_b2a w bs t news hle _ _ _ _ _ _ _ _ _ _ _ _ _ _ _ _ _ _ _ _ _ B9 F9 X9 N9 T9 rfl (by ktr_room) (by ktr_units) ?_
  intro t9 h9 tk9 F8 N8
  clear F9 N9
  k_steps
  exact hret _ _ _ (by k_asm) (by k_asm)
theorem c_b64a (w : World) (bs : List UInt8) (t : Tok) (p1 p2 : UInt8) (u : Tok) (news : List (Addr × Obj)) (hle : bs.length ≤ 1000) :
   Called w 756 [.bytes bs.toArray t, .bytes #[p1, p2] u] news 8 (RetV news fun t => .bytes (transOf (tabOf p1 p2) (b64s bs)).toArray t) := by
  have hle2 := b64s_len bs
  dsimp only [Called, RetV, thePg]
  k_fill
  intros
  rename_i hret
  refine wpAny_call ?_
  k_dflt (refine' code_def (binds := [(Str.ofString "s", .bytes bs.toArray t), (Str.ofString "altchars", .bytes #[p1, p2] u)]) ?k1 ?k2 ?k3 ?k4 ?k5 ?kA ?kF ?kK ?k6 ?k7 ?k8 ?k9 ?kB ?_ ?c2 ?c3 ?c4 ?c5; (case kA => exact rfl); (case kF => exact rfl); (case kK => assumption); (case k1 => k_asm); (case k2 => k_asm); (case k3 => k_asm); (case k4 => k_asm); (case k5 => k_asm); (case k6 => k_is); (case k7 => k_is); (case k8 => ktr_room); (case k9 => first | exact BindsTo.of_eq rfl | exact binds_K (by k_in) rfl (by k_is) rfl rfl rfl); (case c5 => decide); (case kB => exact locs rfl); (case c2 => exact rfl); (case c3 => exact rfl); (case c4 => exact rfl); k_whole; intro g' L' h' FG' F' N' B' X' T'; (try dsimp only))
  refine let_all ?_
  intro v9 Q9 E9
  have st1 : Stop 748 := stop
  k_steps
  with_reducible rename Fr _ _ _ _ => F9
  with_reducible rename News _ _ _ _ => N9
  with_reducible rename Below _ _ _ _ => B9
  with_reducible rename Frag.In _ _ => X9
  with_reducible rename Top _ _ _ _ _ _ => T9
  refine halt' ?_
  refine c_b2a w bs t news hle _ _ _ _ _ _ _ _ _ _ _ _ _ _ _ _ _ _ _ _ _ B9 F9 X9 N9 T9 rfl (by ktr_room) (by ktr_units) ?_
  intro t9 h9 tk9 F8 N8
  clear F9 N9
  dsimp only
  k_steps
  refine btr_method (b := (b64s bs).toArray) ?_
  k_steps
  with_reducible rename Fr _ _ _ _ => F7
  with_reducible rename News _ _ _ _ => N7
  with_reducible refine method_type F7 X9 ?ma ?mb (bytes_mk _) ?mc ?_
  case ma => rfl
  case mb => decide +kernel
  case mc => rfl
  k_steps
  with_reducible refine bmt_call ?_
  intro t8 k8
  k_steps
  with_reducible refine btr_call (tabOf_size _ _) (by omega) ?_
  intro t7 k7
  k_steps
  exact hret _ _ _ (by k_asm) (by k_asm)
noncomputable def urlTab : Array UInt8 := #[0, 1, 2, 3, 4, 5, 6, 7, 8, 9, 10, 11, 12, 13, 14, 15, 16, 17, 18, 19, 20, 21, 22, 23, 24, 25, 26, 27, 28, 29, 30, 31, 32, 33, 34, 35, 36, 37, 38, 39, 40, 41, 42, 45, 44, 45, 46, 95, 48, 49, 50, 51, 52, 53, 54, 55, 56, 57, 58, 59, 60, 61, 62, 63, 64, 65, 66, 67, 68, 69, 70, 71, 72, 73, 74, 75, 76, 77, 78, 79, 80, 81, 82, 83, 84, 85, 86, 87, 88, 89, 90, 91, 92, 93, 94, 95, 96, 97, 98, 99, 100, 101, 102, 103, 104, 105, 106, 107, 108, 109, 110, 111, 112, 113, 114, 115, 116, 117, 118, 119, 120, 121, 122, 123, 124, 125, 126, 127, 128, 129, 130, 131, 132, 133, 134, 135, 136, 137, 138, 139, 140, 141, 142, 143, 144, 145, 146, 147, 148, 149, 150, 151, 152, 153, 154, 155, 156, 157, 158, 159, 160, 161, 162, 163, 164, 165, 166, 167, 168, 169, 170, 171, 172, 173, 174, 175, 176, 177, 178, 179, 180, 181, 182, 183, 184, 185, 186, 187, 188, 189, 190, 191, 192, 193, 194, 195, 196, 197, 198, 199, 200, 201, 202, 203, 204, 205, 206, 207, 208, 209, 210, 211, 212, 213, 214, 215, 216, 217, 218, 219, 220, 221, 222, 223, 224, 225, 226, 227, 228, 229, 230, 231, 232, 233, 234, 235, 236, 237, 238, 239, 240, 241, 242, 243, 244, 245, 246, 247, 248, 249, 250, 251, 252, 253, 254, 255]
theorem urlTab_size : urlTab.size = 256 := by decide +kernel
theorem c_url (w : World) (bs : List UInt8) (t : Tok) (news : List (Addr × Obj)) (hle : bs.length ≤ 1000) :
   Called w 770 [.bytes bs.toArray t] news 10 (RetV news fun t => .bytes (transOf urlTab (b64s bs)).toArray t) := by
  have hle2 := b64s_len bs
  dsimp only [Called, RetV, thePg]
  k_fill
  intros
  rename_i hret
  refine wpAny_call ?_
  k_dflt (refine' code_def (binds := [(Str.ofString "s", .bytes bs.toArray t)]) ?k1 ?k2 ?k3 ?k4 ?k5 ?kA ?kF ?kK ?k6 ?k7 ?k8 ?k9 ?kB ?_ ?c2 ?c3 ?c4 ?c5; (case kA => exact rfl); (case kF => exact rfl); (case kK => assumption); (case k1 => k_asm); (case k2 => k_asm); (case k3 => k_asm); (case k4 => k_asm); (case k5 => k_asm); (case k6 => k_is); (case k7 => k_is); (case k8 => ktr_room); (case k9 => first | exact BindsTo.of_eq rfl | exact binds_K (by k_in) rfl (by k_is) rfl rfl rfl); (case c5 => decide); (case kB => exact locs rfl); (case c2 => exact rfl); (case c3 => exact rfl); (case c4 => exact rfl); k_whole; intro g' L' h' FG' F' N' B' X' T'; (try dsimp only))
  refine let_all ?_
  intro v9 Q9 E9
  have st1 : Stop 756 := stop
  k_steps
  with_reducible rename Fr _ _ _ _ => F9
  with_reducible rename News _ _ _ _ => N9
  with_reducible rename Below _ _ _ _ => B9
  with_reducible rename Frag.In _ _ => X9
  with_reducible rename Top _ _ _ _ _ _ => T9
  refine halt' ?_
  refine c_b64 w bs t news hle _ _ _ _ _ _ _ _ _ _ _ _ _ _ _ _ _ _ _ _ _ B9 F9 X9 N9 T9 rfl (by ktr_room) (by ktr_units) ?_
  intro t9 h9 tk9 F8 N8
  clear F9 N9
  dsimp only
  k_steps
  refine btr_method (b := (b64s bs).toArray) ?_
  k_steps
  refine btr_call (tab := urlTab) urlTab_size (by omega) ?_
  intro t7 k7
  k_steps
  exact hret _ _ _ (by k_asm) (by k_asm)
theorem c_std (w : World) (bs : List UInt8) (t : Tok) (news : List (Addr × Obj)) (hle : bs.length ≤ 1000) :
   Called w 763 [.bytes bs.toArray t] news 10 (RetV news fun t => .bytes (b64s bs).toArray t) := by
  dsimp only [Called, RetV, thePg]
  k_fill
  intros
  rename_i hret
  refine wpAny_call ?_
  k_dflt (refine' code_def (binds := [(Str.ofString "s", .bytes bs.toArray t)]) ?k1 ?k2 ?k3 ?k4 ?k5 ?kA ?kF ?kK ?k6 ?k7 ?k8 ?k9 ?kB ?_ ?c2 ?c3 ?c4 ?c5; (case kA => exact rfl); (case kF => exact rfl); (case kK => assumption); (case k1 => k_asm); (case k2 => k_asm); (case k3 => k_asm); (case k4 => k_asm); (case k5 => k_asm); (case k6 => k_is); (case k7 => k_is); (case k8 => ktr_room); (case k9 => first | exact BindsTo.of_eq rfl | exact binds_K (by k_in) rfl (by k_is) rfl rfl rfl); (case c5 => decide); (case kB => exact locs rfl); (case c2 => exact rfl); (case c3 => exact rfl); (case c4 => exact rfl); k_whole; intro g' L' h' FG' F' N' B' X' T'; (try dsimp only))
  refine let_all ?_
  intro v9 Q9 E9
  have st1 : Stop 756 := stop
  k_steps
  with_reducible rename Fr _ _ _ _ => F9
  with_reducible rename News _ _ _ _ => N9
  with_reducible rename Below _ _ _ _ => B9
  with_reducible rename Frag.In _ _ => X9
  with_reducible rename Top _ _ _ _ _ _ => T9
  refine halt' ?_
  refine c_b64 w bs t news hle _ _ _ _ _ _ _ _ _ _ _ _ _ _ _ _ _ _ _ _ _ B9 F9 X9 N9 T9 rfl (by ktr_room) (by ktr_units) ?_
  intro t9 h9 tk9 F8 N8
  clear F9 N9
  k_steps
  exact hret _ _ _ (by k_asm) (by k_asm)
end Mine
end
example {M : Model} {A : Around} {E : Value → Shared → Prop} {s : Shared} {env : Env} {p : Pos} {Q : Flow → Shared → Prop} (h : wpAny M A (exec (.Pass p) env) Q E s) : wpAny M A (exec (.Pass p) env) Q E s := by first | (walk1; fail) | exact h
section
open PySem PySem.W PyProof.Rows PySem.Calls
set_option Elab.async false
set_option maxRecDepth 100000
set_option maxHeartbeats 4000000
namespace Mine
local macro_rules | `(tactic| walk_at "exec For Tuple Call cons nil") => `(tactic| refine halt ?_)
local macro_rules | `(tactic| walk_at "exec For Tuple Name cons cons") => `(tactic| refine halt ?_)
local macro_rules | `(tactic| walk_at "LoopStepV") => `(tactic| refine halt ?_)
local macro_rules | `(tactic| walk_at "getMethod ref") => `(tactic| (k_here; k_dflt (refine' list_getN PySem.F.slot_list_append PySem.F.type_list_append ?k1 ?k2 ?_; (case k1 => k_asm); (case k2 => k_mem); k_whole)))
local macro_rules | `(tactic| walk_at "call builtin:list.append") => `(tactic| (k_here; k_dflt (refine' append_V ?k1 ?k2 ?k3 ?k4 ?_; (case k1 => k_asm); (case k2 => k_asm); (case k3 => k_upd); (case k4 => assumption); k_whole); intro h' F' N'; (try k_sweep)))
noncomputable def forBody : Stmt → List Stmt
  | .For _ _ b _ _ => b
  | _ => []
noncomputable def fmB : List Stmt := forBody (nthS (fd 53).2.1 1)
/-- a turn of filemode's loop -/
theorem fm_turn (w : World) (n : Int) (t : Tok) (pl T : Addr) (i : Nat) (ti : Tok) (l : List (Int × Str)) (bt ch : Option Value) (vs : List Value) (k : Nat) (rest : List (Addr × Obj)) (hpl : ∀ p ∈ rest, p.1 ≠ pl) (hvs : vs.length ≤ 100000)
   (loose : List Str) (mean : ExcName → Option Value) (mg mb : Str → Option Value) (dp un : Nat) (gd : Option (List Code)) (cn : Str) (cs : Scope) (L : Addr) (a : Addr) (ccd : Value) (cl : List (Str × Addr)) (outer : List Env) (base g : Heap) (L' : Addr) (s : Shared) (Q : Flow → Shared → Prop) (E : Value → Shared → Prop)
   (B : Below (ktrTop dp un gd cn cs L a ccd cl outer) base (envX cn cs L a ccd cl :: outer) g)
   (F : Fr g L' s.heap (frF pl n t (some (.int i ti)) (some (.ref T)) bt ch)) (X : (theK w.params).In g) (Tp : Top theQ loose mean mg mb g) (hd : dp + 3 < recursionLimit) (hu : un + 24 < cLine)
   (hT : tabOk (theK w.params) (.ref T) l = true)
   (N : News g L' s.heap ((pl, listOf vs.toArray k) :: rest))
   (hE : PassesOwn (model PySem.Challenge.rw_nq0262_01.prog w) ((ktrTop dp un gd cn cs L a ccd cl outer).deeper (envOf (Str.ofString "filemode") (fd 53).2.2 L' 824 (.ref 823))) (envOf (Str.ofString "filemode") (fd 53).2.2 L' 824 (.ref 823)) E)
   (hQ : ∀ bt ch tc h' tk, Fr g L' h' (frF pl n t (some (.int i ti)) (some (.ref T)) bt ch) → News g L' h' ((pl, listOf (vs ++ [Value.str (sgnOf i n l) tc]).toArray (k + 1)) :: rest) → Q .next { s with heap := h', toks := tk }) :
    wpAny (model PySem.Challenge.rw_nq0262_01.prog w) ((ktrTop dp un gd cn cs L a ccd cl outer).deeper (envOf (Str.ofString "filemode") (fd 53).2.2 L' 824 (.ref 823))) (execs fmB (envOf (Str.ofString "filemode") (fd 53).2.2 L' 824 (.ref 823))) Q E s := by
  have fill : PySem.Challenge.rw_nq0262_01.prog = PySem.Challenge.rw_nq0262_01.prog ∧ theK w.params = theK w.params := by k_fill; exact ⟨rfl, rfl⟩
  clear fill
  have st1 : Stop 784 := stop
  k_steps
  refine halt' (wpAny_For ?_)
  k_steps
  obtain ⟨p, ivs, hp, hTT, hsz, hits⟩ := tabOk_at (X.keeps F.keep) hT
  cases hp
  refine iter_tupN F N hTT ?_
  intro it h' hi hT' F' N' hlt hlt2 hlt3 hno
  have hTo : ∃ o, g.get? T = some o := by
    obtain ⟨p, vs, hp, ⟨o, ho, -⟩, -⟩ := tabOk_at X hT
    cases hp
    exact ⟨o, ho⟩
  have hplT : @Ne Nat pl T := fun e => by
    obtain ⟨o, ho⟩ := hTo
    have := (N _ (.head _)).2.2
    rw [e, ho] at this
    cases this
  have hLT : @Ne Nat L' T := fun e => by
    obtain ⟨o, ho⟩ := hTo
    have h1 := F.above
    rw [e] at h1
    exact absurd (Heap.lt_size ho) (Nat.not_lt.mpr h1)
  refine pairs_loop (KTurns.ofWalks (Walks.tuple rfl it T (Nat.ne_of_lt hlt2) ivs) fun i v s Q E st q => letGo_tupleiter st.1 q) (fun j va vb => ∃ bc t1 t2, l[j]? = some bc ∧ va = .int bc.1 t1 ∧ vb = .str bc.2 t2) ?hP rfl rfl rfl rfl ?hLf ?hwr ?hnw ⟨hi, hT'⟩ F' N'
    (fun j m₁ news₁ => (∃ bt ch, m₁ = frF pl n t (some (.int i ti)) (some (.ref T)) bt ch) ∧ news₁ = (pl, listOf vs.toArray k) :: rest ∧ ∀ (j' : Nat) bc, j' < j → l[j']? = some bc → hit i n bc.1 = false) ?h0 ?step ?fin hE
  case hP =>
    intro j v h1 hk hv
    obtain ⟨bc, hbc, hpo⟩ := hits j v hv
    obtain ⟨p, t1, t2, rfl, hq⟩ := pairOk_at (X.keeps hk) hpo
    exact ⟨p, _, _, rfl, hq, bc, t1, t2, hbc, rfl, rfl⟩
  case hLf =>
    show L' ∉ [it, T]
    simp only [List.mem_cons, List.not_mem_nil, or_false, not_or]
    exact ⟨Nat.ne_of_lt hlt3, hLT⟩
  case hwr =>
    intro b hb
    obtain rfl : b = it := by simpa using hb
    exact hno
  case hnw =>
    intro p hp
    simp only [List.mem_cons, List.not_mem_nil, or_false]
    exact Nat.ne_of_lt (hlt p hp)
  case h0 => exact ⟨⟨bt, ch, rfl⟩, rfl, fun j' bc h => absurd h (Nat.not_lt_zero _)⟩
  case step =>
    rintro j va vb m₁ news₁ h₁ tk₁ own hj ⟨bc, t1, t2, hbc, rfl, rfl⟩ ⟨⟨bt, ch, rfl⟩, rfl, hbef⟩ off hown F₁ N₁
    rw [frF_inner] at F₁
    obtain ⟨r2, hr2⟩ : ∃ r2, r2 = rest ++ own := ⟨_, rfl⟩
    have N₂ : News g L' h₁ ((pl, listOf vs.toArray k) :: r2) := fun p hp => N₁ p (by
      rw [hr2] at hp
      simp only [List.mem_cons, List.mem_append] at hp ⊢
      rcases hp with h | h | h <;> simp [h])
    have hpl2 : ∀ p ∈ r2, p.1 ≠ pl := fun p hp => by
      rw [hr2] at hp
      rcases List.mem_append.mp hp with hp | hp
      · exact hpl p hp
      · have := hown p hp
        simp only [List.mem_cons, List.not_mem_nil, or_false] at this
        rcases this with e | e <;> rw [e]
        · exact Nat.ne_of_gt (hlt _ (.head _))
        · exact Ne.symm hplT
    clear N₁ N' N F' F hi hT' hTT hpl
    obtain ⟨b, c⟩ := bc
    dsimp only at F₁
    by_cases hi0 : i = 0
    · have hz : ((i : Int) == 0) = true := by simp [hi0]
      have hz2 : (i : Int) = 0 := by simp [hi0]
      cases hh : hit i n b with
      | true =>
        have hb : (Builtin.bitAnd n 61440 == b) = true := by unfold hit at hh; rwa [if_pos hi0] at hh
        have hsg : sgnOf i n l = c := found_at hbc hh hbef
        clear hh hbef hbc hsz hits
        k_steps
        with_reducible rename Fr _ _ _ _ => F9
        with_reducible rename News _ _ _ _ => N9
        with_reducible rename Below _ _ _ _ => B9
        with_reducible rename Frag.In _ _ => X9
        with_reducible rename Top _ _ _ _ _ _ => T9
        refine halt' ?_
        refine c_ifmt w n _ _ _ _ _ _ _ _ _ _ _ _ _ _ _ _ _ _ _ _ _ _ _ B9 F9 X9 N9 T9 rfl (by ktr_room) (by ktr_units) ?_
        intro t9 h9 tk9 F9 N9
        k_steps
        with_reducible rename Fr _ _ _ _ => F5
        with_reducible rename News _ _ _ _ => N5
        refine halt' (LoopStepV.brk (wpAny_execs_nil (hQ _ _ t2 _ _ F5 fun p hp => N5 p ?_)))
        rw [hsg] at hp
        rw [hr2]
        simp only [List.mem_cons, List.mem_append] at hp ⊢
        rcases hp with h | h <;> simp [h]
      | false =>
        have hb : (Builtin.bitAnd n 61440 == b) = false := by unfold hit at hh; rwa [if_pos hi0] at hh
        have hbef2 := next_hit hbc hh hbef
        clear hh hbef hbc hsz hits
        k_steps
        with_reducible rename Fr _ _ _ _ => F9
        with_reducible rename News _ _ _ _ => N9
        with_reducible rename Below _ _ _ _ => B9
        with_reducible rename Frag.In _ _ => X9
        with_reducible rename Top _ _ _ _ _ _ => T9
        refine halt' ?_
        refine c_ifmt w n _ _ _ _ _ _ _ _ _ _ _ _ _ _ _ _ _ _ _ _ _ _ _ B9 F9 X9 N9 T9 rfl (by ktr_room) (by ktr_units) ?_
        intro t9 h9 tk9 F9 N9
        k_steps
        with_reducible rename Fr _ _ _ _ => F5
        with_reducible rename News _ _ _ _ => N5
        refine halt' (LoopStepV.next ⟨rfl, _, _, _, (pl, listOf vs.toArray k) :: rest, rfl, F5, fun p hp => N5 p ?_, off, ⟨_, _, rfl⟩, rfl, hbef2⟩)
        rw [hr2]
        simp only [List.mem_cons, List.mem_append] at hp ⊢
        rcases hp with h | h | h <;> simp [h]
    · have hz : ((i : Int) == 0) = false := by simpa using hi0
      cases hh : hit i n b with
      | true =>
        have hb : (Builtin.bitAnd n b == b) = true := by unfold hit at hh; rwa [if_neg hi0] at hh
        have hsg : sgnOf i n l = c := found_at hbc hh hbef
        clear hh hbef hbc hsz hits
        k_steps
        with_reducible rename Fr _ _ _ _ => F5
        with_reducible rename News _ _ _ _ => N5
        refine halt' (LoopStepV.brk (wpAny_execs_nil (hQ _ _ t2 _ _ F5 fun p hp => N5 p ?_)))
        rw [hsg] at hp
        rw [hr2]
        simp only [List.mem_cons, List.mem_append] at hp ⊢
        rcases hp with h | h <;> simp [h]
      | false =>
        have hb : (Builtin.bitAnd n b == b) = false := by unfold hit at hh; rwa [if_neg hi0] at hh
        have hbef2 := next_hit hbc hh hbef
        clear hh hbef hbc hsz hits
        k_steps
        with_reducible rename Fr _ _ _ _ => F5
        with_reducible rename News _ _ _ _ => N5
        refine halt' (LoopStepV.next ⟨rfl, _, _, _, (pl, listOf vs.toArray k) :: rest, rfl, F5, fun p hp => N5 p ?_, off, ⟨_, _, rfl⟩, rfl, hbef2⟩)
        rw [hr2]
        simp only [List.mem_cons, List.mem_append] at hp ⊢
        rcases hp with h | h | h <;> simp [h]
  case fin =>
    rintro h1 tk1 m' news' F₁ N₁ off ⟨⟨bt, ch, rfl⟩, rfl, hbef⟩
    have hsg := found_not (i := i) (m := n) (l := l) fun j bc hj e => hbef j bc (by rw [hsz]; exact hj) e
    clear N' N F' F hi hT' hTT hbef hits hsz
    by_cases hi0 : i = 0
    · have hz : ((i : Int) == 0) = true := by simp [hi0]
      rw [if_pos hi0] at hsg
      k_steps
      with_reducible rename Fr _ _ _ _ => F5
      with_reducible rename News _ _ _ _ => N5
      exact hQ _ _ _ _ _ F5 (by rw [hsg]; first | exact N5 | (rw [← List.push_toArray]; exact N5))
    · have hz : ((i : Int) == 0) = false := by simpa using hi0
      rw [if_neg hi0] at hsg
      k_steps
      with_reducible rename Fr _ _ _ _ => F5
      with_reducible rename News _ _ _ _ => N5
      exact hQ _ _ _ _ _ F5 (by rw [hsg]; first | exact N5 | (rw [← List.push_toArray]; exact N5))
theorem tup_keep {h h' : Heap} {a : Addr} {vs : Array Value} (x : h.IsTuple a vs) (k : ∀ b o, h.get? b = some o → h'.get? b = some o) : h'.IsTuple a vs :=
  let ⟨o, ho, r⟩ := x; ⟨o, k _ _ ho, r⟩
theorem range_strs {m : Int} {i : Nat} {vs : List Value} {v : Value} (h : StrsAre vs ((List.range i).map (sgn m))) (hv : ∃ t, v = .str (sgn m i) t) : StrsAre (vs ++ [v]) ((List.range (i + 1)).map (sgn m)) := by
  obtain ⟨t, rfl⟩ := hv
  rw [List.range_succ, List.map_append]
  exact h.append' (.cons _ _ .nil)
theorem c_fm (w : World) (n : Int) (t : Tok) (news : List (Addr × Obj)) : Called w 824 [.int n t] news 5 (RetV news fun t => .str (fmText n) t) := by
  dsimp only [Called, RetV, thePg]
  k_fill
  intros
  rename_i hret
  refine wpAny_call ?_
  k_dflt (refine' code_def (binds := [(Str.ofString "mode", .int n t)]) ?k1 ?k2 ?k3 ?k4 ?k5 ?kA ?kF ?kK ?k6 ?k7 ?k8 ?k9 ?kB ?_ ?c2 ?c3 ?c4 ?c5; (case kA => exact rfl); (case kF => exact rfl); (case kK => assumption); (case k1 => k_asm); (case k2 => k_asm); (case k3 => k_asm); (case k4 => k_asm); (case k5 => k_asm); (case k6 => k_is); (case k7 => k_is); (case k8 => ktr_room); (case k9 => first | exact BindsTo.of_eq rfl | exact binds_K (by k_in) rfl (by k_is) rfl rfl rfl); (case c5 => decide); (case kB => exact locs rfl); (case c2 => exact rfl); (case c3 => exact rfl); (case c4 => exact rfl); k_whole; intro g' L' h' FG' F' N' B' X' T'; (try dsimp only))
  refine let_all ?_
  intro v9 Q9 E9
  k_steps
  refine halt' (wpAny_For ?_)
  k_steps
  with_reducible rename Fr _ _ _ _ => F9
  with_reducible rename News _ _ _ _ => N9
  with_reducible rename Below _ _ _ _ => B9
  with_reducible rename Frag.In _ _ => X9
  with_reducible rename Top _ _ _ _ _ _ => T9
  rw [frF_start] at F9
  obtain ⟨ivs, hTT, hsz, hits⟩ := topTab_at X9 (topTab_ok w.params)
  with_reducible rename ∀ p ∈ news, _ => l9
  rename_i pl hA hB
  refine call_enumTN F9 N9 (tup_keep hTT F9.keep) ?_
  intro e it h' he hi hT' F' N' hlt hlt2 hlt3 hlt4 hno hno2
  refine wpAny_pyIter_enum he ?_
  have hTo : ∃ o, g'.get? 817 = some o := by
    obtain ⟨o, ho, -⟩ := hTT
    exact ⟨o, ho⟩
  have hLT : @Ne Nat L' 817 := fun e => by
    obtain ⟨o, ho⟩ := hTo
    have h1 := F9.above
    rw [e] at h1
    exact absurd (Heap.lt_size ho) (Nat.not_lt.mpr h1)
  have hl1 : ∀ p ∈ news, p.1 ≠ pl := fun p hp => Nat.ne_of_lt (l9 p hp)
  have hplT : @Ne Nat pl 817 := fun e => by
    obtain ⟨o, ho⟩ := hTo
    have := (N' _ (.head _)).2.2
    rw [e, ho] at this
    cases this
  clear F9 N9
  refine pairs_loop (KTurns.ofWalksU (walksE rfl (Nat.ne_of_gt hlt4) (Nat.ne_of_lt (Nat.lt_trans hlt2 hlt4)) (Nat.ne_of_lt hlt2))) (fun j va vb => ∃ tk T l, va = .int j tk ∧ vb = .ref T ∧ tabL[j]? = some l ∧ tabOk (theK w.params) (.ref T) l = true) ?hP rfl rfl rfl rfl ?hLf ?hwr ?hnw ⟨⟨_, he⟩, hi, hT'⟩ F' N'
    (fun j m₁ news₁ => (∃ ix tb bt ch, m₁ = frF pl n t ix tb bt ch) ∧ ∃ vs k, news₁ = (pl, listOf vs.toArray k) :: news ∧ StrsAre vs ((List.range j).map (sgn n))) ?h0 ?step ?fin (by passes_own)
  case hP =>
    rintro j v h1 hk ⟨T, vals, rfl, ⟨kt, v, hv, rfl⟩, hq⟩
    obtain ⟨l, hl, hok⟩ := hits j v hv
    obtain ⟨p, vs, rfl, -⟩ := tabOk_at X9 hok
    exact ⟨T, _, _, rfl, hq, kt, p, l, rfl, rfl, hl, hok⟩
  case hLf =>
    show L' ∉ [e, it, 817]
    simp only [List.mem_cons, List.not_mem_nil, or_false, not_or]
    exact ⟨Nat.ne_of_lt (Nat.lt_trans hlt3 hlt4), Nat.ne_of_lt hlt3, hLT⟩
  case hwr =>
    intro b hb
    simp only [List.mem_cons, List.not_mem_nil, or_false] at hb
    rcases hb with rfl | rfl
    · exact hno2
    · exact hno
  case hnw =>
    intro p hp
    simp only [List.mem_cons, List.not_mem_nil, or_false, not_or]
    exact ⟨Nat.ne_of_lt (Nat.lt_trans (hlt p hp) hlt4), Nat.ne_of_lt (hlt p hp)⟩
  case h0 => exact ⟨⟨_, _, _, _, rfl⟩, [], 0, rfl, .nil⟩
  case step =>
    rintro j va vb m₁ news₁ h₁ tk₁ own hj ⟨tk, T, l, rfl, rfl, hl, hok⟩ ⟨⟨ix, tb, bt, ch, rfl⟩, vs, k, rfl, hvs⟩ off hown F₁ N₁
    rw [frF_outer] at F₁
    have hvl : vs.length = j := by rw [hvs.length, List.length_map, List.length_range]
    have e1 : sgnOf j n l = sgn n j := by
      unfold sgn
      rw [List.getD_eq_getElem?_getD, hl]; rfl
    refine fm_turn w n t pl T j tk l bt ch vs k (news ++ own) ?_ (by omega) _ _ _ _ _ _ _ _ _ _ _ _ _ _ _ _ _ _ _ _ B9 F₁ X9 T9 (by omega) (by omega) hok ?_ (by passes_own) ?_
    · intro p hp
      rcases List.mem_append.mp hp with hp | hp
      · exact hl1 p hp
      · have := hown p hp
        simp only [List.mem_cons, List.not_mem_nil, or_false] at this
        rcases this with e | e | e <;> rw [e]
        · exact Nat.ne_of_gt (Nat.lt_trans (hlt _ (.head _)) hlt4)
        · exact Nat.ne_of_gt (hlt _ (.head _))
        · exact Ne.symm hplT
    · intro p hp
      refine N₁ p ?_
      simp only [List.mem_cons, List.mem_append] at hp ⊢
      rcases hp with h | h | h <;> simp [h]
    · intro bt ch tc h2 tk2 F2 N2
      refine LoopStepV.next ⟨rfl, _, _, _, (pl, listOf (vs ++ [Value.str (sgnOf j n l) tc]).toArray (k + 1)) :: news, rfl, F2, fun p hp => N2 p ?_, fun p hp => ?_, ⟨_, _, _, _, rfl⟩, _, _, rfl, range_strs (v := Value.str (sgnOf j n l) tc) hvs ⟨tc, by rw [e1]⟩⟩
      · simp only [List.mem_cons, List.mem_append] at hp ⊢
        rcases hp with h | h | h <;> simp [h]
      · rcases List.mem_cons.mp hp with rfl | hp
        · exact off (pl, listOf vs.toArray k) (.head _)
        · exact off p (.tail _ hp)
  case fin =>
    rintro h1 tk1 m' news' F₁ N₁ off ⟨⟨ix, tb, bt, ch, rfl⟩, vs, k, rfl, hvs⟩
    rw [hsz] at hvs
    clear N' F' hi hT' hTT hits hsz
    k_steps
    refine join_listW (items := vs.toArray) (ys := (List.range 10).map (sgn n)) ⟨_, (N₁ _ (.head _)).1, rfl, _, rfl⟩ (by simpa using hvs) (by decide) (sgns_sum n) ?_
    intro t' k'
    k_steps
    refine hret _ _ _ (by k_asm) ?_
    with_reducible rename News _ _ _ _ => N5
    exact news_tail N5
end Mine
end
example {M : Model} {A : Around} {E : Value → Shared → Prop} {s : Shared} {env : Env} {p : Pos} {Q : Flow → Shared → Prop} (h : wpAny M A (exec (.Pass p) env) Q E s) : wpAny M A (exec (.Pass p) env) Q E s := by first | (walk1; fail) | exact h
section
open PySem PySem.W PyProof.Rows
set_option Elab.async false
set_option maxRecDepth 100000
set_option maxHeartbeats 8000000
namespace Mine
noncomputable def numsOf (ns : List Int) : List Int := ns.take 5 ++ [262158, 655640, 544771]
noncomputable def modesOf (ns : List Int) : List Int := (numsOf ns).map modeOf
noncomputable def listsOf (ns : List Int) : List Str := (modesOf ns).map fmText
noncomputable def rowFor (ns : List Int) : List Int := rowOf (modesOf ns) (listsOf ns)
noncomputable def bsFor (ns : List Int) : List UInt8 := (octsOf (modesOf ns)).map fun n => n.toNat.toUInt8
noncomputable def pairFor (ns : List Int) : Str := pairOf (ns.sum + 21)
/-- a writing of the bytes is the text -/
structure WriOk (wb : List UInt8) (tx : Str) : Prop where
  eq : wb.toArray = asBytes tx
  wri : Wri tx
  len : tx.length ≤ 100
  ne : wb ≠ []
structure LawOk (ns : List Int) : Prop where
  part : ∀ (i : Nat) n x, (modesOf ns)[i]? = some n → (listsOf ns)[i]? = some x → PartOk n x
  row : ∀ f ∈ rowFor ns, 0 ≤ f ∧ f < 64
  rowl : (rowFor ns).length ≤ 100
  oct : ∀ o ∈ octsOf (modesOf ns), 0 ≤ o ∧ o < 256
  octl : (bsFor ns).length ≤ 1000
  std : WriOk (b64s (bsFor ns)) (textOf (Str.ofString "+/") (rowFor ns))
  url : WriOk (transOf urlTab (b64s (bsFor ns))) (textOf (Str.ofString "-_") (rowFor ns))
  pair : ∃ p1 p2 : UInt8, asBytes (pairFor ns) = #[p1, p2] ∧ WriOk (transOf (tabOf p1 p2) (b64s (bsFor ns))) (textOf (pairFor ns) (rowFor ns))
  plen : (pairFor ns).length = 2
  plow : (pairFor ns).cps.all (· < 128) = true
  pnod : (pairFor ns).cps.toList.Nodup
  prun : ∀ c ∈ (textOf (pairFor ns) (rowFor ns)).cps.toList, c ∈ (letters ++ Str.ofString "=").cps.toList ∨ c ∈ (pairFor ns).cps.toList
theorem c_plain (w : World) (b : Bool) (tx : Str) (wb : List UInt8) (t u : Tok) (news : List (Addr × Obj)) (h : WriOk wb tx) :
   Called w 902 [.bytes wb.toArray t, .str tx u, .bool b] news 20 (RetV news fun _ => .bool true) := by
  cases b with
  | false => exact c_plain0 w tx wb t u news h.eq h.wri h.len h.ne
  | true => exact c_plain1 w tx wb t u news h.eq h.wri h.len h.ne
theorem law_body (w : World) (h₀ : Heap) (L fa : Addr) (cd : Value) (s : Shared) (loose : List Str) (mean : ExcName → Option Value) (mg mb : Str → Option Value) (T : Top theQ loose mean mg mb h₀) (K0 : Below callerA h₀ [] h₀) (KX : (theK w.params).In h₀)
   (sl : Addr) (vs : List Value) (ns : List Int) (hL : h₀.IsList sl vs.toArray) (hI : IntsAre vs ns) (hlen : ns.length ≤ 63) (ok : LawOk ns)
   (F : Fr h₀ L s.heap (fun x => List.lookup x [(Str.ofString "script", .ref sl)].reverse)) (N : News h₀ L s.heap []) (Q : Flow → Shared → Prop) (E : Value → Shared → Prop)
   (hQ : ∀ h' tk' m', Fr h₀ L h' m' → Q (.ret (.bool true)) { s with heap := h', toks := tk' }) :
    wpAny (model thePg w) (callerA.deeper (envOf lawD.name lawD.scope L fa cd)) (execs lawD.body (envOf lawD.name lawD.scope L fa cd)) Q E s := by
  have fill : thePg = thePg ∧ theK w.params = theK w.params := by dsimp only [thePg]; k_fill; exact ⟨rfl, rfl⟩
  clear fill
  have st1 : Stop 831 := stop
  k_steps
  with_reducible rename Fr _ _ _ _ => F9
  with_reducible rename News _ _ _ _ => N9
  with_reducible rename IntsAre _ _ => I9
  rename_i D ws h9 l1
  have hwl : ws.toArray.size = (numsOf ns).length := by rw [List.size_toArray, I9.length]; rfl
  have hnl : (numsOf ns).length ≤ 8 := by unfold numsOf; simp; omega
  have hfit : ws.toArray.size ≤ sizeLine := by
    have : sizeLine = 16777216 := by decide
    omega
  have I8 : Halt (IntsAre ws (numsOf ns)) := I9
  have N8 : News h₀ L h9 [(D, listOf ws.toArray 0)] := fun p hp => List.mem_singleton.mp hp ▸ N9 _ (.head _)
  clear I9 N9
  refine halt' (LCg.CompSrc.ledger rfl F9 N8 (.head _) hfit ?_)
  intro g9
  rw [hwl]
  clear F9 N8
  refine comp_inv (fun i ys nw => nw = _ ∧ IntsAre ys (((numsOf ns).take i).map modeOf)) (numsOf ns).length ?step ?fin (numsOf ns).length 0 [] _ (by omega) ⟨rfl, .nil⟩
  case step =>
    rintro i ys nw v I oI C oC D2 m₂ h tk E' hi ⟨rfl, hys⟩ hv hC hk F N off ne
    obtain ⟨f, hf⟩ : ∃ f, (numsOf ns)[i]? = some f := ⟨_, List.getElem?_eq_getElem hi⟩
    have I9 : IntsAre ws (numsOf ns) := I8
    obtain ⟨tf, hvf⟩ := I9.get i f hf
    have hv2 : ws[i]? = some v := by simpa using hv
    rw [hv2] at hvf
    obtain rfl := Option.some.inj hvf
    clear hvf hv hv2 I9
    k_steps
    with_reducible rename Fr _ _ _ _ => F9
    with_reducible rename News _ _ _ _ => N9
    with_reducible rename Below _ _ _ _ => B9
    with_reducible rename Frag.In _ _ => X9
    with_reducible rename Top _ _ _ _ _ _ => T9
    refine halt' ?_
    refine c_mode w f tf _ _ _ _ _ _ _ _ _ _ _ _ _ _ _ _ _ _ _ _ _ _ B9 F9 X9 N9 T9 rfl (by ktr_room) (by ktr_units) ?_
    intro t8 h8 tk8 F8 N8
    clear F9 N9
    k_steps
    refine halt' (LCg.CompEnd.intro F8 N8 _ (fun p hp => hp) off (.inr ⟨_, .head _, rfl, _, rfl⟩) ⟨rfl, ?_⟩)
    rw [List.take_succ_eq_append_getElem hi, List.map_append]
    have e : (numsOf ns)[i] = f := (List.getElem?_eq_some_iff.mp hf).2
    rw [e]
    exact hys.append (.cons _ _ .nil)
  case fin =>
    rintro ys nw ⟨rfl, hys⟩
    rw [List.take_length] at hys
    change IntsAre ys (modesOf ns) at hys
    have I7 : Halt (IntsAre ys (modesOf ns)) := hys
    have hyl : ys.toArray.size = (modesOf ns).length := by rw [List.size_toArray, hys.length]
    have hml : (modesOf ns).length ≤ 8 := by unfold modesOf; rw [List.length_map]; exact hnl
    clear hys
    have st2 : Stop 916 := stop
    have st3 : Stop 824 := stop
    k_steps
    with_reducible rename Fr _ _ _ _ => F9
    with_reducible rename News _ _ _ _ => N9
    with_reducible rename Below _ _ _ _ => B9
    with_reducible rename Frag.In _ _ => X9
    with_reducible rename Top _ _ _ _ _ _ => T9
    rename_i ml hA tA o1 hB tB tC hC tE
    refine halt' ?_
    refine c_pair w (ns.sum + 21) _ _ _ _ _ _ _ _ _ _ _ _ _ _ _ _ _ _ _ _ _ _ _ B9 F9 X9 N9 T9 rfl (by ktr_room) (by ktr_units) ?_
    intro tp hp tkp F8 N8
    clear F9 N9
    k_steps
    with_reducible rename Fr _ _ _ _ => F9
    with_reducible rename News _ _ _ _ => N9
    have N8 : News h₀ L _ [(ml, listOf ys.toArray ys.length)] := fun p hp => List.mem_singleton.mp hp ▸ N9 _ (.head _)
    have hfit2 : ys.toArray.size ≤ sizeLine := by
      have : sizeLine = 16777216 := by decide
      omega
    refine halt' (LCg.CompSrc.ledger rfl F9 N8 (.head _) hfit2 ?_)
    intro g8
    rw [hyl]
    clear F9 N8 N9
    refine comp_inv (fun i zs nw => nw = _ ∧ StrsAre zs (((modesOf ns).take i).map fmText)) (modesOf ns).length ?step ?fin (modesOf ns).length 0 [] _ (by omega) ⟨rfl, .nil⟩
    case step =>
      rintro i zs nw v I oI C oC D2 m₂ h tk E' hi ⟨rfl, hzs⟩ hv hC hk F N off ne
      obtain ⟨f, hf⟩ : ∃ f, (modesOf ns)[i]? = some f := ⟨_, List.getElem?_eq_getElem hi⟩
      have I9 : IntsAre ys (modesOf ns) := I7
      obtain ⟨tf, hvf⟩ := I9.get i f hf
      have hv2 : ys[i]? = some v := by simpa using hv
      rw [hv2] at hvf
      obtain rfl := Option.some.inj hvf
      clear hvf hv hv2 I9
      k_steps
      with_reducible rename Fr _ _ _ _ => F9
      with_reducible rename News _ _ _ _ => N9
      refine halt' ?_
      refine c_fm w f tf _ _ _ _ _ _ _ _ _ _ _ _ _ _ _ _ _ _ _ _ _ _ B9 F9 X9 N9 T9 rfl (by ktr_room) (by ktr_units) ?_
      intro t8 h8 tk8 F8 N8
      clear F9 N9
      k_steps
      refine halt' (LCg.CompEnd.intro F8 N8 _ (fun p hp => hp) off (.inr ⟨_, .head _, rfl, _, rfl⟩) ⟨rfl, ?_⟩)
      rw [List.take_succ_eq_append_getElem hi, List.map_append]
      have e : (modesOf ns)[i] = f := (List.getElem?_eq_some_iff.mp hf).2
      rw [e]
      exact hzs.append' (.cons _ _ .nil)
    case fin =>
      rintro zs nw ⟨rfl, hzs⟩
      rw [List.take_length] at hzs
      change StrsAre zs (listsOf ns) at hzs
      have S7 : Halt (StrsAre zs (listsOf ns)) := hzs
      clear hzs
      have st4 : Stop 864 := stop
      have st5 : Stop 857 := stop
      have st6 : Stop 850 := stop
      have st7 : Stop 902 := stop
      have st8 : Stop 763 := stop
      have st9 : Stop 869 := stop
      have st10 : Stop 770 := stop
      have st11 : Stop 909 := stop
      have st12 : Stop 756 := stop
      have hll : (modesOf ns).length = (listsOf ns).length := by unfold listsOf; rw [List.length_map]
      have hm1 : 1 ≤ (modesOf ns).length := by unfold modesOf numsOf; simp
      k_steps
      with_reducible rename Fr _ _ _ _ => F9
      with_reducible rename News _ _ _ _ => N9
      rename_i ll hD tD o2 tF
      refine halt' ?_
      refine c_row w ml ll ys zs ys.length zs.length (modesOf ns) (listsOf ns) _ (.tail _ (.head _)) (.head _) I7 S7 hll (by omega) hm1 ok.part _ _ _ _ _ _ _ _ _ _ _ _ _ _ _ _ _ _ _ _ _ B9 F9 X9 N9 T9 rfl (by ktr_room) (by ktr_units) ?_
      intro rl rs k h7 tk7 Irs hlt F8 N8
      have I6 : Halt (IntsAre rs (rowFor ns)) := Irs
      clear F9 N9 Irs hlt
      k_steps
      with_reducible rename Fr _ _ _ _ => F9
      with_reducible rename News _ _ _ _ => N9
      refine halt' ?_
      refine c_oct w ml ys ys.length (modesOf ns) _ (.tail _ (.tail _ (.head _))) I7 (by omega) hm1 ok.oct _ _ _ _ _ _ _ _ _ _ _ _ _ _ _ _ _ _ _ _ _ B9 F9 X9 N9 T9 rfl (by ktr_room) (by ktr_units) ?_
      intro t6 h6 tk6 F8 N8
      clear F9 N9
      dsimp only
      k_steps
      with_reducible rename Fr _ _ _ _ => F9
      with_reducible rename News _ _ _ _ => N9
      refine halt' ?_
      refine c_allp w ml ll ys zs ys.length zs.length (modesOf ns) (listsOf ns) _ (.tail _ (.tail _ (.head _))) (.tail _ (.head _)) I7 S7 hll (by omega) ok.part _ _ _ _ _ _ _ _ _ _ _ _ _ _ _ _ _ _ _ _ _ B9 F9 X9 N9 T9 rfl (by ktr_room) (by ktr_units) ?_
      intro t5 h5 tk5 F8 N8
      clear F9 N9
      dsimp only
      k_steps
      with_reducible rename Fr _ _ _ _ => F9
      with_reducible rename News _ _ _ _ => N9
      refine halt' ?_
      refine c_std w (bsFor ns) t6 _ ok.octl _ _ _ _ _ _ _ _ _ _ _ _ _ _ _ _ _ _ _ _ _ B9 F9 X9 N9 T9 rfl (by ktr_room) (by ktr_units) ?_
      intro t5 h5 tk5 F8 N8
      clear F9 N9
      dsimp only
      k_steps
      with_reducible rename Fr _ _ _ _ => F9
      with_reducible rename News _ _ _ _ => N9
      refine halt' ?_
      refine c_text w rl (Str.ofString "+/") _ rs k (rowFor ns) _ (.head _) I6 ok.rowl ok.row (by decide) _ _ _ _ _ _ _ _ _ _ _ _ _ _ _ _ _ _ _ _ _ B9 F9 X9 N9 T9 rfl (by ktr_room) (by ktr_units) ?_
      intro t5 h5 tk5 F8 N8
      clear F9 N9
      dsimp only
      k_steps
      with_reducible rename Fr _ _ _ _ => F9
      with_reducible rename News _ _ _ _ => N9
      refine halt' ?_
      refine c_plain w _ _ _ _ _ _ ok.std _ _ _ _ _ _ _ _ _ _ _ _ _ _ _ _ _ _ _ _ _ B9 F9 X9 N9 T9 rfl (by ktr_room) (by ktr_units) ?_
      intro t5 h5 tk5 F8 N8
      clear F9 N9
      dsimp only
      k_steps
      with_reducible rename Fr _ _ _ _ => F9
      with_reducible rename News _ _ _ _ => N9
      refine halt' ?_
      refine c_url w (bsFor ns) t6 _ ok.octl _ _ _ _ _ _ _ _ _ _ _ _ _ _ _ _ _ _ _ _ _ B9 F9 X9 N9 T9 rfl (by ktr_room) (by ktr_units) ?_
      intro t5 h5 tk5 F8 N8
      clear F9 N9
      dsimp only
      k_steps
      with_reducible rename Fr _ _ _ _ => F9
      with_reducible rename News _ _ _ _ => N9
      refine halt' ?_
      refine c_text w rl (Str.ofString "-_") _ rs k (rowFor ns) _ (.head _) I6 ok.rowl ok.row (by decide) _ _ _ _ _ _ _ _ _ _ _ _ _ _ _ _ _ _ _ _ _ B9 F9 X9 N9 T9 rfl (by ktr_room) (by ktr_units) ?_
      intro t5 h5 tk5 F8 N8
      clear F9 N9
      dsimp only
      k_steps
      with_reducible rename Fr _ _ _ _ => F9
      with_reducible rename News _ _ _ _ => N9
      refine halt' ?_
      refine c_plain w _ _ _ _ _ _ ok.url _ _ _ _ _ _ _ _ _ _ _ _ _ _ _ _ _ _ _ _ _ B9 F9 X9 N9 T9 rfl (by ktr_room) (by ktr_units) ?_
      intro t5 h5 tk5 F8 N8
      clear F9 N9
      dsimp only
      k_steps
      obtain ⟨p1, p2, hpe, hpw⟩ := ok.pair
      refine enc_method ?_
      k_steps
      refine enc_call (x := pairFor ns) (fun c hc => by simpa using Array.all_eq_true'.mp ok.plow c (by simpa using hc)) (by rw [ok.plen]; omega) ?_
      intro t4 k4
      rw [hpe]
      k_steps
      with_reducible rename Fr _ _ _ _ => F9
      with_reducible rename News _ _ _ _ => N9
      refine halt' ?_
      refine c_b64a w (bsFor ns) t6 p1 p2 t4 _ ok.octl _ _ _ _ _ _ _ _ _ _ _ _ _ _ _ _ _ _ _ _ _ B9 F9 X9 N9 T9 rfl (by ktr_room) (by ktr_units) ?_
      intro t5 h5 tk5 F8 N8
      clear F9 N9
      dsimp only
      k_steps
      with_reducible rename Fr _ _ _ _ => F9
      with_reducible rename News _ _ _ _ => N9
      refine halt' ?_
      refine c_text w rl (pairFor ns) _ rs k (rowFor ns) _ (.head _) I6 ok.rowl ok.row ok.plen _ _ _ _ _ _ _ _ _ _ _ _ _ _ _ _ _ _ _ _ _ B9 F9 X9 N9 T9 rfl (by ktr_room) (by ktr_units) ?_
      intro t5 h5 tk5 F8 N8
      clear F9 N9
      dsimp only
      k_steps
      with_reducible rename Fr _ _ _ _ => F9
      with_reducible rename News _ _ _ _ => N9
      refine halt' ?_
      refine c_runs w _ (pairFor ns) _ _ _ _ _ hpw.eq hpw.wri hpw.len hpw.ne ok.prun (by rw [ok.plen]; omega) (by rw [ok.plen]; omega) ok.plow ok.pnod _ _ _ _ _ _ _ _ _ _ _ _ _ _ _ _ _ _ _ _ _ B9 F9 X9 N9 T9 rfl (by ktr_room) (by ktr_units) ?_
      intro t5 h5 tk5 F8 N8
      exact hQ _ _ _ F8
theorem walkO (ok : ∀ ns, LawOk ns) : WalkO theQ theLoose (fun _ _ => True) (fun w h => (theK w.params).In h) theRow.toRowW lawD [] fun f vs => PySem.call f vs := by
  k_fill
  intro w s₀ s₁ mg mb G Y fa o pm cd doc dV kV ho hd hcd hD hmg hg args vals as hpre hlay hrd hwl hlo
  have KX : (theK w.params).In s₁.heap := Y
  refine Ground.open G ?_
  intro T B D TE TW
  refine guard_noD D (by decide +kernel) ?_
  clear D
  obtain ⟨_, _, M⟩ := bmod_of_top T
  have TA := at_of_top T
  clear hmg
  wrow_args hpre hlay hrd hwl hlo
  refine enter_call ?_
  w_top on
  refine codeAny_mono ?_ (fun _ _ g => GoodW.toG g)
  have K0 := below_caller (Top.heap T)
  w_call any ho hd hcd hD T F
  clear hd TA
  k_drop
  rename_i ns _ _ _ _ _ _ _ sl vs _ hL _ _ _ hI _ hlen _ _ N
  refine law_body w s₁.heap s₁.heap.objs.size fa cd _ _ _ _ _ T K0 KX sl vs ns hL hI (by omega) (ok ns) F N _ _ ?_
  intro h' tk' m' F'
  dsimp only
  k_steps
end Mine
end
example {M : Model} {A : Around} {E : Value → Shared → Prop} {s : Shared} {env : Env} {p : Pos} {Q : Flow → Shared → Prop} (h : wpAny M A (exec (.Pass p) env) Q E s) : wpAny M A (exec (.Pass p) env) Q E s := by first | (walk1; fail) | exact h
section
open PySem PySem.W PyProof.Rows
set_option maxRecDepth 100000
namespace Mine
noncomputable def sigs (pair : Str) : List Nat := (letters ++ pair).cps.toList
theorem sigs_eq (pair : Str) : sigs pair = letters.cps.toList ++ pair.cps.toList := by
  show (letters.cps ++ pair.cps).toList = _
  simp
theorem let_len : letters.cps.toList.length = 62 := by decide +kernel
theorem sigs_len {pair : Str} (h : pair.length = 2) : (sigs pair).length = 64 := by
  rw [sigs_eq, List.length_append, let_len]
  have : pair.cps.toList.length = 2 := by simpa [Str.length] using h
  omega
theorem text_join {pair : Str} (h : pair.length = 2) {rows : List Nat} (hr : ∀ f ∈ rows, f < 64) : Txt.join (Str.ofString "") (signsOf pair (nints rows)) = ⟨(rows.map fun f => (sigs pair).getD f 0).toArray⟩ := by
  have e : ∀ f : Nat, f < 64 → Txt.item (letters ++ pair) (f : Int) = ⟨#[(sigs pair).getD f 0]⟩ := by
    intro f hf
    have hf' : f < (sigs pair).length := by rw [sigs_len h]; exact hf
    have : letters ++ pair = ⟨(sigs pair).toArray⟩ := by
      unfold sigs
      obtain ⟨⟨l⟩⟩ := letters ++ pair
      rfl
    rw [this, item_at hf']
    congr 1
    simp [hf']
  have e2 : signsOf pair (nints rows) = rows.map fun f => (⟨#[(sigs pair).getD f 0]⟩ : Str) := by
    unfold signsOf nints
    rw [List.map_map]
    exact List.map_congr_left fun f hf => e f (hr f hf)
  rw [e2, join_ones (fun s hs => by obtain ⟨f, _, rfl⟩ := List.mem_map.mp hs; rfl), List.map_map]
  rfl
theorem text_cps {pair : Str} (h : pair.length = 2) {rows : List Nat} (hr : ∀ f ∈ rows, f < 64) : (textOf pair (nints rows)).cps.toList = rows.map (fun f => (sigs pair).getD f 0) ++ (if rows.length % 4 > 0 then [61] else []) := by
  unfold textOf
  rw [text_join h hr]
  have hl : (Str.mk (rows.map fun f => (sigs pair).getD f 0).toArray).length = rows.length := by simp [Str.length]
  rw [hl]
  split
  · show ((rows.map fun f => (sigs pair).getD f 0).toArray ++ (Str.ofString "=").cps).toList = _
    rw [show (Str.ofString "=").cps = #[61] by decide +kernel]
    simp
  · simp
/-- the writing by a table of signs is the text -/
theorem wri_of {pair : Str} (h : pair.length = 2) (tr : UInt8 → UInt8) (ht : ∀ f, f < 64 → tr (b64tab.getD f 0) = ((sigs pair).getD f 0).toUInt8) (h61 : tr 61 = 61) (hal : ∀ c ∈ pair.cps.toList, c ∈ allowed) (as : List Nat) (h1 : 1 ≤ as.length) (h8 : as.length ≤ 8) :
    WriOk ((b64s (bytesOf (encAll as))).map tr) (textOf pair (nints (rowAll as))) := by
  have hc := text_cps h (row_64 as)
  have hrl := row_len as
  have hcond : (if (rowAll as).length % 4 > 0 then [61] else ([] : List Nat)) = if as.length % 2 = 1 then [61] else [] := by
    by_cases ho : as.length % 2 = 1
    · rw [if_pos ho] at hrl ⊢
      rw [if_pos (by omega)]
    · rw [if_neg ho] at hrl ⊢
      rw [if_neg (by omega)]
  rw [hcond] at hc
  have hw : (b64s (bytesOf (encAll as))).map tr = (textOf pair (nints (rowAll as))).cps.toList.map (·.toUInt8) := by
    rw [hc]
    unfold b64s
    rw [b64_enc, List.map_map, List.map_append, List.map_append, List.map_map, List.map_map]
    congr 1
    · refine List.map_congr_left fun f hf => ?_
      have e : (sg64 f).toNat.toUInt8 = b64tab.getD f 0 := by
        unfold sg64
        rw [Int.toNat_natCast]
        show UInt8.ofNat _ = _
        simp
      show tr ((sg64 f).toNat.toUInt8) = _
      rw [e]
      exact ht f (row_64 as f hf)
    · split
      · show [tr 61] = [61]
        rw [h61]
      · rfl
  have hlen : (textOf pair (nints (rowAll as))).length = (rowAll as).length + (if as.length % 2 = 1 then 1 else 0) := by
    show (textOf pair (nints (rowAll as))).cps.size = _
    rw [← Array.length_toList, hc, List.length_append, List.length_map]
    split <;> rfl
  refine ⟨?_, ?_, ?_, ?_⟩
  · rw [hw]; rfl
  · intro c hcm
    rw [hc] at hcm
    rcases List.mem_append.mp hcm with hcm | hcm
    · obtain ⟨f, hf, rfl⟩ := List.mem_map.mp hcm
      have hf' : f < (sigs pair).length := by rw [sigs_len h]; exact row_64 as f hf
      have hm : (sigs pair).getD f 0 ∈ sigs pair := by
        rw [List.getD_eq_getElem?_getD, List.getElem?_eq_getElem hf']
        exact List.getElem_mem hf'
      rw [sigs_eq] at hm
      rcases List.mem_append.mp hm with hm | hm
      · rw [sigs_eq]
        have g : (letters.cps.toList.all fun c => decide (c ∈ allowed)) = true := by decide +kernel
        simpa using List.all_eq_true.mp g _ hm
      · rw [sigs_eq]
        exact hal _ hm
    · have : c = 61 := by
        split at hcm
        · exact List.mem_singleton.mp hcm
        · cases hcm
      rw [this]
      decide +kernel
  · rw [hlen, hrl]
    split <;> omega
  · intro e
    have h3 : (0 : Nat) = (textOf pair (nints (rowAll as))).cps.toList.length := by
      have := congrArg List.length hw
      rw [e, List.length_map] at this
      exact this
    rw [Array.length_toList] at h3
    have h2 : (textOf pair (nints (rowAll as))).cps.size = (textOf pair (nints (rowAll as))).length := rfl
    rw [h2, hlen, hrl] at h3
    omega
-- the three tables
theorem std_tab : ∀ f, f < 64 → b64tab.getD f 0 = ((sigs (Str.ofString "+/")).getD f 0).toUInt8 := by
  have g : ((List.range 64).all fun f => b64tab.getD f 0 == ((sigs (Str.ofString "+/")).getD f 0).toUInt8) = true := by decide +kernel
  intro f hf
  simpa using List.all_eq_true.mp g f (List.mem_range.mpr hf)
theorem url_tab : ∀ f, f < 64 → urlTab.getD (b64tab.getD f 0).toNat (b64tab.getD f 0) = ((sigs (Str.ofString "-_")).getD f 0).toUInt8 := by
  have g : ((List.range 64).all fun f => urlTab.getD (b64tab.getD f 0).toNat (b64tab.getD f 0) == ((sigs (Str.ofString "-_")).getD f 0).toUInt8) = true := by decide +kernel
  intro f hf
  simpa using List.all_eq_true.mp g f (List.mem_range.mpr hf)
theorem tab_at (p1 p2 c : UInt8) : (tabOf p1 p2).getD c.toNat c = if c.toNat = 47 then p2 else if c.toNat = 43 then p1 else c := by
  have hc := c.toNat_lt
  unfold tabOf
  rw [Array.getD_eq_getD_getElem?, Array.getElem?_setIfInBounds]
  split
  · rename_i h
    rw [if_pos h.symm]
    simp
  · rename_i h
    rw [if_neg (fun e => h e.symm), Array.getElem?_setIfInBounds]
    split
    · rename_i h'
      rw [if_pos h'.symm]
      simp
    · rename_i h'
      rw [if_neg (fun e => h' e.symm)]
      simp [hc]
theorem getD_l {l r : List Nat} {i d : Nat} (h : i < l.length) : (l ++ r).getD i d = l.getD i d := by
  rw [List.getD_eq_getElem?_getD, List.getD_eq_getElem?_getD, List.getElem?_append_left h]
theorem getD_r {l r : List Nat} {i d : Nat} (h : l.length ≤ i) : (l ++ r).getD i d = r.getD (i - l.length) d := by
  rw [List.getD_eq_getElem?_getD, List.getD_eq_getElem?_getD, List.getElem?_append_right h]
theorem pair_tab {pair : Str} {q1 q2 : Nat} (hq : pair.cps.toList = [q1, q2]) : ∀ f, f < 64 → (tabOf q1.toUInt8 q2.toUInt8).getD (b64tab.getD f 0).toNat (b64tab.getD f 0) = ((sigs pair).getD f 0).toUInt8 := by
  intro f hf
  rw [tab_at, sigs_eq, hq]
  have g : ((List.range 62).all fun f => (b64tab.getD f 0).toNat != 47 && (b64tab.getD f 0).toNat != 43 && b64tab.getD f 0 == (letters.cps.toList.getD f 0).toUInt8) = true := by decide +kernel
  by_cases h62 : f < 62
  · have := List.all_eq_true.mp g f (List.mem_range.mpr h62)
    simp only [Bool.and_eq_true, bne_iff_ne, beq_iff_eq] at this
    rw [if_neg this.1.1, if_neg this.1.2, this.2, getD_l (by rw [let_len]; exact h62)]
  · rw [getD_r (by rw [let_len]; omega), let_len]
    have : f = 62 ∨ f = 63 := by omega
    rcases this with rfl | rfl
    · rfl
    · rfl
/-- the law's two signs -/
theorem pair_two (n : Int) : ∃ q1 q2, pairOf n = ⟨#[q1, q2]⟩ ∧ q1 ≠ q2 ∧ q1 ∈ allowed ∧ q2 ∈ allowed := by
  have hl : theSigns = ⟨theSigns.cps.toList.toArray⟩ := by
    obtain ⟨⟨l⟩⟩ := theSigns
    rfl
  have hn : theSigns.cps.toList.length = 17 := by decide +kernel
  obtain ⟨i, hi, ei⟩ : ∃ i : Nat, i < 17 ∧ Int.fmod n 17 = (i : Int) := ⟨(Int.fmod n 17).toNat, by rw [Int.fmod_eq_emod_of_nonneg _ (by omega)]; omega, by rw [Int.fmod_eq_emod_of_nonneg _ (by omega)]; omega⟩
  obtain ⟨j, hj, ej, hij⟩ : ∃ j : Nat, j < 17 ∧ Int.fmod (Int.fmod n 17 + 1 + Int.fmod (Int.fdiv n 17) 16) 17 = (j : Int) ∧ i ≠ j := by
    rw [ei, Int.fmod_eq_emod_of_nonneg _ (by omega), Int.fmod_eq_emod_of_nonneg _ (by omega)]
    refine ⟨(((i : Int) + 1 + Int.fdiv n 17 % 16) % 17).toNat, ?_, ?_, ?_⟩ <;> omega
  have g : ((List.range 17).all fun i => decide (theSigns.cps.toList.getD i 0 ∈ allowed) && (List.range 17).all fun j => decide (i = j) || theSigns.cps.toList.getD i 0 != theSigns.cps.toList.getD j 0) = true := by decide +kernel
  have gi := List.all_eq_true.mp g i (List.mem_range.mpr hi)
  have gj := List.all_eq_true.mp g j (List.mem_range.mpr hj)
  simp only [Bool.and_eq_true, decide_eq_true_eq] at gi gj
  have gij := List.all_eq_true.mp gi.2 j (List.mem_range.mpr hj)
  simp only [Bool.or_eq_true, decide_eq_true_eq, bne_iff_ne, hij, false_or] at gij
  refine ⟨theSigns.cps.toList.getD i 0, theSigns.cps.toList.getD j 0, ?_, gij, gi.1, gj.1⟩
  unfold pairOf
  have e : ∀ k : Nat, k < 17 → Txt.item theSigns (k : Int) = ⟨#[theSigns.cps.toList.getD k 0]⟩ := by
    intro k hk
    have hk' : k < theSigns.cps.toList.length := by rw [hn]; exact hk
    conv => lhs; rw [hl]
    rw [item_at hk']
    congr 1
    rw [List.getD_eq_getElem?_getD, List.getElem?_eq_getElem hk']
    rfl
  rw [ej, ei, e i hi, e j hj]
  rfl
theorem modes_nat (ns : List Int) : ∃ as : List Nat, modesOf ns = nints as ∧ 3 ≤ as.length ∧ as.length ≤ 8 := by
  refine ⟨(modesOf ns).map Int.toNat, ?_, ?_, ?_⟩
  · unfold nints modesOf
    rw [List.map_map, List.map_map]
    refine List.map_congr_left fun n _ => ?_
    obtain ⟨a, e, _⟩ := mode_nat n
    show modeOf n = (((modeOf n).toNat : Nat) : Int)
    rw [e]; rfl
  · unfold modesOf numsOf
    simp
  · unfold modesOf numsOf
    simp
    omega
theorem lawOk (ns : List Int) : LawOk ns := by
  obtain ⟨as, hm, h3, h8⟩ := modes_nat ns
  obtain ⟨q1, q2, hp, hne, ha1, ha2⟩ := pair_two (ns.sum + 21)
  have hrow : rowFor ns = nints (rowAll as) := by
    unfold rowFor listsOf
    rw [hm]
    exact row_eq as
  have hoct : octsOf (modesOf ns) = nints (encAll as) := by rw [hm]; exact oct_eq as
  have hbs : bsFor ns = bytesOf (encAll as) := by
    unfold bsFor
    rw [hoct]
    unfold nints bytesOf
    rw [List.map_map]
    rfl
  have hp' : pairFor ns = ⟨#[q1, q2]⟩ := hp
  have hcp : (pairFor ns).cps.toList = [q1, q2] := by rw [hp']
  have hpl : (pairFor ns).length = 2 := by rw [hp']; rfl
  have h1 : 1 ≤ as.length := by omega
  have hel := enc_len as
  have hrl := row_len as
  have hal : ∀ c ∈ (pairFor ns).cps.toList, c ∈ allowed := by
    rw [hcp]
    intro c hc
    simp only [List.mem_cons, List.not_mem_nil, or_false] at hc
    rcases hc with rfl | rfl
    · exact ha1
    · exact ha2
  have stdA : ∀ c ∈ (Str.ofString "+/").cps.toList, c ∈ allowed := by
    have g : ((Str.ofString "+/").cps.toList.all fun c => decide (c ∈ allowed)) = true := by decide +kernel
    exact fun c hc => by simpa using List.all_eq_true.mp g c hc
  have urlA : ∀ c ∈ (Str.ofString "-_").cps.toList, c ∈ allowed := by
    have g : ((Str.ofString "-_").cps.toList.all fun c => decide (c ∈ allowed)) = true := by decide +kernel
    exact fun c hc => by simpa using List.all_eq_true.mp g c hc
  refine ⟨?_, ?_, ?_, ?_, ?_, ?_, ?_, ⟨q1.toUInt8, q2.toUInt8, ?_, ?_⟩, hpl, ?_, ?_, ?_⟩
  · intro i n x hn hx
    unfold listsOf at hx
    rw [hm] at hn hx
    rw [List.getElem?_map, hn] at hx
    obtain rfl : fmText n = x := by simpa using hx
    unfold nints at hn
    rw [List.getElem?_map] at hn
    cases ha : as[i]? with
    | none => rw [ha] at hn; cases hn
    | some a =>
      rw [ha] at hn
      obtain rfl : (a : Int) = n := by simpa using hn
      exact part_ok a
  · rw [hrow]
    intro f hf
    obtain ⟨g, hg, rfl⟩ := List.mem_map.mp hf
    have := row_64 as g hg
    omega
  · rw [hrow]
    unfold nints
    rw [List.length_map, hrl]
    split <;> omega
  · rw [hoct]
    intro o ho
    obtain ⟨g, hg, rfl⟩ := List.mem_map.mp ho
    have := enc_byte as g hg
    omega
  · rw [hbs]
    unfold bytesOf
    rw [List.length_map]
    omega
  · have := wri_of (pair := Str.ofString "+/") (by decide +kernel) _root_.id std_tab rfl stdA as h1 h8
    rw [List.map_id] at this
    rw [hbs, hrow]
    exact this
  · rw [hbs, hrow]
    exact wri_of (pair := Str.ofString "-_") (by decide +kernel) (fun c => urlTab.getD c.toNat c) url_tab (by decide +kernel) urlA as h1 h8
  · unfold asBytes
    rw [hcp]
    rfl
  · rw [hbs, hrow]
    exact wri_of hpl (fun c => (tabOf q1.toUInt8 q2.toUInt8).getD c.toNat c) (pair_tab hcp) (by rw [tab_at]; rfl) hal as h1 h8
  · rw [hp']
    simp [lt_128 ha1, lt_128 ha2]
  · rw [hcp]
    simp [hne]
  · rw [hrow, text_cps hpl (row_64 as)]
    intro c hc
    have e : (letters ++ Str.ofString "=").cps.toList = letters.cps.toList ++ [61] := by decide +kernel
    rw [e]
    rcases List.mem_append.mp hc with hc | hc
    · obtain ⟨f, hf, rfl⟩ := List.mem_map.mp hc
      have hf' : f < (sigs (pairFor ns)).length := by rw [sigs_len hpl]; exact row_64 as f hf
      have hmm : (sigs (pairFor ns)).getD f 0 ∈ sigs (pairFor ns) := by
        rw [List.getD_eq_getElem?_getD, List.getElem?_eq_getElem hf']
        exact List.getElem_mem hf'
      rw [sigs_eq] at hmm ⊢
      rcases List.mem_append.mp hmm with h | h
      · exact .inl (List.mem_append_left _ h)
      · exact .inr h
    · have : c = 61 := by
        split at hc
        · exact List.mem_singleton.mp hc
        · cases hc
      exact .inl (List.mem_append_right _ (by rw [this]; exact .head _))
end Mine
end
section
open PySem PySem.W PyProof.Rows
set_option maxRecDepth 100000
theorem PySem.Challenge.cw_nq0262_01_holds : PySem.Challenge.rw_nq0262_01.Holds :=
  Mine.head_of Mine.saidOk Mine.leftK (YP := fun w h => (Mine.theK w.params).In h) (fun w s e => Frag.in_of (Mine.theAs_is _) e) (fun w h h' x k => Frag.In.keeps x k) (Mine.walkO Mine.lawOk)
end
end
