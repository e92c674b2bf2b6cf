import PyProof.Rows.All
import Wide.All
import OpenK.AllK
import Wide.FinOn
import PySem.Challenge.RW_pd0154_01
set_option Elab.async false
set_option linter.all false
set_option bootstrap.genMatcherCode false
set_option backward.eqns.nonrecursive false
set_option autoImplicit false
set_option maxRecDepth 100000
set_option maxHeartbeats 8000000
section
namespace Mine
open PySem PySem.W PyProof.Rows
noncomputable abbrev pw : Program := PySem.Challenge.pw_pd0154_01
noncomputable def kFn (i : Nat) (m : Str) (t c : Nat) : Obj := match pw.main.body[i]? with
 | some (.FunctionDef n a b _ _ _ s _ _ _) => { cls := .type "function", data := .func { name := n, qualname := n, params := a, body := .stmts b, scope := s, globals := 3, closure := [], defaults := .none, kwdefaults := .none, pyModule := .str m t, code := .ref c } }
 | _ => { cls := .none }
noncomputable def kTup (xs : Array Value) : Obj := { cls := .type "tuple", data := .seq xs }
noncomputable def kEnt (P : Params) (n : Str) (t : Nat) (v : Value) : DictEntry := ⟨PyData.keyHash P n, .str n t, v⟩
noncomputable def kNs (P : Params) : Obj := { cls := .type "dict", data := .dict #[kEnt P "__name__" 165 (.str "law_pd0154_01" 460), kEnt P "__doc__" 166 (.none), kEnt P "__package__" 167 (.none), kEnt P "__loader__" 168 (.builtin "__main__.__loader__#opaque"), kEnt P "__spec__" 169 (.none), kEnt P "__annotations__" 170 (.ref 6), kEnt P "__builtins__" 171 (.ref 4), kEnt P "__file__" 173 (.str "/claim/cut.py" 172), kEnt P "__cached__" 174 (.none), kEnt P "_wall" 193 (.ref 21), kEnt P "sorted_list_difference" 209 (.ref 28), kEnt P "unorderable_list_difference" 219 (.ref 35), kEnt P "_plain_name" 230 (.ref 42), kEnt P "ABCMeta" 256 (.ref 59), kEnt P "_ABCLike" 299 (.ref 92), kEnt P "_abc_plain_meta" 306 (.ref 101), kEnt P "fspath" 318 (.ref 108), kEnt P "_check_arg_types" 331 (.ref 115), kEnt P "_get_sep" 340 (.ref 122), kEnt P "join" 351 (.ref 129), kEnt P "dirname" 361 (.ref 136), kEnt P "commonpath" 367 (.ref 141), kEnt P "S_IMODE" 376 (.ref 148), kEnt P "S_IFMT" 383 (.ref 155), kEnt P "S_IFDIR" 385 (.int 16384 384), kEnt P "S_IFCHR" 387 (.int 8192 386), kEnt P "S_IFBLK" 389 (.int 24576 388), kEnt P "S_IFREG" 391 (.int 32768 390), kEnt P "S_IFIFO" 393 (.int 4096 392), kEnt P "S_IFLNK" 395 (.int 40960 394), kEnt P "S_IFSOCK" 397 (.int 49152 396), kEnt P "S_ISUID" 399 (.int 2048 398), kEnt P "S_ISGID" 401 (.int 1024 400), kEnt P "S_ISVTX" 403 (.int 512 402), kEnt P "S_IRUSR" 405 (.int 256 404), kEnt P "S_IWUSR" 407 (.int 128 406), kEnt P "S_IXUSR" 409 (.int 64 408), kEnt P "S_IRGRP" 411 (.int 32 410), kEnt P "S_IWGRP" 413 (.int 16 412), kEnt P "S_IXGRP" 415 (.int 8 414), kEnt P "S_IROTH" 417 (.int 4 416), kEnt P "S_IWOTH" 419 (.int 2 418), kEnt P "S_IXOTH" 421 (.int 1 420), kEnt P "_filemode_table" 447 (.ref 188), kEnt P "filemode" 459 (.ref 195), kEnt P "_law_drawn" 467 (.ref 200), kEnt P "_law_paths" 476 (.ref 207), kEnt P "_law_way" 489 (.ref 214), kEnt P "_law_walked" 495 (.ref 219), kEnt P "_law_marked" 501 (.ref 224), kEnt P "_law_row" 511 (.ref 231), kEnt P "_law_ups" 520 (.ref 238), kEnt P "_law_text" 526 (.ref 243), kEnt P "_law_wanted" 532 (.ref 248), kEnt P "law" 551 (.ref 255)] 55 }
noncomputable def hK (P : Params) : Frag := [(3, kNs P), (27, { cls := .type "code", data := .fields #[.str "sorted_list_difference" 196, .str "sorted_list_difference" 197, .str "/claim/cut.py" 198, .int 5 0, .int 2 0, .int 0 0, .int 0 0, .int 3 0, .ref 22, .bool true, .int 181 0, .ref 23, .none, .ref 24, .ref 25, .ref 26, .int 207 0, .int 5 0, .str "/claim/cut.py" 208] }), (28, kFn 2 "cpy313.unittest.util" 194 27), (34, { cls := .type "code", data := .fields #[.str "unorderable_list_difference" 210, .str "unorderable_list_difference" 211, .str "/claim/cut.py" 212, .int 37 0, .int 2 0, .int 0 0, .int 0 0, .int 3 0, .ref 29, .bool true, .int 181 0, .ref 30, .none, .ref 31, .ref 32, .ref 33, .int 217 0, .int 37 0, .str "/claim/cut.py" 218] }), (35, kFn 3 "cpy313.unittest.util" 194 34), (107, { cls := .type "code", data := .fields #[.str "fspath" 309, .str "fspath" 310, .str "/claim/cut.py" 311, .int 77 0, .int 1 0, .int 0 0, .int 0 0, .int 3 0, .ref 102, .bool true, .int 181 0, .ref 103, .none, .ref 104, .ref 105, .ref 106, .int 316 0, .int 77 0, .str "/claim/cut.py" 317] }), (108, kFn 12 "os" 307 107), (121, { cls := .type "code", data := .fields #[.str "_get_sep" 334, .str "_get_sep" 335, .str "/claim/cut.py" 336, .int 106 0, .int 1 0, .int 0 0, .int 0 0, .int 3 0, .ref 116, .bool true, .int 181 0, .ref 117, .none, .ref 118, .ref 119, .ref 120, .int 338 0, .int 106 0, .str "/claim/cut.py" 339] }), (122, kFn 16 "cpy313.posixpath" 332 121), (128, { cls := .type "code", data := .fields #[.str "join" 341, .str "join" 342, .str "/claim/cut.py" 343, .int 111 0, .int 1 0, .int 0 0, .int 0 0, .int 7 0, .ref 123, .bool true, .int 181 0, .ref 124, .none, .ref 125, .ref 126, .ref 127, .int 349 0, .int 111 0, .str "/claim/cut.py" 350] }), (129, kFn 17 "cpy313.posixpath" 332 128), (135, { cls := .type "code", data := .fields #[.str "dirname" 352, .str "dirname" 353, .str "/claim/cut.py" 354, .int 128 0, .int 1 0, .int 0 0, .int 0 0, .int 3 0, .ref 130, .bool true, .int 181 0, .ref 131, .none, .ref 132, .ref 133, .ref 134, .int 359 0, .int 128 0, .str "/claim/cut.py" 360] }), (136, kFn 18 "cpy313.posixpath" 332 135), (140, { cls := .type "code", data := .fields #[.str "commonpath" 362, .str "commonpath" 363, .str "/claim/cut.py" 364, .int 136 0, .int 1 0, .int 0 0, .int 0 0, .int 3 0, .ref 137, .bool true, .int 181 0, .ref 138, .none, .none, .none, .ref 139, .int 365 0, .int 136 0, .str "/claim/cut.py" 366] }), (141, kFn 19 "cpy313.posixpath" 332 140), (147, { cls := .type "code", data := .fields #[.str "S_IMODE" 370, .str "S_IMODE" 371, .str "/claim/cut.py" 372, .int 166 0, .int 1 0, .int 0 0, .int 0 0, .int 3 0, .ref 142, .bool true, .int 181 0, .ref 143, .none, .ref 144, .ref 145, .ref 146, .int 374 0, .int 166 0, .str "/claim/cut.py" 375] }), (148, kFn 21 "cpy313.stat" 368 147), (154, { cls := .type "code", data := .fields #[.str "S_IFMT" 377, .str "S_IFMT" 378, .str "/claim/cut.py" 379, .int 168 0, .int 1 0, .int 0 0, .int 0 0, .int 3 0, .ref 149, .bool true, .int 181 0, .ref 150, .none, .ref 151, .ref 152, .ref 153, .int 381 0, .int 168 0, .str "/claim/cut.py" 382] }), (155, kFn 22 "cpy313.stat" 368 154), (156, kTup #[.int 40960 394, .str "l" 422]), (157, kTup #[.int 49152 396, .str "s" 423]), (158, kTup #[.int 32768 390, .str "-" 424]), (159, kTup #[.int 24576 388, .str "b" 425]), (160, kTup #[.int 16384 384, .str "d" 426]), (161, kTup #[.int 8192 386, .str "c" 427]), (162, kTup #[.int 4096 392, .str "p" 428]), (163, kTup #[.ref 156, .ref 157, .ref 158, .ref 159, .ref 160, .ref 161, .ref 162]), (164, kTup #[.int 256 404, .str "r" 429]), (165, kTup #[.ref 164]), (166, kTup #[.int 128 406, .str "w" 430]), (167, kTup #[.ref 166]), (168, kTup #[.int 2112 431, .str "s" 432]), (169, kTup #[.int 2048 398, .str "S" 433]), (170, kTup #[.int 64 408, .str "x" 434]), (171, kTup #[.ref 168, .ref 169, .ref 170]), (172, kTup #[.int 32 410, .str "r" 435]), (173, kTup #[.ref 172]), (174, kTup #[.int 16 412, .str "w" 436]), (175, kTup #[.ref 174]), (176, kTup #[.int 1032 437, .str "s" 438]), (177, kTup #[.int 1024 400, .str "S" 439]), (178, kTup #[.int 8 414, .str "x" 440]), (179, kTup #[.ref 176, .ref 177, .ref 178]), (180, kTup #[.int 4 416, .str "r" 441]), (181, kTup #[.ref 180]), (182, kTup #[.int 2 418, .str "w" 442]), (183, kTup #[.ref 182]), (184, kTup #[.int 513 443, .str "t" 444]), (185, kTup #[.int 512 402, .str "T" 445]), (186, kTup #[.int 1 420, .str "x" 446]), (187, kTup #[.ref 184, .ref 185, .ref 186]), (188, kTup #[.ref 163, .ref 165, .ref 167, .ref 171, .ref 173, .ref 175, .ref 179, .ref 181, .ref 183, .ref 187]), (194, { cls := .type "code", data := .fields #[.str "filemode" 448, .str "filemode" 449, .str "/claim/cut.py" 450, .int 190 0, .int 1 0, .int 0 0, .int 0 0, .int 3 0, .ref 189, .bool true, .int 181 0, .ref 190, .none, .ref 191, .ref 192, .ref 193, .int 457 0, .int 190 0, .str "/claim/cut.py" 458] }), (195, kFn 43 "cpy313.stat" 368 194), (199, { cls := .type "code", data := .fields #[.str "_law_drawn" 462, .str "_law_drawn" 463, .str "/claim/cut.py" 464, .int 208 0, .int 1 0, .int 0 0, .int 0 0, .int 3 0, .ref 196, .bool true, .int 181 0, .ref 197, .none, .none, .none, .ref 198, .int 465 0, .int 208 0, .str "/claim/cut.py" 466] }), (200, kFn 45 "law_pd0154_01" 460 199), (206, { cls := .type "code", data := .fields #[.str "_law_paths" 468, .str "_law_paths" 469, .str "/claim/cut.py" 470, .int 222 0, .int 1 0, .int 0 0, .int 0 0, .int 3 0, .ref 201, .bool true, .int 181 0, .ref 202, .none, .ref 203, .ref 204, .ref 205, .int 474 0, .int 222 0, .str "/claim/cut.py" 475] }), (207, kFn 46 "law_pd0154_01" 460 206), (213, { cls := .type "code", data := .fields #[.str "_law_way" 477, .str "_law_way" 478, .str "/claim/cut.py" 479, .int 227 0, .int 2 0, .int 0 0, .int 0 0, .int 3 0, .ref 208, .bool true, .int 181 0, .ref 209, .none, .ref 210, .ref 211, .ref 212, .int 487 0, .int 227 0, .str "/claim/cut.py" 488] }), (214, kFn 47 "law_pd0154_01" 460 213), (218, { cls := .type "code", data := .fields #[.str "_law_walked" 490, .str "_law_walked" 491, .str "/claim/cut.py" 492, .int 238 0, .int 3 0, .int 0 0, .int 0 0, .int 3 0, .ref 215, .bool true, .int 181 0, .ref 216, .none, .none, .none, .ref 217, .int 493 0, .int 238 0, .str "/claim/cut.py" 494] }), (219, kFn 48 "law_pd0154_01" 460 218), (223, { cls := .type "code", data := .fields #[.str "_law_marked" 496, .str "_law_marked" 497, .str "/claim/cut.py" 498, .int 252 0, .int 3 0, .int 0 0, .int 0 0, .int 3 0, .ref 220, .bool true, .int 181 0, .ref 221, .none, .none, .none, .ref 222, .int 499 0, .int 252 0, .str "/claim/cut.py" 500] }), (224, kFn 49 "law_pd0154_01" 460 223), (230, { cls := .type "code", data := .fields #[.str "_law_row" 502, .str "_law_row" 503, .str "/claim/cut.py" 504, .int 265 0, .int 1 0, .int 0 0, .int 0 0, .int 3 0, .ref 225, .bool true, .int 181 0, .ref 226, .none, .ref 227, .ref 228, .ref 229, .int 509 0, .int 265 0, .str "/claim/cut.py" 510] }), (231, kFn 50 "law_pd0154_01" 460 230), (237, { cls := .type "code", data := .fields #[.str "_law_ups" 512, .str "_law_ups" 513, .str "/claim/cut.py" 514, .int 275 0, .int 2 0, .int 0 0, .int 0 0, .int 3 0, .ref 232, .bool true, .int 181 0, .ref 233, .none, .ref 234, .ref 235, .ref 236, .int 518 0, .int 275 0, .str "/claim/cut.py" 519] }), (238, kFn 51 "law_pd0154_01" 460 237), (242, { cls := .type "code", data := .fields #[.str "_law_text" 521, .str "_law_text" 522, .str "/claim/cut.py" 523, .int 280 0, .int 2 0, .int 0 0, .int 0 0, .int 3 0, .ref 239, .bool true, .int 181 0, .ref 240, .none, .none, .none, .ref 241, .int 524 0, .int 280 0, .str "/claim/cut.py" 525] }), (243, kFn 52 "law_pd0154_01" 460 242), (247, { cls := .type "code", data := .fields #[.str "_law_wanted" 527, .str "_law_wanted" 528, .str "/claim/cut.py" 529, .int 284 0, .int 3 0, .int 0 0, .int 0 0, .int 3 0, .ref 244, .bool true, .int 181 0, .ref 245, .none, .none, .none, .ref 246, .int 530 0, .int 284 0, .str "/claim/cut.py" 531] }), (248, kFn 53 "law_pd0154_01" 460 247), (254, { cls := .type "code", data := .fields #[.str "law" 533, .str "law" 534, .str "/claim/cut.py" 535, .int 302 0, .int 1 0, .int 0 0, .int 0 0, .int 3 0, .ref 249, .bool true, .int 181 0, .ref 250, .none, .ref 251, .ref 252, .ref 253, .int 549 0, .int 302 0, .str "/claim/cut.py" 550] }), (255, kFn 54 "law_pd0154_01" 460 254)]
noncomputable def kAs : List Addr := [3, 27, 28, 34, 35, 107, 108, 121, 122, 128, 129, 135, 136, 140, 141, 147, 148, 154, 155, 156, 157, 158, 159, 160, 161, 162, 163, 164, 165, 166, 167, 168, 169, 170, 171, 172, 173, 174, 175, 176, 177, 178, 179, 180, 181, 182, 183, 184, 185, 186, 187, 188, 194, 195, 199, 200, 206, 207, 213, 214, 218, 219, 223, 224, 230, 231, 237, 238, 242, 243, 247, 248, 254, 255]
noncomputable def keptL : List Nat := (List.range 55).filter fun i => !([1, 4, 6, 8, 11, 13, 15, 20, 44].contains i)
noncomputable def view : Program := { pw with main := { pw.main with body := keptL.filterMap fun i => pw.main.body[i]? } }
theorem kAs_eq : ∀ P, kAs = (hK P).map (·.1) := fun _ => rfl
noncomputable def hook : Hook := kHook hK kAs kAs_eq
theorem k_left : LeftO pw view [Str.ofString "_filemode_table"] (fun s => xlAt view [] s && recOk [] s) hook.obs hook.val 3456 := by
 intro w
 unfold openEnds fencedOpening topFrom
 rw [PySem.W.Fast.te14082659384304107361, PySem.W.Fast.te1435165496053646825, PySem.W.Fast.te4187177175401517315]
 kernel_rfl
theorem ws_ok : OpenLaw.wellSaid PySem.Challenge.rw_pd0154_01 = true := by
 rw [PySem.W.Fast.te9446332074065402090]
 decide +kernel
end Mine
end
namespace Mine
open PySem PySem.W PyProof.Rows PySem.Calls PySem.Spec
theorem oS {α β : Type} {a : α} {f : α → Option β} : (some a).bind f = f a := rfl
theorem oI {α β : Type} {o : Option α} {f : α → Option β} {b : β} : o.bind f = some b ↔ ∃ a, o = some a ∧ f a = some b := Option.bind_eq_some_iff
theorem oM {α β : Type} {o : Option α} {f : α → β} {b : β} : o.map f = some b ↔ ∃ a, o = some a ∧ f a = b := Option.map_eq_some_iff
theorem oP {α β : Type} {a : α} {f : α → β} : (some a).map f = some (f a) := rfl
theorem lZ {α : Type} {a : α} {l : List α} : (a :: l)[0]? = some a := rfl
theorem lY {α : Type} {a : α} {l : List α} {i : Nat} : (a :: l)[i + 1]? = l[i]? := rfl
section
theorem ng {α : Type} {x : Option α} {a : α} (h : x = none) (h' : x = some a) : False := by rw [h] at h'; (injection h'; done)
theorem cps {G : Prop} (h : ∀ P : Prop, (G → P) → P) : G := h G id
inductive MV where
 | none
 | bool (b : Bool)
 | int (i : Int)
 | str (s : Str)
 | tup (l : List MV)
 | lst (l : List MV)
 | ref (n : Nat)
 | cls (n : String)
deriving Inhabited
noncomputable abbrev listObj (items : List Value) (n : Nat) : Obj := { cls := .type "list", data := .seq items.toArray n }
mutual
noncomputable def VR (h : Heap) (W : Addr → Prop) (φ : List (Option Addr)) : MV → Value → Prop
 | .none, v => v = .none
 | .bool b, v => v = .bool b
 | .int i, v => ∃ t, v = .int i t
 | .str s, v => ∃ t, v = .str s t
 | .tup l, v => ∃ (b : Addr) (items : List Value), v = .ref b ∧ ¬ W b ∧ h.IsTuple b items.toArray ∧ VRs h W φ l items
 | .lst l, v => ∃ (b : Addr) (items : List Value), v = .ref b ∧ ¬ W b ∧ h.IsList b items.toArray ∧ VRs h W φ l items
 | .ref n, v => ∃ a, φ[n]? = some (some a) ∧ v = .ref a
 | .cls n, v => v = .type n
noncomputable def VRs (h : Heap) (W : Addr → Prop) (φ : List (Option Addr)) : List MV → List Value → Prop
 | [], vs => vs = []
 | x :: xs, vs => ∃ v r, vs = v :: r ∧ VR h W φ x v ∧ VRs h W φ xs r
end
theorem vR1 {h : Heap} {W : Addr → Prop} {φ : List (Option Addr)} {v : Value} : VR h W φ .none v = (v = .none) := rfl
theorem vR2 {h : Heap} {W : Addr → Prop} {φ : List (Option Addr)} {v : Value} {b : Bool} : VR h W φ (.bool b) v = (v = .bool b) := rfl
theorem vR3 {h : Heap} {W : Addr → Prop} {φ : List (Option Addr)} {v : Value} {i : Int} : VR h W φ (.int i) v = (∃ t, v = .int i t) := rfl
theorem vR4 {h : Heap} {W : Addr → Prop} {φ : List (Option Addr)} {v : Value} {s : Str} : VR h W φ (.str s) v = (∃ t, v = .str s t) := rfl
theorem vR5 {h : Heap} {W : Addr → Prop} {φ : List (Option Addr)} {v : Value} {l : List MV} : VR h W φ (.tup l) v = (∃ (b : Addr) (items : List Value), v = .ref b ∧ ¬ W b ∧ h.IsTuple b items.toArray ∧ VRs h W φ l items) := rfl
theorem vR6 {h : Heap} {W : Addr → Prop} {φ : List (Option Addr)} {v : Value} {l : List MV} : VR h W φ (.lst l) v = (∃ (b : Addr) (items : List Value), v = .ref b ∧ ¬ W b ∧ h.IsList b items.toArray ∧ VRs h W φ l items) := rfl
theorem vR7 {h : Heap} {W : Addr → Prop} {φ : List (Option Addr)} {v : Value} {n : Nat} : VR h W φ (.ref n) v = (∃ a, φ[n]? = some (some a) ∧ v = .ref a) := rfl
theorem vR8 {h : Heap} {W : Addr → Prop} {φ : List (Option Addr)} {v : Value} {n : String} : VR h W φ (.cls n) v = (v = .type n) := rfl
theorem vRs1 {h : Heap} {W : Addr → Prop} {φ : List (Option Addr)} {vs : List Value} : VRs h W φ [] vs = (vs = []) := rfl
theorem vRs2 {h : Heap} {W : Addr → Prop} {φ : List (Option Addr)} {vs : List Value} {x : MV} {xs : List MV} : VRs h W φ (x :: xs) vs = (∃ v r, vs = v :: r ∧ VR h W φ x v ∧ VRs h W φ xs r) := rfl
noncomputable abbrev IsSeq (o : Obj) : Prop := ∃ items n, o.data = .seq items n
mutual
theorem VR.mono {h h' : Heap} {W W' : Addr → Prop} {φ φ' : List (Option Addr)}
  (hk : ∀ b o, ¬ W b → h.get? b = some o → IsSeq o → h'.get? b = some o ∧ ¬ W' b)
  (hφ : ∀ (n : Nat) (a : Addr), φ[n]? = some (some a) → φ'[n]? = some (some a)) : ∀ (x : MV) {v : Value}, VR h W φ x v → VR h' W' φ' x v
 | .none, _, e => by simpa only [vR1, vR2, vR3, vR4, vR5, vR6, vR7, vR8] using e
 | .bool _, _, e => by simpa only [vR1, vR2, vR3, vR4, vR5, vR6, vR7, vR8] using e
 | .int _, _, e => by simpa only [vR1, vR2, vR3, vR4, vR5, vR6, vR7, vR8] using e
 | .str _, _, e => by simpa only [vR1, vR2, vR3, vR4, vR5, vR6, vR7, vR8] using e
 | .tup l, _, e => by
  simp only [vR1, vR2, vR3, vR4, vR5, vR6, vR7, vR8] at e ⊢
  refine cps fun G hG => ?_
  obtain ⟨b, items, rfl, hb, ⟨o, ho, hc, n, hd⟩, hl⟩ := e
  have := hk b _ hb ho ⟨_, _, hd⟩
  refine hG ?_; clear hG
  exact ⟨b, items, rfl, this.2, ⟨o, this.1, hc, n, hd⟩, VRs.mono hk hφ l hl⟩
 | .lst l, _, e => by
  simp only [vR1, vR2, vR3, vR4, vR5, vR6, vR7, vR8] at e ⊢
  refine cps fun G hG => ?_
  obtain ⟨b, items, rfl, hb, ⟨o, ho, hc, n, hd⟩, hl⟩ := e
  have := hk b _ hb ho ⟨_, _, hd⟩
  refine hG ?_; clear hG
  exact ⟨b, items, rfl, this.2, ⟨o, this.1, hc, n, hd⟩, VRs.mono hk hφ l hl⟩
 | .ref n, _, e => by
  simp only [vR1, vR2, vR3, vR4, vR5, vR6, vR7, vR8] at e ⊢
  refine cps fun G hG => ?_
  obtain ⟨a, h1, h2⟩ := e
  refine hG ?_; clear hG
  exact ⟨a, hφ n a h1, h2⟩
 | .cls _, _, e => by simpa only [vR1, vR2, vR3, vR4, vR5, vR6, vR7, vR8] using e
theorem VRs.mono {h h' : Heap} {W W' : Addr → Prop} {φ φ' : List (Option Addr)}
  (hk : ∀ b o, ¬ W b → h.get? b = some o → IsSeq o → h'.get? b = some o ∧ ¬ W' b)
  (hφ : ∀ (n : Nat) (a : Addr), φ[n]? = some (some a) → φ'[n]? = some (some a)) : ∀ (x : List MV) {v : List Value}, VRs h W φ x v → VRs h' W' φ' x v
 | [], _, e => by simpa only [vRs1, vRs2] using e
 | x :: xs, _, e => by
  simp only [vRs1, vRs2] at e ⊢
  obtain ⟨v, r, rfl, h1, h2⟩ := e
  exact ⟨v, r, rfl, VR.mono hk hφ x h1, VRs.mono hk hφ xs h2⟩
end
noncomputable abbrev Stays (h h' : Heap) : Prop := ∀ b o, h.get? b = some o → h'.get? b = some o
theorem VR.stays {h h' : Heap} {W : Addr → Prop} {φ : List (Option Addr)} (hk : Stays h h') {x : MV} {v : Value} (e : VR h W φ x v) : VR h' W φ x v :=
 VR.mono (fun b o hb ho _ => ⟨hk b o ho, hb⟩) (fun _ _ e => e) x e
theorem VRs.stays {h h' : Heap} {W : Addr → Prop} {φ : List (Option Addr)} (hk : Stays h h') {x : List MV} {v : List Value} (e : VRs h W φ x v) : VRs h' W φ x v :=
 VRs.mono (fun b o hb ho _ => ⟨hk b o ho, hb⟩) (fun _ _ e => e) x e
theorem VRs.length {h : Heap} {W : Addr → Prop} {φ : List (Option Addr)} : ∀ {x : List MV} {v : List Value}, VRs h W φ x v → x.length = v.length
 | [], _, e => by simp only [vRs1, vRs2] at e; subst e; rfl
 | x :: xs, _, e => by
  simp only [vRs1, vRs2] at e
  obtain ⟨v, r, rfl, _, h2⟩ := e
  simp [VRs.length h2]
theorem VRs.get {h : Heap} {W : Addr → Prop} {φ : List (Option Addr)} : ∀ {x : List MV} {v : List Value}, VRs h W φ x v → ∀ (i : Nat) (y : MV), x[i]? = some y → ∃ u, v[i]? = some u ∧ VR h W φ y u
 | [], _, _, i, y, hy => by simp at hy
 | x :: xs, _, e, i, y, hy => by
  simp only [vRs1, vRs2] at e
  obtain ⟨v, r, rfl, h1, h2⟩ := e
  cases i with
  | zero => simp at hy; subst hy; exact ⟨v, rfl, h1⟩
  | succ i =>
   obtain ⟨u, a, b⟩ := VRs.get h2 i y (by simpa using hy)
   exact ⟨u, by simpa using a, b⟩
theorem VRs.append {h : Heap} {W : Addr → Prop} {φ : List (Option Addr)} : ∀ {x : List MV} {v : List Value} {y : List MV} {u : List Value}, VRs h W φ x v → VRs h W φ y u → VRs h W φ (x ++ y) (v ++ u)
 | [], _, _, _, e, e' => by dsimp only [vRs1, vRs2] at e; subst e; simpa using e'
 | x :: xs, _, _, _, e, e' => by
  dsimp only [vRs1, vRs2] at e
  obtain ⟨v, r, rfl, h1, h2⟩ := e
  dsimp only [List.cons_append, vRs1, vRs2]
  exact ⟨v, _, rfl, h1, VRs.append h2 e'⟩
theorem VRs.snoc {h : Heap} {W : Addr → Prop} {φ : List (Option Addr)} {x : List MV} {v : List Value} {y : MV} {u : Value} (e : VRs h W φ x v) (e' : VR h W φ y u) : VRs h W φ (x ++ [y]) (v ++ [u]) :=
 e.append (by simp only [vRs1, vRs2]; exact ⟨u, [], rfl, e', rfl⟩)
theorem VRs.forall₂ {h : Heap} {W : Addr → Prop} {φ : List (Option Addr)} {x : List MV} {v : List Value} (hl : x.length = v.length) (hg : ∀ (i : Nat) y u, x[i]? = some y → v[i]? = some u → VR h W φ y u) : VRs h W φ x v := by
 induction x generalizing v with
 | nil => cases v with
  | nil => simp [vRs1, vRs2]
  | cons _ _ => simp at hl
 | cons a x ih => cases v with
  | nil => simp at hl
  | cons b v =>
   simp only [vRs1, vRs2]
   exact ⟨b, v, rfl, hg 0 a b rfl rfl, ih (by simpa using hl) fun i y u h1 h2 => hg (i + 1) y u (by simpa using h1) (by simpa using h2)⟩
inductive MObj where
 | list (xs : List MV)
 | dict (f : Str → Option MV) (n : Nat)
structure MSt where
 ρ : Nat → Option MV
 σ : List MObj
structure FV where
 env : Env
 vars : List (Str × Nat)
structure Cx where
 h₀ : Heap
 fn : Addr
 W0 : Addr → Prop
 hid : Addr → Prop
 hh : Heap
noncomputable def HidOk (C : Cx) (h : Heap) (b : Addr) : Prop := ∃ o, h.get? b = some o ∧ ¬ IsSeq o ∧ (∀ vs, o.data ≠ .fields vs) ∧ ∀ o', C.hh.get? b = some o' → ∃ sl, o = { o' with slots := sl }
noncomputable def Cx.av (C : Cx) (φ : List (Option Addr)) : Addr → Prop := fun a => C.W0 a ∨ some a ∈ φ
noncomputable def VarVal (env : Env) (h : Heap) (x : Str) (v : Option Value) : Prop :=
 (env.kindOf x = some .local ∧ ∃ m, h.Ns env.locals m ∧ m x = v) ∨
 ((env.kindOf x = some .cell ∨ env.kindOf x = some .free) ∧ ∃ c, env.cells.lookup x = some c ∧ h.IsCell c v)
noncomputable def OVR (h : Heap) (W : Addr → Prop) (φ : List (Option Addr)) : Option MV → Option Value → Prop
 | none, _ => True
 | some x, v => ∃ u, v = some u ∧ VR h W φ x u
section
variable (prog : Program) (w : World)
noncomputable def ORel (h : Heap) (W : Addr → Prop) (φ : List (Option Addr)) (a : Addr) : MObj → Prop
 | .list xs => ∃ items n, h.get? a = some (listObj items n) ∧ VRs h W φ xs items ∧ xs.length ≤ 100000
 | .dict f n => ∃ kvs, h.DictOf (PySem.strKind prog w) a kvs ∧ kvs.length ≤ n ∧ n ≤ 100000 ∧ ∀ x, OVR h W φ (f x) (valueAt kvs x)
structure R (C : Cx) (fv : FV) (φ : List (Option Addr)) (st : MSt) (h : Heap) : Prop where
 base : ∀ b o, C.h₀.get? b = some o → h.get? b = some o
 fr : ∃ m, h.Ns C.fn m
 above : C.h₀.objs.size ≤ C.fn
 av0 : ∀ a, C.W0 a → ∃ o, h.get? a = some o
 vars : ∀ p ∈ fv.vars, ∃ v, VarVal fv.env h p.1 v ∧ OVR h (C.av φ) φ (st.ρ p.2) v
 len : φ.length = st.σ.length
 sto : ∀ (i : Nat) a o, φ[i]? = some (some a) → st.σ[i]? = some o → ORel prog w h (C.av φ) φ a o
 live : ∀ a, some a ∈ φ → ∃ o, h.get? a = some o
 nodup : ∀ (i j : Nat) (a : Addr), φ[i]? = some (some a) → φ[j]? = some (some a) → i = j
 new : ∀ a, some a ∈ φ → C.h₀.objs.size ≤ a
 loc : ∃ m, h.Ns fv.env.locals m
 locNew : C.h₀.objs.size ≤ fv.env.locals
 locOff : some fv.env.locals ∉ φ
 fnOff : some C.fn ∉ φ
 celNew : ∀ x c, fv.env.cells.lookup x = some c → C.h₀.objs.size ≤ c
 celInj : ∀ x y c, fv.env.cells.lookup x = some c → fv.env.cells.lookup y = some c → x = y
 celIs : ∀ x c, fv.env.cells.lookup x = some c → ∃ v, h.IsCell c v
 celOff : ∀ x c, fv.env.cells.lookup x = some c → some c ∉ φ
 hid : ∀ b, C.hid b → HidOk C h b ∧ @LT.lt Nat _ b C.h₀.objs.size ∧ C.h₀.get? b = none
variable {prog w}
theorem OVR.mono {h h' : Heap} {W W' : Addr → Prop} {φ φ' : List (Option Addr)}
  (hk : ∀ b o, ¬ W b → h.get? b = some o → IsSeq o → h'.get? b = some o ∧ ¬ W' b)
  (hφ : ∀ (n : Nat) (a : Addr), φ[n]? = some (some a) → φ'[n]? = some (some a)) : ∀ {x : Option MV} {v : Option Value}, OVR h W φ x v → OVR h' W' φ' x v
 | none, _, _ => trivial
 | some x, _, e => let ⟨u, e1, e2⟩ := e; ⟨u, e1, VR.mono hk hφ x e2⟩
theorem VarVal.stays {env : Env} {h h' : Heap} {x : Str} {v : Option Value} (hk : Stays h h') (e : VarVal env h x v) : VarVal env h' x v := by
 rcases e with ⟨h1, m, h2, h3⟩ | ⟨h1, c, h2, o, h3, h4⟩
 ·exact .inl ⟨h1, m, h2.keeps hk, h3⟩
 ·exact .inr ⟨h1, c, h2, o, hk _ _ h3, h4⟩
theorem dictOf_at {h h' : Heap} {a : Addr} {kvs : List (Str × Value)} (e : h.DictOf (PySem.strKind prog w) a kvs) (hk : ∀ o, h.get? a = some o → h'.get? a = some o) : h'.DictOf (PySem.strKind prog w) a kvs :=
 let ⟨o, es, ep, ho, r⟩ := e; ⟨o, es, ep, hk o ho, r⟩
theorem ORel.mono {h h' : Heap} {W W' : Addr → Prop} {φ φ' : List (Option Addr)} {a : Addr}
  (hk : ∀ b o, ¬ W b → h.get? b = some o → IsSeq o → h'.get? b = some o ∧ ¬ W' b)
  (hφ : ∀ (n : Nat) (a : Addr), φ[n]? = some (some a) → φ'[n]? = some (some a)) (ha : ∀ o, h.get? a = some o → h'.get? a = some o) : ∀ {o : MObj}, ORel prog w h W φ a o → ORel prog w h' W' φ' a o
 | .list _, e => let ⟨items, n, e1, e2, e3⟩ := e; ⟨items, n, ha _ e1, VRs.mono hk hφ _ e2, e3⟩
 | .dict _ _, e => let ⟨kvs, e1, e2, e3, e4⟩ := e; ⟨kvs, dictOf_at e1 ha, e2, e3, fun x => OVR.mono hk hφ (e4 x)⟩
theorem R.stays {C : Cx} {fv : FV} {φ : List (Option Addr)} {st : MSt} {h h' : Heap} (r : R prog w C fv φ st h) (hk : Stays h h') : R prog w C fv φ st h' where
 base := fun b o e => hk b o (r.base b o e)
 fr := let ⟨m, e⟩ := r.fr; ⟨m, e.keeps hk⟩
 above := r.above
 av0 := fun a ha => let ⟨o, e⟩ := r.av0 a ha; ⟨o, hk a o e⟩
 vars := fun p hp => let ⟨v, e1, e2⟩ := r.vars p hp; ⟨v, e1.stays hk, OVR.mono (fun b o hb ho _ => ⟨hk b o ho, hb⟩) (fun _ _ e => e) e2⟩
 len := r.len
 sto := fun i a o e1 e2 => ORel.mono (fun b o hb ho _ => ⟨hk b o ho, hb⟩) (fun _ _ e => e) (fun o e => hk a o e) (r.sto i a o e1 e2)
 live := fun a ha => let ⟨o, e⟩ := r.live a ha; ⟨o, hk a o e⟩
 nodup := r.nodup
 new := r.new
 loc := let ⟨m, e⟩ := r.loc; ⟨m, e.keeps hk⟩
 locNew := r.locNew
 locOff := r.locOff
 fnOff := r.fnOff
 celNew := r.celNew
 celInj := r.celInj
 celIs := fun x c e => let ⟨v, o, h1, h2⟩ := r.celIs x c e; ⟨v, o, hk _ _ h1, h2⟩
 celOff := r.celOff
 hid := fun b hb => let ⟨⟨o, h1, h2⟩, h3⟩ := r.hid b hb; ⟨⟨o, hk b o h1, h2⟩, h3⟩
theorem R.hid_of {C : Cx} {fv : FV} {φ : List (Option Addr)} {st : MSt} {h h' : Heap} (r : R prog w C fv φ st h) (hk : ∀ b, C.hid b → ∀ o, h.get? b = some o → h'.get? b = some o) : ∀ b, C.hid b → HidOk C h' b ∧ @LT.lt Nat _ b C.h₀.objs.size ∧ C.h₀.get? b = none :=
 fun b hb => let ⟨⟨o, h1, h2⟩, h3⟩ := r.hid b hb; ⟨⟨o, hk b hb o h1, h2⟩, h3⟩
theorem R.hid_ne {C : Cx} {fv : FV} {φ : List (Option Addr)} {st : MSt} {h : Heap} (r : R prog w C fv φ st h) {a b : Addr} (hb : C.hid b) (ha : C.h₀.objs.size ≤ a) : b ≠ a := by
 rintro rfl
 have h1 := (r.hid b hb).2.1
 have h2 : @LE.le Nat _ C.h₀.objs.size b := ha
 omega
theorem Stays.refl (h : Heap) : Stays h h := fun _ _ e => e
theorem Stays.trans {h h' h'' : Heap} (a : Stays h h') (b : Stays h' h'') : Stays h h'' := fun x o e => b x o (a x o e)
theorem Stays.push (h : Heap) (o : Obj) : Stays h (h.push o) := fun _ _ e => Heap.get?_push_of_some o e
noncomputable abbrev NoE : Value → Shared → Prop := fun _ _ => False
structure AOk (A : Around) (n : Nat) : Prop where
 handled : A.handled = none
 depth : A.depth + n < recursionLimit
 units : A.units + 8 * n + 100 < cLine
structure TopOk (K : Frag) (h : Heap) : Prop where
 k : K.In h
 top : ∃ p loose mean mg mb, Top p loose mean mg mb h
theorem TopOk.stays {K : Frag} {h h' : Heap} (T : TopOk K h) (hk : Stays h h') : TopOk K h' :=
 ⟨T.k.keeps hk, let ⟨p, loose, mean, mg, mb, t⟩ := T.top; ⟨p, loose, mean, mg, mb, t.keeps hk⟩⟩
variable (prog w) in
structure SE (A : Around) (C : Cx) (fv : FV) (t : Sem Value) (e : MSt → Option MV) : Prop where
 run : ∀ φ st s v Q, R prog w C fv φ st s.heap → e st = some v →
  (∀ h' tk rv, Stays s.heap h' → R prog w C fv φ st h' → VR h' (C.av φ) φ v rv → Q rv { s with heap := h', toks := tk }) →
  wpAny (model prog w) A t Q NoE s
variable (prog w) in
structure SB (A : Around) (C : Cx) (fv : FV) (t : Sem Bool) (e : MSt → Option Bool) : Prop where
 run : ∀ φ st s v Q, R prog w C fv φ st s.heap → e st = some v →
  (∀ h' tk, Stays s.heap h' → R prog w C fv φ st h' → Q v { s with heap := h', toks := tk }) →
  wpAny (model prog w) A t Q NoE s
section
variable {A : Around} {C : Cx} {fv : FV}
noncomputable def eVar (k : Nat) : MSt → Option MV := fun st => st.ρ k
noncomputable def eInt (i : Int) : MSt → Option MV := fun _ => some (.int i)
noncomputable def eStr (s : Str) : MSt → Option MV := fun _ => some (.str s)
noncomputable def eBool (b : Bool) : MSt → Option MV := fun _ => some (.bool b)
theorem se_var {x : Str} {k : Nat} {pos : Pos} (hm : (x, k) ∈ fv.vars) (hk : fv.env.scope.kind = .function) (hd : (x == ("__debug__" : Str)) = false := by decide) (hc : (x == ("__classdict__" : Str)) = false := by decide) :
  SE prog w A C fv (eval (.Name x pos) fv.env) (eVar k) := by
 refine ⟨?_⟩
 intro φ st s v Q r e h
 refine cps fun G hG => ?_
 obtain ⟨u, hv, ho⟩ := r.vars _ hm
 simp only [eVar] at e
 rw [show (x, k).2 = k from rfl, e] at ho
 obtain ⟨u, rfl, ho⟩ := ho
 have fin : Q u s := h s.heap s.toks u (Stays.refl _) r ho
 rcases hv with ⟨h1, m, h2, h3⟩ | ⟨h1, c, h2, h3⟩
 ·refine hG ?_; clear hG
  exact wpAny_Name (wpAny_loadName_local hk h1 h2 h3 fin) hd
 ·rcases h1 with h1 | h1
  ·refine hG ?_; clear hG
   exact wpAny_Name (wpAny_loadName_cell hk h1 h2 h3 fin) hd
  ·refine hG ?_; clear hG
   exact wpAny_Name (wpAny_loadName_free hk h1 h2 h3 fin hc) hd
theorem se_int {i : Int} {k : Nat} {pos : Pos} {env : Env} : SE prog w A C fv (eval (.Constant (.int i) k pos) env) (eInt i) := by
 refine ⟨?_⟩
 intro φ st s v Q r e h
 (injection e with e; subst e)
 exact wpAny_Constant_int (h s.heap _ _ (Stays.refl _) r (by simp only [vR1, vR2, vR3, vR4, vR5, vR6, vR7, vR8]; exact ⟨_, rfl⟩))
theorem se_str {i : Str} {k : Nat} {pos : Pos} {env : Env} : SE prog w A C fv (eval (.Constant (.str i) k pos) env) (eStr i) := by
 refine ⟨?_⟩
 intro φ st s v Q r e h
 (injection e with e; subst e)
 exact wpAny_Constant_str (h s.heap _ _ (Stays.refl _) r (by simp only [vR1, vR2, vR3, vR4, vR5, vR6, vR7, vR8]; exact ⟨_, rfl⟩))
theorem se_bool {i : Bool} {k : Nat} {pos : Pos} {env : Env} : SE prog w A C fv (eval (.Constant (.bool i) k pos) env) (eBool i) := by
 refine ⟨?_⟩
 intro φ st s v Q r e h
 (injection e with e; subst e)
 exact wpAny_Constant_bool (h s.heap _ _ (Stays.refl _) r (by dsimp only [vR1, vR2, vR3, vR4, vR5, vR6, vR7, vR8]))
noncomputable def Op2 (A : Around) (op : Value → Value → Sem Value) (f : MV → MV → Option MV) (prog : Program) (w : World) : Prop :=
 ∀ (W : Addr → Prop) (φ : List (Option Addr)) (s : Shared) a b c ra rb Q, f a b = some c → VR s.heap W φ a ra → VR s.heap W φ b rb →
  (∀ h' tk rv, Stays s.heap h' → VR h' W φ c rv → Q rv { s with heap := h', toks := tk }) → wpAny (model prog w) A (op ra rb) Q NoE s
noncomputable def e2 (f : MV → MV → Option MV) (a b : MSt → Option MV) : MSt → Option MV := fun st => (a st).bind fun x => (b st).bind fun y => f x y
theorem SE.bin {l r : Expr} {op : Operator} {pos : Pos} {env : Env} {f : MV → MV → Option MV} {a b : MSt → Option MV} (hf : Op2 A (binaryOp op) f prog w) (ha : SE prog w A C fv (eval l env) a) (hb : SE prog w A C fv (eval r env) b) :
  SE prog w A C fv (eval (.BinOp l op r pos) env) (e2 f a b) := by
 refine ⟨?_⟩
 intro φ st s v Q r e h
 simp only [e2, oI] at e
 refine cps fun G hG => ?_
 obtain ⟨x, ex, y, ey, ef⟩ := e
 refine hG ?_; clear hG
 refine wpAny_BinOp (ha.run φ st s x _ r ex fun h1 t1 v1 k1 r1 q1 => hb.run φ st _ y _ r1 ey fun h2 t2 v2 k2 r2 q2 => ?_)
 exact hf _ _ _ x y v v1 v2 _ ef (q1.stays k2) q2 fun h3 t3 v3 k3 q3 => h h3 t3 v3 ((k1.trans k2).trans k3) (r2.stays k3) q3
theorem SE.cmp {l r : Expr} {op : CmpOp} {pos : Pos} {env : Env} {f : MV → MV → Option MV} {a b : MSt → Option MV} (hf : Op2 A (compareOp op) f prog w) (ha : SE prog w A C fv (eval l env) a) (hb : SE prog w A C fv (eval r env) b)
  (hm : behindInMarks op r = false := by with_unfolding_all rfl) : SE prog w A C fv (eval (.Compare l [op] [r] pos) env) (e2 f a b) := by
 refine ⟨?_⟩
 intro φ st s v Q r e h
 simp only [e2, oI] at e
 refine cps fun G hG => ?_
 obtain ⟨x, ex, y, ey, ef⟩ := e
 refine hG ?_; clear hG
 refine wpAny_Compare1 (ha.run φ st s x _ r ex fun h1 t1 v1 k1 r1 q1 => hb.run φ st _ y _ r1 ey fun h2 t2 v2 k2 r2 q2 => ?_) hm
 exact hf _ _ _ x y v v1 v2 _ ef (q1.stays k2) q2 fun h3 t3 v3 k3 q3 => h h3 t3 v3 ((k1.trans k2).trans k3) (r2.stays k3) q3
end
end
end
section
set_option backward.match.sparseCases false
section
variable {prog : Program} {w : World} {A : Around}
theorem vr_int {h : Heap} {W : Addr → Prop} {φ : List (Option Addr)} {i : Int} {t : Tok} : VR h W φ (.int i) (.int i t) := by simp only [vR1, vR2, vR3, vR4, vR5, vR6, vR7, vR8]; exact ⟨t, rfl⟩
theorem vr_str {h : Heap} {W : Addr → Prop} {φ : List (Option Addr)} {i : Str} {t : Tok} : VR h W φ (.str i) (.str i t) := by simp only [vR1, vR2, vR3, vR4, vR5, vR6, vR7, vR8]; exact ⟨t, rfl⟩
theorem vr_bool {h : Heap} {W : Addr → Prop} {φ : List (Option Addr)} {b : Bool} : VR h W φ (.bool b) (.bool b) := by dsimp only [vR1, vR2, vR3, vR4, vR5, vR6, vR7, vR8]
theorem vr_int_inv {h : Heap} {W : Addr → Prop} {φ : List (Option Addr)} {i : Int} {v : Value} (e : VR h W φ (.int i) v) : ∃ t, v = .int i t := by simpa only [vR1, vR2, vR3, vR4, vR5, vR6, vR7, vR8] using e
theorem vr_str_inv {h : Heap} {W : Addr → Prop} {φ : List (Option Addr)} {i : Str} {v : Value} (e : VR h W φ (.str i) v) : ∃ t, v = .str i t := by simpa only [vR1, vR2, vR3, vR4, vR5, vR6, vR7, vR8] using e
theorem vr_bool_inv {h : Heap} {W : Addr → Prop} {φ : List (Option Addr)} {i : Bool} {v : Value} (e : VR h W φ (.bool i) v) : v = .bool i := by simpa only [vR1, vR2, vR3, vR4, vR5, vR6, vR7, vR8] using e
noncomputable def intOp (f : Int → Int → Option Int) (x y : MV) : Option MV := match x with
 | .int a => (match y with
  | .int b => (f a b).map .int
  | _ => none)
 | _ => none
theorem op_int {op : Operator} {f : Int → Int → Option Int}
  (hr : ∀ (s : Shared) (a b c : Int) (t u : Tok) Q, f a b = some c → Q (.int c s.toks) { s with toks := s.toks + 1 } → wpAny (model prog w) A (binaryOp op (.int a t) (.int b u)) Q NoE s) :
  Op2 A (binaryOp op) (intOp f) prog w := by
 intro W φ s a b c ra rb Q e ha hb h
 cases a <;> cases b <;> (dsimp only [intOp] at e; simp only [intOp, reduceCtorEq, oM] at e)
 obtain ⟨d, e1, rfl⟩ := e
 obtain ⟨t, rfl⟩ := vr_int_inv ha
 obtain ⟨u, rfl⟩ := vr_int_inv hb
 exact hr s _ _ _ _ _ _ e1 (h _ _ _ (Stays.refl _) vr_int)
noncomputable def subV := intOp fun a b => some (a - b)
noncomputable def modV := intOp fun a b => if b ≠ 0 then some (a.fmod b) else none
noncomputable def divV := intOp fun a b => if b ≠ 0 ∧ b.natAbs < 1073741824 then some (a.fdiv b) else none
noncomputable def powV := intOp fun a b => if 0 ≤ b ∧ b ≤ 1000 ∧ a.natAbs < 1000 then some (a ^ b.toNat) else none
noncomputable def andV := intOp fun a b => some (Builtin.bitAnd a b)
noncomputable def xorV := intOp fun a b => some (Builtin.bitXor a b)
theorem op_sub : Op2 A (binaryOp .Sub) subV prog w := op_int fun s a b c t u Q e h => by (injection e with e; subst e); exact PyProof.Rows.sub_int h
theorem op_mod : Op2 A (binaryOp .Mod) modV prog w := op_int fun s a b c t u Q e h => by
 split at e
 ·(injection e with e; subst e); exact mod_int' (by assumption) h
 ·(injection e; done)
theorem op_div : Op2 A (binaryOp .FloorDiv) divV prog w := op_int fun s a b c t u Q e h => by
 split at e
 ·rename_i q
  (injection e with e; subst e); exact floordiv_int q.1 h (.inl (PyProof.noPylong_small q.2))
 ·(injection e; done)
theorem op_pow : Op2 A (binaryOp .Pow) powV prog w := op_int fun s a b c t u Q e h => by
 split at e
 ·rename_i q
  (injection e with e; subst e); exact pow_int_small q.1 (by omega) (by omega) h
 ·(injection e; done)
theorem op_and : Op2 A (binaryOp .BitAnd) andV prog w := op_int fun s a b c t u Q e h => by (injection e with e; subst e); exact and_int h
theorem op_xor : Op2 A (binaryOp .BitXor) xorV prog w := op_int fun s a b c t u Q e h => by (injection e with e; subst e); exact xor_int h
noncomputable def addV (x y : MV) : Option MV := match x with
 | .int a => (match y with
  | .int b => some (.int (a + b))
  | _ => none)
 | .str a => (match y with
  | .str b => if a.length + b.length ≤ 100000 then some (.str (a ++ b)) else none
  | _ => none)
 | _ => none
theorem op_add : Op2 A (binaryOp .Add) addV prog w := by
 intro W φ s a b c ra rb Q e ha hb h
 cases a <;> cases b <;> simp only [addV, reduceCtorEq] at e
 ·(injection e with e; subst e)
  obtain ⟨t, rfl⟩ := vr_int_inv ha
  obtain ⟨u, rfl⟩ := vr_int_inv hb
  exact PyProof.Rows.add_int (h _ _ _ (Stays.refl _) vr_int)
 ·split at e
  ·rename_i q
   (injection e with e; subst e)
   obtain ⟨t, rfl⟩ := vr_str_inv ha
   obtain ⟨u, rfl⟩ := vr_str_inv hb
   exact PyProof.Rows.add_str (fun t' tk => h _ _ _ (Stays.refl _) vr_str) (by rw [sizeLine_eq]; omega)
  ·(injection e; done)
theorem op_iadd : Op2 A (inplaceOp .Add) addV prog w := by
 intro W φ s a b c ra rb Q e ha hb h
 cases a <;> cases b <;> simp only [addV, reduceCtorEq] at e
 ·(injection e with e; subst e)
  obtain ⟨t, rfl⟩ := vr_int_inv ha
  obtain ⟨u, rfl⟩ := vr_int_inv hb
  exact PyProof.Rows.iadd_int (h _ _ _ (Stays.refl _) vr_int)
 ·split at e
  ·rename_i q
   (injection e with e; subst e)
   obtain ⟨t, rfl⟩ := vr_str_inv ha
   obtain ⟨u, rfl⟩ := vr_str_inv hb
   exact PyProof.Rows.iadd_str (fun t' tk => h _ _ _ (Stays.refl _) vr_str) (by rw [sizeLine_eq]; omega)
  ·(injection e; done)
noncomputable def mulV (x y : MV) : Option MV := match x with
 | .str a => (match y with
  | .int n => if a.length ≤ 100 ∧ 0 ≤ n ∧ n ≤ 1000 then some (.str (Txt.mul a n)) else none
  | _ => none)
 | _ => none
theorem op_mul : Op2 A (binaryOp .Mult) mulV prog w := by
 intro W φ s a b c ra rb Q e ha hb h
 cases a <;> cases b <;> simp only [mulV, reduceCtorEq] at e
 split at e
 ·rename_i q
  (injection e with e; subst e)
  obtain ⟨t, rfl⟩ := vr_str_inv ha
  obtain ⟨u, rfl⟩ := vr_int_inv hb
  exact PySem.SB.mul (mulOk_of 100 1000 q.1 (by omega) (by omega) (by omega) (by omega)) (fun t' tk => h _ _ _ (Stays.refl _) vr_str)
 ·(injection e; done)
mutual
noncomputable def toPy : MV → PyData
 | .none => .none
 | .bool b => .bool b
 | .int i => .int i
 | .str s => .str s
 | .tup l => .tuple (toPys l)
 | .lst l => .list (toPys l)
 | .ref _ => .none
 | .cls _ => .none
noncomputable def toPys : List MV → List PyData
 | [] => []
 | x :: r => toPy x :: toPys r
end
theorem tP1 : toPy .none = .none := rfl
theorem tP2 {b : Bool} : toPy (.bool b) = .bool b := rfl
theorem tP3 {b : Int} : toPy (.int b) = .int b := rfl
theorem tP4 {b : Str} : toPy (.str b) = .str b := rfl
theorem tP5 {l : List MV} : toPy (.tup l) = .tuple (toPys l) := rfl
theorem tP6 {l : List MV} : toPy (.lst l) = .list (toPys l) := rfl
theorem tP7 {n : Nat} : toPy (.ref n) = .none := rfl
theorem tP8 {n : String} : toPy (.cls n) = .none := rfl
theorem tPs1 : toPys [] = [] := rfl
theorem tPs2 {x : MV} {r : List MV} : toPys (x :: r) = toPy x :: toPys r := rfl
mutual
noncomputable def noRef : MV → Bool
 | .tup l | .lst l => noRefs l
 | .ref _ => false
 | .cls _ => false
 | _ => true
noncomputable def noRefs : List MV → Bool
 | [] => true
 | x :: r => noRef x && noRefs r
end
theorem nR1 : noRef .none = true := rfl
theorem nR2 {b : Bool} : noRef (.bool b) = true := rfl
theorem nR3 {b : Int} : noRef (.int b) = true := rfl
theorem nR4 {b : Str} : noRef (.str b) = true := rfl
theorem nR5 {l : List MV} : noRef (.tup l) = noRefs l := rfl
theorem nR6 {l : List MV} : noRef (.lst l) = noRefs l := rfl
theorem nR7 {n : Nat} : noRef (.ref n) = false := rfl
theorem nR8 {n : String} : noRef (.cls n) = false := rfl
theorem nRs1 : noRefs [] = true := rfl
theorem nRs2 {x : MV} {r : List MV} : noRefs (x :: r) = (noRef x && noRefs r) := rfl
mutual
theorem VR.reads {h : Heap} {W : Addr → Prop} {φ : List (Option Addr)} : ∀ (x : MV) {v : Value}, VR h W φ x v → noRef x = true → ∃ as, Reads h v (toPy x) as
 | .none, _, e, _ => by simp only [vR1, vR2, vR3, vR4, vR5, vR6, vR7, vR8] at e; subst e; exact ⟨_, .none⟩
 | .bool b, _, e, _ => by simp only [vR1, vR2, vR3, vR4, vR5, vR6, vR7, vR8] at e; subst e; exact ⟨_, .bool b⟩
 | .int i, _, e, _ => by obtain ⟨t, rfl⟩ := vr_int_inv e; exact ⟨_, .int i t⟩
 | .str i, _, e, _ => by obtain ⟨t, rfl⟩ := vr_str_inv e; exact ⟨_, .str i t⟩
 | .tup l, _, e, n => by
  simp only [vR1, vR2, vR3, vR4, vR5, vR6, vR7, vR8] at e
  obtain ⟨b, items, rfl, _, ⟨o, ho, hc, k, hd⟩, hl⟩ := e
  obtain ⟨as, q⟩ := VRs.reads l hl (by simpa only [nR1, nR2, nR3, nR4, nR5, nR6, nR7, nR8] using n)
  exact ⟨_, reads_tuple_at ho hc hd (by simpa using q)⟩
 | .lst l, _, e, n => by
  simp only [vR1, vR2, vR3, vR4, vR5, vR6, vR7, vR8] at e
  obtain ⟨b, items, rfl, _, ⟨o, ho, hc, k, hd⟩, hl⟩ := e
  obtain ⟨as, q⟩ := VRs.reads l hl (by simpa only [nR1, nR2, nR3, nR4, nR5, nR6, nR7, nR8] using n)
  exact ⟨_, reads_list_at ho hc hd (by simpa using q)⟩
 | .ref _, _, _, n => by simp [nR1, nR2, nR3, nR4, nR5, nR6, nR7, nR8] at n
 | .cls _, _, _, n => by simp [nR1, nR2, nR3, nR4, nR5, nR6, nR7, nR8] at n
theorem VRs.reads {h : Heap} {W : Addr → Prop} {φ : List (Option Addr)} : ∀ (x : List MV) {v : List Value}, VRs h W φ x v → noRefs x = true → ∃ as, ReadsAll h v (toPys x) as
 | [], _, e, _ => by simp only [vRs1, vRs2] at e; subst e; exact ⟨_, .nil⟩
 | x :: xs, _, e, n => by
  simp only [vRs1, vRs2] at e
  obtain ⟨v, r, rfl, h1, h2⟩ := e
  simp only [nRs1, nRs2, Bool.and_eq_true] at n
  obtain ⟨as, q⟩ := VR.reads x h1 n.1
  obtain ⟨bs, p⟩ := VRs.reads xs h2 n.2
  exact ⟨_, .cons q p⟩
end
noncomputable def okD (x : MV) : Bool := noRef x && SeqAt.shaped (toPy x)
noncomputable def eqV (a b : MV) : Option MV := if okD a && okD b then some (.bool (PyData.eqv (toPy a) (toPy b))) else none
noncomputable def neV (a b : MV) : Option MV := if okD a && okD b then some (.bool (!PyData.eqv (toPy a) (toPy b))) else none
theorem op_eq (hu : A.units + 64 < cLine) : Op2 A (compareOp .Eq) eqV prog w := by
 intro W φ s a b c ra rb Q e ha hb h
 simp only [eqV] at e
 split at e
 ·rename_i q
  simp only [okD, Bool.and_eq_true] at q
  (injection e with e; subst e)
  obtain ⟨as, q1⟩ := VR.reads a ha q.1.1
  obtain ⟨bs, q2⟩ := VR.reads b hb q.2.1
  exact eq_dataH q1 q2 q.1.2 q.2.2 hu (h _ _ _ (Stays.refl _) vr_bool)
 ·(injection e; done)
theorem op_ne (hu : A.units + 64 < cLine) : Op2 A (compareOp .NotEq) neV prog w := by
 intro W φ s a b c ra rb Q e ha hb h
 simp only [neV] at e
 split at e
 ·rename_i q
  (dsimp only [okD] at q; simp only [okD, Bool.and_eq_true] at q)
  (injection e with e; subst e)
  obtain ⟨as, q1⟩ := VR.reads a ha q.1.1
  obtain ⟨bs, q2⟩ := VR.reads b hb q.2.1
  exact ne_dataH q1 q2 q.1.2 q.2.2 hu (h _ _ _ (Stays.refl _) vr_bool)
 ·(injection e; done)
noncomputable def ltV : MV → MV → Option MV
 | .int a, .int b => some (.bool (decide (a < b)))
 | .str a, .str b => some (.bool (a.cps.toList < b.cps.toList))
 | _, _ => none
theorem op_lt : Op2 A (compareOp .Lt) ltV prog w := by
 intro W φ s a b c ra rb Q e ha hb h
 cases a <;> cases b <;> simp only [ltV, reduceCtorEq] at e
 ·(injection e with e; subst e)
  obtain ⟨t, rfl⟩ := vr_int_inv ha
  obtain ⟨u, rfl⟩ := vr_int_inv hb
  exact PyProof.Rows.lt_int (h _ _ _ (Stays.refl _) vr_bool)
 ·(injection e with e; subst e)
  obtain ⟨t, rfl⟩ := vr_str_inv ha
  obtain ⟨u, rfl⟩ := vr_str_inv hb
  exact PyProof.Rows.lt_str (h _ _ _ (Stays.refl _) vr_bool)
noncomputable def gtV : MV → MV → Option MV
 | .int a, .int b => some (.bool (decide (b < a)))
 | .str a, .str b => some (.bool (b.cps.toList < a.cps.toList))
 | _, _ => none
theorem op_gt : Op2 A (compareOp .Gt) gtV prog w := by
 intro W φ s a b c ra rb Q e ha hb h
 cases a <;> cases b <;> simp only [gtV, reduceCtorEq] at e
 ·(injection e with e; subst e)
  obtain ⟨t, rfl⟩ := vr_int_inv ha
  obtain ⟨u, rfl⟩ := vr_int_inv hb
  exact PyProof.Rows.gt_int (h _ _ _ (Stays.refl _) vr_bool)
 ·(injection e with e; subst e)
  obtain ⟨t, rfl⟩ := vr_str_inv ha
  obtain ⟨u, rfl⟩ := vr_str_inv hb
  exact P.gt_str (h _ _ _ (Stays.refl _) vr_bool)
end
end
section
set_option backward.match.sparseCases false
section
variable {prog : Program} {w : World} {A : Around} {C : Cx} {fv : FV}
theorem R.fresh' {φ : List (Option Addr)} {st : MSt} {h : Heap} (r : R prog w C fv φ st h) {a : Addr} (ha : h.objs.size ≤ a) : ¬ C.av φ a := by
 have key : ∀ o, h.get? a = some o → False := fun o ho => by
  have h0 : @LT.lt Nat _ a h.objs.size := Heap.lt_size ho
  have h4 : @LE.le Nat _ h.objs.size a := ha
  omega
 rintro (h1 | h1)
 ·obtain ⟨o, ho⟩ := r.av0 _ h1; exact key o ho
 ·obtain ⟨o, ho⟩ := r.live _ h1; exact key o ho
theorem R.fresh {φ : List (Option Addr)} {st : MSt} {h : Heap} (r : R prog w C fv φ st h) : ¬ C.av φ h.objs.size := r.fresh' (Nat.le_refl _)
noncomputable def listOf (st : MSt) : MV → Option (List MV)
 | .lst l => some l
 | .ref n => match st.σ[n]? with
  | some (.list xs) => some xs
  | _ => none
 | _ => none
theorem listOf_real {φ : List (Option Addr)} {st : MSt} {h : Heap} {v : MV} {rv : Value} {xs : List MV} (r : R prog w C fv φ st h) (q : VR h (C.av φ) φ v rv) (e : listOf st v = some xs) :
  ∃ b items, rv = .ref b ∧ h.IsList b (List.toArray items) ∧ VRs h (C.av φ) φ xs items := by
 refine cps fun G hG => ?_
 cases v <;> simp only [listOf, reduceCtorEq] at e
 ·(injection e with e; subst e)
  simp only [vR1, vR2, vR3, vR4, vR5, vR6, vR7, vR8] at q
  obtain ⟨b, items, rfl, _, h1, h2⟩ := q
  refine hG ?_; clear hG
  exact ⟨b, items, rfl, h1, h2⟩
 ·rename_i n
  simp only [vR1, vR2, vR3, vR4, vR5, vR6, vR7, vR8] at q
  obtain ⟨a, h1, rfl⟩ := q
  split at e
  ·rename_i ys hn
   (injection e with e; subst e)
   obtain ⟨items, k, h2, h3, _⟩ := r.sto n a _ h1 hn
   refine hG ?_; clear hG
   exact ⟨a, items, rfl, ⟨_, h2, rfl, k, rfl⟩, h3⟩
  ·(injection e; done)
noncomputable def dictOf' (st : MSt) : MV → Option (Str → Option MV)
 | .ref n => match st.σ[n]? with
  | some (.dict f _) => some f
  | _ => none
 | _ => none
variable (prog w A C fv) in
structure SL (t : Sem (List Value)) (e : MSt → Option (List MV)) : Prop where
 run : ∀ φ st s v Q, R prog w C fv φ st s.heap → e st = some v →
  (∀ h' tk rv, Stays s.heap h' → R prog w C fv φ st h' → VRs h' (C.av φ) φ v rv → Q rv { s with heap := h', toks := tk }) →
  wpAny (model prog w) A t Q NoE s
noncomputable def eNil : MSt → Option (List MV) := fun _ => some []
noncomputable def eCons (a : MSt → Option MV) (b : MSt → Option (List MV)) : MSt → Option (List MV) := fun st => (a st).bind fun x => (b st).bind fun y => some (x :: y)
theorem sl_nil {pos : Pos} {env : Env} : SL prog w A C fv (spliced (backTo pos (starEach [] env))) eNil := by
 refine ⟨?_⟩
 intro φ st s v Q r e h
 (injection e with e; subst e)
 exact wpAny_items_nil (h _ _ _ (Stays.refl _) r (by simp [vRs1, vRs2]))
theorem SL.cons {pos : Pos} {env : Env} {x : Expr} {rest : List Expr} {a : MSt → Option MV} {b : MSt → Option (List MV)} (ha : SE prog w A C fv (eval x env) a) (hb : SL prog w A C fv (spliced (backTo pos (starEach rest env))) b)
  (he : starEach (x :: rest) env = (false, eval x env) :: starEach rest env := by rfl) : SL prog w A C fv (spliced (backTo pos (starEach (x :: rest) env))) (eCons a b) := by
 refine ⟨?_⟩
 intro φ st s v Q r e h
 simp only [eCons, oI] at e
 refine cps fun G hG => ?_
 obtain ⟨x, ex, y, ey, e⟩ := e
 (injection e with e; subst e)
 refine hG ?_; clear hG
 refine wpAny_items_cons (ha.run φ st s x _ r ex fun h1 t1 v1 k1 r1 q1 => hb.run φ st _ y _ r1 ey fun h2 t2 v2 k2 r2 q2 => ?_) he
 exact h h2 t2 _ (k1.trans k2) r2 (by simp only [vRs1, vRs2]; exact ⟨_, _, rfl, q1.stays k2, q2⟩)
noncomputable def eLst (b : MSt → Option (List MV)) : MSt → Option MV := fun st => (b st).bind fun l => if l.length ≤ 1000 then some (.lst l) else none
noncomputable def eTup (b : MSt → Option (List MV)) : MSt → Option MV := fun st => (b st).bind fun l => if l.length ≤ 1000 then some (.tup l) else none
theorem le_sizeLine {n : Nat} (h : n ≤ 100000) : n ≤ sizeLine := by rw [sizeLine_eq]; omega
theorem SE.list {elts : List Expr} {pos : Pos} {env : Env} {b : MSt → Option (List MV)} (hb : SL prog w A C fv (spliced (backTo pos (starEach elts env))) b) : SE prog w A C fv (eval (.List elts pos) env) (eLst b) := by
 refine ⟨?_⟩
 intro φ st s v Q r e h
 simp only [eLst, oI] at e
 refine cps fun G hG => ?_
 obtain ⟨l, el, e⟩ := e
 split at e <;> cases e
 refine hG ?_; clear hG
 refine wpAny_List (hb.run φ st s l _ r el fun h1 t1 v1 k1 r1 q1 => ⟨le_sizeLine (by rw [← q1.length]; omega), ?_⟩)
 have k2 := Stays.push h1 { cls := .type "list", data := .seq v1.toArray }
 refine h _ _ _ (k1.trans k2) (r1.stays k2) ?_
 simp only [vR1, vR2, vR3, vR4, vR5, vR6, vR7, vR8]
 exact ⟨_, v1, rfl, r1.fresh, ⟨_, Heap.get?_push_size _ rfl, rfl, _, rfl⟩, q1.stays k2⟩
theorem SE.tuple {elts : List Expr} {k : Nat} {pos : Pos} {env : Env} {b : MSt → Option (List MV)} (hb : SL prog w A C fv (spliced (backTo pos (starEach elts env))) b) : SE prog w A C fv (eval (.Tuple elts k pos) env) (eTup b) := by
 refine ⟨?_⟩
 intro φ st s v Q r e h
 simp only [eTup, oI] at e
 refine cps fun G hG => ?_
 obtain ⟨l, el, e⟩ := e
 split at e <;> cases e
 refine hG ?_; clear hG
 refine wpAny_Tuple (hb.run φ st s l _ r el fun h1 t1 v1 k1 r1 q1 => ⟨le_sizeLine (by rw [← q1.length]; omega), ?_⟩)
 have k2 := Stays.push h1 { cls := .type "tuple", data := .seq v1.toArray }
 refine h _ _ _ (k1.trans k2) (r1.stays k2) ?_
 simp only [vR1, vR2, vR3, vR4, vR5, vR6, vR7, vR8]
 exact ⟨_, v1, rfl, r1.fresh, ⟨_, Heap.get?_push_size _ rfl, rfl, _, rfl⟩, q1.stays k2⟩
noncomputable def pickAt (l : List MV) (k : Int) : Option MV := if 0 ≤ k then (if k < 100000 then l[k.toNat]? else none) else if -(l.length : Int) ≤ k ∧ -100000 ≤ k then l[(k + l.length).toNat]? else none
noncomputable def subI (st : MSt) (k : Int) : MV → Option MV
 | .lst l => pickAt l k
 | .tup l => pickAt l k
 | .str x => if 0 ≤ k ∧ k < 100000 ∧ (Txt.charAt x k).isSome = true then some (.str (Txt.item x k)) else none
 | .ref n => (listOf st (.ref n)).bind fun l => pickAt l k
 | _ => none
noncomputable def subS (st : MSt) (x : Str) : MV → Option MV
 | .ref n => (dictOf' st (.ref n)).bind fun f => f x
 | _ => none
noncomputable def subE (st : MSt) (x : MV) : MV → Option MV
 | .int k => subI st k x
 | .str s => subS st s x
 | _ => none
noncomputable def eSub (a b : MSt → Option MV) : MSt → Option MV := fun st => (a st).bind fun x => (b st).bind fun y => subE st x y
noncomputable abbrev PlainSlice (slice : Expr) : Prop := ∀ o i, subscripted slice false o i = operate [o, i] (getItem o i)
theorem pick_list {s : Shared} {W : Addr → Prop} {φ : List (Option Addr)} {b : Addr} {items : List Value} {l : List MV} {k : Int} {t : Tok} {v : MV} {Q : Value → Shared → Prop} (hl : s.heap.IsList b items.toArray) (q : VRs s.heap W φ l items) (e : pickAt l k = some v)
  (h : ∀ rv, VR s.heap W φ v rv → Q rv s) : wpAny (model prog w) A (getItem (.ref b) (.int k t)) Q NoE s := by
 simp only [pickAt] at e
 split at e
 ·rename_i h0
  split at e
  ·obtain ⟨u, hu, hv⟩ := q.get _ _ e
   exact wpAny_getItem_list hl h0 (by omega) (by simpa using hu) (h u hv)
  ·(injection e; done)
 ·split at e
  ·rename_i h0 h1
   obtain ⟨u, hu, hv⟩ := q.get _ _ e
   have hlen := q.length
   exact wpAny_getItem_list_neg hl (by omega) (by simp; omega) (by omega) (by simpa [hlen] using hu) (h u hv)
  ·(injection e; done)
theorem pick_tup {s : Shared} {W : Addr → Prop} {φ : List (Option Addr)} {b : Addr} {items : List Value} {l : List MV} {k : Int} {t : Tok} {v : MV} {Q : Value → Shared → Prop} (hl : s.heap.IsTuple b items.toArray) (q : VRs s.heap W φ l items) (e : pickAt l k = some v)
  (h : ∀ rv, VR s.heap W φ v rv → Q rv s) : wpAny (model prog w) A (getItem (.ref b) (.int k t)) Q NoE s := by
 have hlen := q.length
 simp only [pickAt] at e
 refine cps fun G hG => ?_
 split at e
 ·rename_i h0
  split at e
  ·obtain ⟨u, hu, hv⟩ := q.get _ _ e
   have hlt : k.toNat < items.length := (List.getElem?_eq_some_iff.mp hu).1
   refine hG ?_; clear hG
   refine PyProof.Rows.getItem_tuple (j := k.toNat) hl (by omega) (by omega) ?_ (by simpa using hu) (h u hv)
   have h3 : ¬ k < 0 := by omega
   have h4 : (decide (0 ≤ k) && decide (k < ((items.length : Nat) : Int))) = true := by simp; omega
   simp only [seqIndex?, List.size_toArray, if_neg h3, h4, if_true]
  ·(injection e; done)
 ·split at e
  ·rename_i h0 h1
   obtain ⟨u, hu, hv⟩ := q.get _ _ e
   have hlt := (List.getElem?_eq_some_iff.mp hu).1
   refine hG ?_; clear hG
   refine PyProof.Rows.getItem_tuple (j := (k + l.length).toNat) hl (by omega) (by omega) ?_ (by simpa using hu) (h u hv)
   have h3 : k < 0 := by omega
   have h4 : (decide (0 ≤ k + ((items.length : Nat) : Int)) && decide (k + ((items.length : Nat) : Int) < ((items.length : Nat) : Int))) = true := by simp; omega
   simp only [seqIndex?, List.size_toArray, if_pos h3, h4, if_true, hlen]
  ·(injection e; done)
theorem SE.sub {value slice : Expr} {pos : Pos} {env : Env} {a b : MSt → Option MV} (ha : SE prog w A C fv (eval value env) a) (hb : SE prog w A C fv (eval slice env) b) (hs : PlainSlice slice := by intro _ _; rfl) :
  SE prog w A C fv (eval (.Subscript value slice pos) env) (eSub a b) := by
 refine ⟨?_⟩
 intro φ st s v Q r e h
 simp only [eSub, oI] at e
 refine cps fun G hG => ?_
 obtain ⟨x, ex, y, ey, e⟩ := e
 refine hG ?_; clear hG
 refine Subscript_ (ha.run φ st s x _ r ex fun h1 t1 v1 k1 r1 q1 => hb.run φ st _ y _ r1 ey fun h2 t2 v2 k2 r2 q2 => ?_)
 have q1' := q1.stays k2
 have fin : ∀ rv tk, VR h2 (C.av φ) φ v rv → Q rv { s with heap := h2, toks := tk } := fun rv tk hv => h h2 tk rv (k1.trans k2) r2 hv
 refine cps fun G hG => ?_
 cases y <;> simp only [subE, reduceCtorEq] at e <;> cases x <;> simp only [subI, subS, reduceCtorEq] at e
 ·split at e <;> cases e
  rename_i q
  obtain ⟨t, rfl⟩ := vr_str_inv q1'
  obtain ⟨u, rfl⟩ := vr_int_inv q2
  refine hG ?_; clear hG
  exact tail_any (T := "str") rfl slot_str_getitem.lookup (PySem.SB.getItem (by simp [fitsSsize]; omega) q.2.2 (fin _ _ vr_str)) (hs _ _)
 ·obtain ⟨u, rfl⟩ := vr_int_inv q2
  simp only [vR1, vR2, vR3, vR4, vR5, vR6, vR7, vR8] at q1'
  obtain ⟨b, items, rfl, _, hl, hi⟩ := q1'
  refine hG ?_; clear hG
  exact tail_any (T := "tuple") (let ⟨o, ho, hc, _⟩ := hl; ⟨o, ho, hc⟩) slot_tuple_getitem.lookup (pick_tup hl hi e fun rv hv => fin rv _ hv) (hs _ _)
 ·obtain ⟨u, rfl⟩ := vr_int_inv q2
  simp only [vR1, vR2, vR3, vR4, vR5, vR6, vR7, vR8] at q1'
  obtain ⟨b, items, rfl, _, hl, hi⟩ := q1'
  refine hG ?_; clear hG
  exact tail_any (T := "list") hl.typeIs slot_list_getitem.lookup (pick_list hl hi e fun rv hv => fin rv _ hv) (hs _ _)
 ·obtain ⟨u, rfl⟩ := vr_int_inv q2
  simp only [oI] at e
  obtain ⟨l, el, e⟩ := e
  obtain ⟨b, items, rfl, hl, hi⟩ := listOf_real r2 q1' el
  refine hG ?_; clear hG
  exact tail_any (T := "list") hl.typeIs slot_list_getitem.lookup (pick_list hl hi e fun rv hv => fin rv _ hv) (hs _ _)
 ·rename_i y n
  obtain ⟨u, rfl⟩ := vr_str_inv q2
  simp only [oI, dictOf'] at e
  obtain ⟨f, ef, e⟩ := e
  split at ef <;> cases ef
  rename_i m hn
  simp only [vR1, vR2, vR3, vR4, vR5, vR6, vR7, vR8] at q1'
  obtain ⟨a, h5, rfl⟩ := q1'
  obtain ⟨kvs, g1, g2, g3, g4⟩ := r2.sto n a _ h5 hn
  have g5 := g4 y
  rw [e] at g5
  obtain ⟨rv, g6, g7⟩ := g5
  refine hG ?_; clear hG
  exact tail_any (T := "dict") g1.typeIs slot_dict_getitem.lookup (wpAny_getItem_of (strKind_is prog w y u) g1.mapOf g6 (fin _ _ g7)) (hs _ _)
end
end
section
set_option backward.match.sparseCases false
section
variable {prog : Program} {w : World} {A : Around} {C : Cx} {fv : FV}
noncomputable def pickIdx {α : Type} (l : List α) (idx : List Nat) : List α := idx.filterMap (l[·]?)
noncomputable def sliceV {α : Type} (l : List α) (lo hi st : Option Int) : List α :=
 pickIdx l (sliceRange (sliceBounds lo hi st l.length).1 (sliceBounds lo hi st l.length).2.1 (sliceBounds lo hi st l.length).2.2)
theorem VRs.pickIdx {h : Heap} {W : Addr → Prop} {φ : List (Option Addr)} {l : List MV} {v : List Value} (q : VRs h W φ l v) : ∀ idx : List Nat, VRs h W φ (pickIdx l idx) (Mine.pickIdx v idx)
 | [] => by simp [Mine.pickIdx, vRs1, vRs2]
 | i :: r => by
  have ih := VRs.pickIdx q r
  simp only [Mine.pickIdx, List.filterMap_cons] at ih ⊢
  cases hi : l[i]? with
  | none =>
   have : v[i]? = none := by
    rw [List.getElem?_eq_none_iff] at hi ⊢
    rw [← q.length]; exact hi
   rw [this]; exact ih
  | some y =>
   obtain ⟨u, hu, hv⟩ := q.get i y hi
   rw [hu]
   simp only [vRs1, vRs2]
   exact ⟨u, _, rfl, hv, ih⟩
theorem slicePick_list (items : List Value) (lo hi st : Option Int) : slicePick items.toArray lo hi st = (sliceV items lo hi st).toArray := by
 simp [slicePick, sliceV, pickIdx]
theorem VRs.sliceV {h : Heap} {W : Addr → Prop} {φ : List (Option Addr)} {l : List MV} {v : List Value} (q : VRs h W φ l v) (lo hi st : Option Int) : VRs h W φ (sliceV l lo hi st) (Mine.sliceV v lo hi st) := by
 unfold Mine.sliceV
 rw [q.length]
 exact q.pickIdx _
variable (prog w A C fv) in
structure SP (t : Sem Value) (p : MSt → Option (Option Int)) : Prop where
 run : ∀ φ st s v Q, R prog w C fv φ st s.heap → p st = some v →
  (∀ h' tk rv, Stays s.heap h' → R prog w C fv φ st h' → IsPart rv v → Q rv { s with heap := h', toks := tk }) → wpAny (model prog w) A t Q NoE s
noncomputable def pNone : MSt → Option (Option Int) := fun _ => some none
noncomputable def asInt : MV → Option Int
 | .int i => some i
 | _ => none
noncomputable def pSome (a : MSt → Option MV) : MSt → Option (Option Int) := fun st => (a st).bind fun x => (asInt x).map some
theorem sp_none {env : Env} : SP prog w A C fv (evalPart none env) pNone := by
 refine ⟨?_⟩
 intro φ st s v Q r e h
 (injection e with e; subst e)
 exact wpAny_pure (h _ _ _ (Stays.refl _) r .none)
theorem SP.some {x : Expr} {env : Env} {a : MSt → Option MV} (ha : SE prog w A C fv (eval x env) a) : SP prog w A C fv (evalPart (Option.some x) env) (pSome a) := by
 refine ⟨?_⟩
 intro φ st s v Q r e h
 simp only [pSome, oI, oM] at e
 refine cps fun G hG => ?_
 obtain ⟨x, ex, i, ei, rfl⟩ := e
 cases x <;> simp only [asInt, reduceCtorEq] at ei
 (injection ei with ei; subst ei)
 refine hG ?_; clear hG
 refine ha.run φ st s _ _ r ex fun h1 t1 v1 k1 r1 q1 => ?_
 refine cps fun G hG => ?_
 obtain ⟨t, rfl⟩ := vr_int_inv q1
 refine hG ?_; clear hG
 exact h _ _ _ k1 r1 (.int _ _)
noncomputable def sliceE (st : MSt) (x : MV) (lo hi sp : Option Int) : Option MV :=
 match x with
 | .str s => if lo.isNone ∧ sp.isNone ∧ s.length ≤ 100000 then hi.map fun j => .str (Txt.slice s none (some j)) else none
 | x => (listOf st x).bind fun l => if sp ≠ some 0 ∧ l.length ≤ 100000 then some (.lst (sliceV l lo hi sp)) else none
noncomputable def eSlice (a : MSt → Option MV) (l u k : MSt → Option (Option Int)) : MSt → Option MV := fun st => (a st).bind fun x => (l st).bind fun lo => (u st).bind fun hi => (k st).bind fun sp => sliceE st x lo hi sp
theorem SE.slice {value : Expr} {lower upper step : Option Expr} {p pos : Pos} {env : Env} {a : MSt → Option MV} {l u k : MSt → Option (Option Int)} (ha : SE prog w A C fv (eval value env) a)
  (hl : SP prog w A C fv (evalPart lower env) l) (hu : SP prog w A C fv (evalPart upper env) u) (hk : SP prog w A C fv (evalPart step env) k)
  (ht : ∀ x t r, letTemporaryGo value (.str x t) r = pure () := by intro _ _ _; rfl) :
  SE prog w A C fv (eval (.Subscript value (.Slice lower upper step p) pos) env) (eSlice a l u k) := by
 refine ⟨?_⟩
 intro φ st s v Q r e h
 simp only [eSlice, oI] at e
 obtain ⟨x, ex, lo, el, hi, eh, sp, es, e⟩ := e
 refine Subscript_ (ha.run φ st s x _ r ex fun h1 t1 v1 k1 r1 q1 => wpAny_Slice (hl.run φ st _ lo _ r1 el fun h2 t2 v2 k2 r2 p2 => hu.run φ st _ hi _ r2 eh fun h3 t3 v3 k3 r3 p3 => hk.run φ st _ sp _ r3 es fun h4 t4 v4 k4 r4 p4 => ?_))
 have q1' := q1.stays (k2.trans (k3.trans k4))
 have kk := k1.trans (k2.trans (k3.trans k4))
 have kp := Stays.push h4 { cls := .type "slice", data := .fields #[v2, v3, v4] }
 have hops : ∃ ops : Value → Value → List Value, ∀ o i, subscripted (.Slice lower upper step p) false o i = operate (ops o i) (getItem o i) := by
  cases step
  ·exact ⟨fun o i => [i, o], fun _ _ => rfl⟩
  ·exact ⟨fun o i => [o, i], fun _ _ => rfl⟩
 obtain ⟨ops, hops⟩ := hops
 have asList : ∀ xs, listOf st x = some xs → (if sp ≠ some 0 ∧ xs.length ≤ 100000 then some (MV.lst (sliceV xs lo hi sp)) else none) = some v →
   wpAny (model prog w) A (subscriptTail value (.Slice lower upper step p) v1 (.ref h4.objs.size)) Q NoE { s with heap := h4.push { cls := .type "slice", data := .fields #[v2, v3, v4] }, toks := t4 } := by
  intro xs exs e
  split at e <;> cases e
  rename_i hc
  obtain ⟨b, items, rfl, hli, hit⟩ := listOf_real r4 q1' exs
  have hli' : (h4.push { cls := .type "slice", data := .fields #[v2, v3, v4] }).IsList b items.toArray := hli.push _
  refine tail_any (T := "list") hli'.typeIs slot_list_getitem.lookup (wpAny_getItem_list_slice hli' (Heap.IsSliceOf.new h4 v2 v3 v4) p2 p3 p4 hc.1 ?_ ?_) (hops _ _)
  ·rw [slicePick_list]
   have kp2 := Stays.push (h4.push { cls := .type "slice", data := .fields #[v2, v3, v4] }) { cls := .type "list", data := .seq (sliceV items lo hi sp).toArray }
   refine h _ _ _ (kk.trans (kp.trans kp2)) (r4.stays (kp.trans kp2)) ?_
   simp only [vR1, vR2, vR3, vR4, vR5, vR6, vR7, vR8]
   exact ⟨_, _, rfl, (r4.stays kp).fresh, ⟨_, Heap.get?_push_size _ rfl, rfl, _, rfl⟩, (hit.sliceV lo hi sp).stays (kp.trans kp2)⟩
  ·rw [List.size_toArray, ← hit.length]; exact le_sizeLine hc.2
 cases x
 case str x =>
  simp only [sliceE] at e
  split at e
  ·rename_i hc
   obtain ⟨c1, c2, c3⟩ := hc
   simp only [Option.isNone_iff_eq_none] at c1 c2
   subst c1 c2
   simp only [oM] at e
   obtain ⟨j, rfl, rfl⟩ := e
   obtain ⟨t, rfl⟩ := vr_str_inv q1'
   cases p2; cases p4; cases p3
   exact tail_of_ItemOn (PySem.SBH.sliceItem_ns (P := Stays h4) (s := { s with heap := h4, toks := t4 }) (fun h' o hh => hh.trans (Stays.push h' o)) (Stays.refl _) (fun h' t' k' hP => h h' k' _ (kk.trans hP) (r4.stays hP) vr_str) (le_sizeLine c3)) (hops _ _) (ht _ _)
  ·(injection e; done)
 case lst l => exact asList _ rfl (by simpa [sliceE, listOf] using e)
 case ref n =>
  simp only [sliceE, oI] at e
  obtain ⟨xs, e1, e2⟩ := e
  exact asList xs e1 e2
 all_goals (simp [sliceE, listOf] at e)
noncomputable def asBool : MV → Option Bool
 | .bool b => some b
 | _ => none
noncomputable def b2 (f : MV → MV → Option MV) (a b : MSt → Option MV) : MSt → Option Bool := fun st => (e2 f a b st).bind asBool
theorem SB.cmp {l r : Expr} {op : CmpOp} {pos : Pos} {env : Env} {whole : Sem Value} {f : MV → MV → Option MV} {a b : MSt → Option MV} (hf : Op2 A (compareOp op) f prog w) (ha : SE prog w A C fv (eval l env) a) (hb : SE prog w A C fv (eval r env) b)
  (hm : behindInMarks op r = false := by with_unfolding_all rfl) : SB prog w A C fv (isTrue (.Compare l [op] [r] pos) env whole) (b2 f a b) := by
 refine ⟨?_⟩
 intro φ st s v Q r e h
 simp only [b2, e2, oI] at e
 refine cps fun G hG => ?_
 obtain ⟨z, ⟨x, ex, y, ey, ef⟩, ez⟩ := e
 cases z <;> simp only [asBool, reduceCtorEq] at ez
 (injection ez with ez; subst ez)
 refine hG ?_; clear hG
 refine wpAny_isTrue_Compare1 (ha.run φ st s x _ r ex fun h1 t1 v1 k1 r1 q1 => hb.run φ st _ y _ r1 ey fun h2 t2 v2 k2 r2 q2 => ?_) hm
 refine hf _ _ _ x y _ v1 v2 _ ef (q1.stays k2) q2 fun h3 t3 v3 k3 q3 => ?_
 refine cps fun G hG => ?_
 obtain rfl := vr_bool_inv q3
 refine hG ?_; clear hG
 exact wpAny_truthy_bool (h h3 t3 ((k1.trans k2).trans k3) (r2.stays k3))
noncomputable def truthV : MV → Option Bool
 | .bool b => some b
 | .str x => if x.length ≤ 100000 then some ((x.length : Int) != 0) else none
 | _ => none
noncomputable def bE (a : MSt → Option MV) : MSt → Option Bool := fun st => (a st).bind truthV
theorem SB.plain {x : Expr} {env : Env} {a : MSt → Option MV} (ha : SE prog w A C fv (eval x env) a)
  (he : isTrue x env (eval x env) = (do let v ← eval x env; standAt x.pos; holding [v] (truthy v)) := by rfl) : SB prog w A C fv (isTrue x env (eval x env)) (bE a) := by
 refine ⟨?_⟩
 intro φ st s v Q r e h
 simp only [bE, oI] at e
 obtain ⟨y, ey, e⟩ := e
 refine isTrue_plain (ha.run φ st s y _ r ey fun h1 t1 v1 k1 r1 q1 => ?_) he
 cases y <;> simp only [truthV, reduceCtorEq] at e
 ·(injection e with e; subst e)
  obtain rfl := vr_bool_inv q1
  exact wpAny_truthy_bool (h _ _ k1 r1)
 ·split at e <;> cases e
  obtain ⟨t, rfl⟩ := vr_str_inv q1
  exact P.truthy_str (by omega) (h _ _ k1 r1)
noncomputable def bTrue : MSt → Option Bool := fun _ => some true
noncomputable def bFalse : MSt → Option Bool := fun _ => some false
noncomputable def bAnd (a b : MSt → Option Bool) : MSt → Option Bool := fun st => (a st).bind fun x => if x then b st else some false
noncomputable def bOr (a b : MSt → Option Bool) : MSt → Option Bool := fun st => (a st).bind fun x => if x then some true else b st
noncomputable def bNot (a : MSt → Option Bool) : MSt → Option Bool := fun st => (a st).map (!·)
theorem sb_and_nil {pos : Pos} {env : Env} {whole : Sem Value} : SB prog w A C fv (isTrue (.BoolOp .And [] pos) env whole) bTrue := by
 refine ⟨?_⟩
 intro φ st s v Q r e h; (injection e with e; subst e)
 exact isTrue_and_nil (h _ _ (Stays.refl _) r)
theorem sb_or_nil {pos : Pos} {env : Env} {whole : Sem Value} : SB prog w A C fv (isTrue (.BoolOp .Or [] pos) env whole) bFalse := by
 refine ⟨?_⟩
 intro φ st s v Q r e h; (injection e with e; subst e)
 exact isTrue_or_nil (h _ _ (Stays.refl _) r)
theorem SB.and {x : Expr} {rest : List Expr} {pos : Pos} {env : Env} {whole : Sem Value} {a b : MSt → Option Bool} (ha : SB prog w A C fv (isTrue x env (eval x env)) a) (hb : SB prog w A C fv (isTrue (.BoolOp .And rest pos) env whole) b) :
  SB prog w A C fv (isTrue (.BoolOp .And (x :: rest) pos) env whole) (bAnd a b) := by
 refine ⟨?_⟩
 intro φ st s v Q r e h
 simp only [bAnd, oI] at e
 obtain ⟨y, ey, e⟩ := e
 refine isTrue_and (ha.run φ st s y _ r ey fun h1 t1 k1 r1 => ?_)
 cases y
 ·(injection e with e; subst e); exact h _ _ k1 r1
 ·exact hb.run φ st _ v _ r1 e fun h2 t2 k2 r2 => h _ _ (k1.trans k2) r2
theorem SB.or {x : Expr} {rest : List Expr} {pos : Pos} {env : Env} {whole : Sem Value} {a b : MSt → Option Bool} (ha : SB prog w A C fv (isTrue x env (eval x env)) a) (hb : SB prog w A C fv (isTrue (.BoolOp .Or rest pos) env whole) b) :
  SB prog w A C fv (isTrue (.BoolOp .Or (x :: rest) pos) env whole) (bOr a b) := by
 refine ⟨?_⟩
 intro φ st s v Q r e h
 simp only [bOr, oI] at e
 obtain ⟨y, ey, e⟩ := e
 refine isTrue_or (ha.run φ st s y _ r ey fun h1 t1 k1 r1 => ?_)
 cases y
 ·exact hb.run φ st _ v _ r1 e fun h2 t2 k2 r2 => h _ _ (k1.trans k2) r2
 ·(injection e with e; subst e); exact h _ _ k1 r1
theorem SB.not {x : Expr} {pos : Pos} {env : Env} {whole : Sem Value} {a : MSt → Option Bool} (ha : SB prog w A C fv (isTrue x env (eval x env)) a) : SB prog w A C fv (isTrue (.UnaryOp .Not x pos) env whole) (bNot a) := by
 refine ⟨?_⟩
 intro φ st s v Q r e h
 simp only [bNot, oM] at e
 obtain ⟨y, ey, rfl⟩ := e
 exact isTrue_not (ha.run φ st s y _ r ey fun h1 t1 k1 r1 => h _ _ k1 r1)
noncomputable def eIf (c : MSt → Option Bool) (a b : MSt → Option MV) : MSt → Option MV := fun st => (c st).bind fun x => if x then a st else b st
theorem SE.ifexp {t x y : Expr} {pos : Pos} {env : Env} {c : MSt → Option Bool} {a b : MSt → Option MV} (hc : SB prog w A C fv (isTrue t env (eval t env)) c) (ha : SE prog w A C fv (eval x env) a) (hb : SE prog w A C fv (eval y env) b) :
  SE prog w A C fv (eval (.IfExp t x y pos) env) (eIf c a b) := by
 refine ⟨?_⟩
 intro φ st s v Q r e h
 simp only [eIf, oI] at e
 obtain ⟨z, ez, e⟩ := e
 refine wpAny_IfExp (hc.run φ st s z _ r ez fun h1 t1 k1 r1 => ?_)
 cases z
 ·exact hb.run φ st _ v _ r1 e fun h2 t2 v2 k2 r2 q2 => h _ _ _ (k1.trans k2) r2 q2
 ·exact ha.run φ st _ v _ r1 e fun h2 t2 v2 k2 r2 q2 => h _ _ _ (k1.trans k2) r2 q2
noncomputable def eNeg (a : MSt → Option MV) : MSt → Option MV := fun st => (a st).bind fun x => (asInt x).map fun i => .int (-i)
theorem SE.neg {x : Expr} {pos : Pos} {env : Env} {a : MSt → Option MV} (ha : SE prog w A C fv (eval x env) a) : SE prog w A C fv (eval (.UnaryOp .USub x pos) env) (eNeg a) := by
 refine ⟨?_⟩
 intro φ st s v Q r e h
 simp only [eNeg, oI, oM] at e
 refine cps fun G hG => ?_
 obtain ⟨y, ey, i, ei, rfl⟩ := e
 cases y <;> simp only [asInt, reduceCtorEq] at ei
 (injection ei with ei; subst ei)
 refine hG ?_; clear hG
 refine wpAny_UnaryOp (ha.run φ st s _ _ r ey fun h1 t1 v1 k1 r1 q1 => ?_)
 refine cps fun G hG => ?_
 obtain ⟨t, rfl⟩ := vr_int_inv q1
 refine hG ?_; clear hG
 exact PyProof.Rows.neg_int (h _ _ _ k1 r1 vr_int)
end
end
section
set_option backward.match.sparseCases false
mutual
theorem VR.noRef {h : Heap} {W : Addr → Prop} {φ φ' : List (Option Addr)} : ∀ (x : MV) {v : Value}, VR h W φ x v → noRef x = true → VR h W φ' x v
 | .none, _, e, _ => by simpa only [vR1, vR2, vR3, vR4, vR5, vR6, vR7, vR8] using e
 | .bool _, _, e, _ => by simpa only [vR1, vR2, vR3, vR4, vR5, vR6, vR7, vR8] using e
 | .int _, _, e, _ => by simpa only [vR1, vR2, vR3, vR4, vR5, vR6, vR7, vR8] using e
 | .str _, _, e, _ => by simpa only [vR1, vR2, vR3, vR4, vR5, vR6, vR7, vR8] using e
 | .tup l, _, e, n => by
  simp only [vR1, vR2, vR3, vR4, vR5, vR6, vR7, vR8] at e ⊢
  obtain ⟨b, items, rfl, hb, ho, hl⟩ := e
  exact ⟨b, items, rfl, hb, ho, VRs.noRef l hl (by simpa only [Mine.noRef] using n)⟩
 | .lst l, _, e, n => by
  simp only [vR1, vR2, vR3, vR4, vR5, vR6, vR7, vR8] at e ⊢
  obtain ⟨b, items, rfl, hb, ho, hl⟩ := e
  exact ⟨b, items, rfl, hb, ho, VRs.noRef l hl (by simpa only [Mine.noRef] using n)⟩
 | .ref _, _, _, n => by simp [Mine.noRef] at n
 | .cls _, _, _, n => by simp [Mine.noRef] at n
theorem VRs.noRef {h : Heap} {W : Addr → Prop} {φ φ' : List (Option Addr)} : ∀ (x : List MV) {v : List Value}, VRs h W φ x v → noRefs x = true → VRs h W φ' x v
 | [], _, e, _ => by simpa only [vRs1, vRs2] using e
 | x :: xs, _, e, n => by
  simp only [vRs1, vRs2] at e ⊢
  obtain ⟨v, r, rfl, h1, h2⟩ := e
  simp only [nRs1, nRs2, Bool.and_eq_true] at n
  exact ⟨v, r, rfl, VR.noRef x h1 n.1, VRs.noRef xs h2 n.2⟩
end
section
variable {prog : Program} {w : World} {A : Around} {C : Cx} {fv : FV} {K : Frag}
noncomputable def CtxB (A : Around) (C : Cx) : Prop := ∃ (base : Heap) (outer : List Env) (env : Env), A.frames = some (env :: outer) ∧ env.scope.kind ≠ .module ∧ env.frame = some C.fn ∧ base.StaysIn C.h₀ ∧
 ∀ e ∈ outer, e.scope.kind ≠ .module ∧ ∃ L, e.frame = some L ∧ base.get? L = none ∧ (C.hid L ∨ ∃ o, C.h₀.get? L = some o ∧ ∀ vs, o.data ≠ .fields vs)
theorem funFrames_iff {base h : Heap} : ∀ {l : List Env}, h.FunFrames base l ↔ ∀ e ∈ l, e.scope.kind ≠ .module ∧ ∃ L o, e.frame = some L ∧ base.get? L = none ∧ h.get? L = some o ∧ ∀ vs, o.data ≠ .fields vs
 | [] => ⟨fun _ e h => by simp at h, fun _ => trivial⟩
 | x :: l => by
  constructor
  ·rintro ⟨h1, h2, h3⟩ e he
   rcases List.mem_cons.mp he with rfl | he
   ·exact ⟨h1, h2⟩
   ·exact funFrames_iff.mp h3 e he
  ·intro h
   exact ⟨(h x List.mem_cons_self).1, (h x List.mem_cons_self).2, funFrames_iff.mpr fun e he => h e (List.mem_cons_of_mem _ he)⟩
theorem funFrames_keeps {base h h' : Heap} (hk : Stays h h') : ∀ {l : List Env}, h.FunFrames base l → h'.FunFrames base l
 | [], _ => trivial
 | _ :: _, ⟨h1, ⟨L, o, h2, h3, h4, h5⟩, h6⟩ => ⟨h1, ⟨L, o, h2, h3, hk _ _ h4, h5⟩, funFrames_keeps hk h6⟩
theorem CtxB.below {φ : List (Option Addr)} {st : MSt} {h : Heap} (b : CtxB A C) (r : R prog w C fv φ st h) : ∃ base outer, Below A base outer h := by
 refine cps fun G hG => ?_
 obtain ⟨base, outer, env, h1, h2, h3, h4, h5⟩ := b
 refine hG ?_; clear hG
 refine ⟨base, env :: outer, h1, fun x o e => r.base x o (h4 x o e), h2, ?_, funFrames_iff.mpr fun e he => ?_⟩
 case refine_2 =>
  refine cps fun G hG => ?_
  obtain ⟨g1, L, g2, g3, g4⟩ := h5 e he
  refine hG ?_; clear hG
  refine ⟨g1, L, ?_⟩
  rcases g4 with g4 | ⟨o, g4, g5⟩
  ·obtain ⟨⟨o, g6, _, g7, _⟩, _⟩ := r.hid L g4
   exact ⟨o, g2, g3, g6, g7⟩
  ·exact ⟨o, g2, g3, r.base _ _ g4, g5⟩
 refine cps fun G hG => ?_
 obtain ⟨m, o, es, ep, ho, hd, _⟩ := r.fr
 refine hG ?_; clear hG
 refine ⟨C.fn, o, h3, ?_, ho, fun vs e => by rw [hd] at e; (injection e; done)⟩
 cases hq : base.get? C.fn with
 | none => rfl
 | some o' =>
  have h6 : @LT.lt Nat _ C.fn C.h₀.objs.size := Heap.lt_size (h4 _ _ hq)
  have h7 : @LE.le Nat _ C.h₀.objs.size C.fn := r.above
  omega
structure EnvOk (env : Env) : Prop where
 kind : env.scope.kind = .function
 globals : env.globals = mainGlobals
 builtins : env.builtins = builtinsNs
 cells : ∀ n, env.kindOf n = some .cell → ∃ c, env.cells.lookup n = some c
theorem ev_fn {x : Str} {pos : Pos} {rv : Value} (hT : TopOk K C.h₀) (he : EnvOk fv.env) (hx : fv.env.kindOf x = some .globalImplicit) (e : nsIn K mainGlobals x = some (some rv))
  {φ : List (Option Addr)} {st : MSt} {s : Shared} {Q : Value → Shared → Prop} (r : R prog w C fv φ st s.heap) (h : Q rv s) (hd : (x == ("__debug__" : Str)) = false := by decide) :
  wpAny (model prog w) A (eval (.Name x pos) fv.env) Q NoE s := by
 obtain ⟨hk, p, loose, mean, mg, mb, T⟩ := hT
 exact Name_function_global he.kind hx (loadGlobal_global (by rw [he.globals]; exact T.g.keeps r.base) (mg_of hk T.g e) h) hd
theorem ev_builtin {x : Str} {pos : Pos} {rv : Value} (hT : TopOk K C.h₀) (he : EnvOk fv.env) (hx : fv.env.kindOf x = some .globalImplicit) (e : nsIn K mainGlobals x = some none) (hv : bootBuiltins x = some rv) (hn : x ≠ "__name__")
  {φ : List (Option Addr)} {st : MSt} {s : Shared} {Q : Value → Shared → Prop} (r : R prog w C fv φ st s.heap) (h : Q rv s) (hd : (x == ("__debug__" : Str)) = false := by decide) :
  wpAny (model prog w) A (eval (.Name x pos) fv.env) Q NoE s := by
 refine cps fun G hG => ?_
 obtain ⟨hk, p, loose, mean, mg, mb, T⟩ := hT
 refine hG ?_; clear hG
 exact Name_function_global he.kind hx (loadGlobal_builtin (by rw [he.globals]; exact T.g.keeps r.base) (mg_none_of hk T.g e) (by rw [he.builtins]; exact T.b.keeps r.base) ((T.builtins x hn).trans hv) h) hd
variable (prog w K) in
noncomputable def Pure (f : Addr) (n : Nat) (args : List MV) (v : MV) : Prop :=
 ∀ A base outer s (W0 : Addr → Prop) vs Q, AOk A n → Below A base outer s.heap → TopOk K s.heap → (∀ a, W0 a → ∃ o, s.heap.get? a = some o) → VRs s.heap W0 [] args vs →
  (∀ h' tk rv, Stays s.heap h' → VR h' W0 [] v rv → Q rv { s with heap := h', toks := tk }) → wpAny (model prog w) A (call (.ref f) vs) Q NoE s
theorem R.av_live {φ : List (Option Addr)} {st : MSt} {h : Heap} (r : R prog w C fv φ st h) (a : Addr) (ha : C.av φ a) : ∃ o, h.get? a = some o := ha.elim (r.av0 a) (r.live a)
theorem pure_at {f : Addr} {n : Nat} {args : List MV} {v : MV} (P : Pure prog w K f n args v) (hA : AOk A n) (hB : CtxB A C) (hT : TopOk K C.h₀) (hn : noRefs args = true)
  {φ : List (Option Addr)} {st : MSt} {s : Shared} {vs : List Value} {Q : Value → Shared → Prop} (r : R prog w C fv φ st s.heap) (q : VRs s.heap (C.av φ) φ args vs)
  (h : ∀ h' tk rv, Stays s.heap h' → R prog w C fv φ st h' → VR h' (C.av φ) φ v rv → Q rv { s with heap := h', toks := tk }) : wpAny (model prog w) A (call (.ref f) vs) Q NoE s := by
 obtain ⟨base, outer, B⟩ := hB.below r
 refine P A base outer s (C.av φ) vs Q hA B (hT.stays r.base) r.av_live (VRs.noRef args q hn) fun h' tk rv hk hv => h h' tk rv hk (r.stays hk) ?_
 exact VR.mono (fun b o hb ho _ => ⟨ho, hb⟩) (fun n a e => by simp at e) v hv
noncomputable def eCall (spec : List MV → Option MV) (es : MSt → Option (List MV)) : MSt → Option MV := fun st => (es st).bind fun l => if noRefs l then spec l else none
theorem evalArgs_sl {f : Value} {args : List (Bool × Sem Value)} {es : MSt → Option (List MV)} (hs : SL prog w A C fv (spliced args) es) (hne : ∃ t rest, args = (false, t) :: rest)
  {φ : List (Option Addr)} {st : MSt} {s : Shared} {l : List MV} {Q : Args → Shared → Prop} (r : R prog w C fv φ st s.heap) (e : es st = some l)
  (h : ∀ h' tk rv, Stays s.heap h' → R prog w C fv φ st h' → VRs h' (C.av φ) φ l rv → Q ⟨rv, []⟩ { s with heap := h', toks := tk }) : wpAny (model prog w) A (evalArgs f true args []) Q NoE s := by
 obtain ⟨t, rest, rfl⟩ := hne
 exact evalArgs_plain (hs.run φ st s l _ r e h)
theorem SE.call {x : Str} {np pos : Pos} {args : List Expr} {f : Addr} {n : Nat} {es : MSt → Option (List MV)} {spec : List MV → Option MV} {o : Obj} {fd : FuncData}
  (hA : AOk A n) (hB : CtxB A C) (hT : TopOk K C.h₀) (he : EnvOk fv.env) (hx : fv.env.kindOf x = some .globalImplicit) (hg : nsIn K mainGlobals x = some (some (.ref f))) (ho : K.lookup f = some o) (hd : o.data = .func fd)
  (hspec : ∀ vs v, spec vs = some v → Pure prog w K f n vs v)
  (hs : SL prog w A C fv (spliced (backTo pos (starEach args fv.env))) es) (hne : ∃ t rest, backTo pos (starEach args fv.env) = (false, t) :: rest := by exact ⟨_, _, rfl⟩) (hdb : (x == ("__debug__" : Str)) = false := by decide) :
  SE prog w A C fv (eval (.Call (.Name x np) args [] pos) fv.env) (eCall spec es) := by
 refine ⟨?_⟩
 intro φ st s v Q r e h
 simp only [eCall, oI] at e
 refine cps fun G hG => ?_
 obtain ⟨l, el, e⟩ := e
 split at e
 ·rename_i hn
  refine hG ?_; clear hG
  refine wpAny_Call_NameR (ev_fn hT he hx hg r (callWith_function (o := o) (fd := fd) (evalArgs_sl hs hne r el fun h1 t1 v1 k1 r1 q1 => ⟨⟨r1.base _ _ (hT.k _ _ ho), hd⟩, ?_⟩)) hdb)
  exact pure_at (hspec l v e) hA hB hT hn r1 q1 fun h2 t2 v2 k2 r2 q2 => h h2 t2 v2 (k1.trans k2) r2 q2
 ·(injection e; done)
variable (prog w A C fv) in
noncomputable def BOk (fval : Value) (f : MSt → List MV → Option MV) : Prop :=
 ∀ φ st s vs rvs v Q, R prog w C fv φ st s.heap → f st vs = some v → VRs s.heap (C.av φ) φ vs rvs →
  (∀ h' tk rv, Stays s.heap h' → VR h' (C.av φ) φ v rv → Q rv { s with heap := h', toks := tk }) → wpAny (model prog w) A (call fval rvs) Q NoE s
noncomputable def eB (f : MSt → List MV → Option MV) (es : MSt → Option (List MV)) : MSt → Option MV := fun st => (es st).bind fun l => f st l
theorem SE.callB {x : Str} {id : String} {np pos : Pos} {args : List Expr} {es : MSt → Option (List MV)} {f : MSt → List MV → Option MV}
  (hT : TopOk K C.h₀) (he : EnvOk fv.env) (hx : fv.env.kindOf x = some .globalImplicit) (hg : nsIn K mainGlobals x = some none) (hv : bootBuiltins x = some (.builtin id)) (hnm : x ≠ "__name__")
  (hf : BOk prog w A C fv (.builtin id) f)
  (hs : SL prog w A C fv (spliced (backTo pos (starEach args fv.env))) es) (hne : ∃ t rest, backTo pos (starEach args fv.env) = (false, t) :: rest := by exact ⟨_, _, rfl⟩)
  (hp : (backTo pos (starEach args fv.env)).any (·.1) = false := by rfl) (hdb : (x == ("__debug__" : Str)) = false := by decide) :
  SE prog w A C fv (eval (.Call (.Name x np) args [] pos) fv.env) (eB f es) := by
 refine ⟨?_⟩
 intro φ st s v Q r e h
 simp only [eB, oI] at e
 obtain ⟨l, el, e⟩ := e
 refine wpAny_Call_NameR (ev_builtin hT he hx hg hv hnm r (callWith_builtin hp (evalArgs_sl hs hne r el fun h1 t1 v1 k1 r1 q1 => ?_)) hdb)
 exact hf φ st _ l v1 v _ r1 e q1 fun h2 t2 v2 k2 q2 => h h2 t2 v2 (k1.trans k2) (r1.stays k2) q2
variable (prog w A C fv) in
noncomputable def MOk (id : String) (f : MSt → List MV → Option MV) : Prop :=
 ∀ φ st s x rx vs rvs v Q, R prog w C fv φ st s.heap → f st (x :: vs) = some v → VR s.heap (C.av φ) φ x rx → VRs s.heap (C.av φ) φ vs rvs →
  (∀ h' tk rv, Stays s.heap h' → VR h' (C.av φ) φ v rv → Q rv { s with heap := h', toks := tk }) → wpAny (model prog w) A (call (.builtin id) (rx :: rvs)) Q NoE s
noncomputable def eM (f : MSt → List MV → Option MV) (a : MSt → Option MV) (es : MSt → Option (List MV)) : MSt → Option MV := fun st => (a st).bind fun x => match x with
 | .str s => (es st).bind fun l => f st (.str s :: l)
 | _ => none
theorem SE.meth {o : Expr} {name : Str} {id : String} {apos pos : Pos} {args : List Expr} {a : MSt → Option MV} {es : MSt → Option (List MV)} {f : MSt → List MV → Option MV} {env : Env}
  (slot : Slot "str" name id) (hty : typeOf (.builtin id) = pure (.type "method_descriptor")) (hf : MOk prog w A C fv id f)
  (ha : SE prog w A C fv (eval o env) a) (hs : SL prog w A C fv (spliced (backTo pos (starEach args env))) es) (hne : ∃ t rest, backTo pos (starEach args env) = (false, t) :: rest := by exact ⟨_, _, rfl⟩)
  (hp : (backTo pos (starEach args env)).any (·.1) = false := by rfl)
  (hbase : attributeBase o name env (eval o env) = eval o env := by rfl)
  (hfew : ((backTo pos (starEach args env)).all (fun x => !x.1) && (backToKw pos (keywordEach [] env)).all (fun x => x.1.isSome) && decide (args.length + ([] : List Keyword).length + (if ([] : List Keyword).isEmpty then 0 else 1) < 30)) = true := by rfl)
  (hline : (apos.endLine == pos.line) = true := by rfl) :
  SE prog w A C fv (eval (.Call (.Attribute o name apos) args [] pos) env) (eM f a es) := by
 refine ⟨?_⟩
 intro φ st s v Q r e h
 simp only [eM, oI] at e
 obtain ⟨x, ex, e⟩ := e
 cases x <;> simp only [reduceCtorEq, oI] at e
 obtain ⟨l, el, e⟩ := e
 refine wpAny_Call_method hbase hfew hline F.plainAttrs_str slot hty (ha.run φ st s _ _ r ex fun h1 t1 v1 k1 r1 q1 => ?_)
 obtain ⟨t, rfl⟩ := vr_str_inv q1
 refine ⟨typeIs_str _ _ _, fun _ e => (nomatch e), callWith_builtin hp (evalArgs_sl hs hne r1 el fun h2 t2 v2 k2 r2 q2 => ?_)⟩
 exact hf φ st _ _ _ l v2 v _ r2 e (q1.stays k2) q2 fun h3 t3 v3 k3 q3 => h h3 t3 v3 ((k1.trans k2).trans k3) (r2.stays k3) q3
noncomputable def f1 (g : MSt → MV → Option MV) : MSt → List MV → Option MV
 | st, [x] => g st x
 | _, _ => none
noncomputable def f2 (g : MSt → MV → MV → Option MV) : MSt → List MV → Option MV
 | st, [x, y] => g st x y
 | _, _ => none
theorem f1_inv {g : MSt → MV → Option MV} {st : MSt} {vs : List MV} {v : MV} (e : f1 g st vs = some v) : ∃ x, vs = [x] ∧ g st x = some v := by
 unfold f1 at e
 refine cps fun G hG => ?_
 split at e
 ·refine hG ?_; clear hG
  exact ⟨_, rfl, e⟩
 ·(injection e; done)
theorem f2_inv {g : MSt → MV → MV → Option MV} {st : MSt} {vs : List MV} {v : MV} (e : f2 g st vs = some v) : ∃ x y, vs = [x, y] ∧ g st x y = some v := by
 unfold f2 at e
 refine cps fun G hG => ?_
 split at e
 ·refine hG ?_; clear hG
  exact ⟨_, _, rfl, e⟩
 ·(injection e; done)
noncomputable def lenV (st : MSt) : MV → Option MV
 | .str x => if x.length ≤ 100000 then some (.int x.length) else none
 | x => (listOf st x).bind fun l => if l.length ≤ 100000 then some (.int l.length) else none
theorem vrs_one {h : Heap} {W : Addr → Prop} {φ : List (Option Addr)} {x : MV} {vs : List Value} (q : VRs h W φ [x] vs) : ∃ v, vs = [v] ∧ VR h W φ x v := by
 simp only [vRs1, vRs2] at q
 obtain ⟨v, r, rfl, h1, rfl⟩ := q
 exact ⟨v, rfl, h1⟩
theorem vrs_two {h : Heap} {W : Addr → Prop} {φ : List (Option Addr)} {x y : MV} {vs : List Value} (q : VRs h W φ [x, y] vs) : ∃ v u, vs = [v, u] ∧ VR h W φ x v ∧ VR h W φ y u := by
 simp only [vRs1, vRs2] at q
 refine cps fun G hG => ?_
 obtain ⟨v, r, rfl, h1, u, r2, rfl, h2, rfl⟩ := q
 refine hG ?_; clear hG
 exact ⟨v, u, rfl, h1, h2⟩
theorem bok_len : BOk prog w A C fv (.builtin "len") (f1 lenV) := by
 intro φ st s vs rvs v Q r e0 q0 h
 obtain ⟨x, rfl, e⟩ := f1_inv e0
 obtain ⟨rv, rfl, q⟩ := vrs_one q0
 have asList : (listOf st x).bind (fun l => if l.length ≤ 100000 then some (MV.int l.length) else none) = some v → wpAny (model prog w) A (PySem.call (.builtin "len") [rv]) Q NoE s := by
  intro e
  simp only [oI] at e
  obtain ⟨l, el, e⟩ := e
  split at e <;> cases e
  obtain ⟨b, items, rfl, hl, hi⟩ := listOf_real r q el
  have hle := hi.length
  refine PyProof.Rows.len_list hl (by simp; omega) ?_
  have : (items.toArray.size : Int) = (l.length : Int) := by simp [hle]
  rw [this]
  exact h _ _ _ (Stays.refl _) vr_int
 cases x
 case str x =>
  simp only [lenV] at e
  split at e <;> cases e
  obtain ⟨t, rfl⟩ := vr_str_inv q
  exact PyProof.Rows.len_str (by omega) (h _ _ _ (Stays.refl _) vr_int)
 all_goals exact asList e
noncomputable def strsOf : List MV → Option (List Str)
 | [] => some []
 | .str x :: r => (strsOf r).map (x :: ·)
 | _ :: _ => none
theorem sO0 : strsOf [] = some [] := rfl
theorem sO1 {r : List MV} : strsOf (.none :: r) = none := rfl
theorem sO2 {r : List MV} {b : Bool} : strsOf ((.bool b) :: r) = none := rfl
theorem sO3 {r : List MV} {b : Int} : strsOf ((.int b) :: r) = none := rfl
theorem sO4 {r : List MV} {b : Str} : strsOf ((.str b) :: r) = (strsOf r).map (b :: ·) := rfl
theorem sO5 {r : List MV} {b : List MV} : strsOf ((.tup b) :: r) = none := rfl
theorem sO6 {r : List MV} {b : List MV} : strsOf ((.lst b) :: r) = none := rfl
theorem sO7 {r : List MV} {b : Nat} : strsOf ((.ref b) :: r) = none := rfl
theorem sO8 {r : List MV} {b : String} : strsOf ((.cls b) :: r) = none := rfl
noncomputable def intsOf : List MV → Option (List Int)
 | [] => some []
 | .int x :: r => (intsOf r).map (x :: ·)
 | _ :: _ => none
theorem iO0 : intsOf [] = some [] := rfl
theorem iO1 {r : List MV} : intsOf (.none :: r) = none := rfl
theorem iO2 {r : List MV} {b : Bool} : intsOf ((.bool b) :: r) = none := rfl
theorem iO3 {r : List MV} {b : Int} : intsOf ((.int b) :: r) = (intsOf r).map (b :: ·) := rfl
theorem iO4 {r : List MV} {b : Str} : intsOf ((.str b) :: r) = none := rfl
theorem iO5 {r : List MV} {b : List MV} : intsOf ((.tup b) :: r) = none := rfl
theorem iO6 {r : List MV} {b : List MV} : intsOf ((.lst b) :: r) = none := rfl
theorem iO7 {r : List MV} {b : Nat} : intsOf ((.ref b) :: r) = none := rfl
theorem iO8 {r : List MV} {b : String} : intsOf ((.cls b) :: r) = none := rfl
theorem strs_are {h : Heap} {W : Addr → Prop} {φ : List (Option Addr)} : ∀ {l : List MV} {vs : List Value} {ss : List Str}, VRs h W φ l vs → strsOf l = some ss → StrsAre vs ss
 | [], _, _, q, e => by dsimp only [vRs1, vRs2] at q; subst q; (injection e with e; subst e); exact .nil
 | x :: l, _, _, q, e => by
  dsimp only [vRs1, vRs2] at q
  obtain ⟨v, r, rfl, h1, h2⟩ := q
  cases x <;> (dsimp only [sO0, sO1, sO2, sO3, sO4, sO5, sO6, sO7, sO8] at e; simp only [sO0, sO1, sO2, sO3, sO4, sO5, sO6, sO7, sO8, reduceCtorEq, oM] at e)
  obtain ⟨ss, e, rfl⟩ := e
  obtain ⟨t, rfl⟩ := vr_str_inv h1
  exact .cons _ t (strs_are h2 e)
theorem ints_are {h : Heap} {W : Addr → Prop} {φ : List (Option Addr)} : ∀ {l : List MV} {vs : List Value} {ss : List Int}, VRs h W φ l vs → intsOf l = some ss → IntsAre vs ss
 | [], _, _, q, e => by dsimp only [vRs1, vRs2] at q; subst q; (injection e with e; subst e); exact .nil
 | x :: l, _, _, q, e => by
  dsimp only [vRs1, vRs2] at q
  obtain ⟨v, r, rfl, h1, h2⟩ := q
  cases x <;> (dsimp only [iO0, iO1, iO2, iO3, iO4, iO5, iO6, iO7, iO8] at e; simp only [iO0, iO1, iO2, iO3, iO4, iO5, iO6, iO7, iO8, reduceCtorEq, oM] at e)
  obtain ⟨ss, e, rfl⟩ := e
  obtain ⟨t, rfl⟩ := vr_int_inv h1
  exact .cons _ t (ints_are h2 e)
theorem vrs_strs {h : Heap} {W : Addr → Prop} {φ : List (Option Addr)} : ∀ {vs : List Value} {ss : List Str}, StrsAre vs ss → VRs h W φ (ss.map .str) vs
 | _, _, .nil => by simp [vRs1, vRs2]
 | _, _, .cons x t r => by simp only [List.map_cons, vRs1, vRs2]; exact ⟨_, _, rfl, vr_str, vrs_strs r⟩
theorem strs_map : ∀ ss : List Str, strsOf (ss.map .str) = some ss
 | [] => rfl
 | x :: r => by simp [sO0, sO1, sO2, sO3, sO4, sO5, sO6, sO7, sO8, strs_map r]
theorem ints_map : ∀ ss : List Int, intsOf (ss.map .int) = some ss
 | [] => rfl
 | x :: r => by simp [iO0, iO1, iO2, iO3, iO4, iO5, iO6, iO7, iO8, ints_map r]
noncomputable def inV : MV → MV → Option MV
 | .int k, .lst l => (intsOf l).map fun ns => .bool (ns.any (· == k))
 | _, _ => none
theorem op_in : Op2 A (compareOp .In) inV prog w := by
 intro W φ s a b c ra rb Q e ha hb h
 cases a <;> cases b <;> (dsimp only [inV] at e; simp only [inV, reduceCtorEq, oM] at e)
 refine cps fun G hG => ?_
 obtain ⟨ns, en, rfl⟩ := e
 obtain ⟨t, rfl⟩ := vr_int_inv ha
 dsimp only [vR1, vR2, vR3, vR4, vR5, vR6, vR7, vR8] at hb
 obtain ⟨b, items, rfl, _, hl, hi⟩ := hb
 refine hG ?_; clear hG
 exact in_list_ints hl (ints_are hi en) (h _ _ _ (Stays.refl _) vr_bool)
end
end
section
set_option backward.match.sparseCases false
noncomputable abbrev sLt (a b : Str) : Prop := a.cps.toList < b.cps.toList
noncomputable def insS (x : Str) : List Str → List Str
 | [] => [x]
 | y :: r => if sLt y x then y :: insS x r else x :: y :: r
noncomputable def sortS : List Str → List Str
 | [] => []
 | x :: r => insS x (sortS r)
theorem str_ext {a b : Str} (h : a.cps.toList = b.cps.toList) : a = b := by
 obtain ⟨⟨a⟩⟩ := a; obtain ⟨⟨b⟩⟩ := b
 simpa using h
theorem sLt_irrefl (a : Str) : ¬ sLt a a := List.lt_irrefl _
theorem sLt_asymm {a b : Str} (h : sLt a b) : ¬ sLt b a := List.lt_asymm h
theorem sLt_trans {a b c : Str} (h : sLt a b) (h' : sLt b c) : sLt a c := List.lt_trans h h'
theorem sLt_tri {a b : Str} (h : ¬ sLt a b) (h' : ¬ sLt b a) : a = b := str_ext (List.le_antisymm (List.not_lt.mp h') (List.not_lt.mp h))
noncomputable abbrev Rise (l : List Str) : Prop := l.Pairwise fun a b => ¬ sLt b a
theorem insS_perm (x : Str) : ∀ l, (insS x l).Perm (x :: l)
 | [] => .refl _
 | y :: r => by
  unfold insS
  split
  ·exact ((insS_perm x r).cons y).trans (.swap x y r)
  ·exact .refl _
theorem sortS_perm : ∀ l, (sortS l).Perm l
 | [] => .refl _
 | x :: r => (insS_perm x _).trans ((sortS_perm r).cons x)
theorem insS_rise (x : Str) : ∀ l, Rise l → Rise (insS x l)
 | [], _ => by simp [insS, Rise]
 | y :: r, h => by
  unfold insS
  obtain ⟨h1, h2⟩ := List.pairwise_cons.mp h
  split
  ·rename_i hy
   refine List.pairwise_cons.mpr ⟨fun z hz => ?_, insS_rise x r h2⟩
   rcases List.mem_cons.mp ((insS_perm x r).mem_iff.mp hz) with rfl | hz
   ·exact sLt_asymm hy
   ·exact h1 z hz
  ·rename_i hy
   refine List.pairwise_cons.mpr ⟨fun z hz => ?_, h⟩
   rcases List.mem_cons.mp hz with rfl | hz
   ·exact hy
   ·intro hzx
    by_cases e : sLt z y
    ·exact h1 z hz e
    ·by_cases e' : sLt y z
     ·exact hy (sLt_trans e' hzx)
     ·have := sLt_tri e e'
      subst this
      exact hy hzx
theorem sortS_rise : ∀ l, Rise (sortS l)
 | [] => by simp [sortS, Rise]
 | x :: r => insS_rise x _ (sortS_rise r)
theorem rise_unique : ∀ {l l' : List Str}, l.Perm l' → Rise l → Rise l' → l = l'
 | [], l', p, _, _ => by
  have := p.length_eq
  cases l' with
  | nil => rfl
  | cons _ _ => simp at this
 | x :: l, l', p, h, h' => by
  cases l' with
  | nil => have := p.length_eq; simp at this
  | cons y l' =>
   have e : x = y := by
    have hx : x ∈ y :: l' := p.mem_iff.mp (List.mem_cons_self ..)
    have hy : y ∈ x :: l := p.mem_iff.mpr (List.mem_cons_self ..)
    rcases List.mem_cons.mp hx with e | hx
    ·exact e
    ·rcases List.mem_cons.mp hy with e | hy
     ·exact e.symm
     ·exact sLt_tri ((List.pairwise_cons.mp h').1 x hx) ((List.pairwise_cons.mp h).1 y hy)
   subst e
   rw [rise_unique ((List.perm_cons x).mp p) (List.pairwise_cons.mp h).2 (List.pairwise_cons.mp h').2]
theorem risingS_rise : ∀ (p : Str) (l : List Str), risingS p l = true → Rise (p :: l)
 | p, [], _ => by simp [Rise]
 | p, x :: r, h => by
  have h' : (!ltCps x.cps.toList p.cps.toList && risingS x r) = true := h
  rw [Bool.and_eq_true, Bool.not_eq_true', ltCps_eq] at h'
  have ih := risingS_rise x r h'.2
  have hpx : ¬ sLt x p := of_decide_eq_false h'.1
  refine List.pairwise_cons.mpr ⟨fun z hz => ?_, ih⟩
  rcases List.mem_cons.mp hz with rfl | hz
  ·exact hpx
  ·intro hzp
   have hxz := (List.pairwise_cons.mp ih).1 z hz
   by_cases e : sLt p x
   ·exact hxz (sLt_trans hzp e)
   ·have := sLt_tri e hpx
    subst this
    exact hxz hzp
theorem sortedS_rise : ∀ (l : List Str), sortedS l = true → Rise l
 | [], _ => by simp [Rise]
 | x :: r, h => risingS_rise x r h
section
variable {prog : Program} {w : World} {A : Around} {C : Cx} {fv : FV}
noncomputable def sortedV (st : MSt) (x : MV) : Option MV := (listOf st x).bind fun l => (strsOf l).bind fun ss => if ss.length < 64 then some (.lst ((sortS ss).map .str)) else none
theorem bok_sorted : BOk prog w A C fv (.builtin "sorted") (f1 sortedV) := by
 intro φ st s vs rvs v Q r e0 q0 h
 refine cps fun G hG => ?_
 obtain ⟨x, rfl, e⟩ := f1_inv e0
 obtain ⟨rv, rfl, q⟩ := vrs_one q0
 simp only [sortedV, oI] at e
 obtain ⟨l, el, ss, es, e⟩ := e
 split at e <;> cases e
 rename_i hlt
 obtain ⟨b, items, rfl, hl, hi⟩ := listOf_real r q el
 have hS := strs_are hi es
 refine hG ?_; clear hG
 refine sorted_strs hl hS (by rw [hS.length]; exact hlt) fun out ss' a1 a2 a3 => ?_
 obtain ⟨k, hk⟩ := sortedAll_at s.heap items out
 have hst : Stays s.heap (sortedAll s.heap items out) := fun _ _ => sortedAll_old
 have hss : ss' = sortS ss := rise_unique (a2.trans (sortS_perm ss).symm) (sortedS_rise _ a3) (sortS_rise _)
 subst hss
 refine h _ _ _ hst ?_
 simp only [vR1, vR2, vR3, vR4, vR5, vR6, vR7, vR8]
 exact ⟨_, out.toList, rfl, r.fresh' (Nat.le_succ _), ⟨_, hk, rfl, k, rfl⟩, vrs_strs a1⟩
noncomputable def sumV (st : MSt) (x : MV) : Option MV := (listOf st x).bind fun l => (intsOf l).map fun ns => .int ns.sum
theorem intItems_of {vs : List Value} {ns : List Int} (h : IntsAre vs ns) : ∃ xs : Array (Int × Tok), vs.toArray = intItems xs ∧ xs.toList.map (·.1) = ns := by
 induction h with
 | nil => exact ⟨#[], by simp [intItems], rfl⟩
 | cons n t _ ih =>
  obtain ⟨xs, e1, e2⟩ := ih
  refine ⟨((n, t) :: xs.toList).toArray, ?_, by simp [e2]⟩
  have : (intItems xs).toList = xs.toList.map fun p => Value.int p.1 p.2 := by simp [intItems]
  apply Array.ext'
  rw [← e1] at this
  simp only [intItems, List.map_toArray, List.map_cons]
  simpa using this
theorem bok_sum (hh : A.handled = none) : BOk prog w A C fv (.builtin "sum") (f1 sumV) := by
 intro φ st s vs rvs v Q r e0 q0 h
 refine cps fun G hG => ?_
 obtain ⟨x, rfl, e⟩ := f1_inv e0
 obtain ⟨rv, rfl, q⟩ := vrs_one q0
 simp only [sumV, oI, oM] at e
 obtain ⟨l, el, ns, es, rfl⟩ := e
 obtain ⟨b, items, rfl, hl, hi⟩ := listOf_real r q el
 obtain ⟨xs, e1, e2⟩ := intItems_of (ints_are hi es)
 rw [e1] at hl
 refine hG ?_; clear hG
 refine sum_intListG hh hl fun h' tk t' hk => ?_
 rw [preSum_eq, List.take_of_length_le (by simp), e2]
 exact h _ _ _ hk vr_int
noncomputable def maxI : List Int → Int
 | [] => 0
 | [x] => x
 | x :: r => max x (maxI r)
theorem maxI_mem : ∀ {l : List Int}, l ≠ [] → maxI l ∈ l ∧ ∀ x ∈ l, x ≤ maxI l
 | [x], _ => by simp [maxI]
 | x :: y :: r, _ => by
  have ih := maxI_mem (l := y :: r) (by simp)
  have e : maxI (x :: y :: r) = max x (maxI (y :: r)) := rfl
  rw [e]
  refine ⟨?_, fun z hz => ?_⟩
  ·rcases Int.le_total x (maxI (y :: r)) with h | h
   ·rw [Int.max_eq_right h]; exact List.mem_cons_of_mem _ ih.1
   ·rw [Int.max_eq_left h]; exact List.mem_cons_self ..
  ·rcases List.mem_cons.mp hz with rfl | hz
   ·exact Int.le_max_left ..
   ·exact Int.le_trans (ih.2 z hz) (Int.le_max_right ..)
noncomputable def maxV (st : MSt) (x : MV) : Option MV := (listOf st x).bind fun l => (intsOf l).bind fun ns => if ns = [] then none else some (.int (maxI ns))
theorem bok_max (hh : A.handled = none) : BOk prog w A C fv (.builtin "max") (f1 maxV) := by
 intro φ st s vs rvs v Q r e0 q0 h
 obtain ⟨x, rfl, e⟩ := f1_inv e0
 obtain ⟨rv, rfl, q⟩ := vrs_one q0
 simp only [maxV, oI] at e
 obtain ⟨l, el, ns, es, e⟩ := e
 split at e
 ·(injection e; done)
 rename_i hne
 (injection e with e; subst e)
 obtain ⟨b, items, rfl, hl, hi⟩ := listOf_real r q el
 obtain ⟨xs, e1, e2⟩ := intItems_of (ints_are hi es)
 rw [e1] at hl
 have hpos : 0 < xs.size := by
  rcases Nat.eq_zero_or_pos xs.size with h0 | h0
  ·exfalso; apply hne; rw [← e2]; have : xs = #[] := Array.eq_empty_of_size_eq_zero h0; subst this; rfl
  ·exact h0
 refine max_intList hh hl hpos fun v h' tk hv hk => ?_
 have hb := argBest_gt (numAt xs) (xs.size - 1)
 generalize hj : argBest (fun i j => decide (numAt xs i > numAt xs j)) (xs.size - 1) = j at hv hb
 obtain ⟨t, rfl⟩ := intItems_at hv
 have hjl : j < xs.size := by omega
 have nth : ∀ (i : Nat) (hi : i < xs.size), numAt xs i = xs[i].1 := fun i hi => by simp [numAt, hi]
 have heq : numAt xs j = maxI ns := by
  have hm := maxI_mem hne
  apply Int.le_antisymm
  ·apply hm.2
   rw [← e2, nth j hjl]
   exact List.mem_map_of_mem (by simp)
  ·have := hm.1
   rw [← e2] at this
   obtain ⟨p, hp, hpe⟩ := List.mem_map.mp this
   obtain ⟨i, hi, rfl⟩ := List.mem_iff_getElem.mp hp
   have hi' : i < xs.size := by simpa using hi
   have h3 := hb.2 i (by omega)
   rw [nth i hi'] at h3
   rw [e2] at hpe
   simp only [Array.getElem_toList] at hpe
   omega
 rw [heq]
 exact h _ _ _ hk vr_int
noncomputable def sStr2 (g : Str → Str → Option MV) (_ : MSt) (x y : MV) : Option MV := match x with
 | .str x => (match y with
  | .str y => g x y
  | _ => none)
 | _ => none
theorem mok_str2 {id : String} {g : Str → Str → Option MV}
  (hr : ∀ (s : Shared) (x y : Str) (t u : Tok) (W : Addr → Prop) (φ : List (Option Addr)) c Q, g x y = some c → (∀ h' tk rv, Stays s.heap h' → VR h' W φ c rv → Q rv { s with heap := h', toks := tk }) →
   wpAny (model prog w) A (call (.builtin id) [.str x t, .str y u]) Q NoE s) : MOk prog w A C fv id (f2 (sStr2 g)) := by
 intro φ st s x rx vs rvs v Q r e0 qx q0 h
 refine cps fun G hG => ?_
 obtain ⟨x', y, e1, e⟩ := f2_inv e0
 simp only [List.cons.injEq] at e1
 obtain ⟨rfl, rfl⟩ := e1
 obtain ⟨rv, rfl, q⟩ := vrs_one q0
 cases x <;> cases y <;> simp only [sStr2, reduceCtorEq] at e
 obtain ⟨t, rfl⟩ := vr_str_inv qx
 obtain ⟨u, rfl⟩ := vr_str_inv q
 refine hG ?_; clear hG
 exact hr s _ _ t u _ _ _ _ e h
noncomputable def startsV := f2 (sStr2 fun x y => some (.bool (Txt.startswith x y)))
noncomputable def endsV := f2 (sStr2 fun x y => some (.bool (Txt.endswith x y)))
noncomputable def rfindV := f2 (sStr2 fun x y => some (.int (Txt.rfind x y)))
noncomputable def rstripV := f2 (sStr2 fun x y => if x.length ≤ 100000 then some (.str (Txt.rstripChars x y)) else none)
theorem mok_startswith : MOk prog w A C fv "str.startswith" startsV := mok_str2 fun s x y t u W φ c Q e h => by
 (injection e with e; subst e); exact SC.startswith (h _ _ _ (Stays.refl _) vr_bool)
theorem mok_endswith : MOk prog w A C fv "str.endswith" endsV := mok_str2 fun s x y t u W φ c Q e h => by
 (injection e with e; subst e); exact SC.endswith (h _ _ _ (Stays.refl _) vr_bool)
theorem mok_rfind : MOk prog w A C fv "str.rfind" rfindV := mok_str2 fun s x y t u W φ c Q e h => by
 (injection e with e; subst e); exact PySem.SC.rfind (h _ _ _ (Stays.refl _) vr_int)
theorem mok_rstrip : MOk prog w A C fv "str.rstrip" rstripV := mok_str2 fun s x y t u W φ c Q e h => by
 refine cps fun G hG => ?_
 split at e <;> cases e
 refine hG ?_; clear hG
 exact PySem.SC.rstripChars (fun t' k => h _ _ _ (Stays.refl _) vr_str) (le_sizeLine (by assumption))
noncomputable def joinV (st : MSt) : MV → MV → Option MV
 | .str x, y => (listOf st y).bind fun l => (strsOf l).bind fun ss => if JoinOk x ss = true then some (.str (Txt.join x ss)) else none
 | _, _ => none
theorem strValues_of {vs : List Value} {ss : List Str} (h : StrsAre vs ss) : ∃ l : List (Str × Tok), vs = strValues l ∧ l.map (·.1) = ss := by
 induction h with
 | nil => exact ⟨[], rfl, rfl⟩
 | cons x t _ ih =>
  obtain ⟨l, rfl, rfl⟩ := ih
  exact ⟨(x, t) :: l, rfl, rfl⟩
theorem mok_join : MOk prog w A C fv "str.join" (f2 joinV) := by
 intro φ st s x rx vs rvs v Q r e0 qx q0 h
 refine cps fun G hG => ?_
 obtain ⟨x', y, e1, e⟩ := f2_inv e0
 simp only [List.cons.injEq] at e1
 obtain ⟨rfl, rfl⟩ := e1
 obtain ⟨rv, rfl, q⟩ := vrs_one q0
 cases x <;> simp only [joinV, reduceCtorEq, oI] at e
 obtain ⟨l, el, ss, es, e⟩ := e
 split at e <;> cases e
 obtain ⟨t, rfl⟩ := vr_str_inv qx
 obtain ⟨b, items, rfl, hl, hi⟩ := listOf_real r q el
 obtain ⟨ll, rfl, h2⟩ := strValues_of (strs_are hi es)
 refine hG ?_; clear hG
 exact PySem.SC.join hl h2 (by assumption) fun t' k => h _ _ _ (Stays.refl _) vr_str
noncomputable def splitParts (x y : Str) : List Str := Builtin.Str.partsBetween x (Builtin.Str.occurrences x y 0 x.length (x.length + 1)) y.length
noncomputable def splitV (_ : MSt) : MV → MV → Option MV
 | .str x, .str y => if (y.length == 0) = false ∧ x.length ≤ 1000 ∧ (decide (x.length < y.length) || decide (Builtin.Str.strKind x < Builtin.Str.strKind y)) = false ∧
   (Builtin.Str.occurrences x y 0 x.length (x.length + 1)).isEmpty = false ∧ (splitParts x y).length ≤ 100000 then some (.lst ((splitParts x y).map .str)) else none
 | _, _ => none
theorem strsAre_from : ∀ (tk : Nat) (l : List Str), StrsAre (strsFrom tk l) l
 | _, [] => .nil
 | tk, x :: r => .cons x tk (strsAre_from (tk + 1) r)
theorem mok_split : MOk prog w A C fv "str.split" (f2 splitV) := by
 intro φ st s x rx vs rvs v Q r e0 qx q0 h
 refine cps fun G hG => ?_
 obtain ⟨x', y, e1, e⟩ := f2_inv e0
 simp only [List.cons.injEq] at e1
 obtain ⟨rfl, rfl⟩ := e1
 obtain ⟨rv, rfl, q⟩ := vrs_one q0
 cases x <;> cases y <;> simp only [splitV, reduceCtorEq] at e
 rename_i x y
 split at e <;> cases e
 rename_i hc
 obtain ⟨t, rfl⟩ := vr_str_inv qx
 obtain ⟨u, rfl⟩ := vr_str_inv q
 refine hG ?_; clear hG
 refine call_meets F.slot_str_split (typeIs_str _ _ _) F.entry_str_split (F.args_str_split_2 _ _) (meets_str_split_sep x y t u hc.2.2.1 hc.1 hc.2.2.2.1 (le_sizeLine (by omega)) (le_sizeLine hc.2.2.2.2)) ?_
 show wants Q NoE (.ok (.ret (.ref s.heap.objs.size))) { s with toks := _, heap := s.heap.push { cls := .type "list", data := .seq (strsFrom s.toks (splitParts x y)).toArray } }
 refine h _ _ _ (Stays.push _ _) ?_
 simp only [vR1, vR2, vR3, vR4, vR5, vR6, vR7, vR8]
 exact ⟨_, _, rfl, r.fresh, ⟨_, Heap.get?_push_size _ rfl, rfl, _, rfl⟩, vrs_strs (strsAre_from _ _)⟩
end
end
section
inductive Out where
 | next | brk | cont
 | ret (v : MV)
noncomputable def FR (h : Heap) (W : Addr → Prop) (φ : List (Option Addr)) : Out → Flow → Prop
 | .next, f => f = .next
 | .brk, f => f = .brk
 | .cont, f => f = .cont
 | .ret v, f => ∃ rv, f = .ret rv ∧ VR h W φ v rv
noncomputable def Eff (C : Cx) (fv : FV) (φ : List (Option Addr)) (h h' : Heap) : Prop :=
 ∀ b o, h.get? b = some o → some b ∉ φ → b ≠ fv.env.locals → (∀ x c, fv.env.cells.lookup x = some c → b ≠ c) → ¬ C.hid b → h'.get? b = some o
structure Ext (φ φ' : List (Option Addr)) (h : Heap) : Prop where
 mem : ∀ a, some a ∈ φ' → some a ∈ φ ∨ h.get? a = none
 grow : ∀ (i : Nat) a, φ[i]? = some (some a) → φ'[i]? = some (some a)
theorem Eff.of_stays {C : Cx} {fv : FV} {φ : List (Option Addr)} {h h' : Heap} (hk : Stays h h') : Eff C fv φ h h' := fun b o e _ _ _ _ => hk b o e
theorem Ext.refl (φ : List (Option Addr)) (h : Heap) : Ext φ φ h := ⟨fun _ ha => .inl ha, fun _ _ e => e⟩
theorem Eff.trans {C : Cx} {fv : FV} {φ φ' : List (Option Addr)} {h h' h'' : Heap} (a : Eff C fv φ h h') (x : Ext φ φ' h) (b : Eff C fv φ' h' h'') : Eff C fv φ h h'' := by
 intro c o e h1 h2 h3 h3'
 refine b c o (a c o e h1 h2 h3 h3') (fun hm => ?_) h2 h3 h3'
 rcases x.mem c hm with h4 | h4
 ·exact h1 h4
 ·rw [e] at h4; (injection h4; done)
section
variable {prog : Program} {w : World} {A : Around} {C : Cx} {fv : FV}
theorem Ext.trans {φ φ' φ'' : List (Option Addr)} {st' : MSt} {h h' : Heap} (x : Ext φ φ' h) (a : Eff C fv φ h h') (r : R prog w C fv φ' st' h') (y : Ext φ' φ'' h') : Ext φ φ'' h := by
 refine ⟨?_, fun i a e => y.grow i a (x.grow i a e)⟩
 intro c hc
 rcases y.mem c hc with h1 | h1
 ·exact x.mem c h1
 ·by_cases hm : some c ∈ φ
  ·exact .inl hm
  ·refine .inr ?_
   cases e : h.get? c with
   | none => rfl
   | some o =>
    exfalso
    have hl : c ≠ fv.env.locals := by
     rintro rfl
     obtain ⟨m, o', es, ep, ho, _⟩ := r.loc
     rw [h1] at ho; (injection ho; done)
    have hcell : ∀ x c', fv.env.cells.lookup x = some c' → c ≠ c' := by
     rintro x c' hx rfl
     obtain ⟨v, o', ho, _⟩ := r.celIs x c hx
     rw [h1] at ho; (injection ho; done)
    have := a c o e hm hl hcell fun hh => by obtain ⟨⟨o', ho, _⟩, _⟩ := r.hid c hh; rw [h1] at ho; (injection ho; done)
    rw [h1] at this; (injection this; done)
theorem ns_unique {h : Heap} {a : Addr} {m m' : Str → Option Value} (x : h.Ns a m) (y : h.Ns a m') : m = m' := by
 obtain ⟨o, es, ep, h1, h2, _, h3⟩ := x
 obtain ⟨o', es', ep', h1', h2', _, h3'⟩ := y
 rw [h1] at h1'; (injection h1' with h1'; subst h1')
 rw [h2] at h2'; (injection h2' with h2'; subst h2')
 funext n
 rw [← h3, ← h3']
noncomputable def VarsOk (vars : List (Str × Nat)) : Bool := vars.all fun p => vars.all fun q => decide (p.1 = q.1) == decide (p.2 = q.2)
theorem varsOk_iff {vars : List (Str × Nat)} (h : VarsOk vars = true) {p q : Str × Nat} (hp : p ∈ vars) (hq : q ∈ vars) : p.1 = q.1 ↔ p.2 = q.2 := by
 have := List.all_eq_true.mp (List.all_eq_true.mp h p hp) q hq
 simpa using this
noncomputable def MSt.set (st : MSt) (k : Nat) (v : MV) : MSt := { st with ρ := fun j => if j = k then some v else st.ρ j }
theorem seq_ne_dict {h : Heap} {a b : Addr} {o : Obj} {m : Str → Option Value} (hn : h.Ns a m) (ho : h.get? b = some o) (hs : IsSeq o) : b ≠ a := by
 rintro rfl
 obtain ⟨o', es, ep, h1, h2, _⟩ := hn
 rw [h1] at ho; (injection ho with ho; subst ho)
 obtain ⟨i, n, h3⟩ := hs
 rw [h2] at h3; (injection h3; done)
theorem seq_ne_cell {h : Heap} {c b : Addr} {o : Obj} {v : Option Value} (hn : h.IsCell c v) (ho : h.get? b = some o) (hs : IsSeq o) : b ≠ c := by
 rintro rfl
 obtain ⟨o', h1, h2⟩ := hn
 rw [h1] at ho; (injection ho with ho; subst ho)
 obtain ⟨i, n, h3⟩ := hs
 rw [h2] at h3; (injection h3; done)
theorem cell_ne_dict {h : Heap} {a c : Addr} {v : Option Value} {m : Str → Option Value} (hn : h.Ns a m) (hc : h.IsCell c v) : c ≠ a := by
 rintro rfl
 obtain ⟨o', es, ep, h1, h2, _⟩ := hn
 obtain ⟨o, h3, h4⟩ := hc
 rw [h1] at h3; (injection h3 with h3; subst h3)
 rw [h2] at h4; (injection h4; done)
theorem R.change {φ : List (Option Addr)} {st st' : MSt} {h h' : Heap} {a : Addr} (r : R prog w C fv φ st h) (hs : Heap.SameBut a h h') (hna : C.h₀.objs.size ≤ a) (hoff : some a ∉ φ)
  (hseq : ∀ o, h.get? a = some o → ¬ IsSeq o) (hσ : st'.σ = st.σ) (hW : C.W0 a → ∃ o, h'.get? a = some o)
  (hloc : ∃ m, h'.Ns fv.env.locals m) (hfr : ∃ m, h'.Ns C.fn m) (hcel : ∀ x c, fv.env.cells.lookup x = some c → ∃ v, h'.IsCell c v)
  (hvars : ∀ p ∈ fv.vars, ∃ v, VarVal fv.env h' p.1 v ∧ OVR h' (C.av φ) φ (st'.ρ p.2) v) : R prog w C fv φ st' h' where
 base := fun b o e => (hs.2 b (Nat.ne_of_lt (Nat.lt_of_lt_of_le (Heap.lt_size e) hna))).trans (r.base b o e)
 fr := hfr
 above := r.above
 av0 := fun b hb => by
  by_cases e : b = a
  ·subst e; exact hW hb
  ·obtain ⟨o, ho⟩ := r.av0 b hb
   exact ⟨o, (hs.2 b e).trans ho⟩
 vars := hvars
 len := by rw [hσ]; exact r.len
 sto := fun i b o e1 e2 => by
  rw [hσ] at e2
  have hba : b ≠ a := fun e => hoff (e ▸ List.mem_of_getElem? e1)
  exact ORel.mono (fun c o hc ho hq => ⟨(hs.2 c (fun e => hseq o (e ▸ ho) hq)).trans ho, hc⟩) (fun _ _ e => e) (fun o e => (hs.2 b hba).trans e) (r.sto i b o e1 e2)
 live := fun b hb => let ⟨o, e⟩ := r.live b hb; ⟨o, (hs.2 b (fun q => hoff (q ▸ hb))).trans e⟩
 nodup := r.nodup
 new := r.new
 loc := hloc
 locNew := r.locNew
 locOff := r.locOff
 fnOff := r.fnOff
 celNew := r.celNew
 celInj := r.celInj
 celIs := hcel
 celOff := r.celOff
 hid := r.hid_of fun b hb o e => (hs.2 b (r.hid_ne hb hna)).trans e
theorem R.setVar {x : Str} {k : Nat} {v : MV} {rv : Value} {φ : List (Option Addr)} {st : MSt} {s : Shared} {Q : Unit → Shared → Prop} (r : R prog w C fv φ st s.heap) (hm : (x, k) ∈ fv.vars) (hv : VarsOk fv.vars = true) (hk : fv.env.scope.kind = .function)
  (hx : fv.env.kindOf x = some .local ∨ fv.env.kindOf x = some .cell) (q : VR s.heap (C.av φ) φ v rv)
  (h : ∀ h' tk, R prog w C fv φ (st.set k v) h' → Eff C fv φ s.heap h' → Q () { s with heap := h', toks := tk }) : wpAny (model prog w) A (storeName fv.env x rv) Q NoE s := by
 have key : ∀ (a : Addr) (h' : Heap), Heap.SameBut a s.heap h' → (∀ o, s.heap.get? a = some o → ¬ IsSeq o) → VR h' (C.av φ) φ v rv := fun a h' hs hq =>
  VR.mono (fun b o hb ho hsq => ⟨(hs.2 b (fun e => hq o (e ▸ ho) hsq)).trans ho, hb⟩) (fun _ _ e => e) v q
 have keyO : ∀ (a : Addr) (h' : Heap), Heap.SameBut a s.heap h' → (∀ o, s.heap.get? a = some o → ¬ IsSeq o) → ∀ y z, OVR s.heap (C.av φ) φ y z → OVR h' (C.av φ) φ y z := fun a h' hs hq y z e =>
  OVR.mono (fun b o hb ho hsq => ⟨(hs.2 b (fun e => hq o (e ▸ ho) hsq)).trans ho, hb⟩) (fun _ _ e => e) e
 rcases hx with hx | hx
 ·obtain ⟨m, hn⟩ := r.loc
  refine wpAny_storeName_local hx hn (fun h' hn' hs => ?_) (by rw [hk]; rfl)
  have hseq : ∀ o, s.heap.get? fv.env.locals = some o → ¬ IsSeq o := fun o ho hq => seq_ne_dict hn ho hq rfl
  refine h h' _ (r.change hs r.locNew r.locOff hseq rfl (fun _ => let ⟨o, _, _, ho, _⟩ := hn'; ⟨o, ho⟩) ⟨_, hn'⟩ ?_ ?_ ?_) ?_
  ·by_cases e : C.fn = fv.env.locals
   ·rw [e]; exact ⟨_, hn'⟩
   ·obtain ⟨mf, hf⟩ := r.fr; exact ⟨mf, hf.sameBut hs e⟩
  ·intro y c hc
   obtain ⟨u, o, h1, h2⟩ := r.celIs y c hc
   exact ⟨u, o, (hs.2 c (cell_ne_dict hn ⟨o, h1, h2⟩)).trans h1, h2⟩
  ·intro p hp
   by_cases e : p.2 = k
   ·have e1 : p.1 = x := (varsOk_iff hv hp hm).mpr e
    refine ⟨some rv, .inl ⟨e1 ▸ hx, _, hn', by simp [e1]⟩, ?_⟩
    simp only [MSt.set, e, if_true]
    exact ⟨rv, rfl, key _ _ hs hseq⟩
   ·have e1 : p.1 ≠ x := fun q => e ((varsOk_iff hv hp hm).mp q)
    obtain ⟨u, hu, ho⟩ := r.vars p hp
    refine ⟨u, ?_, by simp only [MSt.set, e, if_false]; exact keyO _ _ hs hseq _ _ ho⟩
    rcases hu with ⟨h1, m', h2, h3⟩ | ⟨h1, c, h2, h3⟩
    ·have := ns_unique h2 hn
     subst this
     exact .inl ⟨h1, _, hn', by simp [e1, h3]⟩
    ·obtain ⟨o, g1, g2⟩ := h3
     exact .inr ⟨h1, c, h2, o, (hs.2 c (cell_ne_dict hn ⟨o, g1, g2⟩)).trans g1, g2⟩
  ·intro b o e h1 h2 h3 _
   exact (hs.2 b h2).trans e
 ·obtain ⟨u, hu, ho⟩ := r.vars _ hm
  rcases hu with ⟨h1, _⟩ | ⟨_, c, hc, hcell⟩
  ·rw [hx] at h1; cases h1
  refine wpAny_storeName_cell hk hx hc hcell fun h' hcell' hs => ?_
  have hseq : ∀ o, s.heap.get? c = some o → ¬ IsSeq o := fun o ho hq => seq_ne_cell hcell ho hq rfl
  have hnd : ∀ (a : Addr) (m : Str → Option Value), s.heap.Ns a m → h'.Ns a m := fun a m hn => hn.sameBut hs (Ne.symm (cell_ne_dict hn hcell))
  have hoffc : some c ∉ φ := r.celOff x c hc
  refine h h' _ (r.change (st' := st.set k v) hs (r.celNew x c hc) hoffc hseq rfl (fun _ => let ⟨o, ho, _⟩ := hcell'; ⟨o, ho⟩) ?_ ?_ ?_ ?_) ?_
  ·obtain ⟨m, hn⟩ := r.loc; exact ⟨m, hnd _ _ hn⟩
  ·obtain ⟨m, hn⟩ := r.fr; exact ⟨m, hnd _ _ hn⟩
  ·intro y c' hc'
   by_cases e : c' = c
   ·subst e; exact ⟨_, hcell'⟩
   ·obtain ⟨u, o, h1, h2⟩ := r.celIs y c' hc'
    exact ⟨u, o, (hs.2 c' e).trans h1, h2⟩
  ·intro p hp
   by_cases e : p.2 = k
   ·have e1 : p.1 = x := (varsOk_iff hv hp hm).mpr e
    refine ⟨some rv, .inr ⟨.inl (e1 ▸ hx), c, e1 ▸ hc, hcell'⟩, ?_⟩
    simp only [MSt.set, e, if_true]
    exact ⟨rv, rfl, key _ _ hs hseq⟩
   ·have e1 : p.1 ≠ x := fun q => e ((varsOk_iff hv hp hm).mp q)
    obtain ⟨u, hu, ho⟩ := r.vars p hp
    refine ⟨u, ?_, by simp only [MSt.set, e, if_false]; exact keyO _ _ hs hseq _ _ ho⟩
    rcases hu with ⟨h1, m', h2, h3⟩ | ⟨h1, c', h2, h3⟩
    ·exact .inl ⟨h1, m', hnd _ _ h2, h3⟩
    ·have hcc : c' ≠ c := fun e => e1 (r.celInj _ _ c (e ▸ h2) hc)
     obtain ⟨o, g1, g2⟩ := h3
     exact .inr ⟨h1, c', h2, o, (hs.2 c' hcc).trans g1, g2⟩
  ·intro b o e h1 h2 h3 _
   exact (hs.2 b (h3 x c hc)).trans e
end
end
section
set_option backward.match.sparseCases false
section
variable {prog : Program} {w : World} {A : Around} {C : Cx} {fv : FV}
variable (prog w A C fv) in
structure SS (t : Sem Flow) (m : MSt → Option (Out × MSt)) : Prop where
 run : ∀ φ st s o st' Q, R prog w C fv φ st s.heap → m st = some (o, st') →
  (∀ φ' h' tk f, R prog w C fv φ' st' h' → Ext φ φ' s.heap → Eff C fv φ s.heap h' → FR h' (C.av φ') φ' o f → Q f { s with heap := h', toks := tk }) → wpAny (model prog w) A t Q NoE s
variable (prog w A C fv) in
structure SA (f : Value → Sem Unit) (b : MV → MSt → Option MSt) : Prop where
 run : ∀ φ st s v rv st' Q, R prog w C fv φ st s.heap → b v st = some st' → VR s.heap (C.av φ) φ v rv →
  (∀ h' tk, R prog w C fv φ st' h' → Eff C fv φ s.heap h' → Q () { s with heap := h', toks := tk }) → wpAny (model prog w) A (f rv) Q NoE s
theorem R.alloc {φ : List (Option Addr)} {st : MSt} {h h' : Heap} {a : Addr} {o : MObj} (r : R prog w C fv φ st h) (hk : Stays h h') (hnew : h.get? a = none) (hge : C.h₀.objs.size ≤ a) (hlive : ∃ ob, h'.get? a = some ob)
  (ho : ORel prog w h' (C.av (φ ++ [some a])) (φ ++ [some a]) a o) : R prog w C fv (φ ++ [some a]) { st with σ := st.σ ++ [o] } h' := by
 have hφ : ∀ (n : Nat) (b : Addr), φ[n]? = some (some b) → (φ ++ [some a])[n]? = some (some b) := fun n b e => by
  rw [List.getElem?_append_left (List.getElem?_eq_some_iff.mp e).1]; exact e
 have hmono : ∀ b o, ¬ C.av φ b → h.get? b = some o → IsSeq o → h'.get? b = some o ∧ ¬ C.av (φ ++ [some a]) b := by
  intro b o hb hbo _
  refine ⟨hk b o hbo, ?_⟩
  rintro (h1 | h1)
  ·exact hb (.inl h1)
  ·rcases List.mem_append.mp h1 with h1 | h1
   ·exact hb (.inr h1)
   ·simp only [List.mem_singleton, Option.some.injEq] at h1
    rw [h1, hnew] at hbo; (injection hbo; done)
 have hne : ∀ b o, h.get? b = some o → b ≠ a := fun b o e q => by subst q; exact (ng hnew e).elim
 refine ⟨fun b o e => hk b o (r.base b o e), let ⟨m, e⟩ := r.fr; ⟨m, e.keeps hk⟩, r.above, (fun a ha => let ⟨o, e⟩ := r.av0 a ha; ⟨o, hk a o e⟩), fun p hp => ?_, by simp [r.len], fun i b o' e1 e2 => ?_, fun b hb => ?_, fun i j b e1 e2 => ?_, fun b hb => ?_,
  let ⟨m, e⟩ := r.loc; ⟨m, e.keeps hk⟩, r.locNew, fun hm => ?_, fun hm => ?_, r.celNew, r.celInj, fun x c e => let ⟨v, o, h1, h2⟩ := r.celIs x c e; ⟨v, o, hk _ _ h1, h2⟩, fun x c e hm => ?_, r.hid_of fun b _ o e => hk b o e⟩
 ·obtain ⟨v, e1, e2⟩ := r.vars p hp
  exact ⟨v, e1.stays hk, OVR.mono hmono hφ e2⟩
 ·have hlen : φ.length = st.σ.length := r.len
  by_cases hi : i < φ.length
  ·rw [List.getElem?_append_left hi] at e1
   rw [List.getElem?_append_left (by rw [← hlen]; exact hi)] at e2
   exact ORel.mono hmono hφ (fun o e => hk b o e) (r.sto i b o' e1 e2)
  ·rw [List.getElem?_append_right (by omega)] at e1 e2
   have : i - φ.length = 0 := by
    rcases Nat.eq_zero_or_pos (i - φ.length) with h0 | h0
    ·exact h0
    ·exact (ng (List.getElem?_eq_none (by simp; omega)) e1).elim
   rw [this] at e1
   rw [← hlen, this] at e2
   simp only [lZ, Option.some.injEq] at e1 e2
   subst e1 e2; exact ho
 ·rcases List.mem_append.mp hb with hb | hb
  ·obtain ⟨o, e⟩ := r.live b hb; exact ⟨o, hk b o e⟩
  ·simp only [List.mem_singleton, Option.some.injEq] at hb; subst hb; exact hlive
 ·have old : ∀ (k : Nat), (φ ++ [some a])[k]? = some (some b) → (k < φ.length ∧ φ[k]? = some (some b)) ∨ (k = φ.length ∧ b = a) := by
   intro k e
   by_cases hk' : k < φ.length
   ·rw [List.getElem?_append_left hk'] at e; exact .inl ⟨hk', e⟩
   ·rw [List.getElem?_append_right (by omega)] at e
    rcases Nat.eq_zero_or_pos (k - φ.length) with h0 | h0
    ·rw [h0] at e
     simp only [lZ, Option.some.injEq] at e
     exact .inr ⟨by omega, e.symm⟩
    ·exact (ng (List.getElem?_eq_none (by simp; omega)) e).elim
  have notboth : ∀ (k : Nat), φ[k]? = some (some a) → False := fun k e => by
   obtain ⟨o, ho⟩ := r.live a (List.mem_of_getElem? e)
   exact (ng hnew ho).elim
  rcases old i e1 with ⟨_, e1'⟩ | ⟨hi, hb⟩ <;> rcases old j e2 with ⟨_, e2'⟩ | ⟨hj, hb'⟩
  ·exact r.nodup i j b e1' e2'
  ·subst hb'; exact (notboth _ e1').elim
  ·subst hb; exact (notboth _ e2').elim
  ·omega
 ·rcases List.mem_append.mp hb with hb | hb
  ·exact r.new b hb
  ·simp only [List.mem_singleton, Option.some.injEq] at hb; subst hb; exact hge
 ·rcases List.mem_append.mp hm with hm | hm
  ·exact r.locOff hm
  ·simp only [List.mem_singleton, Option.some.injEq] at hm
   obtain ⟨m, o, es, ep, ho, _⟩ := r.loc
   exact hne _ _ ho hm
 ·rcases List.mem_append.mp hm with hm | hm
  ·exact r.fnOff hm
  ·simp only [List.mem_singleton, Option.some.injEq] at hm
   obtain ⟨m, o, es, ep, ho, _⟩ := r.fr
   exact hne _ _ ho hm
 ·rcases List.mem_append.mp hm with hm | hm
  ·exact r.celOff x c e hm
  ·simp only [List.mem_singleton, Option.some.injEq] at hm
   obtain ⟨v, o, ho, _⟩ := r.celIs x c e
   exact hne _ _ ho hm
theorem R.update {φ : List (Option Addr)} {st : MSt} {h h' : Heap} {a : Addr} {n : Nat} {o : MObj} (r : R prog w C fv φ st h) (hn : φ[n]? = some (some a)) (hs : Heap.SameBut a h h') (hlive : ∃ ob, h'.get? a = some ob)
  (ho : ORel prog w h' (C.av φ) φ a o) : R prog w C fv φ { st with σ := st.σ.set n o } h' := by
 have hmem : some a ∈ φ := List.mem_of_getElem? hn
 have hmono : ∀ b o, ¬ C.av φ b → h.get? b = some o → IsSeq o → h'.get? b = some o ∧ ¬ C.av φ b := by
  intro b _ hb ho _
  exact ⟨(hs.2 b (fun e => hb (.inr (e ▸ hmem)))).trans ho, hb⟩
 have hns : ∀ b m, b ≠ a → h.Ns b m → h'.Ns b m := fun b m hb e => e.sameBut hs hb
 have hla : fv.env.locals ≠ a := fun e => r.locOff (e ▸ hmem)
 have hfa : C.fn ≠ a := fun e => r.fnOff (e ▸ hmem)
 have hca : ∀ x c, fv.env.cells.lookup x = some c → c ≠ a := fun x c e q => r.celOff x c e (q ▸ hmem)
 refine ⟨fun b o e => (hs.2 b (Nat.ne_of_lt (Nat.lt_of_lt_of_le (Heap.lt_size e) (r.new a hmem)))).trans (r.base b o e), let ⟨m, e⟩ := r.fr; ⟨m, hns _ _ hfa e⟩, r.above, (fun b hb => by
  by_cases e : b = a
  ·subst e; exact hlive
  ·obtain ⟨o, ho⟩ := r.av0 b hb
   exact ⟨o, (hs.2 b e).trans ho⟩), fun p hp => ?_, by simp [r.len], fun i b o' e1 e2 => ?_, fun b hb => ?_, r.nodup, r.new,
  let ⟨m, e⟩ := r.loc; ⟨m, hns _ _ hla e⟩, r.locNew, r.locOff, r.fnOff, r.celNew, r.celInj, fun x c e => let ⟨v, o, h1, h2⟩ := r.celIs x c e; ⟨v, o, (hs.2 c (hca x c e)).trans h1, h2⟩, r.celOff, r.hid_of fun b hb o e => (hs.2 b (r.hid_ne hb (r.new a hmem))).trans e⟩
 ·obtain ⟨v, e1, e2⟩ := r.vars p hp
  refine ⟨v, ?_, OVR.mono hmono (fun _ _ e => e) e2⟩
  rcases e1 with ⟨h1, m, h2, h3⟩ | ⟨h1, c, h2, ob, h3, h4⟩
  ·exact .inl ⟨h1, m, hns _ _ hla h2, h3⟩
  ·exact .inr ⟨h1, c, h2, ob, (hs.2 c (hca _ c h2)).trans h3, h4⟩
 ·by_cases hi : i = n
  ·subst hi
   rw [hn] at e1; cases e1
   have hlt : i < st.σ.length := by rw [← r.len]; exact (List.getElem?_eq_some_iff.mp hn).1
   rw [List.getElem?_set_self hlt] at e2
   (injection e2 with e2; subst e2); exact ho
  ·rw [List.getElem?_set_ne (Ne.symm hi)] at e2
   have hba : b ≠ a := fun e => hi (r.nodup i n a (e ▸ e1) hn)
   exact ORel.mono hmono (fun _ _ e => e) (fun o e => (hs.2 b hba).trans e) (r.sto i b o' e1 e2)
 ·by_cases hba : b = a
  ·subst hba; exact hlive
  ·obtain ⟨o, e⟩ := r.live b hb; exact ⟨o, (hs.2 b hba).trans e⟩
theorem Eff.update {φ : List (Option Addr)} {h h' : Heap} {a : Addr} (hm : some a ∈ φ) (hs : Heap.SameBut a h h') : Eff C fv φ h h' := fun b o e h1 _ _ _ => (hs.2 b (fun q => h1 (q ▸ hm))).trans e
theorem R.size_ge {φ : List (Option Addr)} {st : MSt} {h : Heap} (r : R prog w C fv φ st h) : C.h₀.objs.size ≤ h.objs.size := by
 have h2 : @LE.le Nat _ C.h₀.objs.size C.fn := r.above
 obtain ⟨m, hm⟩ := r.fr
 have h3 : @LT.lt Nat _ C.fn h.objs.size := hm.lt
 show @LE.le Nat _ C.h₀.objs.size h.objs.size
 omega
theorem get?_size_none (h : Heap) : h.get? h.objs.size = none := by
 cases e : h.get? h.objs.size with
 | none => rfl
 | some o => exact absurd (Heap.lt_size e) (Nat.lt_irrefl _)
noncomputable def sNil : MSt → Option (Out × MSt) := fun st => some (.next, st)
noncomputable def sSeq (a b : MSt → Option (Out × MSt)) : MSt → Option (Out × MSt) := fun st => (a st).bind fun p => match p.1 with
 | .next => b p.2
 | o => some (o, p.2)
theorem ss_nil {env : Env} : SS prog w A C fv (execs [] env) sNil := by
 refine ⟨?_⟩
 intro φ st s o st' Q r e h
 (injection e with e; injection e with e Y9; subst e Y9)
 exact wpAny_execs_nil (h _ _ _ _ r (Ext.refl _ _) (Eff.of_stays (Stays.refl _)) rfl)
theorem SS.cons {x : Stmt} {rest : List Stmt} {env : Env} {a b : MSt → Option (Out × MSt)} (ha : SS prog w A C fv (exec x env) a) (hb : SS prog w A C fv (execs rest env) b) : SS prog w A C fv (execs (x :: rest) env) (sSeq a b) := by
 refine ⟨?_⟩
 intro φ st s o st' Q r e h
 simp only [sSeq, oI] at e
 obtain ⟨⟨p, st1⟩, e1, e⟩ := e
 refine wpAny_execs_cons (ha.run φ st s p st1 _ r e1 fun φ1 h1 t1 f1 r1 x1 k1 q1 => ?_)
 cases p with
 | next =>
  simp only [FR] at q1
  subst q1
  exact hb.run φ1 st1 _ o st' _ r1 e fun φ2 h2 t2 f2 r2 x2 k2 q2 => h φ2 h2 t2 f2 r2 (x1.trans k1 r1 x2) (k1.trans x1 k2) q2
 | brk => (injection e with e; injection e with e Y9; subst e Y9); simp only [FR] at q1; subst q1; exact h _ _ _ _ r1 x1 k1 rfl
 | cont => (injection e with e; injection e with e Y9; subst e Y9); simp only [FR] at q1; subst q1; exact h _ _ _ _ r1 x1 k1 rfl
 | ret v => (injection e with e; injection e with e Y9; subst e Y9); obtain ⟨rv, rfl, q⟩ := q1; exact h _ _ _ _ r1 x1 k1 ⟨rv, rfl, q⟩
noncomputable def bName (k : Nat) : MV → MSt → Option MSt := fun v st => some (st.set k v)
theorem sa_store {x : Str} {k : Nat} (hm : (x, k) ∈ fv.vars) (hv : VarsOk fv.vars = true) (hk : fv.env.scope.kind = .function) (hx : fv.env.kindOf x = some .local ∨ fv.env.kindOf x = some .cell) : SA prog w A C fv (storeName fv.env x) (bName k) := by
 refine ⟨?_⟩
 intro φ st s v rv st' Q r e q h
 (injection e with e; subst e)
 exact r.setVar hm hv hk hx q h
theorem sa_name {x : Str} {k : Nat} {pos : Pos} (hm : (x, k) ∈ fv.vars) (hv : VarsOk fv.vars = true) (hk : fv.env.scope.kind = .function) (hx : fv.env.kindOf x = some .local ∨ fv.env.kindOf x = some .cell) : SA prog w A C fv (assign (.Name x pos) fv.env) (bName k) := by
 refine ⟨?_⟩
 intro φ st s v rv st' Q r e q h
 exact wpAny_assign_Name ((sa_store hm hv hk hx).run φ st s v rv st' Q r e q h)
noncomputable def sAssign (e : MSt → Option MV) (b : MV → MSt → Option MSt) : MSt → Option (Out × MSt) := fun st => (e st).bind fun v => (b v st).map fun st' => (.next, st')
theorem SS.assign {x : Str} {k : Nat} {pp pos : Pos} {value : Expr} {e : MSt → Option MV} (he : SE prog w A C fv (eval value fv.env) e) (hm : (x, k) ∈ fv.vars) (hv : VarsOk fv.vars = true) (hk : fv.env.scope.kind = .function)
  (hx : fv.env.kindOf x = some .local ∨ fv.env.kindOf x = some .cell) (hs : swapsWith value (some (.Name x pp)) pos.line fv.env = pure false := by rfl) : SS prog w A C fv (exec (.Assign [.Name x pp] value pos) fv.env) (sAssign e (bName k)) := by
 refine ⟨?_⟩
 intro φ st s o st' Q r ev h
 simp only [sAssign, oI, oM, Prod.mk.injEq] at ev
 refine cps fun G hG => ?_
 obtain ⟨v, e1, st1, e2, rfl, rfl⟩ := ev
 refine hG ?_; clear hG
 refine wpAny_Assign_Name (he.run φ st s v _ r e1 fun h1 t1 v1 k1 r1 q1 => ?_) hs
 refine (sa_store hm hv hk hx).run φ st _ v v1 _ _ r1 e2 q1 fun h2 t2 r2 k2 => h φ h2 t2 _ r2 (Ext.refl _ _) ((Eff.of_stays k1).trans (Ext.refl _ _) k2) rfl
theorem SS.assignS {target value : Expr} {pos : Pos} {e : MSt → Option MV} {b : MV → MSt → Option MSt} (he : SE prog w A C fv (eval value fv.env) e) (hb : SA prog w A C fv (PySem.assign target fv.env) b)
  (hs : swapsWithSole [target] value pos.line fv.env = pure false := by rfl) (hw : swappedStores [target] value fv.env = pure none := by rfl)
  (ha : (assignEach [target] fv.env).map (·.2) = [PySem.assign target fv.env] := by rfl) : SS prog w A C fv (exec (.Assign [target] value pos) fv.env) (sAssign e b) := by
 refine ⟨?_⟩
 intro φ st s o st' Q r ev h
 simp only [sAssign, oI, oM, Prod.mk.injEq] at ev
 refine cps fun G hG => ?_
 obtain ⟨v, e1, st1, e2, rfl, rfl⟩ := ev
 refine hG ?_; clear hG
 refine wpAny_Assign_stores (he.run φ st s v _ r e1 fun h1 t1 v1 k1 r1 q1 => ?_) hs hw
 rw [ha]
 exact hb.run φ st _ v v1 _ _ r1 e2 q1 fun h2 t2 r2 k2 => h φ h2 t2 _ r2 (Ext.refl _ _) ((Eff.of_stays k1).trans (Ext.refl _ _) k2) rfl
end
end
section
set_option backward.match.sparseCases false
section
variable {prog : Program} {w : World} {A : Around} {C : Cx} {fv : FV}
theorem ss_break {pos : Pos} {env : Env} : SS prog w A C fv (exec (.Break pos) env) (fun st => some (.brk, st)) := by
 refine ⟨?_⟩
 intro φ st s o st' Q r e h
 (injection e with e; injection e with e Y9; subst e Y9)
 exact wpAny_Break (h _ _ _ _ r (Ext.refl _ _) (Eff.of_stays (Stays.refl _)) rfl)
noncomputable def sRet (e : MSt → Option MV) : MSt → Option (Out × MSt) := fun st => (e st).map fun v => (.ret v, st)
theorem SS.ret {x : Expr} {pos : Pos} {env : Env} {e : MSt → Option MV} (he : SE prog w A C fv (eval x env) e) : SS prog w A C fv (exec (.Return (some x) pos) env) (sRet e) := by
 refine ⟨?_⟩
 intro φ st s o st' Q r ev h
 simp only [sRet, oM, Prod.mk.injEq] at ev
 refine cps fun G hG => ?_
 obtain ⟨v, e1, rfl, rfl⟩ := ev
 refine hG ?_; clear hG
 exact wpAny_Return_some (he.run φ st s v _ r e1 fun h1 t1 v1 k1 r1 q1 => h φ h1 t1 _ r1 (Ext.refl _ _) (Eff.of_stays k1) ⟨v1, rfl, q1⟩)
theorem Ext.stays {φ φ' : List (Option Addr)} {h h' : Heap} (k : Stays h h') (x : Ext φ φ' h') : Ext φ φ' h := ⟨fun a ha => (x.mem a ha).imp id fun e' => (by
 cases e1 : h.get? a with
 | none => rfl
 | some o' => exact (ng e' (k a o' e1)).elim), x.grow⟩
noncomputable def sIf (c : MSt → Option Bool) (a b : MSt → Option (Out × MSt)) : MSt → Option (Out × MSt) := fun st => (c st).bind fun x => if x then a st else b st
theorem SS.ifs {t : Expr} {body orelse : List Stmt} {pos : Pos} {env : Env} {c : MSt → Option Bool} {a b : MSt → Option (Out × MSt)} (hc : SB prog w A C fv (isTrue t env (eval t env)) c) (ha : SS prog w A C fv (execs body env) a)
  (hb : SS prog w A C fv (execs orelse env) b) : SS prog w A C fv (exec (.If t body orelse pos) env) (sIf c a b) := by
 refine ⟨?_⟩
 intro φ st s o st' Q r e h
 simp only [sIf, oI] at e
 obtain ⟨x, ex, e⟩ := e
 refine wpAny_If (hc.run φ st s x _ r ex fun h1 t1 k1 r1 => ?_)
 cases x
 ·exact hb.run φ st _ o st' _ r1 e fun φ2 h2 t2 f2 r2 x2 k2 q2 => h φ2 h2 t2 f2 r2 (x2.stays k1) ((Eff.of_stays k1).trans (Ext.refl _ _) k2) q2
 ·exact ha.run φ st _ o st' _ r1 e fun φ2 h2 t2 f2 r2 x2 k2 q2 => h φ2 h2 t2 f2 r2 (x2.stays k1) ((Eff.of_stays k1).trans (Ext.refl _ _) k2) q2
noncomputable def sNewList (k : Nat) (es : MSt → Option (List MV)) : MSt → Option (Out × MSt) := fun st => (es st).bind fun l => if l.length ≤ 1000 then some (.next, MSt.set { st with σ := st.σ ++ [MObj.list l] } k (.ref st.σ.length)) else none
theorem vr_ref {h : Heap} {W : Addr → Prop} {φ : List (Option Addr)} {n : Nat} {a : Addr} (e : φ[n]? = some (some a)) : VR h W φ (.ref n) (.ref a) := by simp only [vR1, vR2, vR3, vR4, vR5, vR6, vR7, vR8]; exact ⟨a, e, rfl⟩
theorem alloc_list {φ : List (Option Addr)} {st : MSt} {h : Heap} {l : List MV} {v : List Value} (r : R prog w C fv φ st h) (q : VRs h (C.av φ) φ l v) (hl : l.length ≤ 100000) :
  R prog w C fv (φ ++ [some h.objs.size]) { st with σ := st.σ ++ [.list l] } (h.push (listObj v 0)) := by
 have hk := Stays.push h (listObj v 0)
 refine r.alloc hk (get?_size_none h) r.size_ge ⟨_, Heap.get?_push_size _ rfl⟩ ⟨v, 0, Heap.get?_push_size _ rfl, ?_, hl⟩
 refine VRs.mono (fun b o hb ho _ => ⟨hk b o ho, ?_⟩) (fun n a e => by rw [List.getElem?_append_left (List.getElem?_eq_some_iff.mp e).1]; exact e) l q
 rintro (h1 | h1)
 ·exact hb (.inl h1)
 ·rcases List.mem_append.mp h1 with h1 | h1
  ·exact hb (.inr h1)
  ·simp only [List.mem_singleton, Option.some.injEq] at h1
   subst h1
   exact absurd (Heap.lt_size ho) (Nat.lt_irrefl _)
theorem ext_new (φ : List (Option Addr)) (h : Heap) : Ext φ (φ ++ [some h.objs.size]) h := by
 refine ⟨?_, fun i a e => by rw [List.getElem?_append_left (List.getElem?_eq_some_iff.mp e).1]; exact e⟩
 intro a ha
 rcases List.mem_append.mp ha with h1 | h1
 ·exact .inl h1
 ·simp only [List.mem_singleton, Option.some.injEq] at h1
  subst h1; exact .inr (get?_size_none h)
theorem ref_last {φ : List (Option Addr)} {st : MSt} {a : Addr} (hl : φ.length = st.σ.length) : (φ ++ [some a])[st.σ.length]? = some (some a) := by rw [← hl]; simp
theorem SS.newList {x : Str} {k : Nat} {pp pos lp : Pos} {elts : List Expr} {es : MSt → Option (List MV)} (he : SL prog w A C fv (spliced (backTo lp (starEach elts fv.env))) es) (hm : (x, k) ∈ fv.vars) (hv : VarsOk fv.vars = true) (hk : fv.env.scope.kind = .function)
  (hx : fv.env.kindOf x = some .local ∨ fv.env.kindOf x = some .cell) (hs : swapsWith (.List elts lp) (some (.Name x pp)) pos.line fv.env = pure false := by rfl) :
  SS prog w A C fv (exec (.Assign [.Name x pp] (.List elts lp) pos) fv.env) (sNewList k es) := by
 refine ⟨?_⟩
 intro φ st s o st' Q r ev h
 simp only [sNewList, oI] at ev
 refine cps fun G hG => ?_
 obtain ⟨l, el, ev⟩ := ev
 split at ev <;> cases ev
 refine hG ?_; clear hG
 refine wpAny_Assign_Name (wpAny_List (he.run φ st s l _ r el fun h1 t1 v1 k1 r1 q1 => ⟨le_sizeLine (by rw [← q1.length]; omega), ?_⟩)) hs
 have r2 := alloc_list r1 q1 (by omega)
 refine r2.setVar hm hv hk hx (vr_ref (ref_last r1.len)) fun h3 t3 r3 k3 => h _ h3 t3 _ r3 ((ext_new φ h1).stays k1) ?_ rfl
 exact ((Eff.of_stays (k1.trans (Stays.push h1 _)))).trans ((ext_new φ h1).stays k1) k3
noncomputable def sAppend (k : Nat) (e : MSt → Option MV) : MSt → Option (Out × MSt) := fun st => (eVar k st).bind fun x => match x with
 | .ref n => (e st).bind fun v => match st.σ[n]? with
  | some (.list xs) => if xs.length < 1000 then some (.next, { st with σ := st.σ.set n (.list (xs ++ [v])) }) else none
  | _ => none
 | _ => none
theorem SS.append {x : Str} {k : Nat} {np apos pos spos : Pos} {arg : Expr} {e : MSt → Option MV} (he : SE prog w A C fv (eval arg fv.env) e) (hm : (x, k) ∈ fv.vars) (hk : fv.env.scope.kind = .function)
  (hd : (x == ("__debug__" : Str)) = false := by decide) (hc : (x == ("__classdict__" : Str)) = false := by decide)
  (hse : starEach [arg] fv.env = [(false, eval arg fv.env)] := by rfl)
  (hbase : attributeBase (.Name x np) "append" fv.env (eval (.Name x np) fv.env) = eval (.Name x np) fv.env := by rfl)
  (hline : (apos.endLine == pos.line) = true := by rfl) (hi : interactive fv.env = false := by rfl) :
  SS prog w A C fv (exec (.Expr (.Call (.Attribute (.Name x np) "append" apos) [arg] [] pos) spos) fv.env) (sAppend k e) := by
 refine ⟨?_⟩
 intro φ st s o st' Q r ev h
 simp only [sAppend, oI] at ev
 refine cps fun G hG => ?_
 obtain ⟨y, ey, ev⟩ := ev
 cases y <;> simp only [reduceCtorEq, oI] at ev
 rename_i n
 obtain ⟨v, e1, ev⟩ := ev
 split at ev
 ·rename_i xs hn
  split at ev <;> cases ev
  rename_i hlt
  refine hG ?_; clear hG
  refine wpAny_Expr_any ?_ hi rfl
  refine wpAny_Call_method hbase (by rw [hse]; rfl) hline F.plainAttrs_list F.slot_list_append F.type_list_append ((se_var hm hk hd hc).run φ st s _ _ r ey fun h1 t1 v1 k1 r1 q1 => ?_)
  simp only [vR1, vR2, vR3, vR4, vR5, vR6, vR7, vR8] at q1
  refine cps fun G hG => ?_
  obtain ⟨a, ha, rfl⟩ := q1
  obtain ⟨items, m, g1, g2, g3⟩ := r1.sto n a _ ha hn
  refine hG ?_; clear hG
  refine ⟨⟨_, g1, rfl⟩, fun b eb => by (injection eb with eb; subst eb); exact ⟨_, g1, rfl⟩, callWith_builtin (by rw [hse]; rfl) ?_⟩
  rw [hse]
  refine evalArgs_plain (spliced_cons (he.run φ st _ v _ r1 e1 fun h2 t2 v2 k2 r2 q2 => spliced_nil ?_))
  refine cps fun G hG => ?_
  obtain ⟨items, m, g1, g2, g3⟩ := r2.sto n a _ ha hn
  refine hG ?_; clear hG
  refine wpAny_list_append_plain (items := items.toArray) ⟨m, g1⟩ (fun h3 g4 hs3 => ?_) (by rw [List.size_toArray, ← g2.length]; exact le_sizeLine (by omega))
  obtain ⟨m', g4⟩ := g4
  have hmem : some a ∈ φ := List.mem_of_getElem? ha
  have g5 : h3.get? a = some (listObj (items ++ [v2]) m') := by rw [g4]; simp [listObj]
  have mono : ∀ b o, ¬ C.av φ b → h2.get? b = some o → IsSeq o → h3.get? b = some o ∧ ¬ C.av φ b := fun b o hb ho _ => ⟨(hs3.2 b (fun e => hb (.inr (e ▸ hmem)))).trans ho, hb⟩
  refine h φ h3 _ _ (r2.update ha hs3 ⟨_, g5⟩ ⟨_, m', g5, (VRs.mono mono (fun _ _ e => e) _ g2).snoc (VR.mono mono (fun _ _ e => e) _ q2), by simp; omega⟩) (Ext.refl _ _) ?_ rfl
  exact (Eff.of_stays (k1.trans k2)).trans (Ext.refl _ _) (Eff.update hmem hs3)
 ·(injection ev; done)
noncomputable def setObj (o : MObj) (i v : MV) : Option MObj := match o with
 | .dict f n => (match i with
  | .str x => if n < 1000 then some (.dict (fun y => if y = x then some v else f y) (n + 1)) else none
  | _ => none)
 | .list xs => (match i with
  | .int k => if 0 ≤ k ∧ k < xs.length then some (.list (xs.set k.toNat v)) else none
  | _ => none)
noncomputable def sSetItem (a b e : MSt → Option MV) : MSt → Option (Out × MSt) := fun st => (e st).bind fun v => (a st).bind fun x => match x with
 | .ref n => (b st).bind fun i => (st.σ[n]?).bind fun o => (setObj o i v).map fun o' => (.next, { st with σ := st.σ.set n o' })
 | _ => none
theorem valueAt_stored (kvs : List (Str × Value)) (k y : Str) (v : Value) : valueAt (stored kvs k v) y = if y = k then some v else valueAt kvs y := by
 unfold stored
 split
 ·rename_i hany
  induction kvs with
  | nil => simp at hany
  | cons p r ih =>
   simp only [List.map_cons, valueAt, List.find?_cons]
   by_cases hp : p.1 = k
   ·subst hp
    by_cases hy : p.1 = y
    ·subst hy; simp
    ·have hy' : ¬ y = p.1 := fun e => hy e.symm
     simp only [if_true, decide_eq_false hy, if_neg hy']
     by_cases ha : (r.any fun kv => decide (kv.1 = p.1)) = true
     ·have := ih ha
      simp only [valueAt, if_neg hy'] at this
      exact this
     ·have : (r.map fun kv => if kv.1 = p.1 then (kv.1, v) else kv) = r := by
       refine (List.map_congr_left fun q hq => ?_).trans (List.map_id r)
       have : ¬ q.1 = p.1 := fun e => ha (List.any_eq_true.mpr ⟨q, hq, by simpa using e⟩)
       simp [this]
      rw [this]
   ·simp only [if_neg hp]
    have ha : (r.any fun kv => decide (kv.1 = k)) = true := by simpa [hp] using hany
    have := ih ha
    by_cases hy : p.1 = y
    ·subst hy; simp [hp]
    ·simp only [decide_eq_false hy]
     exact this
 ·rename_i hany
  simp only [valueAt, List.find?_append]
  have hno : ∀ p ∈ kvs, p.1 ≠ k := fun p hp e => hany (List.any_eq_true.mpr ⟨p, hp, by simpa using e⟩)
  by_cases hy : y = k
  ·subst hy
   have : kvs.find? (fun kv => decide (kv.1 = y)) = none := List.find?_eq_none.mpr fun p hp => by simpa using hno p hp
   simp [this]
  ·have : ¬ k = y := fun e => hy e.symm
   simp [hy, this]
theorem SS.setItem {ob ix value : Expr} {pp pos : Pos} {env : Env} {a b e : MSt → Option MV} (he : SE prog w A C fv (eval value env) e) (ha : SE prog w A C fv (eval ob env) a) (hb : SE prog w A C fv (eval ix env) b)
  (hs : swapsWith value (some (.Subscript ob ix pp)) pos.line env = pure false := by rfl) : SS prog w A C fv (exec (.Assign [.Subscript ob ix pp] value pos) env) (sSetItem a b e) := by
 refine ⟨?_⟩
 intro φ st s o st' Q r ev h
 simp only [sSetItem, oI] at ev
 refine cps fun G hG => ?_
 obtain ⟨v, e1, x, e2, ev⟩ := ev
 cases x <;> simp only [reduceCtorEq, oI, oM, Prod.mk.injEq] at ev
 rename_i n
 obtain ⟨i, e3, ob', e4, o', e5, rfl, rfl⟩ := ev
 refine hG ?_; clear hG
 refine wpAny_Assign_Subscript (he.run φ st s v _ r e1 fun h1 t1 v1 k1 r1 q1 => ha.run φ st _ _ _ r1 e2 fun h2 t2 v2 k2 r2 q2 => hb.run φ st _ _ _ r2 e3 fun h3 t3 v3 k3 r3 q3 => ?_) hs
 simp only [vR1, vR2, vR3, vR4, vR5, vR6, vR7, vR8] at q2
 refine cps fun G hG => ?_
 obtain ⟨ad, had, rfl⟩ := q2
 have q1' := q1.stays (k2.trans k3)
 have hmem : some ad ∈ φ := List.mem_of_getElem? had
 have mono : ∀ h4, Heap.SameBut ad h3 h4 → ∀ b o, ¬ C.av φ b → h3.get? b = some o → IsSeq o → h4.get? b = some o ∧ ¬ C.av φ b := fun h4 hs b o hb ho _ => ⟨(hs.2 b (fun e => hb (.inr (e ▸ hmem)))).trans ho, hb⟩
 have kk := k1.trans (k2.trans k3)
 cases ob' <;> cases i <;> simp only [setObj, reduceCtorEq] at e5
 ·split at e5 <;> cases e5
  rename_i xs k hc
  obtain ⟨u, rfl⟩ := vr_int_inv q3
  obtain ⟨items, m, g1, g2, g3⟩ := r3.sto n ad _ had e4
  have hlen := g2.length
  have hsz : k.toNat < items.length := by omega
  refine hG ?_; clear hG
  refine ki_setAt (n := m) (items := items.toArray) g1 hc.1 (by omega) (by simp; omega) ?_
  have hs4 : Heap.SameBut ad h3 (h3.update ad (Obj.mapSeq (·.setIfInBounds k.toNat v1))) := Heap.SameBut.update ..
  have g5 : (h3.update ad (Obj.mapSeq (·.setIfInBounds k.toNat v1))).get? ad = some (listObj (items.set k.toNat v1) m) := by
   have := Heap.get?_update_self (Obj.mapSeq (·.setIfInBounds k.toNat v1)) g1 (by rfl)
   rw [this]
   simp [Obj.mapSeq, listObj]
  refine h φ _ _ _ (r3.update had hs4 ⟨_, g5⟩ ⟨_, m, g5, ?_, by simp; omega⟩) (Ext.refl _ _) ((Eff.of_stays kk).trans (Ext.refl _ _) (Eff.update hmem hs4)) rfl
  have g6 := VRs.mono (mono _ hs4) (fun _ _ e => e) _ g2
  have g7 := VR.mono (mono _ hs4) (fun _ _ e => e) _ q1'
  refine VRs.forall₂ (by simp [hlen]) fun j y z hy hz => ?_
  by_cases hj : j = k.toNat
  ·subst hj
   rw [List.getElem?_set_self (by omega)] at hy hz
   (injection hy with hy; subst hy); (injection hz with hz; subst hz); exact g7
  ·rw [List.getElem?_set_ne (Ne.symm hj)] at hy hz
   obtain ⟨z', hz', hv⟩ := g6.get j y hy
   rw [hz] at hz'; (injection hz' with hz'; subst hz'); exact hv
 ·split at e5 <;> cases e5
  rename_i f k x hc
  obtain ⟨u, rfl⟩ := vr_str_inv q3
  obtain ⟨kvs, g1, g2, g3, g4⟩ := r3.sto n ad _ had e4
  refine hG ?_; clear hG
  refine wpAny_setItem_pairs (strKind_is prog w x u) g1 (fun h4 g5 hs4 => ?_) (le_sizeLine (by omega))
  have hlive : ∃ ob, h4.get? ad = some ob := let ⟨o, _, _, ho, _⟩ := g5; ⟨o, ho⟩
  refine h φ h4 _ _ (r3.update had hs4 hlive ⟨_, g5, Nat.le_trans (stored_length_le _ _ _) (by omega), by omega, fun y => ?_⟩) (Ext.refl _ _) ((Eff.of_stays kk).trans (Ext.refl _ _) (Eff.update hmem hs4)) rfl
  rw [valueAt_stored]
  by_cases hy : y = x
  ·simp only [hy, if_true]; exact ⟨v1, rfl, VR.mono (mono h4 hs4) (fun _ _ e => e) _ q1'⟩
  ·simp only [hy, if_false]; exact OVR.mono (mono h4 hs4) (fun _ _ e => e) (g4 y)
end
end
section
section
variable {prog : Program} {w : World} {A : Around} {C : Cx} {fv : FV}
theorem R.effMono {φ φ' : List (Option Addr)} {st : MSt} {h h' : Heap} (r : R prog w C fv φ st h) (k : Eff C fv φ h h') (x : Ext φ φ' h) : ∀ b o, ¬ C.av φ b → h.get? b = some o → IsSeq o → h'.get? b = some o ∧ ¬ C.av φ' b := by
 intro b o hb ho hs
 refine ⟨k b o ho (fun e => hb (.inr e)) ?_ ?_ (fun hh => let ⟨⟨o', g1, g2, _⟩, _⟩ := r.hid b hh; by rw [ho] at g1; (injection g1 with g1; subst g1); exact g2 hs), ?_⟩
 ·obtain ⟨m, hn⟩ := r.loc; exact seq_ne_dict hn ho hs
 ·intro y c hc
  obtain ⟨v, hv⟩ := r.celIs y c hc
  exact seq_ne_cell hv ho hs
 ·rintro (h1 | h1)
  ·exact hb (.inl h1)
  ·rcases x.mem b h1 with h2 | h2
   ·exact hb (.inr h2)
   ·exact (ng h2 ho).elim
theorem VR.eff {φ : List (Option Addr)} {st : MSt} {h h' : Heap} (r : R prog w C fv φ st h) (k : Eff C fv φ h h') {x : MV} {v : Value} (q : VR h (C.av φ) φ x v) : VR h' (C.av φ) φ x v :=
 VR.mono (r.effMono k (Ext.refl _ _)) (fun _ _ e => e) x q
theorem VRs.eff {φ : List (Option Addr)} {st : MSt} {h h' : Heap} (r : R prog w C fv φ st h) (k : Eff C fv φ h h') {x : List MV} {v : List Value} (q : VRs h (C.av φ) φ x v) : VRs h' (C.av φ) φ x v :=
 VRs.mono (r.effMono k (Ext.refl _ _)) (fun _ _ e => e) x q
theorem VR.behind {φ φ' : List (Option Addr)} {st : MSt} {h h' : Heap} (r : R prog w C fv φ st h) (k : Eff C fv φ h h') (x : Ext φ φ' h) {y : MV} {v : Value} (hn : Mine.noRef y = true) (q : VR h (C.av φ) φ y v) : VR h' (C.av φ') φ' y v :=
 VR.noRef y (VR.mono (φ' := φ) (r.effMono k x) (fun _ _ e => e) y q) hn
theorem VRs.behind {φ φ' : List (Option Addr)} {st : MSt} {h h' : Heap} (r : R prog w C fv φ st h) (k : Eff C fv φ h h') (x : Ext φ φ' h) {y : List MV} {v : List Value} (hn : Mine.noRefs y = true) (q : VRs h (C.av φ) φ y v) : VRs h' (C.av φ') φ' y v :=
 VRs.noRef y (VRs.mono (φ' := φ) (r.effMono k x) (fun _ _ e => e) y q) hn
noncomputable def bAll : List (MV → MSt → Option MSt) → List MV → MSt → Option MSt
 | [], l, st => (match l with
  | [] => some st
  | _ :: _ => none)
 | b :: bs, l, st => (match l with
  | [] => none
  | x :: xs => (b x st).bind fun st' => bAll bs xs st')
variable (prog w A C fv) in
noncomputable def SAL : List (Value → Sem Unit) → List (MV → MSt → Option MSt) → Prop
 | [], [] => True
 | f :: fs, b :: bs => SA prog w A C fv f b ∧ SAL fs bs
 | _, _ => False
theorem SAL.run : ∀ {fs : List (Value → Sem Unit)} {bs : List (MV → MSt → Option MSt)}, SAL prog w A C fv fs bs → ∀ {φ : List (Option Addr)} {st st' : MSt} {s : Shared} {xs : List MV} {vs : List Value} {Q : Unit → Shared → Prop}, R prog w C fv φ st s.heap →
  bAll bs xs st = some st' → VRs s.heap (C.av φ) φ xs vs → (∀ h' tk, R prog w C fv φ st' h' → Eff C fv φ s.heap h' → Q () { s with heap := h', toks := tk }) → wpAny (model prog w) A (assignInOrder fs vs) Q NoE s
 | [], [], _, φ, st, st', s, xs, vs, Q, r, e, q, h => by
  cases xs with
  | nil =>
   simp only [bAll, Option.some.injEq] at e
   simp only [vRs1, vRs2] at q
   subst e q
   exact wpAny_pure (h _ _ r (Eff.of_stays (Stays.refl _)))
  | cons x xs => simp [bAll] at e
 | f :: fs, b :: bs, hs, φ, st, st', s, xs, vs, Q, r, e, q, h => by
  cases xs with
  | nil => simp [bAll] at e
  | cons x xs =>
   simp only [bAll, oI] at e
   obtain ⟨st1, e1, e⟩ := e
   simp only [vRs1, vRs2] at q
   obtain ⟨v, vs, rfl, q1, q2⟩ := q
   show wpAny _ A (do holding vs (f v); assignInOrder fs vs) Q NoE s
   refine wpAny_bind (wpAny_holding (hs.1.run φ st s x v st1 _ r e1 q1 fun h1 t1 r1 k1 => ?_))
   exact SAL.run hs.2 r1 e (VRs.eff r k1 q2) fun h2 t2 r2 k2 => h h2 t2 r2 (k1.trans (Ext.refl _ _) k2)
 | [], _ :: _, hs, _, _, _, _, _, _, _, _, _, _, _ => hs.elim
 | _ :: _, [], hs, _, _, _, _, _, _, _, _, _, _, _ => hs.elim
theorem draw_walk {I : Addr} {fp wr : List Addr} {n : Nat} {P : Nat → Value → Prop} {St : Nat → Heap → Prop} {E : Value → Shared → Prop} (W : Walks prog w A I fp wr n P St) : ∀ (k i : Nat) (s : Shared) (Q : List Value → Shared → Prop), St i s.heap → i + k ≤ n →
  (∀ vs h' tk, vs.length = k → (∀ (j : Nat) v, vs[j]? = some v → P (i + j) v) → St (i + k) h' → (∀ b o, b ∉ wr → s.heap.get? b = some o → h'.get? b = some o) → Q vs { s with heap := h', toks := tk }) →
  wpAny (model prog w) A (draw (.ref I) k) Q E s
 | 0, i, s, Q, st, _, h => by
  show wpAny _ _ (pure []) Q E s
  exact wpAny_pure (h [] s.heap s.toks rfl (by simp) st fun _ _ _ e => e)
 | k + 1, i, s, Q, st, hle, h => by
  show wpAny _ _ (pyNext (.ref I) >>= _) Q E s
  refine wpAny_bind (W.item i s _ _ (by omega) st fun v h1 t1 hv st1 k1 => ?_)
  refine wpAny_bind (wpAny_holding (draw_walk W k (i + 1) _ _ st1 (by omega) fun vs h2 t2 hl hp st2 k2 => wpAny_pure ?_))
  refine h (v :: vs) h2 t2 (by simp [hl]) (fun j u hj => ?_) (by rw [show i + (k + 1) = i + 1 + k by omega]; exact st2) fun b o hb e => k2 b o hb (k1 b o hb e)
  cases j with
  | zero => simp at hj; subst hj; exact hv
  | succ j => rw [show i + (j + 1) = i + 1 + j by omega]; exact hp j u (by simpa using hj)
theorem unpack_list {l : Addr} {items : List Value} {s : Shared} {Q : List Value → Shared → Prop} (hh : A.handled = none) (hl : s.heap.IsList l items.toArray)
  (h : ∀ h' tk, Stays s.heap h' → Q items { s with heap := h', toks := tk }) : wpAny (model prog w) A (unpackItems (.ref l) items.length none) Q NoE s := by
 have hlt : l ≠ s.heap.objs.size := by obtain ⟨o, ho, _⟩ := hl; exact Nat.ne_of_lt (Heap.lt_size ho)
 unfold unpackItems
 refine wpAny_bind ?_
 unfold notIterableAtAll
 refine wpAny_bind (wpAny_specialOf hl.typeIs slot_list_iter.lookup ?_)
 refine wpAny_pure ?_
 dsimp only [Bool.false_eq_true, if_false]
 refine wpAny_bind (wpAny_holding (wpAny_pyIter_list hl ?_))
 have W := Walks.list (prog := prog) (w := w) hh s.heap.objs.size l hlt items.toArray
 refine wpAny_bind (wpAny_holding (draw_walk W items.length 0 _ _ ⟨⟨_, Heap.get?_push_size _ rfl, rfl, rfl⟩, hl.push _⟩ (by simp) fun vs h1 t1 hlen hp st1 k1 => ?_))
 have hvs : vs = items := by
  apply List.ext_getElem? fun j => ?_
  cases hj : vs[j]? with
  | none => rw [List.getElem?_eq_none_iff] at hj; symm; rw [List.getElem?_eq_none_iff]; omega
  | some v => have := hp j v hj; simpa using this.symm
 subst hvs
 rw [if_neg (by simp)]
 refine wpAny_bind (wpAny_holding (W.done _ _ _ (by simpa using st1) fun h2 t2 k2 => ?_))
 dsimp only [Option.isSome_none, Bool.false_eq_true, if_false]
 refine wpAny_pure (h h2 t2 fun b o e => ?_)
 have hb : b ∉ [s.heap.objs.size] := by simp; exact Nat.ne_of_lt (Heap.lt_size e)
 exact k2 b o hb (k1 b o hb (Heap.get?_push_of_some _ e))
noncomputable def bTup (bs : List (MV → MSt → Option MSt)) : MV → MSt → Option MSt := fun v st => match v with
 | .tup l => if l.length = bs.length then bAll bs l st else none
 | .lst l => if l.length = bs.length then bAll bs l st else none
 | _ => none
theorem SAL.length : ∀ {fs : List (Value → Sem Unit)} {bs : List (MV → MSt → Option MSt)}, SAL prog w A C fv fs bs → fs.length = bs.length
 | [], [], _ => rfl
 | _ :: _, _ :: _, h => by simp [SAL.length h.2]
 | [], _ :: _, h => h.elim
 | _ :: _, [], h => h.elim
theorem sa_tuple {elts : List Expr} {k : Nat} {pos : Pos} {bs : List (MV → MSt → Option MSt)} {env : Env} (hh : A.handled = none) (hb : SAL prog w A C fv ((assignEach elts env).map (·.2)) bs)
  (hstar : (assignEach elts env).findIdx? (·.1) = none := by rfl) : SA prog w A C fv (PySem.assign (.Tuple elts k pos) env) (bTup bs) := by
 refine ⟨?_⟩
 intro φ st s v rv st' Q r e q h
 have hlen : (assignEach elts env).length = bs.length := by have := hb.length; simpa using this
 refine cps fun G hG => ?_
 cases v <;> simp only [bTup, reduceCtorEq] at e
 ·split at e
  ·rename_i l hl
   simp only [vR1, vR2, vR3, vR4, vR5, vR6, vR7, vR8] at q
   obtain ⟨b, items, rfl, _, ht, hi⟩ := q
   refine hG ?_; clear hG
   refine wpAny_assign_Tuple hh ht (by rw [hlen, ← hl, hi.length]; simp) hstar fun h1 k1 => ?_
   have kk : Stays s.heap h1 := fun b o e => k1 b o (Nat.ne_of_lt (Heap.lt_size e)) e
   exact hb.run (r.stays kk) e (by simpa using hi.stays kk) fun h2 t2 r2 k2 => h h2 t2 r2 ((Eff.of_stays kk).trans (Ext.refl _ _) k2)
  ·(injection e; done)
 ·split at e
  ·rename_i l hl
   simp only [vR1, vR2, vR3, vR4, vR5, vR6, vR7, vR8] at q
   obtain ⟨b, items, rfl, _, ht, hi⟩ := q
   refine hG ?_; clear hG
   show wpAny _ A (do standAt pos; unpack (.ref b) (assignEach elts env)) Q NoE s
   refine wpAny_bind (wpAny_standAt ?_)
   unfold unpack
   rw [hstar, hlen, ← hl, hi.length]
   refine wpAny_bind (wpAny_holding (unpack_list hh ht fun h1 t1 kk => ?_))
   exact hb.run (r.stays kk) e (hi.stays kk) fun h2 t2 r2 k2 => h h2 t2 r2 ((Eff.of_stays kk).trans (Ext.refl _ _) k2)
  ·(injection e; done)
noncomputable def sAssign2 (e : MSt → Option MV) (b c : MV → MSt → Option MSt) : MSt → Option (Out × MSt) := fun st => (e st).bind fun v => (b v st).bind fun st' => (c v st').map fun st'' => (.next, st'')
theorem SS.assign2 {t1 t2 value : Expr} {pos : Pos} {e : MSt → Option MV} {b c : MV → MSt → Option MSt} (he : SE prog w A C fv (eval value fv.env) e) (hb : SA prog w A C fv (PySem.assign t1 fv.env) b) (hc : SA prog w A C fv (PySem.assign t2 fv.env) c)
  (ha : (assignEach [t1, t2] fv.env).map (·.2) = [PySem.assign t1 fv.env, PySem.assign t2 fv.env] := by rfl) (hw : swappedStores [t1, t2] value fv.env = pure none := by rfl)
  (hs : swapsWithSole [t1, t2] value pos.line fv.env = pure false := by rfl) : SS prog w A C fv (exec (.Assign [t1, t2] value pos) fv.env) (sAssign2 e b c) := by
 refine ⟨?_⟩
 intro φ st s o st' Q r ev h
 (dsimp only [sAssign2] at ev; simp only [sAssign2, oI, oM, Prod.mk.injEq] at ev)
 refine cps fun G hG => ?_
 obtain ⟨v, e1, st1, e2, st2, e3, rfl, rfl⟩ := ev
 refine hG ?_; clear hG
 refine wpAny_Assign_stores (he.run φ st s v _ r e1 fun h1 tk1 v1 k1 r1 q1 => ?_) hs hw
 rw [ha]
 show wpAny _ A (do holding [v1] (PySem.assign t1 fv.env v1); assignAll v1 [PySem.assign t2 fv.env]) _ NoE _
 refine wpAny_bind (wpAny_holding (hb.run φ st _ v v1 _ _ r1 e2 q1 fun h2 tk2 r2 k2 => ?_))
 exact hc.run φ st1 _ v v1 _ _ r2 e3 (VR.eff r1 k2 q1) fun h3 t3 r3 k3 => h φ h3 t3 _ r3 (Ext.refl _ _) ((Eff.of_stays k1).trans (Ext.refl _ _) (k2.trans (Ext.refl _ _) k3)) rfl
noncomputable def sAug (k : Nat) (f : MV → MV → Option MV) (e : MSt → Option MV) : MSt → Option (Out × MSt) := fun st => (eVar k st).bind fun x => (e st).bind fun y => (f x y).map fun z => (.next, st.set k z)
theorem ev_load {x : Str} {k : Nat} (hm : (x, k) ∈ fv.vars) (hk : fv.env.scope.kind = .function) (hc : (x == ("__classdict__" : Str)) = false := by decide) : SE prog w A C fv (loadName fv.env x) (eVar k) := by
 refine ⟨?_⟩
 intro φ st s v Q r e h
 refine cps fun G hG => ?_
 obtain ⟨u, hv, ho⟩ := r.vars _ hm
 simp only [eVar] at e
 rw [show (x, k).2 = k from rfl, e] at ho
 obtain ⟨u, rfl, ho⟩ := ho
 have fin : Q u s := h s.heap s.toks u (Stays.refl _) r ho
 rcases hv with ⟨h1, m, h2, h3⟩ | ⟨h1, c, h2, h3⟩
 ·refine hG ?_; clear hG
  exact wpAny_loadName_local hk h1 h2 h3 fin
 ·rcases h1 with h1 | h1
  ·refine hG ?_; clear hG
   exact wpAny_loadName_cell hk h1 h2 h3 fin
  ·refine hG ?_; clear hG
   exact wpAny_loadName_free hk h1 h2 h3 fin hc
theorem SS.aug {x : Str} {k : Nat} {op : Operator} {pp pos : Pos} {value : Expr} {f : MV → MV → Option MV} {e : MSt → Option MV} (hf : Op2 A (inplaceOp op) f prog w) (he : SE prog w A C fv (eval value fv.env) e) (hm : (x, k) ∈ fv.vars) (hv : VarsOk fv.vars = true)
  (hk : fv.env.scope.kind = .function) (hx : fv.env.kindOf x = some .local ∨ fv.env.kindOf x = some .cell) (hc : (x == ("__classdict__" : Str)) = false := by decide) : SS prog w A C fv (exec (.AugAssign (.Name x pp) op value pos) fv.env) (sAug k f e) := by
 refine ⟨?_⟩
 intro φ st s o st' Q r ev h
 (dsimp only [sAug] at ev; simp only [sAug, oI, oM, Prod.mk.injEq] at ev)
 refine cps fun G hG => ?_
 obtain ⟨v, e1, y, e2, z, e3, rfl, rfl⟩ := ev
 refine hG ?_; clear hG
 refine wpAny_AugAssign_Name ((ev_load hm hk hc).run φ st s v _ r e1 fun h1 t1 v1 k1 r1 q1 => he.run φ st _ y _ r1 e2 fun h2 t2 v2 k2 r2 q2 => ?_)
 refine hf _ _ _ v y z v1 v2 _ e3 (q1.stays k2) q2 fun h3 t3 v3 k3 q3 => ?_
 exact (r2.stays k3).setVar hm hv hk hx q3 fun h4 t4 r4 k4 => h φ h4 t4 _ r4 (Ext.refl _ _) ((Eff.of_stays (k1.trans (k2.trans k3))).trans (Ext.refl _ _) k4) rfl
theorem SS.tryOk {body : List Stmt} {h₀ : ExceptHandler} {hs : List ExceptHandler} {pos : Pos} {env : Env} {a : MSt → Option (Out × MSt)} (ha : SS prog w A C fv (execs body env) a) : SS prog w A C fv (exec (.Try body (h₀ :: hs) [] [] pos) env) a := by
 refine ⟨?_⟩
 intro φ st s o st' Q r e h
 refine wpAny_Try_except (wpAny_mono (ha.run φ st s o st' (fun f s₁ => match f with | .next => wpAny (model prog w) A (execs [] env) Q NoE s₁ | f => Q f s₁) r e fun φ' h' tk f r' x' k' q' => ?_) (fun _ _ z => z) fun _ _ z => z.elim)
 have hq := h φ' h' tk f r' x' k' q'
 cases f with
 | next => exact wpAny_execs_nil hq
 | brk => exact hq
 | cont => exact hq
 | ret v => exact hq
end
end
section
noncomputable def IRel (wk : Bool) (h : Heap) (W : Addr → Prop) (φ : List (Option Addr)) (x : MV) (v : Value) : Prop :=
 match wk with
 | false => VR h W φ x v
 | true => ∃ (l : List MV) (T : Addr) (items : List Value), x = .tup l ∧ v = .ref T ∧ h.IsTuple T items.toArray ∧ VRs h W φ l items
section
variable {prog : Program} {w : World} {A : Around} {C : Cx} {fv : FV}
variable (prog w A C fv) in
structure SAW (wk : Bool) (f : Value → Sem Unit) (b : MV → MSt → Option MSt) : Prop where
 run : ∀ φ st s v rv st' Q, R prog w C fv φ st s.heap → b v st = some st' → IRel wk s.heap (C.av φ) φ v rv →
  (∀ h' tk, R prog w C fv φ st' h' → Eff C fv φ s.heap h' → Q () { s with heap := h', toks := tk }) → wpAny (model prog w) A (f rv) Q NoE s
theorem SA.weak {f : Value → Sem Unit} {b : MV → MSt → Option MSt} (h : SA prog w A C fv f b) : SAW prog w A C fv false f b := ⟨h.run⟩
theorem saw_tuple {elts : List Expr} {k : Nat} {pos : Pos} {bs : List (MV → MSt → Option MSt)} {env : Env} (hh : A.handled = none) (hb : SAL prog w A C fv ((assignEach elts env).map (·.2)) bs)
  (hstar : (assignEach elts env).findIdx? (·.1) = none := by rfl) : SAW prog w A C fv true (PySem.assign (.Tuple elts k pos) env) (bTup bs) := by
 refine ⟨?_⟩
 intro φ st s v rv st' Q r e q h
 have hlen : (assignEach elts env).length = bs.length := by have := hb.length; simpa using this
 refine cps fun G hG => ?_
 obtain ⟨l, T, items, rfl, rfl, ht, hi⟩ := q
 simp only [bTup] at e
 split at e
 ·rename_i hl
  refine hG ?_; clear hG
  refine wpAny_assign_Tuple hh ht (by rw [hlen, ← hl, hi.length]; simp) hstar fun h1 k1 => ?_
  have kk : Stays s.heap h1 := fun b o e => k1 b o (Nat.ne_of_lt (Heap.lt_size e)) e
  exact hb.run (r.stays kk) e (by simpa using hi.stays kk) fun h2 t2 r2 k2 => h h2 t2 r2 ((Eff.of_stays kk).trans (Ext.refl _ _) k2)
 ·(injection e; done)
theorem R.keepBut {φ : List (Option Addr)} {st : MSt} {h h' : Heap} {wr : List Addr} (r : R prog w C fv φ st h) (hk : ∀ c o, c ∉ wr → h.get? c = some o → h'.get? c = some o)
  (hw : ∀ c ∈ wr, ¬ C.hid c ∧ C.h₀.get? c = none ∧ c ≠ C.fn ∧ some c ∉ φ ∧ c ≠ fv.env.locals ∧ (∀ x c', fv.env.cells.lookup x = some c' → c ≠ c') ∧ ((∀ o, h.get? c = some o → ¬ IsSeq o) ∨ C.W0 c) ∧ (C.W0 c → ∃ o, h'.get? c = some o)) : R prog w C fv φ st h' := by
 have hseq : ∀ b o, ¬ C.av φ b → h.get? b = some o → IsSeq o → h'.get? b = some o ∧ ¬ C.av φ b := fun b o hb ho hs => ⟨hk b o (fun hm => (hw b hm).2.2.2.2.2.2.1.elim (fun g => g o ho hs) fun g => hb (.inl g)) ho, hb⟩
 have hns : ∀ a m, a ∉ wr → h.Ns a m → h'.Ns a m := fun a m ha hn => hn.at' fun o e => hk a o ha e
 have hla : fv.env.locals ∉ wr := fun hm => (hw _ hm).2.2.2.2.1 rfl
 have hfa : C.fn ∉ wr := fun hm => (hw _ hm).2.2.1 rfl
 have hca : ∀ x c, fv.env.cells.lookup x = some c → c ∉ wr := fun x c e hm => (hw _ hm).2.2.2.2.2.1 x c e rfl
 have hpa : ∀ a, some a ∈ φ → a ∉ wr := fun a ha hm => (hw _ hm).2.2.2.1 ha
 refine ⟨fun b o e => hk b o (fun hm => by rw [(hw b hm).2.1] at e; (injection e; done)) (r.base b o e), let ⟨m, e⟩ := r.fr; ⟨m, hns _ _ hfa e⟩, r.above, (fun b hb => by
  by_cases hm : b ∈ wr
  ·exact (hw b hm).2.2.2.2.2.2.2 hb
  ·obtain ⟨o, ho⟩ := r.av0 b hb
   exact ⟨o, hk b o hm ho⟩), fun p hp => ?_, r.len, fun i b o e1 e2 => ?_, fun b hb => ?_, r.nodup, r.new,
  let ⟨m, e⟩ := r.loc; ⟨m, hns _ _ hla e⟩, r.locNew, r.locOff, r.fnOff, r.celNew, r.celInj, fun x c e => let ⟨v, o, h1, h2⟩ := r.celIs x c e; ⟨v, o, hk c o (hca x c e) h1, h2⟩, r.celOff, r.hid_of fun b hb o e => hk b o (fun hm => (hw b hm).1 hb) e⟩
 ·obtain ⟨v, e1, e2⟩ := r.vars p hp
  refine ⟨v, ?_, OVR.mono hseq (fun _ _ e => e) e2⟩
  rcases e1 with ⟨h1, m, h2, h3⟩ | ⟨h1, c, h2, ob, h3, h4⟩
  ·exact .inl ⟨h1, m, hns _ _ hla h2, h3⟩
  ·exact .inr ⟨h1, c, h2, ob, hk c ob (hca _ c h2) h3, h4⟩
 ·exact ORel.mono hseq (fun _ _ e => e) (fun ob e => hk b ob (hpa b (List.mem_of_getElem? e1)) e) (r.sto i b o e1 e2)
 ·obtain ⟨o, e⟩ := r.live b hb; exact ⟨o, hk b o (hpa b hb) e⟩
noncomputable def Off (C : Cx) (fv : FV) (φ : List (Option Addr)) (b : Addr) : Prop := some b ∉ φ ∧ b ≠ fv.env.locals ∧ (∀ x c, fv.env.cells.lookup x = some c → b ≠ c) ∧ ¬ C.hid b
theorem R.off_new {φ : List (Option Addr)} {st : MSt} {h : Heap} (r : R prog w C fv φ st h) {a : Addr} (ha : h.get? a = none) : Off C fv φ a :=
 ⟨fun hm => let ⟨_, ho⟩ := r.live a hm; ng ha ho, fun e => let ⟨_, _, _, _, ho, _⟩ := r.loc; ng (e ▸ ha) ho, fun x _ hc e => let ⟨_, _, ho, _⟩ := r.celIs x _ hc; ng (e ▸ ha) ho, fun hh => let ⟨⟨_, ho, _⟩, _⟩ := r.hid a hh; ng ha ho⟩
structure Cum (C : Cx) (fv : FV) (φ φ' : List (Option Addr)) (wr : List Addr) (h h' : Heap) : Prop where
 keep : ∀ b o, h.get? b = some o → b ∉ wr → Off C fv φ b → h'.get? b = some o
 ext : Ext φ φ' h
theorem Ext.off {φ φ1 : List (Option Addr)} {h : Heap} {c : Addr} (x : Ext φ φ1 h) (hc : Off C fv φ c) (ho : ∃ o, h.get? c = some o) : Off C fv φ1 c :=
 ⟨fun hm => (x.mem c hm).elim hc.1 fun e => let ⟨_, ho⟩ := ho; ng e ho, hc.2⟩
theorem old_or {φ : List (Option Addr)} {h : Heap} {c : Addr} (f : some c ∉ φ → ∀ o, h.get? c = some o → False) : some c ∈ φ ∨ h.get? c = none := by
 by_cases hm : some c ∈ φ
 ·exact .inl hm
 ·cases e : h.get? c with
  | none => exact .inr rfl
  | some o => exact (f hm o e).elim
theorem Cum.step {φ φ1 φ2 : List (Option Addr)} {wr : List Addr} {h2 h1 h3 : Heap} {st1 : MSt} (cm : Cum C fv φ φ1 wr h2 h1) (r1 : R prog w C fv φ1 st1 h1) (hal : ∀ b ∈ wr, ∃ o, h1.get? b = some o) (ke : Eff C fv φ1 h1 h3) (x : Ext φ1 φ2 h1) : Cum C fv φ φ2 wr h2 h3 where
 keep := fun c ob e1 e2 e3 => let o1 := cm.ext.off e3 ⟨ob, e1⟩; ke c ob (cm.keep c ob e1 e2 e3) o1.1 o1.2.1 o1.2.2.1 o1.2.2.2
 ext := ⟨fun c hc => (x.mem c hc).elim (cm.ext.mem c) fun h4 => old_or fun hm o e => by
  by_cases hcw : c ∈ wr
  ·exact let ⟨_, ho⟩ := hal c hcw; ng h4 ho
  ·exact ng h4 (cm.keep c o e hcw ⟨hm, (r1.off_new h4).2⟩), fun i a e => x.grow i a (cm.ext.grow i a e)⟩
theorem Cum.next {φ0 φ φ1 : List (Option Addr)} {wr : List Addr} {h0 h2 h1 h3 : Heap} {st0 st1 : MSt} (r0 : R prog w C fv φ0 st0 h0) (hwr : ∀ b ∈ wr, h0.get? b = none) (hoff : ∀ c ∈ wr, Off C fv φ1 c) (cm : Cum C fv φ φ1 wr h2 h1) (r1 : R prog w C fv φ1 st1 h1)
  (hns : ∀ c ∈ wr, ∀ o, h1.get? c = some o → ¬ IsSeq o) (hk : ∀ c o, c ∉ wr → h1.get? c = some o → h3.get? c = some o) : Cum C fv φ φ1 wr h2 h3 ∧ R prog w C fv φ1 st1 h3 :=
 ⟨⟨fun c ob e1 e2 e3 => hk c ob e2 (cm.keep c ob e1 e2 e3), cm.ext⟩, r1.keepBut hk fun c hc => ⟨(hoff c hc).2.2.2, by
  cases e : C.h₀.get? c with
  | none => rfl
  | some ob => exact (ng (hwr c hc) (r0.base c ob e)).elim, fun e => let ⟨_, _, _, _, ho, _⟩ := r0.fr; ng (hwr _ hc) (e ▸ ho), (hoff c hc).1, (hoff c hc).2.1, (hoff c hc).2.2.1, .inl (hns c hc), fun hW => let ⟨_, ho⟩ := r0.av0 c hW; (ng (hwr c hc) ho).elim⟩⟩
theorem sub_step {i n : Nat} (h : i < n) : n + 1 - (i + 1) < n + 1 - i := Nat.sub_lt_sub_left (Nat.lt_succ_of_lt h) (Nat.lt_succ_self i)
structure LQ where
 h : Heap
 tk : Nat
 φ : List (Option Addr)
 st : MSt
 i : Nat
variable (prog w C fv) in
structure LI (φ : List (Option Addr)) (wr : List Addr) (h2 : Heap) (St : Nat → Heap → Prop) (J : Nat → Nat → MSt → Prop) (k : Nat) (q : LQ) : Prop where
 r : R prog w C fv q.φ q.st q.h
 it : St q.i q.h
 cm : Cum C fv φ q.φ wr h2 q.h
 j : J k q.i q.st
variable (prog w C fv) in
noncomputable def LInv (s : Shared) (φ : List (Option Addr)) (wr : List Addr) (h2 : Heap) (St : Nat → Heap → Prop) (J : Nat → Nat → MSt → Prop) (k : Nat) (s' : Shared) : Prop :=
 ∃ q : LQ, s' = { s with heap := q.h, toks := q.tk } ∧ LI prog w C fv φ wr h2 St J k q
noncomputable def outP (N : Prop) (B : Flow → Prop) : Flow → Prop
 | .next => N
 | .cont => N
 | .brk => B .next
 | .ret v => B (.ret v)
noncomputable def outE (X : Option (Out × MSt)) (st6 : MSt) (r : Option (Out × MSt)) : Out → Prop
 | .next => X = r
 | .cont => X = r
 | .brk => some (.next, st6) = r
 | .ret v => some (.ret v, st6) = r
theorem loop_out {h : Heap} {W : Addr → Prop} {φ : List (Option Addr)} {o p : Out} {f : Flow} {st6 st' : MSt} {X : Option (Out × MSt)} {N : Prop} {B : Flow → Prop} (q : FR h W φ p f) (em : outE X st6 (some (o, st')) p) (hN : X = some (o, st') → N)
  (hB : ∀ g, FR h W φ o g → st6 = st' → B g) : outP N B f := by
 cases p with
 | next => subst q; exact hN em
 | cont => subst q; exact hN em
 | brk => subst q; injection em with em; injection em with em e2; subst em; exact hB _ rfl e2
 | ret v => obtain ⟨ru, rfl, qu⟩ := q; injection em with em; injection em with em e2; subst em; exact hB _ ⟨ru, rfl, qu⟩ e2
variable (prog w C fv) in
structure WI (s : Shared) (φ : List (Option Addr)) (J : Nat → MSt → Prop) (k : Nat) (q : LQ) : Prop where
 r : R prog w C fv q.φ q.st q.h
 x : Ext φ q.φ s.heap
 e : Eff C fv φ s.heap q.h
 j : J k q.st
variable (prog w C fv) in
noncomputable def WInv (s : Shared) (φ : List (Option Addr)) (J : Nat → MSt → Prop) (k : Nat) (s' : Shared) : Prop :=
 ∃ q : LQ, s' = { s with heap := q.h, toks := q.tk } ∧ WI prog w C fv s φ J k q
variable (prog w A C fv) in
structure ItC (wk : Bool) (target : Expr) (φ : List (Option Addr)) (h : Heap) (xs : List MV) (I : Addr) (sh : Heap) (fp wr : List Addr) (P : Nat → Value → Heap → Prop) (Md : Nat → Value → Heap → Prop) (St : Nat → Heap → Prop) : Prop where
 W : KTurns prog w A target I fp wr xs.length P Md St
 st0 : St 0 h
 hfp : ∀ b ∈ fp, (∃ o, h.get? b = some o) ∧ Off C fv φ b
 hwr : ∀ b ∈ wr, sh.get? b = none
 halive : ∀ i h', St i h' → (∀ b ∈ fp, ∃ o, h'.get? b = some o) ∧ ∀ b ∈ wr, ∀ o, h'.get? b = some o → ¬ IsSeq o
 hself : ∀ i (s : Shared) (Q : Value → Shared → Prop) (E : Value → Shared → Prop), St i s.heap → Q (.ref I) s → wpAny (model prog w) A (pyIter (.ref I)) Q E s
 hitem : ∀ (i : Nat) v x h' φ' (W' : Addr → Prop), P i v h' → xs[i]? = some x → Cum C fv φ φ' wr h h' → (∀ a, W' a → C.W0 a ∨ h.get? a = none) → IRel wk h' (fun a => W' a ∨ some a ∈ φ') φ' x v
variable (prog w A C fv) in
noncomputable def ItOk (wk : Bool) (target : Expr) (φ : List (Option Addr)) (h : Heap) (xs : List MV) (I : Addr) (sh : Heap) : Prop :=
 ∃ fp wr P Md St, ItC prog w A C fv wk target φ h xs I sh fp wr P Md St
variable (prog w A C fv) in
structure SI (wk : Bool) (target iter : Expr) (e : MSt → Option (List MV)) : Prop where
 run : ∀ φ st s xs Q, R prog w C fv φ st s.heap → e st = some xs →
  (∀ h2 tk I, Stays s.heap h2 → R prog w C fv φ st h2 → ItOk prog w A C fv wk target φ h2 xs I s.heap → Q (.ref I) { s with heap := h2, toks := tk }) →
  wpAny (model prog w) A (eval iter fv.env) (fun x s1 => wpAny (model prog w) A (pyIter x) Q NoE s1) NoE s
noncomputable def mfor (b : MV → MSt → Option MSt) (body orelse : MSt → Option (Out × MSt)) : List MV → MSt → Option (Out × MSt)
 | [], st => orelse st
 | x :: xs, st => (b x st).bind fun st1 => (body st1).bind fun p => match p.1 with
  | .next => mfor b body orelse xs p.2
  | .cont => mfor b body orelse xs p.2
  | .brk => some (.next, p.2)
  | .ret v => some (.ret v, p.2)
theorem mfor_n {b : MV → MSt → Option MSt} {body orelse : MSt → Option (Out × MSt)} {st : MSt} : mfor b body orelse [] st = orelse st := rfl
theorem mfor_c {b : MV → MSt → Option MSt} {body orelse : MSt → Option (Out × MSt)} {st : MSt} {x : MV} {xs : List MV} : mfor b body orelse (x :: xs) st = ((b x st).bind fun st1 => (body st1).bind fun p => match p.1 with
  | .next => mfor b body orelse xs p.2
  | .cont => mfor b body orelse xs p.2
  | .brk => some (.next, p.2)
  | .ret v => some (.ret v, p.2)) := rfl
noncomputable def sFor (e : MSt → Option (List MV)) (b : MV → MSt → Option MSt) (body orelse : MSt → Option (Out × MSt)) : MSt → Option (Out × MSt) := fun st => (e st).bind fun xs => mfor b body orelse xs st
theorem SS.for {wk : Bool} {target iter : Expr} {body orelse : List Stmt} {pos : Pos} {e : MSt → Option (List MV)} {b : MV → MSt → Option MSt} {mb mo : MSt → Option (Out × MSt)} (he : SI prog w A C fv wk target iter e)
  (hb : SAW prog w A C fv wk (PySem.assign target fv.env) b) (hbody : SS prog w A C fv (execs body fv.env) mb) (hor : SS prog w A C fv (execs orelse fv.env) mo) (hs : ∀ x, foldedSetIterable iter fv.env x = pure x := by intro _; rfl) :
  SS prog w A C fv (exec (.For target iter body orelse pos) fv.env) (sFor e b mb mo) := by
 refine ⟨?_⟩
 intro φ st s o st' Q r ev h
 (dsimp only [sFor] at ev; simp only [sFor, oI] at ev)
 obtain ⟨xs, ex, ev⟩ := ev
 refine wpAny_For (he.run φ st s xs _ r ex fun h2 tk I k2 r2 it => ?_) hs
 refine cps fun G hG => ?_
 obtain ⟨fp, wr, P, Md, St, W, st0, hfp, hwr, halive, _, hitem⟩ := it
 refine hG ?_
 have fin : ∀ φ' h' tk f, R prog w C fv φ' st' h' → Cum C fv φ φ' wr h2 h' → FR h' (C.av φ') φ' o f → Q f { s with heap := h', toks := tk } := by
  intro φ' h' tk f r' cm q
  refine h φ' h' tk f r' (cm.ext.stays k2) (fun c ob e1 e2 e3 e4 e5 => cm.keep c ob (k2 c ob e1) (fun hm => ?_) ⟨e2, e3, e4, e5⟩) q
  exact (ng (hwr c hm) e1).elim
 have offAt : ∀ {φ1 : List (Option Addr)}, Ext φ φ1 h2 → ∀ c ∈ fp, Off C fv φ1 c := fun x c hc => x.off (hfp c hc).2 (hfp c hc).1
 let J : Nat → Nat → MSt → Prop := fun k i st1 => mfor b mb mo (xs.drop i) st1 = some (o, st') ∧ i ≤ xs.length ∧ k = xs.length + 1 - i
 refine codeAny_forLoop_any (LInv prog w C fv s φ wr h2 St J) ?_ (xs.length + 1)
  ⟨⟨h2, tk, φ, st, 0⟩, rfl, r2, st0, ⟨fun _ _ e _ _ => e, Ext.refl _ _⟩, by simpa using ev, Nat.zero_le _, rfl⟩
 intro k s' hX
 refine cps fun G hG => ?_
 obtain ⟨⟨h1, tk1, φ1, st1, i⟩, es, ⟨r1, sti, cm, em, hi, ek⟩⟩ := hX
 dsimp only at r1 sti cm em hi ek es
 refine hG ?_
 clear hG
 subst es ek
 have hoff : ∀ c ∈ wr, Off C fv φ1 c := fun c hc => offAt cm.ext c (W.sub c hc)
 by_cases hlt : i < xs.length
 ·have hx : xs[i]? = some xs[i] := List.getElem?_eq_getElem hlt
  rw [List.drop_eq_getElem_cons hlt] at em
  (dsimp only [mfor_n, mfor_c] at em; simp only [mfor_n, mfor_c, oI] at em)
  refine cps fun G hG => ?_
  obtain ⟨st2, e2, ⟨p, st3⟩, e3, e4⟩ := em
  refine hG ?_
  refine W.item i _ _ _ hlt sti fun v h3 tk3 hMd hk3 => ?_
  refine W.go i v _ _ _ hMd fun h4 hP hst4 hk4 => ?_
  have hal4 : ∀ c ∈ wr, ∃ o, h4.get? c = some o := fun c hc => (halive _ _ hst4).1 c (W.sub c hc)
  have cr4 := Cum.next r hwr hoff cm r1 (halive _ _ sti).2 (fun c o hc e => hk4 c o hc (hk3 c o hc e))
  have cm4 := cr4.1
  have r4 := cr4.2
  have hI := hitem i v _ _ _ C.W0 hP hx cm4 fun a ha => .inl ha
  refine wpAny_mono (hb.run φ1 st1 { s with heap := h4, toks := tk3 } _ v st2 (fun _ s₂ => wpAny (model prog w) A (execs body fv.env) (fun f s₃ => outP (∃ m, m < xs.length + 1 - i ∧ LInv prog w C fv s φ wr h2 St J m s₃) (fun g => Q g s₃) f) NoE s₂) r4 e2 hI fun h5 tk5 r5 k5 => ?_) (fun _ _ z => wpAny_mono z (fun f s₃ z => ?_) fun _ _ z => z.elim) fun _ _ z => z.elim
  ·have cm5 := Cum.step cm4 r4 hal4 k5 (Ext.refl _ _)
   have st5 : St (i + 1) h5 := W.frame _ _ _ hst4 fun c hc ob e => k5 c ob e (offAt cm4.ext c hc).1 (offAt cm4.ext c hc).2.1 (offAt cm4.ext c hc).2.2.1 (offAt cm4.ext c hc).2.2.2
   have hal5 : ∀ c ∈ wr, ∃ o, h5.get? c = some o := fun c hc => (halive _ _ st5).1 c (W.sub c hc)
   refine hbody.run φ1 st2 _ p st3 _ r5 e3 fun φ6 h6 tk6 f r6 x6 k6 q6 => ?_
   have cm6 := Cum.step cm5 r5 hal5 k6 x6
   have st6 : St (i + 1) h6 := W.frame _ _ _ st5 fun c hc ob e => k6 c ob e (offAt cm5.ext c hc).1 (offAt cm5.ext c hc).2.1 (offAt cm5.ext c hc).2.2.1 (offAt cm5.ext c hc).2.2.2
   exact loop_out q6 (X := mfor b mb mo (xs.drop (i + 1)) st3) (st6 := st3) (by cases p <;> exact e4) (fun e4 => ⟨xs.length + 1 - (i + 1), sub_step hlt, ⟨h6, tk6, φ6, st3, i + 1⟩, rfl, r6, st6, cm6, e4, hlt, rfl⟩) fun g qg e => fin φ6 h6 tk6 g (e ▸ r6) cm6 qg
  ·cases f <;> exact z
 ·have hin : i = xs.length := by omega
  subst hin
  rw [List.drop_length] at em
  dsimp only [mfor_n, mfor_c] at em
  refine W.done _ _ _ sti fun h3 tk3 hk3 => ?_
  obtain ⟨cm3, r3⟩ := Cum.next r hwr hoff cm r1 (halive _ _ sti).2 hk3
  refine wpAny_mono (hor.run φ1 st1 { s with heap := h3, toks := tk3 } o st' Q r3 em fun φ6 h6 tk6 f r6 x6 k6 q6 => ?_) (fun _ _ z => z) fun _ _ z => z.elim
  have notwr : ∀ c ob, s.heap.get? c = some ob → c ∉ wr := fun c ob e hm => ng (hwr c hm) e
  refine h φ6 h6 tk6 f r6 ⟨fun c hc => old_or fun hm ob e => ?_, fun i a e => x6.grow i a (cm3.ext.grow i a e)⟩ (fun c ob e1 e2 e3 e4 e4' => ?_) q6
  ·have e2 := k2 c ob e
   rcases x6.mem c hc with h7 | h7
   ·exact (cm3.ext.mem c h7).elim hm fun h8 => ng h8 e2
   ·exact ng h7 (cm3.keep c ob e2 (notwr c ob e) ⟨hm, (r3.off_new h7).2⟩)
  ·have e5 := cm3.keep c ob (k2 c ob e1) (notwr c ob e1) ⟨e2, e3, e4, e4'⟩
   exact k6 c ob e5 (fun hm => (cm3.ext.mem c hm).elim e2 fun e => ng e (k2 c ob e1)) e3 e4 e4'
end
end
section
section
variable {prog : Program} {w : World} {A : Around} {C : Cx} {fv : FV} {K : Frag}
theorem go_plain {target : Expr} {I : Addr} {v : Value} {s : Shared} {Q : Unit → Shared → Prop} {E : Value → Shared → Prop} {n : String} {vs : Array Value} {o : Obj} (ho : s.heap.get? I = some o) (hc : o.cls = .type n) (hd : o.data = .fields vs)
  (hn : ["enumerate", "zip", "dict_itemiterator", "dict_reverseitemiterator", "odict_iterator", "itertools.zip_longest", "itertools.pairwise"].contains n = false) (h : Q () s) :
  wpAny (model prog w) A (letOwnedTupleGo target (.ref I) v) Q E s := by
 have key : wpAny (model prog w) A (do
   let (.ref r, .ref _) := (Value.ref I, v) | return
   let o ← load r
   match o.cls, o.data with
   | .type n, .fields vs =>
    if ["enumerate", "zip", "dict_itemiterator", "dict_reverseitemiterator", "odict_iterator", "itertools.zip_longest", "itertools.pairwise"].contains n && vs[0]? == some (rawInt (match v with | .ref a => a | _ => 0)) then
     rule "for.unpacks-the-owned-tuple"
     updateField r 0 .none
   | _, _ => pure ()) Q E s := by
  cases v <;> try exact wpAny_pure h
  refine wpAny_bind (wpAny_load ho ?_)
  rw [hc, hd]
  simp only [hn, Bool.false_and, Bool.false_eq_true, if_false]
  exact wpAny_pure h
 cases target <;> first | exact wpAny_pure h | skip
 all_goals (cases v <;> first | exact wpAny_pure h | skip)
 all_goals exact key
theorem VR.cum {φ φ' : List (Option Addr)} {st : MSt} {wr : List Addr} {h h' : Heap} {W' : Addr → Prop} (r : R prog w C fv φ st h) (hns : ∀ b ∈ wr, ∀ o, h.get? b = some o → ¬ IsSeq o) (cm : Cum C fv φ φ' wr h h') (hW : ∀ a, W' a → C.W0 a ∨ h.get? a = none)
  {x : MV} {v : Value} (hn : Mine.noRef x = true) (q : VR h (C.av φ) φ x v) : VR h' (fun a => W' a ∨ some a ∈ φ') φ' x v := by
 refine VR.noRef x (VR.mono (φ' := φ) (fun b o hb ho hs => ⟨cm.keep b o ho (fun hm => hns b hm o ho hs) ⟨fun e => hb (.inr e), ?_, ?_, fun hh => let ⟨⟨o', g1, g2, _⟩, _⟩ := r.hid b hh; by rw [ho] at g1; (injection g1 with g1; subst g1); exact g2 hs⟩, ?_⟩) (fun _ _ e => e) x q) hn
 ·obtain ⟨m, hl⟩ := r.loc; exact seq_ne_dict hl ho hs
 ·intro y c hc
  obtain ⟨u, hu⟩ := r.celIs y c hc
  exact seq_ne_cell hu ho hs
 ·rintro (h1 | h1)
  ·rcases hW b h1 with h2 | h2
   ·exact hb (.inl h2)
   ·rw [ho] at h2; (injection h2; done)
  ·rcases cm.ext.mem b h1 with h2 | h2
   ·exact hb (.inr h2)
   ·rw [ho] at h2; (injection h2; done)
theorem noRefs_get : ∀ {l : List MV} {i : Nat} {x : MV}, noRefs l = true → l[i]? = some x → Mine.noRef x = true
 | [], _, _, _, e => by simp at e
 | y :: l, 0, x, h, e => by
  simp only [nRs1, nRs2, Bool.and_eq_true] at h
  simp at e; subst e; exact h.1
 | y :: l, i + 1, x, h, e => by
  simp only [nRs1, nRs2, Bool.and_eq_true] at h
  exact noRefs_get (l := l) (i := i) h.2 (by simpa using e)
theorem R.off_seq {φ : List (Option Addr)} {st : MSt} {h : Heap} (r : R prog w C fv φ st h) {a : Addr} {o : Obj} (ha : h.get? a = some o) (hs : IsSeq o) (hW : ¬ C.av φ a) : Off C fv φ a := by
 refine ⟨fun hm => hW (.inr hm), ?_, ?_, fun hh => let ⟨⟨o', g1, g2, _⟩, _⟩ := r.hid a hh; by rw [ha] at g1; (injection g1 with g1; subst g1); exact g2 hs⟩
 ·obtain ⟨m, hl⟩ := r.loc; exact seq_ne_dict hl ha hs
 ·intro x c hc
  obtain ⟨v, hv⟩ := r.celIs x c hc; exact seq_ne_cell hv ha hs
theorem it_list {target : Expr} {φ : List (Option Addr)} {st : MSt} {h sh : Heap} {b : Addr} {items : List Value} {xs : List MV} (hh : A.handled = none) (r : R prog w C fv φ st h) (hk : Stays sh h) (hW : ¬ C.av φ b) (hl : h.IsList b items.toArray) (hi : VRs h (C.av φ) φ xs items) (hn : noRefs xs = true) :
  ItOk prog w A C fv false target φ (h.push { cls := .type "list_iterator", data := .fields #[.ref b, .int 0 0] }) xs h.objs.size sh := by
 have hne : b ≠ h.objs.size := by obtain ⟨o, ho, _⟩ := hl; exact Nat.ne_of_lt (Heap.lt_size ho)
 have W := Walks.list (prog := prog) (w := w) hh h.objs.size b hne items.toArray
 rw [show items.toArray.size = xs.length by simp [hi.length]] at W
 have kp := Stays.push h { cls := .type "list_iterator", data := .fields #[.ref b, .int 0 0] }
 have hgo : ∀ i v (s : Shared) (Q : Unit → Shared → Prop) (E : Value → Shared → Prop), (s.heap.IsListIter h.objs.size b i ∧ s.heap.IsList b items.toArray) → Q () s → wpAny (model prog w) A (letOwnedTupleGo target (.ref h.objs.size) v) Q E s :=
  fun i v s Q E st hQ => let ⟨o, ho, hc, hd⟩ := st.1; go_plain ho hc hd (by decide) hQ
 have nsq : ∀ c ∈ [h.objs.size], ∀ o, (h.push { cls := .type "list_iterator", data := .fields #[.ref b, .int 0 0] }).get? c = some o → ¬ IsSeq o := by
  intro c hc o ho ⟨a, n, hd⟩
  simp only [List.mem_singleton] at hc
  subst hc
  rw [Heap.get?_push_size _ rfl] at ho
  (injection ho with ho; subst ho); (injection hd; done)
 refine ⟨_, _, _, _, _, KTurns.ofWalks W hgo, ⟨⟨_, Heap.get?_push_size _ rfl, rfl, rfl⟩, hl.push _⟩, fun c hc => ?_, fun c hc => ?_, fun i h' st => ⟨fun c hc => ?_, fun c hc o ho => ?_⟩, W.self, fun i v x h' φ' W' hP hx cm hW' => ?_⟩
 ·simp only [List.mem_cons, List.not_mem_nil, or_false] at hc
  rcases hc with rfl | rfl
  ·exact ⟨⟨_, Heap.get?_push_size _ rfl⟩, r.off_new (get?_size_none h)⟩
  ·obtain ⟨o, ho, _, n, hd⟩ := hl
   exact ⟨⟨o, kp _ _ ho⟩, r.off_seq ho ⟨_, _, hd⟩ hW⟩
 ·simp only [List.mem_singleton] at hc
  subst hc
  cases e : sh.get? h.objs.size with
  | none => rfl
  | some o => have := hk _ _ e; rw [get?_size_none] at this; (injection this; done)
 ·simp only [List.mem_cons, List.not_mem_nil, or_false] at hc
  rcases hc with rfl | rfl
  ·obtain ⟨o, ho, _⟩ := st.1; exact ⟨o, ho⟩
  ·obtain ⟨o, ho, _⟩ := st.2; exact ⟨o, ho⟩
 ·simp only [List.mem_singleton] at hc
  subst hc
  obtain ⟨o', ho', _, hd⟩ := st.1
  rw [ho'] at ho; (injection ho with ho; subst ho)
  rintro ⟨a, n, hd'⟩; rw [hd] at hd'; (injection hd'; done)
 ·obtain ⟨u, hu, hv⟩ := hi.get i x hx
  have : u = v := by
   have hP' : items.toArray[i]? = some v := hP
   rw [List.getElem?_toArray, hu] at hP'; exact Option.some.inj hP'
  subst this
  exact VR.cum (r.stays kp) nsq cm hW' (noRefs_get hn hx) (hv.stays kp)
theorem it_tup {target : Expr} {φ : List (Option Addr)} {st : MSt} {h sh : Heap} {b : Addr} {items : List Value} {xs : List MV} (hh : A.handled = none) (r : R prog w C fv φ st h) (hk : Stays sh h) (hW : ¬ C.av φ b) (hl : h.IsTuple b items.toArray) (hi : VRs h (C.av φ) φ xs items) (hn : noRefs xs = true) :
  ItOk prog w A C fv false target φ (h.push { cls := .type "tuple_iterator", data := .fields #[.ref b, .int 0 0] }) xs h.objs.size sh := by
 have hne : b ≠ h.objs.size := by obtain ⟨o, ho, _⟩ := hl; exact Nat.ne_of_lt (Heap.lt_size ho)
 have W := Walks.tuple (prog := prog) (w := w) hh h.objs.size b hne items.toArray
 rw [show items.toArray.size = xs.length by simp [hi.length]] at W
 have kp := Stays.push h { cls := .type "tuple_iterator", data := .fields #[.ref b, .int 0 0] }
 have hgo : ∀ i v (s : Shared) (Q : Unit → Shared → Prop) (E : Value → Shared → Prop), (s.heap.IsTupleIter h.objs.size b i ∧ s.heap.IsTuple b items.toArray) → Q () s → wpAny (model prog w) A (letOwnedTupleGo target (.ref h.objs.size) v) Q E s :=
  fun i v s Q E st hQ => let ⟨o, ho, hc, hd⟩ := st.1; go_plain ho hc hd (by decide) hQ
 have nsq : ∀ c ∈ [h.objs.size], ∀ o, (h.push { cls := .type "tuple_iterator", data := .fields #[.ref b, .int 0 0] }).get? c = some o → ¬ IsSeq o := by
  intro c hc o ho ⟨a, n, hd⟩
  simp only [List.mem_singleton] at hc
  subst hc
  rw [Heap.get?_push_size _ rfl] at ho
  (injection ho with ho; subst ho); (injection hd; done)
 refine ⟨_, _, _, _, _, KTurns.ofWalks W hgo, ⟨⟨_, Heap.get?_push_size _ rfl, rfl, rfl⟩, hl.at fun o e => kp _ _ e⟩, fun c hc => ?_, fun c hc => ?_, fun i h' st => ⟨fun c hc => ?_, fun c hc o ho => ?_⟩, W.self, fun i v x h' φ' W' hP hx cm hW' => ?_⟩
 ·simp only [List.mem_cons, List.not_mem_nil, or_false] at hc
  rcases hc with rfl | rfl
  ·exact ⟨⟨_, Heap.get?_push_size _ rfl⟩, r.off_new (get?_size_none h)⟩
  ·obtain ⟨o, ho, _, n, hd⟩ := hl
   exact ⟨⟨o, kp _ _ ho⟩, r.off_seq ho ⟨_, _, hd⟩ hW⟩
 ·simp only [List.mem_singleton] at hc
  subst hc
  cases e : sh.get? h.objs.size with
  | none => rfl
  | some o => have := hk _ _ e; rw [get?_size_none] at this; (injection this; done)
 ·simp only [List.mem_cons, List.not_mem_nil, or_false] at hc
  rcases hc with rfl | rfl
  ·obtain ⟨o, ho, _⟩ := st.1; exact ⟨o, ho⟩
  ·obtain ⟨o, ho, _⟩ := st.2; exact ⟨o, ho⟩
 ·simp only [List.mem_singleton] at hc
  subst hc
  obtain ⟨o', ho', _, hd⟩ := st.1
  rw [ho'] at ho; (injection ho with ho; subst ho)
  rintro ⟨a, n, hd'⟩; rw [hd] at hd'; (injection hd'; done)
 ·obtain ⟨u, hu, hv⟩ := hi.get i x hx
  have : u = v := by
   have hP' : items.toArray[i]? = some v := hP
   rw [List.getElem?_toArray, hu] at hP'; exact Option.some.inj hP'
  subst this
  exact VR.cum (r.stays kp) nsq cm hW' (noRefs_get hn hx) (hv.stays kp)
noncomputable def iSeq (a : MSt → Option MV) : MSt → Option (List MV) := fun st => (a st).bind fun x => match x with
 | .lst l => if noRefs l then some l else none
 | .tup l => if noRefs l then some l else none
 | _ => none
theorem SI.seq {target iter : Expr} {a : MSt → Option MV} (hh : A.handled = none) (ha : SE prog w A C fv (eval iter fv.env) a) : SI prog w A C fv false target iter (iSeq a) := by
 refine ⟨?_⟩
 intro φ st s xs Q r e h
 simp only [iSeq, oI] at e
 refine cps fun G hG => ?_
 obtain ⟨x, ex, e⟩ := e
 refine hG ?_; clear hG
 refine ha.run φ st s x _ r ex fun h1 t1 v1 k1 r1 q1 => ?_
 refine cps fun G hG => ?_
 cases x <;> simp only [reduceCtorEq] at e
 ·split at e <;> cases e
  rename_i hn
  simp only [vR1, vR2, vR3, vR4, vR5, vR6, vR7, vR8] at q1
  obtain ⟨b, items, rfl, hW, hl, hi⟩ := q1
  have kp := Stays.push h1 { cls := .type "tuple_iterator", data := .fields #[.ref b, .int 0 0] }
  refine hG ?_; clear hG
  exact wpAny_pyIter_tuple hl (h _ _ _ (k1.trans kp) (r1.stays kp) (it_tup hh r1 k1 hW hl hi hn))
 ·split at e <;> cases e
  rename_i hn
  simp only [vR1, vR2, vR3, vR4, vR5, vR6, vR7, vR8] at q1
  obtain ⟨b, items, rfl, hW, hl, hi⟩ := q1
  have kp := Stays.push h1 { cls := .type "list_iterator", data := .fields #[.ref b, .int 0 0] }
  refine hG ?_; clear hG
  exact wpAny_pyIter_list hl (h _ _ _ (k1.trans kp) (r1.stays kp) (it_list hh r1 k1 hW hl hi hn))
noncomputable def rangeL (a b : Int) : List MV := (List.range (b - a).toNat).map fun i => MV.int (a + (i : Nat))
theorem it_range {target : Expr} {φ : List (Option Addr)} {st : MSt} {h sh : Heap} {a b : Int} (hh : A.handled = none) (r : R prog w C fv φ st h) (hk : Stays sh h) :
  ItOk prog w A C fv false target φ (h.push { cls := .type "range_iterator", data := .fields #[rawInt a, rawInt ((b - a).toNat : Int), rawInt 1] }) (rangeL a b) h.objs.size sh := by
 have W := Walks.range (prog := prog) (w := w) hh h.objs.size a 1 (b - a).toNat
 rw [show (b - a).toNat = (rangeL a b).length by simp [rangeL]] at W
 have kp := Stays.push h { cls := .type "range_iterator", data := .fields #[rawInt a, rawInt ((b - a).toNat : Int), rawInt 1] }
 refine ⟨_, _, _, _, _, KTurns.ofWalks W fun i v s Q E st hQ => go_plain st rfl rfl (by decide) hQ, ?_, fun c hc => ?_, fun c hc => ?_, fun i h' st => ⟨fun c hc => ?_, fun c hc o ho => ?_⟩, W.self, fun i v x h' φ' W' hP hx cm hW' => ?_⟩
 ·have e1 : (a + ((0 : Nat) : Int) * 1) = a := by simp
  have e2 : (((rangeL a b).length : Int) - ((0 : Nat) : Int)) = ((b - a).toNat : Int) := by simp [rangeL]
  show IsRangeIter _ _ _ _ _
  rw [e1, e2]
  exact Heap.get?_push_size _ rfl
 ·simp only [List.mem_singleton] at hc
  subst hc
  exact ⟨⟨_, Heap.get?_push_size _ rfl⟩, r.off_new (get?_size_none h)⟩
 ·simp only [List.mem_singleton] at hc
  subst hc
  cases e : sh.get? h.objs.size with
  | none => rfl
  | some o => have := hk _ _ e; rw [get?_size_none] at this; (injection this; done)
 ·simp only [List.mem_singleton] at hc
  subst hc
  exact ⟨_, st⟩
 ·simp only [List.mem_singleton] at hc
  subst hc
  have st' : h'.get? h.objs.size = _ := st
  rw [st'] at ho; (injection ho with ho; subst ho)
  rintro ⟨a, n, hd'⟩; (injection hd'; done)
 ·obtain ⟨t, rfl⟩ := hP
  simp only [rangeL, List.getElem?_map, oM] at hx
  obtain ⟨j, hj, rfl⟩ := hx
  have : j = i := by
   have := List.getElem?_eq_some_iff.mp hj
   obtain ⟨h1, h2⟩ := this
   simpa using h2.symm
  subst this
  show VR _ _ _ _ _
  rw [show a + (j : Int) * 1 = a + (j : Int) by omega]
  exact vr_int
noncomputable def iRange1 (e : MSt → Option MV) : MSt → Option (List MV) := fun st => (e st).bind fun x => (asInt x).bind fun n => if -1000000 ≤ n ∧ n ≤ 1000000 then some (rangeL 0 n) else none
noncomputable def iRange2 (e f : MSt → Option MV) : MSt → Option (List MV) := fun st => (e st).bind fun x => (f st).bind fun y => (asInt x).bind fun a => (asInt y).bind fun b => if -1000000 ≤ a ∧ a ≤ 1000000 ∧ -1000000 ≤ b ∧ b ≤ 1000000 then some (rangeL a b) else none
theorem SI.range1 {target x : Expr} {np pos : Pos} {e : MSt → Option MV} (hh : A.handled = none) (hT : TopOk K C.h₀) (he : EnvOk fv.env) (hx : fv.env.kindOf "range" = some .globalImplicit) (hg : nsIn K mainGlobals "range" = some none)
  (ha : SE prog w A C fv (eval x fv.env) e) (hse : backTo pos (starEach [x] fv.env) = [(false, eval x fv.env)] := by rfl) : SI prog w A C fv false target (.Call (.Name "range" np) [x] [] pos) (iRange1 e) := by
 refine ⟨?_⟩
 intro φ st s xs Q r ev h
 simp only [iRange1, oI] at ev
 refine cps fun G hG => ?_
 obtain ⟨y, ey, n, en, ev⟩ := ev
 split at ev <;> cases ev
 rename_i hb
 cases y <;> simp only [asInt, reduceCtorEq] at en
 cases en
 refine hG ?_; clear hG
 refine wpAny_Call_NameR (ev_builtin hT he hx hg boot_range (by decide) r ?_)
 rw [hse]
 refine PySem.callWith_type rfl (evalArgs_plain (spliced_cons (ha.run φ st s _ _ r ey fun h1 t1 v1 k1 r1 q1 => spliced_nil ?_)))
 obtain ⟨t, rfl⟩ := vr_int_inv q1
 refine call_range_1 ?_
 refine wpAny_pyIter_range (IsRange.new ..) (small_one (by decide) (by decide) (by omega) (by omega)) ?_
 have hsz : Builtin.Range.rangeSize 0 n 1 = ((n - 0).toNat : Int) := by rw [rangeSize_one]; split <;> omega
 rw [hsz]
 have kp1 := Stays.push h1 { cls := .type "range", data := .fields #[.int 0 t1, .int n t, .int 1 (t1 + 1)] }
 have kp2 := Stays.push (h1.push { cls := .type "range", data := .fields #[.int 0 t1, .int n t, .int 1 (t1 + 1)] }) { cls := .type "range_iterator", data := .fields #[rawInt 0, rawInt ((n - 0).toNat : Int), rawInt 1] }
 exact h _ _ _ (k1.trans (kp1.trans kp2)) (r1.stays (kp1.trans kp2)) (it_range hh (r1.stays kp1) (k1.trans kp1))
theorem SI.range2 {target x y : Expr} {np pos : Pos} {e f : MSt → Option MV} (hh : A.handled = none) (hT : TopOk K C.h₀) (he : EnvOk fv.env) (hx : fv.env.kindOf "range" = some .globalImplicit) (hg : nsIn K mainGlobals "range" = some none)
  (ha : SE prog w A C fv (eval x fv.env) e) (hb : SE prog w A C fv (eval y fv.env) f) (hse : backTo pos (starEach [x, y] fv.env) = [(false, eval x fv.env), (false, eval y fv.env)] := by rfl) : SI prog w A C fv false target (.Call (.Name "range" np) [x, y] [] pos) (iRange2 e f) := by
 refine ⟨?_⟩
 intro φ st s xs Q r ev h
 simp only [iRange2, oI] at ev
 refine cps fun G hG => ?_
 obtain ⟨u, eu, v, ev1, n, en, m, em, ev⟩ := ev
 split at ev <;> cases ev
 rename_i hc
 cases u <;> simp only [asInt, reduceCtorEq] at en
 cases v <;> simp only [asInt, reduceCtorEq] at em
 refine hG ?_; clear hG
 cases en; cases em
 refine wpAny_Call_NameR (ev_builtin hT he hx hg boot_range (by decide) r ?_)
 rw [hse]
 refine PySem.callWith_type rfl (evalArgs_plain (spliced_cons (ha.run φ st s _ _ r eu fun h1 t1 v1 k1 r1 q1 => spliced_cons (hb.run φ st _ _ _ r1 ev1 fun h2 t2 v2 k2 r2 q2 => spliced_nil ?_))))
 obtain ⟨t, rfl⟩ := vr_int_inv q1
 obtain ⟨t', rfl⟩ := vr_int_inv q2
 refine call_range_2 ?_
 refine wpAny_pyIter_range (IsRange.new ..) (small_one (by omega) (by omega) (by omega) (by omega)) ?_
 have hsz : Builtin.Range.rangeSize n m 1 = ((m - n).toNat : Int) := by rw [rangeSize_one]; split <;> omega
 rw [hsz]
 have kp1 := Stays.push h2 { cls := .type "range", data := .fields #[.int n t, .int m t', .int 1 t2] }
 have kp2 := Stays.push (h2.push { cls := .type "range", data := .fields #[.int n t, .int m t', .int 1 t2] }) { cls := .type "range_iterator", data := .fields #[rawInt n, rawInt ((m - n).toNat : Int), rawInt 1] }
 exact h _ _ _ (k1.trans (k2.trans (kp1.trans kp2))) (r2.stays (kp1.trans kp2)) (it_range hh (r2.stays kp1) (k1.trans (k2.trans kp1)))
end
end
section
section
variable {prog : Program} {w : World} {A : Around} {C : Cx} {fv : FV} {K : Frag}
structure CompOk (fv : FV) (scope : Scope) (cl : List (Str × Addr)) (x : Str) (kx : Nat) (vars2 : List (Str × Nat)) : Prop where
 clos : closureFor scope fv.env = pure cl
 kind : scope.kind = .function
 names : ∀ y ∈ scope.names, y.2 = .local → scope.names.lookup y.1 = some .local
 ncell : ∀ y ∈ scope.names, y.2 ≠ .cell
 hx : scope.names.lookup x = some .local
 sub : ∀ y c, cl.lookup y = some c → fv.env.cells.lookup y = some c
 vars : ∀ p ∈ vars2, p ∈ fv.vars ∧ p.2 ≠ kx ∧ fv.env.kindOf p.1 = some .cell ∧ (relabel scope fv.env).names.lookup p.1 = some .cell ∧ ∃ c, cl.lookup p.1 = some c
noncomputable abbrev innerFV (fv : FV) (scope : Scope) (cl : List (Str × Addr)) (C2 : Addr) (x : Str) (kx : Nat) (vars2 : List (Str × Nat)) : FV := ⟨compEnvC scope cl C2 fv.env, (x, kx) :: vars2⟩
theorem R.inner {φ : List (Option Addr)} {st : MSt} {h : Heap} {scope : Scope} {cl : List (Str × Addr)} {C2 : Addr} {x : Str} {kx : Nat} {vars2 : List (Str × Nat)} {y : MV} {v : Value} {m : Str → Option Value} (r : R prog w C fv φ st h)
  (co : CompOk fv scope cl x kx vars2) (hn : h.Ns C2 m) (hm : m x = some v) (q : VR h (C.av φ) φ y v) (hoff : some C2 ∉ φ) (hge : C.h₀.objs.size ≤ C2) :
  R prog w C (innerFV fv scope cl C2 x kx vars2) φ (st.set kx y) h := by
 refine ⟨r.base, r.fr, r.above, r.av0, fun p hp => ?_, r.len, r.sto, r.live, r.nodup, r.new, ⟨m, hn⟩, hge, hoff, r.fnOff, fun z c e => r.celNew z c (co.sub z c e), fun z u c e1 e2 => r.celInj z u c (co.sub z c e1) (co.sub u c e2), fun z c e => r.celIs z c (co.sub z c e), fun z c e => r.celOff z c (co.sub z c e), r.hid⟩
 rcases List.mem_cons.mp hp with rfl | hp
 ·refine ⟨some v, .inl ⟨lookup_relabel_local co.hx, m, hn, hm⟩, ?_⟩
  simp only [MSt.set, if_true]
  exact ⟨v, rfl, q⟩
 ·obtain ⟨h1, h2, h3, h4, c, h5⟩ := co.vars p hp
  obtain ⟨u, hu, ho⟩ := r.vars p h1
  refine ⟨u, .inr ⟨.inl h4, c, h5, ?_⟩, by simp only [MSt.set, h2, if_false]; exact ho⟩
  rcases hu with ⟨g1, _⟩ | ⟨_, c', g2, g3⟩
  ·rw [h3] at g1; cases g1
  ·rw [co.sub _ _ h5] at g2; (injection g2 with g2; subst g2); exact g3
noncomputable abbrev Cx.plus (C : Cx) (D : Addr) : Cx := { C with W0 := fun a => C.W0 a ∨ a = D }
theorem R.growW {φ : List (Option Addr)} {st : MSt} {h h' : Heap} {D : Addr} (r : R prog w C fv φ st h) (hk : Stays h h') (hD : h.get? D = none) (hl : ∃ o, h'.get? D = some o) : R prog w (C.plus D) fv φ st h' := by
 have hmono : ∀ b o, ¬ C.av φ b → h.get? b = some o → IsSeq o → h'.get? b = some o ∧ ¬ Cx.av (C.plus D) φ b := by
  intro b o hb ho _
  refine ⟨hk b o ho, ?_⟩
  rintro ((h1 | h1) | h1)
  ·exact hb (.inl h1)
  ·rw [h1, hD] at ho; (injection ho; done)
  ·exact hb (.inr h1)
 have r' := r.stays hk
 refine ⟨r'.base, r'.fr, r'.above, fun a ha => ?_, fun p hp => ?_, r'.len, fun i a o e1 e2 => ?_, r'.live, r'.nodup, r'.new, r'.loc, r'.locNew, r'.locOff, r'.fnOff, r'.celNew, r'.celInj, r'.celIs, r'.celOff, r'.hid⟩
 ·rcases ha with ha | rfl
  ·exact r'.av0 a ha
  ·exact hl
 ·obtain ⟨v, e1, e2⟩ := r.vars p hp
  exact ⟨v, e1.stays hk, OVR.mono hmono (fun _ _ e => e) e2⟩
 ·exact ORel.mono hmono (fun _ _ e => e) (fun o e => hk a o e) (r.sto i a o e1 e2)
theorem R.dropW {W : Addr → Prop} {φ : List (Option Addr)} {st : MSt} {h : Heap} (r : R prog w { C with W0 := W } fv φ st h) (hW : ∀ a, C.W0 a → W a) : R prog w C fv φ st h := by
 have hmono : ∀ b o, ¬ Cx.av { C with W0 := W } φ b → h.get? b = some o → IsSeq o → h.get? b = some o ∧ ¬ C.av φ b :=
  fun b o hb ho _ => ⟨ho, fun hc => hb (hc.imp (hW b) id)⟩
 refine ⟨r.base, r.fr, r.above, fun a ha => r.av0 a (hW a ha), fun p hp => ?_, r.len, fun i a o e1 e2 => ?_, r.live, r.nodup, r.new, r.loc, r.locNew, r.locOff, r.fnOff, r.celNew, r.celInj, r.celIs, r.celOff, r.hid⟩
 ·obtain ⟨v, e1, e2⟩ := r.vars p hp
  exact ⟨v, e1, OVR.mono hmono (fun _ _ e => e) e2⟩
 ·exact ORel.mono hmono (fun _ _ e => e) (fun o e => e) (r.sto i a o e1 e2)
noncomputable abbrev testsOf (ifs : List Expr) (env : Env) : Sem Bool := forIn ifs true fun c r => if r = true then do let ok ← isTrue c env (eval c env); pure (ForInStep.yield ok) else pure (ForInStep.yield r)
noncomputable def tTrue : MSt → Option Bool := fun _ => some true
theorem st_nil {env : Env} : SB prog w A C fv (testsOf [] env) tTrue := by
 refine ⟨?_⟩
 intro φ st s v Q r e h
 (injection e with e; subst e)
 exact wpAny_tests_nil (h _ _ (Stays.refl _) r)
theorem SB.one {env : Env} {c : Expr} {t : MSt → Option Bool} (ht : SB prog w A C fv (isTrue c env (eval c env)) t) : SB prog w A C fv (testsOf [c] env) t := by
 refine ⟨?_⟩
 intro φ st s v Q r e h
 exact wpAny_tests_one (ht.run φ st s v Q r e h)
theorem wpAny_go {target : Expr} {I : Addr} {v : Value} {s : Shared} {α : Type} {t : Sem α} {Q' : α → Shared → Prop} {E E' : Value → Shared → Prop} (ht : letOwnedTupleGo target (.ref I) v = pure ())
  (h : wpAny (model prog w) A (letOwnedTupleGo target (.ref I) v) (fun _ s' => wpAny (model prog w) A t Q' E' s') E s) : wpAny (model prog w) A t Q' E' s := by
 rw [ht] at h
 exact fun Γ p hΓ => (h Γ p hΓ : wpAny (model prog w) A t Q' E' s) Γ p hΓ
structure CI (prog : Program) (w : World) (C' : Cx) (fv : FV) (φ : List (Option Addr)) (st : MSt) (h2 : Heap) (wr : List Addr) (St : Nat → Heap → Prop) (C2 : Addr) (i : Nat) (h1 : Heap) : Prop where
 r : R prog w C' fv φ st h1
 ns : ∃ m, h1.Ns C2 m
 st : St i h1
 kp : ∀ b o, h2.get? b = some o → b ∉ wr → h1.get? b = some o
structure CompIt (prog : Program) (w : World) (A : Around) (C : Cx) (fv : FV) (target : Expr) (φ : List (Option Addr)) (h2 : Heap) (xs : List MV) (I : Addr) (sh : Heap) (fp wr : List Addr) (P Md : Nat → Value → Heap → Prop) (St : Nat → Heap → Prop) : Prop where
 W : KTurns prog w A target I fp wr xs.length P Md St
 st0 : St 0 h2
 hfp : ∀ b ∈ fp, (∃ o, h2.get? b = some o) ∧ Off C fv φ b
 hwr : ∀ b ∈ wr, sh.get? b = none
 alive : ∀ i h', St i h' → (∀ b ∈ fp, ∃ o, h'.get? b = some o) ∧ ∀ b ∈ wr, ∀ o, h'.get? b = some o → ¬ IsSeq o
 self : ∀ i (s : Shared) (Q : Value → Shared → Prop) (E : Value → Shared → Prop), St i s.heap → Q (.ref I) s → wpAny (model prog w) A (pyIter (.ref I)) Q E s
 item : ∀ (i : Nat) v x h' φ' (W' : Addr → Prop), P i v h' → xs[i]? = some x → Cum C fv φ φ' wr h2 h' → (∀ a, W' a → C.W0 a ∨ h2.get? a = none) → IRel false h' (fun a => W' a ∨ some a ∈ φ') φ' x v
theorem comp_turn {scope : Scope} {cl : List (Str × Addr)} {C2 : Addr} {x : Str} {kx : Nat} {px : Pos} {vars2 : List (Str × Nat)} {φ : List (Option Addr)} {st : MSt} {h2 sh h1 : Heap} {xs : List MV} {y : MV} {I : Addr} {fp wr : List Addr} {P Md : Nat → Value → Heap → Prop} {St : Nat → Heap → Prop} {W' : Addr → Prop} {i : Nat}
  {tk : Tok} {s : Shared} {E : Value → Shared → Prop} {T : Unit → Shared → Prop} {RN : Shared → Prop}
  (it : CompIt prog w A C fv (.Name x px) φ h2 xs I sh fp wr P Md St) (co : CompOk fv scope cl x kx vars2) (r0 : R prog w C fv φ st sh) (r2 : R prog w C fv φ st h2) (hW' : ∀ a, W' a → C.W0 a ∨ h2.get? a = none) (hC2 : h2.get? C2 = none) (hge : C.h₀.objs.size ≤ C2) (hCW : ¬ W' C2)
  (ci : CI prog w { C with W0 := W' } fv φ st h2 wr St C2 i h1) (hx : xs[i]? = some y)
  (h : ∀ h5 tk5, CI prog w { C with W0 := W' } fv φ st h2 wr St C2 (i + 1) h5 → (∀ b o, b ≠ C2 → b ∉ wr → h1.get? b = some o → h5.get? b = some o) → R prog w { C with W0 := W' } (innerFV fv scope cl C2 x kx vars2) φ (st.set kx y) h5 → T () { s with heap := h5, toks := tk5 }) :
  wpAny (model prog w) A (pyNext (.ref I)) (fun r s₁ => match r with
   | none => RN s₁
   | some v => wpAny (model prog w) A (PySem.assign (.Name x px) (compEnvC scope cl C2 fv.env) v) T E s₁) E { s with heap := h1, toks := tk } := by
 have W := it.W
 have hlt : i < xs.length := (List.getElem?_eq_some_iff.mp hx).1
 have hC2fp : C2 ∉ fp := fun hm => by obtain ⟨⟨o, ho⟩, _⟩ := it.hfp C2 hm; exact (ng hC2 ho).elim
 have hC2wr : C2 ∉ wr := fun hm => hC2fp (W.sub _ hm)
 have nxt : ∀ {h1 h3 : Heap}, R prog w { C with W0 := W' } fv φ st h1 → (∀ c ∈ wr, ∀ o, h1.get? c = some o → ¬ IsSeq o) → (∀ c o, c ∉ wr → h1.get? c = some o → h3.get? c = some o) → R prog w { C with W0 := W' } fv φ st h3 := by
  intro h1 h3 r1 hns hk
  have offw : ∀ c ∈ wr, Off C fv φ c := fun c hc => (it.hfp c (W.sub c hc)).2
  refine r1.keepBut hk fun c hc => ⟨(offw c hc).2.2.2, ?_, ?_, (offw c hc).1, (offw c hc).2.1, (offw c hc).2.2.1, .inl (hns c hc), fun hW => ?_⟩
  ·cases e : C.h₀.get? c with
   | none => rfl
   | some ob => have := r0.base c ob e; exact (ng (it.hwr c hc) this).elim
  ·rintro rfl
   obtain ⟨m, ob, es, ep, ho, _⟩ := r0.fr
   exact (ng (it.hwr _ hc) ho).elim
  ·exfalso
   rcases hW' c hW with h3 | h3
   ·obtain ⟨ob, ho⟩ := r0.av0 c h3
    exact (ng (it.hwr c hc) ho).elim
   ·obtain ⟨⟨o, ho⟩, _⟩ := it.hfp c (W.sub c hc); exact (ng h3 ho).elim
 refine W.item i _ _ _ hlt ci.st fun v h3 tk3 hMd hk3 => ?_
 refine wpAny_go (target := .Name x px) (I := I) (v := v) (E := E) rfl (W.go i v _ _ _ hMd fun h4 hP hst4 hk4 => ?_)
 have kk : ∀ c o, c ∉ wr → h1.get? c = some o → h4.get? c = some o := fun c o hc e => hk4 c o hc (hk3 c o hc e)
 have r4 := nxt ci.r (it.alive _ _ ci.st).2 kk
 obtain ⟨m, hn⟩ := ci.ns
 have hn4 : h4.Ns C2 m := hn.at' fun o e => kk C2 o hC2wr e
 have kp4 : ∀ b o, h2.get? b = some o → b ∉ wr → h4.get? b = some o := fun b o e hb => kk b o hb (ci.kp b o e hb)
 have q4 : VR h4 (Cx.av { C with W0 := W' } φ) φ y v := it.item i v y h4 φ W' hP hx ⟨fun b o e hb _ => kp4 b o e hb, Ext.refl _ _⟩ hW'
 refine wpAny_assign_Name (wpAny_storeName_local (lookup_relabel_local co.hx) hn4 (fun h5 hn5 hs5 => ?_) (by simp [compEnvC, relabel, co.kind]))
 have live2 : ∀ {c : Addr}, (∃ o, h2.get? c = some o) → c ≠ C2 := fun ⟨o, ho⟩ e => by rw [e, hC2] at ho; (injection ho; done)
 have hoff : some C2 ∉ φ := fun hm => live2 (r2.live C2 hm) rfl
 have hloc : fv.env.locals ≠ C2 := live2 (let ⟨_, o, _, _, ho, _⟩ := r2.loc; ⟨o, ho⟩)
 have hcel : ∀ z c, fv.env.cells.lookup z = some c → c ≠ C2 := fun z c e => live2 (let ⟨_, o, ho, _⟩ := r2.celIs z c e; ⟨o, ho⟩)
 have hfn : C.fn ≠ C2 := live2 (let ⟨_, o, _, _, ho, _⟩ := r2.fr; ⟨o, ho⟩)
 have nseq : ∀ o, h4.get? C2 = some o → ¬ IsSeq o := fun o ho hs => seq_ne_dict hn4 ho hs rfl
 have keep5 : ∀ b o, b ≠ C2 → h4.get? b = some o → h5.get? b = some o := fun b o hb e => (hs5.2 b hb).trans e
 have r5 : R prog w { C with W0 := W' } fv φ st h5 := by
  refine r4.keepBut (wr := [C2]) (fun c o hc e => keep5 c o (by simpa using hc) e) fun c hc => ?_
  simp only [List.mem_singleton] at hc
  subst hc
  refine ⟨fun hh => live2 (let ⟨⟨o', g1, _⟩, _⟩ := r2.hid c hh; ⟨o', g1⟩) rfl, ?_, Ne.symm hfn, hoff, Ne.symm hloc, fun z c' e => Ne.symm (hcel z c' e), .inl nseq, fun hW => (hCW hW).elim⟩
  cases e : C.h₀.get? c with
  | none => rfl
  | some ob => have := r2.base c ob e; exact (ng hC2 this).elim
 have q5 : VR h5 (Cx.av { C with W0 := W' } φ) φ y v := VR.mono (fun b o hb ho hs => ⟨keep5 b o (fun e => nseq o (e ▸ ho) hs) ho, hb⟩) (fun _ _ e => e) _ q4
 refine h h5 _ ⟨r5, ⟨_, hn5⟩, W.frame _ _ _ hst4 fun b hb o e => keep5 b o (fun e' => hC2fp (e' ▸ hb)) e, fun b o e hb => keep5 b o (live2 ⟨o, e⟩) (kp4 b o e hb)⟩ (fun b o hb hw e => keep5 b o hb (kk b o hw e)) ?_
 exact r5.inner co hn5 (by simp) q5 hoff hge
theorem comp_end {C2 : Addr} {x : Str} {px : Pos} {φ : List (Option Addr)} {st : MSt} {h2 sh h1 : Heap} {xs : List MV} {I : Addr} {fp wr : List Addr} {P Md : Nat → Value → Heap → Prop} {St : Nat → Heap → Prop} {W' : Addr → Prop} {env : Env}
  {tk : Tok} {s : Shared} {E : Value → Shared → Prop} {T : Unit → Shared → Prop} {RN : Shared → Prop}
  (it : CompIt prog w A C fv (.Name x px) φ h2 xs I sh fp wr P Md St) (r0 : R prog w C fv φ st sh) (hW' : ∀ a, W' a → C.W0 a ∨ h2.get? a = none) (hC2 : h2.get? C2 = none)
  (ci : CI prog w { C with W0 := W' } fv φ st h2 wr St C2 xs.length h1)
  (h : ∀ h5 tk5, R prog w { C with W0 := W' } fv φ st h5 → (∃ m, h5.Ns C2 m) → (∀ b o, b ∉ wr → h1.get? b = some o → h5.get? b = some o) → RN { s with heap := h5, toks := tk5 }) :
  wpAny (model prog w) A (pyNext (.ref I)) (fun r s₁ => match r with
   | none => RN s₁
   | some v => wpAny (model prog w) A (PySem.assign (.Name x px) env v) T E s₁) E { s with heap := h1, toks := tk } := by
 have W := it.W
 have hC2fp : C2 ∉ fp := fun hm => by obtain ⟨⟨o, ho⟩, _⟩ := it.hfp C2 hm; exact (ng hC2 ho).elim
 have hC2wr : C2 ∉ wr := fun hm => hC2fp (W.sub _ hm)
 refine W.done _ _ _ ci.st fun h3 tk3 hk => h h3 tk3 ?_ (let ⟨m, hn⟩ := ci.ns; ⟨m, hn.at' fun o e => hk C2 o hC2wr e⟩) hk
 have offw : ∀ c ∈ wr, Off C fv φ c := fun c hc => (it.hfp c (W.sub c hc)).2
 refine ci.r.keepBut hk fun c hc => ⟨(offw c hc).2.2.2, ?_, ?_, (offw c hc).1, (offw c hc).2.1, (offw c hc).2.2.1, .inl ((it.alive _ _ ci.st).2 c hc), fun hW => ?_⟩
 ·cases e : C.h₀.get? c with
  | none => rfl
  | some ob => have := r0.base c ob e; exact (ng (it.hwr c hc) this).elim
 ·rintro rfl
  obtain ⟨m, ob, es, ep, ho, _⟩ := r0.fr
  exact (ng (it.hwr _ hc) ho).elim
 ·exfalso
  rcases hW' c hW with h3 | h3
  ·obtain ⟨ob, ho⟩ := r0.av0 c h3
   exact (ng (it.hwr c hc) ho).elim
  ·obtain ⟨⟨o, ho⟩, _⟩ := it.hfp c (W.sub c hc); exact (ng h3 ho).elim
theorem CI.stays {C' : Cx} {φ : List (Option Addr)} {st : MSt} {h2 : Heap} {wr fp : List Addr} {St : Nat → Heap → Prop} {C2 : Addr} {i : Nat} {h1 h3 : Heap} (ci : CI prog w C' fv φ st h2 wr St C2 i h1) (hf : ∀ i h h', St i h → (∀ b ∈ fp, ∀ o, h.get? b = some o → h'.get? b = some o) → St i h') (hk : Stays h1 h3) : CI prog w C' fv φ st h2 wr St C2 i h3 :=
 ⟨ci.r.stays hk, let ⟨m, hn⟩ := ci.ns; ⟨m, hn.keeps hk⟩, hf _ _ _ ci.st fun b _ o e => hk b o e, fun b o e hb => hk b o (ci.kp b o e hb)⟩
theorem CI.gather {W' : Addr → Prop} {φ : List (Option Addr)} {st : MSt} {h2 : Heap} {wr fp : List Addr} {St : Nat → Heap → Prop} {C2 D : Addr} {i : Nat} {h1 h3 : Heap} (ci : CI prog w { C with W0 := W' } fv φ st h2 wr St C2 i h1) (hf : ∀ i h h', St i h → (∀ b ∈ fp, ∀ o, h.get? b = some o → h'.get? b = some o) → St i h')
  (r2 : R prog w C fv φ st h2) (hD : h2.get? D = none) (hDfp : D ∉ fp) (hDC : D ≠ C2) (hDW : W' D) (hs : Heap.SameBut D h1 h3) (hl : ∃ o, h3.get? D = some o) : CI prog w { C with W0 := W' } fv φ st h2 wr St C2 i h3 := by
 have live2 : ∀ {c : Addr}, (∃ o, h2.get? c = some o) → c ≠ D := fun ⟨o, ho⟩ e => by rw [e, hD] at ho; (injection ho; done)
 have keep : ∀ b o, b ≠ D → h1.get? b = some o → h3.get? b = some o := fun b o hb e => (hs.2 b hb).trans e
 refine ⟨?_, let ⟨m, hn⟩ := ci.ns; ⟨m, hn.at' fun o e => keep C2 o (Ne.symm hDC) e⟩, hf _ _ _ ci.st fun b hb o e => keep b o (fun e' => hDfp (e' ▸ hb)) e, fun b o e hb => keep b o (live2 ⟨o, e⟩) (ci.kp b o e hb)⟩
 refine ci.r.keepBut (wr := [D]) (fun c o hc e => keep c o (by simpa using hc) e) fun c hc => ?_
 simp only [List.mem_singleton] at hc
 subst hc
 refine ⟨fun hh => live2 (let ⟨⟨o', g1, _⟩, _⟩ := r2.hid c hh; ⟨o', g1⟩) rfl, ?_, Ne.symm (live2 (let ⟨_, o, _, _, ho, _⟩ := r2.fr; ⟨o, ho⟩)), fun hm => live2 (r2.live c hm) rfl, Ne.symm (live2 (let ⟨_, o, _, _, ho, _⟩ := r2.loc; ⟨o, ho⟩)), fun z c' e => Ne.symm (live2 (let ⟨_, o, ho, _⟩ := r2.celIs z c' e; ⟨o, ho⟩)), .inr hDW, fun _ => hl⟩
 cases e : C.h₀.get? c with
 | none => rfl
 | some ob => have := r2.base c ob e; exact (ng hD this).elim
noncomputable def mcomp (kx : Nat) (t : MSt → Option Bool) (e : MSt → Option MV) (st : MSt) : List MV → Option (List MV)
 | [] => some []
 | x :: xs => (t (st.set kx x)).bind fun ok => if ok then (e (st.set kx x)).bind fun y => (mcomp kx t e st xs).map (y :: ·) else mcomp kx t e st xs
theorem mcomp_n {kx : Nat} {t : MSt → Option Bool} {e : MSt → Option MV} {st : MSt} : mcomp kx t e st [] = some [] := rfl
theorem mcomp_c {kx : Nat} {t : MSt → Option Bool} {e : MSt → Option MV} {st : MSt} {x : MV} {xs : List MV} : mcomp kx t e st (x :: xs) = ((t (st.set kx x)).bind fun ok => if ok then (e (st.set kx x)).bind fun y => (mcomp kx t e st xs).map (y :: ·) else mcomp kx t e st xs) := rfl
theorem mcomp_length {kx : Nat} {t : MSt → Option Bool} {e : MSt → Option MV} {st : MSt} : ∀ {xs ys : List MV}, mcomp kx t e st xs = some ys → ys.length ≤ xs.length
 | [], _, h => by dsimp only [mcomp_n, mcomp_c] at h; (injection h with h; subst h); simp
 | x :: xs, ys, h => by
  (dsimp only [mcomp_n, mcomp_c] at h; simp only [mcomp_n, mcomp_c, oI] at h)
  refine cps fun G hG => ?_
  obtain ⟨ok, _, h⟩ := h
  split at h
  ·simp only [oI, oM] at h
   obtain ⟨y, _, ys', h, rfl⟩ := h
   have := mcomp_length h
   refine hG ?_; clear hG
   simp; omega
  ·have := mcomp_length h
   refine hG ?_; clear hG
   simp; omega
theorem comp_list {scope : Scope} {cl : List (Str × Addr)} {x : Str} {kx : Nat} {px pos : Pos} {vars2 : List (Str × Nat)} {φ : List (Option Addr)} {st : MSt} {s2 : Shared} {sh : Heap} {xs ys : List MV} {I : Addr} {elt iter : Expr} {ifs : List Expr} {tm : MSt → Option Bool} {em : MSt → Option MV}
  {E : Value → Shared → Prop} {RR : Value → Addr → Result → Shared → Prop}
  (it : ItOk prog w A C fv false (.Name x px) φ s2.heap xs I sh) (co : CompOk fv scope cl x kx vars2) (r0 : R prog w C fv φ st sh) (hk : Stays sh s2.heap)
  (ht : ∀ C2 W0, SB prog w A { C with W0 := W0 } (innerFV fv scope cl C2 x kx vars2) (testsOf ifs (compEnvC scope cl C2 fv.env)) tm)
  (he : ∀ C2 W0, SE prog w A { C with W0 := W0 } (innerFV fv scope cl C2 x kx vars2) (eval elt (compEnvC scope cl C2 fv.env)) em)
  (hm : mcomp kx tm em st xs = some ys) (hlen : xs.length ≤ 100000)
  (hRR : ∀ D C2 h' tk items n, sh.get? D = none → sh.get? C2 = none → C.h₀.objs.size ≤ D → D ≠ C2 → (∃ m, h'.Ns C2 m) → h'.get? D = some (listObj items n) → R prog w (C.plus D) fv φ st h' →
   VRs h' (Cx.av (C.plus D) φ) φ ys items → Stays sh h' → RR (.ref D) C2 (.ok .next) { s2 with heap := h', toks := tk }) :
  wpAny (model prog w) A (newList []) (fun acc s₃ => wpAny (model prog w) A (newFunctionEnv scope fv.env.globals cl [] fv.env.qual none .none (some fv.env)) (fun cenv s₄ =>
   codeAny (model prog w) A (.compStart (.ListComp elt [⟨.Name x px, iter, ifs, 0⟩] scope pos) 0 (.ref I) acc { cenv with scope := relabel scope fv.env }) (RR acc cenv.locals) s₄) E s₃) E s2 := by
 refine cps fun G hG => ?_
 obtain ⟨fp, wr, P, Md, St, W, st0, hfp, hwr, halive, hself, hitem⟩ := it
 have it : CompIt prog w A C fv (.Name x px) φ s2.heap xs I sh fp wr P Md St := ⟨W, st0, hfp, hwr, halive, hself, hitem⟩
 have r2 := r0.stays hk
 refine hG ?_; clear hG
 refine wpAny_newObj_type (wpAny_newFunctionEnv co.ncell (by intro y hy; simp at hy) (fun h₁ hns₁ hsb₁ => ?_) co.kind)
 dsimp only at hns₁ hsb₁ ⊢
 generalize hH2 : s2.heap.push { cls := .type "list", dict := none, data := .seq ([] : List Value).toArray } = H2 at hns₁ hsb₁ ⊢
 have hC : H2.objs.size = s2.heap.objs.size + 1 := by rw [← hH2, Heap.size_push]
 have hDC : s2.heap.objs.size ≠ H2.objs.size := by rw [hC]; exact Nat.ne_of_lt (Nat.lt_succ_self _)
 have old : Stays s2.heap h₁ := fun b o e => hsb₁.extBut b o (by have := Heap.lt_size e; rw [hC]; exact Nat.ne_of_lt (Nat.lt_succ_of_lt this)) (Heap.get?_push_of_some _ (hH2 ▸ Heap.get?_push_of_some _ e))
 have hacc : h₁.get? s2.heap.objs.size = some (listObj [] 0) := hsb₁.extBut _ _ hDC (Heap.get?_push_of_some _ (hH2 ▸ Heap.get?_push_size _ rfl))
 have hDn : s2.heap.get? s2.heap.objs.size = none := get?_size_none _
 have hCn : s2.heap.get? H2.objs.size = none := by
  cases e : s2.heap.get? H2.objs.size with
  | none => rfl
  | some o =>
   have h1 : @LT.lt Nat _ H2.objs.size s2.heap.objs.size := Heap.lt_size e
   have h2 : @Eq Nat H2.objs.size (s2.heap.objs.size + 1) := hC
   omega
 generalize hD : s2.heap.objs.size = D at *
 generalize hC2 : H2.objs.size = C2 at *
 have hDfp : D ∉ fp := fun hm => by obtain ⟨⟨o, ho⟩, _⟩ := hfp D hm; exact (ng hDn ho).elim
 have hgeD : C.h₀.objs.size ≤ D := by have := r2.size_ge; rw [hD] at this; exact this
 have hgeC : C.h₀.objs.size ≤ C2 := by
  have h1 : @LE.le Nat _ C.h₀.objs.size D := hgeD
  show @LE.le Nat _ C.h₀.objs.size C2
  have h2 : @Eq Nat C2 (D + 1) := hC
  omega
 have hW' : ∀ a, (C.W0 a ∨ a = D) → C.W0 a ∨ s2.heap.get? a = none := fun a ha => ha.imp id fun e => by rw [e]; exact hDn
 have hCW : ¬ (C.W0 C2 ∨ C2 = D) := by
  rintro (h1 | h1)
  ·obtain ⟨o, ho⟩ := r2.av0 _ h1; exact (ng hCn ho).elim
  ·exact hDC h1.symm
 have ci0 : CI prog w (C.plus D) fv φ st s2.heap wr St C2 0 h₁ := ⟨r2.growW old hDn ⟨_, hacc⟩, ⟨_, hns₁⟩, W.frame _ _ _ st0 fun b _ o e => old b o e, fun b o e _ => old b o e⟩
 have loop : ∀ s₃ : Shared, s₃ = { s2 with heap := h₁, toks := s2.toks + ([] : List (Str × Value)).length } →
   codeAny (model prog w) A (.compLoop (.ListComp elt [⟨.Name x px, iter, ifs, 0⟩] scope pos) 0 (.ref I) (.ref D) (compEnvC scope cl C2 fv.env)) (RR (.ref D) C2) s₃ := by
  rintro s₃ rfl
  refine codeAny_compLoop_tests (fun k s' => ∃ h1 tk i items n don rest, s' = { s2 with heap := h1, toks := tk } ∧ CI prog w (C.plus D) fv φ st s2.heap wr St C2 i h1 ∧ h1.get? D = some (listObj items n) ∧
   VRs h1 (Cx.av (C.plus D) φ) φ don items ∧ mcomp kx tm em st (xs.drop i) = some rest ∧ ys = don ++ rest ∧ don.length ≤ i ∧ i ≤ xs.length ∧ k = xs.length + 1 - i) ?_ (xs.length + 1)
   ⟨h₁, _, 0, [], 0, [], ys, rfl, ci0, hacc, by dsimp only [vRs1, vRs2], by simpa using hm, rfl, Nat.zero_le _, Nat.zero_le _, rfl⟩
  intro k s' hX6
  refine cps fun G hG => ?_
  obtain ⟨h1, tk, i, items, n, don, rest, es, ci, hDo, qs, em1, eys, hdl, hi, ek⟩ := hX6
  refine hG ?_; clear hG
  subst es ek
  by_cases hlt : i < xs.length
  ·have hx : xs[i]? = some xs[i] := List.getElem?_eq_getElem hlt
   rw [List.drop_eq_getElem_cons hlt] at em1
   (dsimp only [mcomp_n, mcomp_c] at em1; simp only [mcomp_n, mcomp_c, oI] at em1)
   obtain ⟨ok, et, em1⟩ := em1
   refine comp_turn it co r0 r2 hW' hCn hgeC hCW ci hx fun h5 tk5 ci5 k5 r5 => ?_
   have hD5 : h5.get? D = some (listObj items n) := k5 D _ hDC (fun hm => hDfp (W.sub _ hm)) hDo
   have qs5 : VRs h5 (Cx.av (C.plus D) φ) φ don items := by
    refine VRs.mono (fun b o hb ho hs => ⟨k5 b o ?_ ?_ ho, hb⟩) (fun _ _ e => e) _ qs
    ·rintro rfl; obtain ⟨m, hn⟩ := ci.ns; exact seq_ne_dict hn ho hs rfl
    ·intro hm; exact (halive _ _ ci.st).2 b hm o ho hs
   refine wpAny_mono ((ht C2 _).run φ _ _ ok _ r5 et fun h6 tk6 k6 r6 => ?_) (fun _ _ z => z) fun _ _ z => z.elim
   have ci6 := ci5.stays W.frame k6
   cases ok with
   | false =>
    dsimp only [Bool.false_eq_true, if_false] at em1 ⊢
    exact ⟨xs.length + 1 - (i + 1), by omega, h6, tk6, i + 1, items, n, don, rest, rfl, ci6, k6 _ _ hD5, qs5.stays k6, em1, eys, by omega, hlt, rfl⟩
   | true =>
    simp only [if_true, oI, oM] at em1 ⊢
    refine cps fun G hG => ?_
    obtain ⟨y, ey, rest', em1, rfl⟩ := em1
    refine hG ?_; clear hG
    refine wpAny_mono ((he C2 _).run φ _ _ y _ r6 ey fun h7 tk7 v7 k7 r7 q7 => ?_) (fun _ _ z => z) fun _ _ z => z.elim
    have ci7 := ci6.stays W.frame k7
    have hD7 := k7 _ _ (k6 _ _ hD5)
    have hdl' : don.length = items.length := qs.length
    refine wpAny_list_append_plain (items := items.toArray) ⟨n, hD7⟩ (fun h8 g8 hs8 => ?_) (by rw [List.size_toArray]; exact le_sizeLine (by omega))
    obtain ⟨n', g8⟩ := g8
    have g9 : h8.get? D = some (listObj (items ++ [v7]) n') := by rw [g8]; simp [listObj]
    have ci8 := ci7.gather W.frame r2 hDn hDfp hDC (.inr rfl) hs8 ⟨_, g9⟩
    have mono : ∀ b o, ¬ Cx.av (C.plus D) φ b → h7.get? b = some o → IsSeq o → h8.get? b = some o ∧ ¬ Cx.av (C.plus D) φ b := fun b o hb ho _ => ⟨(hs8.2 b (fun e => hb (.inl (.inr e)))).trans ho, hb⟩
    refine ⟨xs.length + 1 - (i + 1), by omega, h8, _, i + 1, items ++ [v7], n', don ++ [y], rest', rfl, ci8, g9, (VRs.mono mono (fun _ _ e => e) _ ((qs5.stays k6).stays k7)).snoc (VR.mono mono (fun _ _ e => e) _ q7), em1, by rw [eys]; simp, by simp; omega, hlt, rfl⟩
  ·have hin : i = xs.length := by omega
   subst hin
   rw [List.drop_length] at em1
   (dsimp only [mcomp_n, mcomp_c] at em1; simp only [mcomp_n, mcomp_c, Option.some.injEq] at em1)
   subst em1
   simp only [List.append_nil] at eys
   subst eys
   refine comp_end (C2 := C2) it r0 hW' hCn ci fun h5 tk5 r5 hn5 k5 => ?_
   have noton : ∀ {c : Addr}, s2.heap.get? c = none → sh.get? c = none := fun {c} e => by
    cases e' : sh.get? c with
    | none => rfl
    | some o => have := hk c o e'; exact (ng e this).elim
   refine hRR D C2 h5 tk5 items n (noton hDn) (noton hCn) hgeD hDC hn5 (k5 D _ (fun hm => hDfp (W.sub _ hm)) hDo) r5 (VRs.mono (fun b o hb ho hs => ⟨k5 b o (fun hm => (halive _ _ ci.st).2 b hm o ho hs) ho, hb⟩) (fun _ _ e => e) _ qs) fun b o e => ?_
   have hb : b ∉ wr := fun hm => by exact (ng (hwr b hm) e).elim
   exact k5 b o hb (ci.kp b o (hk b o e) hb)
 exact codeAny_compStart_list (loop _ rfl) (hself 0 _ _ _ (W.frame _ _ _ st0 fun b _ o e => old b o e) (loop _ rfl))
end
end
section
section
variable {prog : Program} {w : World} {A : Around} {C : Cx} {fv : FV} {K : Frag}
theorem R.letGo {φ : List (Option Addr)} {st st' : MSt} {sh h h' : Heap} {C2 : Addr} {m : Str → Option Value} (r0 : R prog w C fv φ st sh) (hC2 : sh.get? C2 = none) {φ' : List (Option Addr)} (r : R prog w C fv φ' st' h) (hx : some C2 ∉ φ') (hn : h.Ns C2 m) (hs : Heap.SameBut C2 h h') : R prog w C fv φ' st' h' := by
 have live2 : ∀ {c : Addr}, (∃ o, sh.get? c = some o) → c ≠ C2 := fun ⟨o, ho⟩ e => by rw [e, hC2] at ho; (injection ho; done)
 refine r.keepBut (wr := [C2]) (fun c o hc e => (hs.2 c (by simpa using hc)).trans e) fun c hc => ?_
 simp only [List.mem_singleton] at hc
 subst hc
 refine ⟨fun hh => live2 (let ⟨⟨o', g1, _⟩, _⟩ := r0.hid c hh; ⟨o', g1⟩) rfl, ?_, Ne.symm (live2 (let ⟨_, o, _, _, ho, _⟩ := r0.fr; ⟨o, ho⟩)), hx, Ne.symm (live2 (let ⟨_, o, _, _, ho, _⟩ := r0.loc; ⟨o, ho⟩)), fun z c' e => Ne.symm (live2 (let ⟨_, o, ho, _⟩ := r0.celIs z c' e; ⟨o, ho⟩)), .inl fun o ho hsq => seq_ne_dict hn ho hsq rfl, fun hW => ?_⟩
 ·cases e : C.h₀.get? c with
  | none => rfl
  | some ob => have := r0.base c ob e; exact (ng hC2 this).elim
 ·obtain ⟨o, ho⟩ := r0.av0 c hW; exact (ng hC2 ho).elim
theorem R.adopt {φ : List (Option Addr)} {st : MSt} {h : Heap} {D : Addr} {o : MObj} (r : R prog w (C.plus D) fv φ st h) (hoff : some D ∉ φ) (hloc : D ≠ fv.env.locals) (hfn : D ≠ C.fn) (hcel : ∀ z c, fv.env.cells.lookup z = some c → D ≠ c) (hge : C.h₀.objs.size ≤ D)
  (ho : ORel prog w h (C.av (φ ++ [some D])) (φ ++ [some D]) D o) : R prog w C fv (φ ++ [some D]) { st with σ := st.σ ++ [o] } h := by
 have hφ : ∀ (n : Nat) (b : Addr), φ[n]? = some (some b) → (φ ++ [some D])[n]? = some (some b) := fun n b e => by
  rw [List.getElem?_append_left (List.getElem?_eq_some_iff.mp e).1]; exact e
 have hmono : ∀ b o, ¬ Cx.av (C.plus D) φ b → h.get? b = some o → IsSeq o → h.get? b = some o ∧ ¬ C.av (φ ++ [some D]) b := by
  intro b o hb hbo _
  refine ⟨hbo, ?_⟩
  rintro (h1 | h1)
  ·exact hb (.inl (.inl h1))
  ·rcases List.mem_append.mp h1 with h1 | h1
   ·exact hb (.inr h1)
   ·simp only [List.mem_singleton, Option.some.injEq] at h1
    exact hb (.inl (.inr h1))
 have mem : ∀ {b : Addr}, some b ∈ φ ++ [some D] → some b ∈ φ ∨ b = D := fun hb => by
  rcases List.mem_append.mp hb with hb | hb
  ·exact .inl hb
  ·simp only [List.mem_singleton, Option.some.injEq] at hb; exact .inr hb
 have old : ∀ (k : Nat) (b : Addr), (φ ++ [some D])[k]? = some (some b) → (k < φ.length ∧ φ[k]? = some (some b)) ∨ (k = φ.length ∧ b = D) := by
  intro k b e
  by_cases hk' : k < φ.length
  ·rw [List.getElem?_append_left hk'] at e; exact .inl ⟨hk', e⟩
  ·rw [List.getElem?_append_right (by omega)] at e
   rcases Nat.eq_zero_or_pos (k - φ.length) with h0 | h0
   ·rw [h0] at e
    simp only [lZ, Option.some.injEq] at e
    exact .inr ⟨by omega, e.symm⟩
   ·exact (ng (List.getElem?_eq_none (by simp; omega)) e).elim
 refine ⟨r.base, r.fr, r.above, fun a ha => r.av0 a (.inl ha), fun p hp => ?_, by simp [r.len], fun i b o' e1 e2 => ?_, fun b hb => ?_, fun i j b e1 e2 => ?_, fun b hb => ?_,
  r.loc, r.locNew, fun hm => ?_, fun hm => ?_, r.celNew, r.celInj, r.celIs, fun x c e hm => ?_, r.hid⟩
 ·obtain ⟨v, e1, e2⟩ := r.vars p hp
  exact ⟨v, e1, OVR.mono hmono hφ e2⟩
 ·have hlen : φ.length = st.σ.length := r.len
  rcases old i b e1 with ⟨hi, e1'⟩ | ⟨hi, rfl⟩
  ·rw [List.getElem?_append_left (by rw [← hlen]; exact hi)] at e2
   exact ORel.mono hmono hφ (fun o e => e) (r.sto i b o' e1' e2)
  ·rw [List.getElem?_append_right (by omega), ← hlen, hi, Nat.sub_self] at e2
   simp only [lZ, Option.some.injEq] at e2
   subst e2; exact ho
 ·rcases mem hb with hb | rfl
  ·exact r.live b hb
  ·exact r.av0 b (.inr rfl)
 ·rcases old i b e1 with ⟨_, e1'⟩ | ⟨hi, hb⟩ <;> rcases old j b e2 with ⟨_, e2'⟩ | ⟨hj, hb'⟩
  ·exact r.nodup i j b e1' e2'
  ·exact (hoff (hb' ▸ List.mem_of_getElem? e1')).elim
  ·exact (hoff (hb ▸ List.mem_of_getElem? e2')).elim
  ·omega
 ·rcases mem hb with hb | rfl
  ·exact r.new b hb
  ·exact hge
 ·rcases mem hm with hm | hm
  ·exact r.locOff hm
  ·exact hloc hm.symm
 ·rcases mem hm with hm | hm
  ·exact r.fnOff hm
  ·exact hfn hm.symm
 ·rcases mem hm with hm | hm
  ·exact r.celOff x c e hm
  ·exact hcel x c e hm.symm
noncomputable def eComp (kx : Nat) (it : MSt → Option (List MV)) (t : MSt → Option Bool) (e : MSt → Option MV) : MSt → Option (List MV) := fun st => (it st).bind fun xs => if xs.length ≤ 100000 then mcomp kx t e st xs else none
noncomputable def eLstOf (l : MSt → Option (List MV)) : MSt → Option MV := fun st => (l st).map .lst
theorem fresh_off {φ : List (Option Addr)} {st : MSt} {sh : Heap} {D : Addr} (r0 : R prog w C fv φ st sh) (hD : sh.get? D = none) : some D ∉ φ ∧ D ≠ fv.env.locals ∧ D ≠ C.fn ∧ (∀ z c, fv.env.cells.lookup z = some c → D ≠ c) ∧ ¬ C.W0 D ∧ ¬ C.hid D := by
 have live2 : ∀ {c : Addr}, (∃ o, sh.get? c = some o) → D ≠ c := fun ⟨o, ho⟩ e => by rw [← e, hD] at ho; (injection ho; done)
 exact ⟨fun hm => live2 (r0.live D hm) rfl, live2 (let ⟨_, o, _, _, ho, _⟩ := r0.loc; ⟨o, ho⟩), live2 (let ⟨_, o, _, _, ho, _⟩ := r0.fr; ⟨o, ho⟩), fun z c e => live2 (let ⟨_, o, ho, _⟩ := r0.celIs z c e; ⟨o, ho⟩), fun hW => live2 (r0.av0 D hW) rfl, fun hh => live2 (let ⟨⟨o', g1, _⟩, _⟩ := r0.hid D hh; ⟨o', g1⟩) rfl⟩
theorem comp_tree {φ : List (Option Addr)} {st : MSt} {sh h' : Heap} {D : Addr} {items : List Value} {n : Nat} {ys : List MV} (r0 : R prog w C fv φ st sh) (hD : sh.get? D = none) (hDo : h'.get? D = some (listObj items n)) (q : VRs h' (Cx.av (C.plus D) φ) φ ys items) :
  VR h' (C.av φ) φ (.lst ys) (.ref D) := by
 have off := fresh_off r0 hD
 simp only [vR1, vR2, vR3, vR4, vR5, vR6, vR7, vR8]
 exact ⟨D, items, rfl, fun hc => hc.elim off.2.2.2.2.1 off.1, ⟨_, hDo, rfl, n, rfl⟩, VRs.mono (fun b o hb ho _ => ⟨ho, fun hc => hb (hc.imp .inl id)⟩) (fun _ _ e => e) _ q⟩
theorem SE.listComp {scope : Scope} {cl : List (Str × Addr)} {x : Str} {kx : Nat} {px pos : Pos} {vars2 : List (Str × Nat)} {elt iter : Expr} {ifs : List Expr} {im : MSt → Option (List MV)} {tm : MSt → Option Bool} {em : MSt → Option MV}
  (co : CompOk fv scope cl x kx vars2) (hi : SI prog w A C fv false (.Name x px) iter im)
  (ht : ∀ C2 W0, SB prog w A { C with W0 := W0 } (innerFV fv scope cl C2 x kx vars2) (testsOf ifs (compEnvC scope cl C2 fv.env)) tm)
  (he : ∀ C2 W0, SE prog w A { C with W0 := W0 } (innerFV fv scope cl C2 x kx vars2) (eval elt (compEnvC scope cl C2 fv.env)) em)
  (hs : ∀ x, foldedSetIterable iter fv.env x = pure x := by intro _; rfl) :
  SE prog w A C fv (eval (.ListComp elt [⟨.Name x px, iter, ifs, 0⟩] scope pos) fv.env) (eLstOf (eComp kx im tm em)) := by
 refine ⟨?_⟩
 intro φ st s v Q r e h
 simp only [eLstOf, eComp, oM, oI] at e
 refine cps fun G hG => ?_
 obtain ⟨ys, ⟨xs, ex, em'⟩, rfl⟩ := e
 split at em'
 ·rename_i hlen
  refine hG ?_; clear hG
  rw [eval_ListComp]
  refine wpAny_comprehension_free (use := none) rfl hs co.clos co.kind co.names (hi.run φ st s xs _ r ex fun h2 tk I k2 r2 it => ?_)
  refine comp_list (RR := fun acc C2 => compPost (model prog w) A NoE none Q acc C2) (s2 := { s with heap := h2, toks := tk }) it co r k2 ht he em' hlen ?_
  rintro D C2 h' tk' items n hD hC2 hge hDC ⟨m, hn⟩ hDo rD q hk
  refine ⟨m, hn, fun h'' hs'' => ?_⟩
  have hk' : ∀ b o, b ≠ C2 → h'.get? b = some o → h''.get? b = some o := fun b o hb e => (hs''.2 b hb).trans e
  have offC := fresh_off r hC2
  refine h h'' tk' _ (fun b o e => hk' b o (fun e' => by rw [e', hC2] at e; (injection e; done)) (hk b o e)) ((R.dropW rD fun a ha => .inl ha) |> fun r' => R.letGo r hC2 r' offC.1 hn hs'') ?_
  refine VR.mono (fun b o hb ho hsq => ⟨hk' b o (fun e => seq_ne_dict hn (e ▸ ho) hsq rfl) ho, hb⟩) (fun _ _ e => e) _ (comp_tree r hD hDo q)
 ·(injection em'; done)
theorem SS.assignComp {scope : Scope} {cl : List (Str × Addr)} {x y : Str} {kx k : Nat} {px py pos spos : Pos} {vars2 : List (Str × Nat)} {elt iter : Expr} {ifs : List Expr} {im : MSt → Option (List MV)} {tm : MSt → Option Bool} {em : MSt → Option MV}
  (co : CompOk fv scope cl x kx vars2) (hi : SI prog w A C fv false (.Name x px) iter im)
  (ht : ∀ C2 W0, SB prog w A { C with W0 := W0 } (innerFV fv scope cl C2 x kx vars2) (testsOf ifs (compEnvC scope cl C2 fv.env)) tm)
  (he : ∀ C2 W0, SE prog w A { C with W0 := W0 } (innerFV fv scope cl C2 x kx vars2) (eval elt (compEnvC scope cl C2 fv.env)) em)
  (hm : (y, k) ∈ fv.vars) (hv : VarsOk fv.vars = true) (hk : fv.env.scope.kind = .function) (hy : fv.env.kindOf y = some .local ∨ fv.env.kindOf y = some .cell)
  (hsw : swapsWith (.ListComp elt [⟨.Name x px, iter, ifs, 0⟩] scope pos) (some (.Name y py)) spos.line fv.env = pure true)
  (hs : ∀ x, foldedSetIterable iter fv.env x = pure x := by intro _; rfl) :
  SS prog w A C fv (exec (.Assign [.Name y py] (.ListComp elt [⟨.Name x px, iter, ifs, 0⟩] scope pos) spos) fv.env) (sAssign (eLstOf (eComp kx im tm em)) (bName k)) := by
 refine ⟨?_⟩
 intro φ st s o st' Q r ev h
 simp only [sAssign, eLstOf, eComp, oM, oI, Prod.mk.injEq] at ev
 refine cps fun G hG => ?_
 obtain ⟨v, ⟨ys, ⟨xs, ex, em'⟩, rfl⟩, st1, eb, rfl, rfl⟩ := ev
 split at em'
 ·rename_i hlen
  refine hG ?_; clear hG
  rw [exec_Assign_Name_used _ _ _ _ hsw]
  refine wpAny_bind (wpAny_standAt (wpAny_bind ?_))
  show wpAny _ A (do let _ ← comprehension (.ListComp elt [⟨.Name x px, iter, ifs, 0⟩] scope pos) scope fv.env _ (PySem.newList []) false (eval iter fv.env) (some (PySem.assign (.Name y py) fv.env))) _ _ s
  refine wpAny_bind (wpAny_mono (wpAny_comprehension_free (use := some (PySem.assign (.Name y py) fv.env)) (Q := fun _ s' => Q .next s') rfl hs co.clos co.kind co.names
   (hi.run φ st s xs _ r ex fun h2 tk I k2 r2 it => ?_)) (fun _ s' hq => wpAny_pure (wpAny_pure hq)) fun _ _ e => e)
  refine comp_list (RR := fun acc C2 => compPost (model prog w) A NoE (some (PySem.assign (.Name y py) fv.env)) (fun _ s' => Q .next s') acc C2) (s2 := { s with heap := h2, toks := tk }) it co r k2 ht he em' hlen ?_
  rintro D C2 h' tk' items n hD hC2 hge hDC ⟨m, hn⟩ hDo rD q hk2
  show wpAny _ A (PySem.assign (.Name y py) fv.env (.ref D)) _ _ _
  have offC := fresh_off r hC2
  have rD' := R.dropW rD fun a ha => .inl ha
  refine (sa_name hm hv hk hy).run φ st _ (.lst ys) _ st1 _ rD' eb (comp_tree r hD hDo q) fun h3 tk3 r3 e3 => ?_
  have hn3 : h3.Ns C2 m := hn.at' fun ob e => e3 C2 ob e offC.1 offC.2.1 offC.2.2.2.1 offC.2.2.2.2.2
  refine ⟨m, hn3, fun h4 hs4 => h φ h4 _ _ (R.letGo r hC2 r3 offC.1 hn3 hs4) (Ext.refl _ _) ?_ rfl⟩
  intro b ob e h1 h2 h3 h3'
  exact (hs4.2 b (fun e' => by rw [e', hC2] at e; (injection e; done))).trans (e3 b ob (hk2 b ob e) h1 h2 h3 h3')
 ·(injection em'; done)
noncomputable def sNewComp (k : Nat) (l : MSt → Option (List MV)) : MSt → Option (Out × MSt) := fun st => (l st).map fun ys => (.next, MSt.set { st with σ := st.σ ++ [MObj.list ys] } k (.ref st.σ.length))
theorem SS.newComp {scope : Scope} {cl : List (Str × Addr)} {x y : Str} {kx k : Nat} {px py pos spos : Pos} {vars2 : List (Str × Nat)} {elt iter : Expr} {ifs : List Expr} {im : MSt → Option (List MV)} {tm : MSt → Option Bool} {em : MSt → Option MV}
  (co : CompOk fv scope cl x kx vars2) (hi : SI prog w A C fv false (.Name x px) iter im)
  (ht : ∀ C2 W0, SB prog w A { C with W0 := W0 } (innerFV fv scope cl C2 x kx vars2) (testsOf ifs (compEnvC scope cl C2 fv.env)) tm)
  (he : ∀ C2 W0, SE prog w A { C with W0 := W0 } (innerFV fv scope cl C2 x kx vars2) (eval elt (compEnvC scope cl C2 fv.env)) em)
  (hm : (y, k) ∈ fv.vars) (hv : VarsOk fv.vars = true) (hk : fv.env.scope.kind = .function) (hy : fv.env.kindOf y = some .local ∨ fv.env.kindOf y = some .cell)
  (hsw : swapsWith (.ListComp elt [⟨.Name x px, iter, ifs, 0⟩] scope pos) (some (.Name y py)) spos.line fv.env = pure false)
  (hs : ∀ x, foldedSetIterable iter fv.env x = pure x := by intro _; rfl) :
  SS prog w A C fv (exec (.Assign [.Name y py] (.ListComp elt [⟨.Name x px, iter, ifs, 0⟩] scope pos) spos) fv.env) (sNewComp k (eComp kx im tm em)) := by
 refine ⟨?_⟩
 intro φ st s o st' Q r ev h
 simp only [sNewComp, eComp, oM, oI, Prod.mk.injEq] at ev
 refine cps fun G hG => ?_
 obtain ⟨ys, ⟨xs, ex, em'⟩, rfl, rfl⟩ := ev
 split at em'
 ·rename_i hlen
  refine hG ?_; clear hG
  refine wpAny_Assign_Name ?_ hsw
  rw [eval_ListComp]
  refine wpAny_comprehension_free (use := none) rfl hs co.clos co.kind co.names (hi.run φ st s xs _ r ex fun h2 tk I k2 r2 it => ?_)
  refine comp_list (RR := fun acc C2 => compPost (model prog w) A NoE none _ acc C2) (s2 := { s with heap := h2, toks := tk }) it co r k2 ht he em' hlen ?_
  rintro D C2 h' tk' items n hD hC2 hge hDC ⟨m, hn⟩ hDo rD q hk2
  have offC := fresh_off r hC2
  have offD := fresh_off r hD
  have hoffC' : some C2 ∉ φ ++ [some D] := fun hm' => by
   rcases List.mem_append.mp hm' with hm' | hm'
   ·exact offC.1 hm'
   ·simp only [List.mem_singleton, Option.some.injEq] at hm'; exact hDC hm'.symm
  have hmonoD : ∀ b o, ¬ Cx.av (C.plus D) φ b → h'.get? b = some o → IsSeq o → h'.get? b = some o ∧ ¬ C.av (φ ++ [some D]) b := by
   intro b o hb hbo _
   refine ⟨hbo, ?_⟩
   rintro (h1 | h1)
   ·exact hb (.inl (.inl h1))
   ·rcases List.mem_append.mp h1 with h1 | h1
    ·exact hb (.inr h1)
    ·simp only [List.mem_singleton, Option.some.injEq] at h1
     exact hb (.inl (.inr h1))
  have r3 := rD.adopt (o := .list ys) offD.1 offD.2.1 offD.2.2.1 offD.2.2.2.1 hge ⟨items, n, hDo, VRs.mono hmonoD (fun n a e => by rw [List.getElem?_append_left (List.getElem?_eq_some_iff.mp e).1]; exact e) _ q, by have := mcomp_length em'; omega⟩
  refine ⟨m, hn, fun h4 hs4 => ?_⟩
  have r4 := R.letGo r hC2 r3 hoffC' hn hs4
  have k4 : Stays s.heap h4 := fun b ob e => (hs4.2 b (fun e' => by rw [e', hC2] at e; (injection e; done))).trans (hk2 b ob e)
  have x4 : Ext φ (φ ++ [some D]) s.heap := ⟨fun a ha => by
   rcases List.mem_append.mp ha with h1 | h1
   ·exact .inl h1
   ·simp only [List.mem_singleton, Option.some.injEq] at h1
    subst h1; exact .inr hD, fun i a e => by rw [List.getElem?_append_left (List.getElem?_eq_some_iff.mp e).1]; exact e⟩
  refine r4.setVar hm hv hk hy (vr_ref (ref_last r.len)) fun h5 t5 r5 e5 => h _ h5 t5 _ r5 x4 ?_ rfl
  exact (Eff.of_stays k4).trans x4 e5
 ·(injection em'; done)
end
end
section
set_option backward.match.sparseCases false
section
variable {prog : Program} {w : World} {A : Around} {C : Cx} {fv : FV} {K : Frag}
noncomputable def mdict (kx : Nat) (ke ve : MSt → Option MV) (st : MSt) : List MV → (Str → Option MV) → Nat → Option ((Str → Option MV) × Nat)
 | [], f, n => some (f, n)
 | x :: xs, f, n => (ke (st.set kx x)).bind fun k => match k with
  | .str s => (ve (st.set kx x)).bind fun v => mdict kx ke ve st xs (fun y => if y = s then some v else f y) (n + 1)
  | _ => none
theorem mdict_n {kx : Nat} {ke ve : MSt → Option MV} {st : MSt} {f : Str → Option MV} {n : Nat} : mdict kx ke ve st [] f n = some (f, n) := rfl
theorem mdict_c {kx : Nat} {ke ve : MSt → Option MV} {st : MSt} {f : Str → Option MV} {n : Nat} {x : MV} {xs : List MV} : mdict kx ke ve st (x :: xs) f n = ((ke (st.set kx x)).bind fun k => match k with
  | .str s => (ve (st.set kx x)).bind fun v => mdict kx ke ve st xs (fun y => if y = s then some v else f y) (n + 1)
  | _ => none) := rfl
theorem comp_dict {scope : Scope} {cl : List (Str × Addr)} {x : Str} {kx : Nat} {px pos : Pos} {vars2 : List (Str × Nat)} {φ : List (Option Addr)} {st : MSt} {s2 : Shared} {sh : Heap} {xs : List MV} {I : Addr} {ek ev iter : Expr} {km em : MSt → Option MV} {ff : Str → Option MV} {nn : Nat}
  {E : Value → Shared → Prop} {RR : Value → Addr → Result → Shared → Prop}
  (it : ItOk prog w A C fv false (.Name x px) φ s2.heap xs I sh) (co : CompOk fv scope cl x kx vars2) (r0 : R prog w C fv φ st sh) (hk : Stays sh s2.heap)
  (hek : ∀ C2 W0, SE prog w A { C with W0 := W0 } (innerFV fv scope cl C2 x kx vars2) (eval ek (compEnvC scope cl C2 fv.env)) km)
  (hev : ∀ C2 W0, SE prog w A { C with W0 := W0 } (innerFV fv scope cl C2 x kx vars2) (eval ev (compEnvC scope cl C2 fv.env)) em)
  (hm : mdict kx km em st xs (fun _ => none) 0 = some (ff, nn)) (hlen : xs.length ≤ 1000)
  (hRR : ∀ D C2 h' tk kvs, sh.get? D = none → sh.get? C2 = none → C.h₀.objs.size ≤ D → D ≠ C2 → (∃ m, h'.Ns C2 m) → h'.DictOf (PySem.strKind prog w) D kvs → kvs.length ≤ nn → nn ≤ 1000 → R prog w (C.plus D) fv φ st h' →
   (∀ y, OVR h' (Cx.av (C.plus D) φ) φ (ff y) (valueAt kvs y)) → Stays sh h' → RR (.ref D) C2 (.ok .next) { s2 with heap := h', toks := tk }) :
  wpAny (model prog w) A newDict (fun acc s₃ => wpAny (model prog w) A (newFunctionEnv scope fv.env.globals cl [] fv.env.qual none .none (some fv.env)) (fun cenv s₄ =>
   codeAny (model prog w) A (.compStart (.DictComp ek ev [⟨.Name x px, iter, [], 0⟩] scope pos) 0 (.ref I) acc { cenv with scope := relabel scope fv.env }) (RR acc cenv.locals) s₄) E s₃) E s2 := by
 refine cps fun G hG => ?_
 obtain ⟨fp, wr, P, Md, St, W, st0, hfp, hwr, halive, hself, hitem⟩ := it
 have it : CompIt prog w A C fv (.Name x px) φ s2.heap xs I sh fp wr P Md St := ⟨W, st0, hfp, hwr, halive, hself, hitem⟩
 have r2 := r0.stays hk
 refine hG ?_; clear hG
 refine wpAny_newObj_type (wpAny_newFunctionEnv co.ncell (by intro y hy; simp at hy) (fun h₁ hns₁ hsb₁ => ?_) co.kind)
 dsimp only at hns₁ hsb₁ ⊢
 have hnew : (s2.heap.push { cls := .type "dict", dict := none, data := .dict #[] }).DictOf (PySem.strKind prog w) s2.heap.objs.size [] := Heap.DictOf.new s2.heap
 generalize hH2 : s2.heap.push { cls := .type "dict", dict := none, data := .dict #[] } = H2 at hns₁ hsb₁ hnew ⊢
 have hC : H2.objs.size = s2.heap.objs.size + 1 := by rw [← hH2, Heap.size_push]
 have hDC : s2.heap.objs.size ≠ H2.objs.size := by rw [hC]; exact Nat.ne_of_lt (Nat.lt_succ_self _)
 have old : Stays s2.heap h₁ := fun b o e => hsb₁.extBut b o (by have := Heap.lt_size e; rw [hC]; exact Nat.ne_of_lt (Nat.lt_succ_of_lt this)) (Heap.get?_push_of_some _ (hH2 ▸ Heap.get?_push_of_some _ e))
 have hacc : h₁.DictOf (PySem.strKind prog w) s2.heap.objs.size [] := hnew.at fun o e => hsb₁.extBut _ _ hDC (Heap.get?_push_of_some _ e)
 have hDn : s2.heap.get? s2.heap.objs.size = none := get?_size_none _
 have hCn : s2.heap.get? H2.objs.size = none := by
  cases e : s2.heap.get? H2.objs.size with
  | none => rfl
  | some o =>
   have h1 : @LT.lt Nat _ H2.objs.size s2.heap.objs.size := Heap.lt_size e
   have h2 : @Eq Nat H2.objs.size (s2.heap.objs.size + 1) := hC
   omega
 clear hnew
 generalize hD : s2.heap.objs.size = D at *
 generalize hC2 : H2.objs.size = C2 at *
 have hDfp : D ∉ fp := fun hm => by obtain ⟨⟨o, ho⟩, _⟩ := hfp D hm; exact (ng hDn ho).elim
 have hgeD : C.h₀.objs.size ≤ D := by have := r2.size_ge; rw [hD] at this; exact this
 have hgeC : C.h₀.objs.size ≤ C2 := by
  have h1 : @LE.le Nat _ C.h₀.objs.size D := hgeD
  show @LE.le Nat _ C.h₀.objs.size C2
  have h2 : @Eq Nat C2 (D + 1) := hC
  omega
 have hW' : ∀ a, (C.W0 a ∨ a = D) → C.W0 a ∨ s2.heap.get? a = none := fun a ha => ha.imp id fun e => by rw [e]; exact hDn
 have hCW : ¬ (C.W0 C2 ∨ C2 = D) := by
  rintro (h1 | h1)
  ·obtain ⟨o, ho⟩ := r2.av0 _ h1; exact (ng hCn ho).elim
  ·exact hDC h1.symm
 have ci0 : CI prog w (C.plus D) fv φ st s2.heap wr St C2 0 h₁ := ⟨r2.growW old hDn (let ⟨o, _, _, ho, _⟩ := hacc; ⟨o, ho⟩), ⟨_, hns₁⟩, W.frame _ _ _ st0 fun b _ o e => old b o e, fun b o e _ => old b o e⟩
 have loop : ∀ s₃ : Shared, s₃ = { s2 with heap := h₁, toks := s2.toks + ([] : List (Str × Value)).length } →
   codeAny (model prog w) A (.compLoop (.DictComp ek ev [⟨.Name x px, iter, [], 0⟩] scope pos) 0 (.ref I) (.ref D) (compEnvC scope cl C2 fv.env)) (RR (.ref D) C2) s₃ := by
  rintro s₃ rfl
  refine codeAny_compLoop_testsD (fun k s' => ∃ h1 tk i kvs f n, s' = { s2 with heap := h1, toks := tk } ∧ CI prog w (C.plus D) fv φ st s2.heap wr St C2 i h1 ∧ h1.DictOf (PySem.strKind prog w) D kvs ∧ kvs.length ≤ n ∧ n = i ∧
   (∀ y, OVR h1 (Cx.av (C.plus D) φ) φ (f y) (valueAt kvs y)) ∧ mdict kx km em st (xs.drop i) f n = some (ff, nn) ∧ i ≤ xs.length ∧ k = xs.length + 1 - i) ?_ (xs.length + 1)
   ⟨h₁, _, 0, [], (fun _ => none), 0, rfl, ci0, hacc, Nat.le_refl _, rfl, fun y => trivial, by simpa using hm, Nat.zero_le _, rfl⟩
  intro k s' hX
  refine cps fun G hG => ?_
  obtain ⟨h1, tk, i, kvs, f, n, es, ci, hDo, hkl, hni, qs, em1, hi, ek⟩ := hX
  obtain rfl : i = n := hni.symm
  by_cases hlt : i < xs.length
  ·have hx : xs[i]? = some xs[i] := List.getElem?_eq_getElem hlt
   rw [List.drop_eq_getElem_cons hlt] at em1
   simp only [mdict_n, mdict_c, oI] at em1
   obtain ⟨kk, ek1, em1⟩ := em1
   cases kk <;> simp only [reduceCtorEq, oI] at em1
   rename_i str
   obtain ⟨vv, ev1, em1⟩ := em1
   refine hG ?_; clear hG
   subst es ek
   refine comp_turn it co r0 r2 hW' hCn hgeC hCW ci hx fun h5 tk5 ci5 k5 r5 => ?_
   have hD5 : h5.DictOf (PySem.strKind prog w) D kvs := hDo.at fun o e => k5 D o hDC (fun hm => hDfp (W.sub _ hm)) e
   have qs5 : ∀ y, OVR h5 (Cx.av (C.plus D) φ) φ (f y) (valueAt kvs y) := fun y => by
    refine OVR.mono (fun b o hb ho hs => ⟨k5 b o ?_ ?_ ho, hb⟩) (fun _ _ e => e) (qs y)
    ·rintro rfl; obtain ⟨m, hn⟩ := ci.ns; exact seq_ne_dict hn ho hs rfl
    ·intro hm; exact (halive _ _ ci.st).2 b hm o ho hs
   refine wpAny_tests_nil ?_
   simp only [if_true]
   refine wpAny_mono ((hek C2 _).run φ _ _ _ _ r5 ek1 fun h6 tk6 v6 k6 r6 q6 => ?_) (fun _ _ z => z) fun _ _ z => z.elim
   obtain ⟨t, rfl⟩ := vr_str_inv q6
   refine wpAny_mono ((hev C2 _).run φ _ _ _ _ r6 ev1 fun h7 tk7 v7 k7 r7 q7 => ?_) (fun _ _ z => z) fun _ _ z => z.elim
   have ci7 := ci5.stays W.frame (k6.trans k7)
   have hD7 : h7.DictOf (PySem.strKind prog w) D kvs := hD5.at fun o e => k7 _ _ (k6 _ _ e)
   refine wpAny_dictSet_pairs (strKind_is prog w str t) hD7 (fun h8 g8 hs8 => ?_) (le_sizeLine (by omega))
   have ci8 := ci7.gather W.frame r2 hDn hDfp hDC (.inr rfl) hs8 (let ⟨o, _, _, ho, _⟩ := g8; ⟨o, ho⟩)
   have mono : ∀ b o, ¬ Cx.av (C.plus D) φ b → h7.get? b = some o → IsSeq o → h8.get? b = some o ∧ ¬ Cx.av (C.plus D) φ b := fun b o hb ho _ => ⟨(hs8.2 b (fun e => hb (.inl (.inr e)))).trans ho, hb⟩
   refine ⟨xs.length + 1 - (i + 1), by omega, h8, _, i + 1, _, _, i + 1, rfl, ci8, g8, Nat.le_trans (stored_length_le _ _ _) (by omega), rfl, fun y => ?_, em1, hlt, rfl⟩
   rw [valueAt_stored]
   by_cases hy : y = str
   ·simp only [hy, if_true]; exact ⟨v7, rfl, VR.mono mono (fun _ _ e => e) _ q7⟩
   ·simp only [hy, if_false]
    exact OVR.mono mono (fun _ _ e => e) (OVR.mono (fun b o hb ho _ => ⟨k7 _ _ (k6 _ _ ho), hb⟩) (fun _ _ e => e) (qs5 y))
  ·have hin : i = xs.length := by omega
   subst hin
   rw [List.drop_length] at em1
   simp only [mdict_n, mdict_c, Option.some.injEq, Prod.mk.injEq] at em1
   obtain ⟨rfl, rfl⟩ := em1
   refine hG ?_; clear hG
   subst es
   refine comp_end (C2 := C2) it r0 hW' hCn ci fun h5 tk5 r5 hn5 k5 => ?_
   have noton : ∀ {c : Addr}, s2.heap.get? c = none → sh.get? c = none := fun {c} e => by
    cases e' : sh.get? c with
    | none => rfl
    | some o => have := hk c o e'; exact (ng e this).elim
   refine hRR D C2 h5 tk5 kvs (noton hDn) (noton hCn) hgeD hDC hn5 (hDo.at fun o e => k5 D o (fun hm => hDfp (W.sub _ hm)) e) hkl hlen r5 (fun y => OVR.mono (fun b o hb ho hs => ⟨k5 b o (fun hm => (halive _ _ ci.st).2 b hm o ho hs) ho, hb⟩) (fun _ _ e => e) (qs y)) fun b o e => ?_
   have hb : b ∉ wr := fun hm => by exact (ng (hwr b hm) e).elim
   exact k5 b o hb (ci.kp b o (hk b o e) hb)
 exact codeAny_compStart_dict (loop _ rfl) (hself 0 _ _ _ (W.frame _ _ _ st0 fun b _ o e => old b o e) (loop _ rfl))
noncomputable def sNewDict (k kx : Nat) (it : MSt → Option (List MV)) (ke ve : MSt → Option MV) : MSt → Option (Out × MSt) := fun st => (it st).bind fun xs => if xs.length ≤ 1000 then (mdict kx ke ve st xs (fun _ => none) 0).map fun p => (.next, MSt.set { st with σ := st.σ ++ [MObj.dict p.1 p.2] } k (.ref st.σ.length)) else none
theorem SS.newDict {scope : Scope} {cl : List (Str × Addr)} {x y : Str} {kx k : Nat} {px py pos spos : Pos} {vars2 : List (Str × Nat)} {ek ev iter : Expr} {im : MSt → Option (List MV)} {km em : MSt → Option MV}
  (co : CompOk fv scope cl x kx vars2) (hi : SI prog w A C fv false (.Name x px) iter im)
  (hek : ∀ C2 W0, SE prog w A { C with W0 := W0 } (innerFV fv scope cl C2 x kx vars2) (eval ek (compEnvC scope cl C2 fv.env)) km)
  (hev : ∀ C2 W0, SE prog w A { C with W0 := W0 } (innerFV fv scope cl C2 x kx vars2) (eval ev (compEnvC scope cl C2 fv.env)) em)
  (hm : (y, k) ∈ fv.vars) (hv : VarsOk fv.vars = true) (hk : fv.env.scope.kind = .function) (hy : fv.env.kindOf y = some .local ∨ fv.env.kindOf y = some .cell)
  (hsw : swapsWith (.DictComp ek ev [⟨.Name x px, iter, [], 0⟩] scope pos) (some (.Name y py)) spos.line fv.env = pure false)
  (hs : ∀ x, foldedSetIterable iter fv.env x = pure x := by intro _; rfl) :
  SS prog w A C fv (exec (.Assign [.Name y py] (.DictComp ek ev [⟨.Name x px, iter, [], 0⟩] scope pos) spos) fv.env) (sNewDict k kx im km em) := by
 refine ⟨?_⟩
 intro φ st s o st' Q r evv h
 simp only [sNewDict, oI] at evv
 refine cps fun G hG => ?_
 obtain ⟨xs, ex, em'⟩ := evv
 split at em'
 ·rename_i hlen
  simp only [oM, Prod.mk.injEq] at em'
  obtain ⟨⟨ff, nn⟩, em', rfl, rfl⟩ := em'
  refine hG ?_; clear hG
  refine wpAny_Assign_Name ?_ hsw
  show wpAny _ A (comprehension (.DictComp ek ev [⟨.Name x px, iter, [], 0⟩] scope pos) scope fv.env _ PySem.newDict false (eval iter fv.env) none) _ _ s
  refine wpAny_comprehension_free (use := none) rfl hs co.clos co.kind co.names (hi.run φ st s xs _ r ex fun h2 tk I k2 r2 it => ?_)
  refine comp_dict (RR := fun acc C2 => compPost (model prog w) A NoE none _ acc C2) (s2 := { s with heap := h2, toks := tk }) it co r k2 hek hev em' hlen ?_
  rintro D C2 h' tk' kvs hD hC2 hge hDC ⟨m, hn⟩ hDo hkl hnn rD q hk2
  have offC := fresh_off r hC2
  have offD := fresh_off r hD
  have hoffC' : some C2 ∉ φ ++ [some D] := fun hm' => by
   rcases List.mem_append.mp hm' with hm' | hm'
   ·exact offC.1 hm'
   ·simp only [List.mem_singleton, Option.some.injEq] at hm'; exact hDC hm'.symm
  have hmonoD : ∀ b o, ¬ Cx.av (C.plus D) φ b → h'.get? b = some o → IsSeq o → h'.get? b = some o ∧ ¬ C.av (φ ++ [some D]) b := by
   intro b o hb hbo _
   refine ⟨hbo, ?_⟩
   rintro (h1 | h1)
   ·exact hb (.inl (.inl h1))
   ·rcases List.mem_append.mp h1 with h1 | h1
    ·exact hb (.inr h1)
    ·simp only [List.mem_singleton, Option.some.injEq] at h1
     exact hb (.inl (.inr h1))
  have r3 := rD.adopt (o := .dict ff nn) offD.1 offD.2.1 offD.2.2.1 offD.2.2.2.1 hge ⟨kvs, hDo, hkl, by omega, fun y => OVR.mono hmonoD (fun n a e => by rw [List.getElem?_append_left (List.getElem?_eq_some_iff.mp e).1]; exact e) (q y)⟩
  refine ⟨m, hn, fun h4 hs4 => ?_⟩
  have r4 := R.letGo r hC2 r3 hoffC' hn hs4
  have k4 : Stays s.heap h4 := fun b ob e => (hs4.2 b (fun e' => by rw [e', hC2] at e; (injection e; done))).trans (hk2 b ob e)
  have x4 : Ext φ (φ ++ [some D]) s.heap := ⟨fun a ha => by
   rcases List.mem_append.mp ha with h1 | h1
   ·exact .inl h1
   ·simp only [List.mem_singleton, Option.some.injEq] at h1
    subst h1; exact .inr hD, fun i a e => by rw [List.getElem?_append_left (List.getElem?_eq_some_iff.mp e).1]; exact e⟩
  refine r4.setVar hm hv hk hy (vr_ref (ref_last r.len)) fun h5 t5 r5 e5 => h _ h5 t5 _ r5 x4 ?_ rfl
  exact (Eff.of_stays k4).trans x4 e5
 ·(injection em'; done)
end
end
section
set_option backward.match.sparseCases false
section
variable {prog : Program} {w : World} {A : Around} {C : Cx} {fv : FV} {K : Frag}
mutual
noncomputable def freeze (st : MSt) : MV → Option MV
 | .ref n => match st.σ[n]? with
  | some (.list xs) => if noRefs xs then some (.lst xs) else none
  | _ => none
 | .cls _ => none
 | .tup l => (freezes st l).map .tup
 | .lst l => (freezes st l).map .lst
 | .none => some .none
 | .bool b => some (.bool b)
 | .int i => some (.int i)
 | .str s => some (.str s)
noncomputable def freezes (st : MSt) : List MV → Option (List MV)
 | [] => some []
 | x :: xs => (freeze st x).bind fun y => (freezes st xs).map (y :: ·)
end
theorem fZ1 {st : MSt} : freeze st .none = some .none := rfl
theorem fZ2 {st : MSt} {b : Bool} : freeze st (.bool b) = some (.bool b) := rfl
theorem fZ3 {st : MSt} {b : Int} : freeze st (.int b) = some (.int b) := rfl
theorem fZ4 {st : MSt} {b : Str} : freeze st (.str b) = some (.str b) := rfl
theorem fZ5 {st : MSt} {l : List MV} : freeze st (.tup l) = (freezes st l).map .tup := rfl
theorem fZ6 {st : MSt} {l : List MV} : freeze st (.lst l) = (freezes st l).map .lst := rfl
theorem fZ7 {st : MSt} {n : Nat} : freeze st (.ref n) = (match st.σ[n]? with
  | some (.list xs) => if noRefs xs then some (.lst xs) else none
  | _ => none) := rfl
theorem fZ8 {st : MSt} {n : String} : freeze st (.cls n) = none := rfl
theorem fZs1 {st : MSt} : freezes st [] = some [] := rfl
theorem fZs2 {st : MSt} {x : MV} {xs : List MV} : freezes st (x :: xs) = ((freeze st x).bind fun y => (freezes st xs).map (y :: ·)) := rfl
mutual
theorem freeze_ok {φ : List (Option Addr)} {st : MSt} {h : Heap} (r : R prog w C fv φ st h) (hW : ∀ a, C.W0 a → ∃ o, C.h₀.get? a = some o) : ∀ (x : MV) {y : MV} {v : Value}, freeze st x = some y → VR h (C.av φ) φ x v → VR h C.W0 [] y v
 | .cls _, _, _, e, q => by simp only [fZ1, fZ2, fZ3, fZ4, fZ5, fZ6, fZ7, fZ8, reduceCtorEq] at e
 | .none, _, _, e, q => by simp only [fZ1, fZ2, fZ3, fZ4, fZ5, fZ6, fZ7, fZ8, Option.some.injEq] at e; subst e; simpa only [vR1, vR2, vR3, vR4, vR5, vR6, vR7, vR8] using q
 | .bool _, _, _, e, q => by simp only [fZ1, fZ2, fZ3, fZ4, fZ5, fZ6, fZ7, fZ8, Option.some.injEq] at e; subst e; simpa only [vR1, vR2, vR3, vR4, vR5, vR6, vR7, vR8] using q
 | .int _, _, _, e, q => by simp only [fZ1, fZ2, fZ3, fZ4, fZ5, fZ6, fZ7, fZ8, Option.some.injEq] at e; subst e; simpa only [vR1, vR2, vR3, vR4, vR5, vR6, vR7, vR8] using q
 | .str _, _, _, e, q => by simp only [fZ1, fZ2, fZ3, fZ4, fZ5, fZ6, fZ7, fZ8, Option.some.injEq] at e; subst e; simpa only [vR1, vR2, vR3, vR4, vR5, vR6, vR7, vR8] using q
 | .tup l, _, _, e, q => by
  simp only [fZ1, fZ2, fZ3, fZ4, fZ5, fZ6, fZ7, fZ8, oM] at e
  obtain ⟨l', e, rfl⟩ := e
  simp only [vR1, vR2, vR3, vR4, vR5, vR6, vR7, vR8] at q ⊢
  obtain ⟨b, items, rfl, hb, ho, hl⟩ := q
  exact ⟨b, items, rfl, fun hc => hb (.inl hc), ho, freezes_ok r hW l e hl⟩
 | .lst l, _, _, e, q => by
  simp only [fZ1, fZ2, fZ3, fZ4, fZ5, fZ6, fZ7, fZ8, oM] at e
  obtain ⟨l', e, rfl⟩ := e
  simp only [vR1, vR2, vR3, vR4, vR5, vR6, vR7, vR8] at q ⊢
  obtain ⟨b, items, rfl, hb, ho, hl⟩ := q
  exact ⟨b, items, rfl, fun hc => hb (.inl hc), ho, freezes_ok r hW l e hl⟩
 | .ref n, _, _, e, q => by
  simp only [fZ1, fZ2, fZ3, fZ4, fZ5, fZ6, fZ7, fZ8] at e
  split at e
  ·rename_i xs hn
   split at e <;> cases e
   rename_i hnr
   simp only [vR1, vR2, vR3, vR4, vR5, vR6, vR7, vR8] at q ⊢
   obtain ⟨a, ha, rfl⟩ := q
   obtain ⟨items, k, g1, g2, g3⟩ := r.sto n a _ ha hn
   refine ⟨a, items, rfl, fun hc => ?_, ⟨_, g1, rfl, k, rfl⟩, VRs.noRef xs (VRs.mono (fun b o hb ho _ => ⟨ho, fun hc => hb (.inl hc)⟩) (fun _ _ e => e) xs g2) hnr⟩
   obtain ⟨o, ho⟩ := hW a hc
   have h1 : @LT.lt Nat _ a C.h₀.objs.size := Heap.lt_size ho
   have h2 : @LE.le Nat _ C.h₀.objs.size a := r.new a (List.mem_of_getElem? ha)
   omega
  ·(injection e; done)
theorem freezes_ok {φ : List (Option Addr)} {st : MSt} {h : Heap} (r : R prog w C fv φ st h) (hW : ∀ a, C.W0 a → ∃ o, C.h₀.get? a = some o) : ∀ (x : List MV) {y : List MV} {v : List Value}, freezes st x = some y → VRs h (C.av φ) φ x v → VRs h C.W0 [] y v
 | [], _, _, e, q => by simp only [fZs1, fZs2, Option.some.injEq] at e; subst e; simpa only [vRs1, vRs2] using q
 | x :: xs, _, _, e, q => by
  simp only [fZs1, fZs2, oI, oM] at e
  obtain ⟨y, e1, ys, e2, rfl⟩ := e
  simp only [vRs1, vRs2] at q ⊢
  obtain ⟨v, rest, rfl, h1, h2⟩ := q
  exact ⟨v, rest, rfl, freeze_ok r hW x e1 h1, freezes_ok r hW xs e2 h2⟩
end
noncomputable def Binder (prog : Program) (w : World) (fd : FuncData) (names : List Str) (pack : List MV → Option (List MV)) : Prop :=
 ∀ (A : Around) (W0 : Addr → Prop) (s : Shared) args args' vs (Q : List (Str × Value) → Shared → Prop) (E : Value → Shared → Prop), pack args = some args' → VRs s.heap W0 [] args vs → (∀ a, W0 a → ∃ o, s.heap.get? a = some o) →
  (∀ h' tk vs', Stays s.heap h' → VRs h' W0 [] args' vs' → Q (names.zip vs') { s with heap := h', toks := tk }) → wpAny (model prog w) A (bindArgs fd ⟨vs, []⟩) Q E s
noncomputable def packN (n : Nat) : List MV → Option (List MV) := fun l => if l.length = n then some l else none
theorem binder_plain {fd : FuncData} {names : List Str} {n : Nat} (h : ∀ vs : List Value, vs.length = n → bindArgs fd ⟨vs, []⟩ = pure (names.zip vs)) : Binder prog w fd names (packN n) := by
 intro A W0 s args args' vs Q E e q hW hQ
 simp only [packN] at e
 refine cps fun G hG => ?_
 split at e <;> cases e
 rename_i hn
 refine hG ?_; clear hG
 rw [h vs (by rw [← q.length]; exact hn)]
 exact wpAny_pure (hQ s.heap s.toks vs (Stays.refl _) q)
theorem bindL_get {kindOf : Str → Option NameKind} {x : Str} {v : Value} (hk : kindOf x = some .local) : ∀ {binds : List (Str × Value)} {m : Str → Option Value}, (binds.map (·.1)).Nodup → (x, v) ∈ binds ∨ (x ∉ binds.map (·.1) ∧ m x = some v) → bindL kindOf binds m x = some v
 | [], m, _, h => by unfold bindL; simpa using h
 | (n, u) :: r, m, hd, h => by
  simp only [List.map_cons, List.nodup_cons] at hd
  unfold bindL
  refine bindL_get hk hd.2 ?_
  rcases h with h | ⟨h1, h2⟩
  ·rcases List.mem_cons.mp h with e | h
   ·cases e
    exact .inr ⟨hd.1, by rw [if_pos hk]; simp⟩
   ·exact .inl h
  ·simp only [List.map_cons, List.mem_cons, not_or] at h1
   refine .inr ⟨h1.2, ?_⟩
   split
   ·show (if x = n then some u else m x) = some v
    rw [if_neg h1.1]; exact h2
   ·exact h2
theorem bindC_get {kindOf : Str → Option NameKind} {x : Str} {v : Value} (hk : kindOf x ≠ some .local) : ∀ {binds : List (Str × Value)} {m : Str → Option Value}, (binds.map (·.1)).Nodup → (x, v) ∈ binds ∨ (x ∉ binds.map (·.1) ∧ m x = some v) → bindC kindOf binds m x = some v
 | [], m, _, h => by unfold bindC; simpa using h
 | (n, u) :: r, m, hd, h => by
  simp only [List.map_cons, List.nodup_cons] at hd
  unfold bindC
  refine bindC_get hk hd.2 ?_
  rcases h with h | ⟨h1, h2⟩
  ·rcases List.mem_cons.mp h with e | h
   ·cases e
    exact .inr ⟨hd.1, by rw [if_neg hk]; simp⟩
   ·exact .inl h
  ·simp only [List.map_cons, List.mem_cons, not_or] at h1
   refine .inr ⟨h1.2, ?_⟩
   split
   ·exact h2
   ·show (if x = n then some u else m x) = some v
    rw [if_neg h1.1]; exact h2
noncomputable def start (args : List MV) : MSt := ⟨fun k => args[k]?, []⟩
noncomputable def runFn (pack : List MV → Option (List MV)) (m : MSt → Option (Out × MSt)) (args : List MV) : Option MV := (pack args).bind fun l => (m (start l)).bind fun p => match p.1 with
 | .ret v => freeze p.2 v
 | _ => none
structure FnOk (K : Frag) (f : Addr) (fd : FuncData) (body : List Stmt) (vars : List (Str × Nat)) (names : List Str) : Prop where
 look : ∃ o, K.lookup f = some o ∧ o.data = .func fd
 body : fd.body = .stmts body
 code : codeIn K fd.code fd.qualname = true
 clos : fd.closure = []
 glob : fd.globals = mainGlobals
 bins : fd.builtins = builtinsNs
 nd : names.Nodup
 nk : ∀ x ∈ names, ∀ L, fd.scope.names.lookup x = some .local ∨ (fd.scope.names.lookup x = some .cell ∧ ((cellsFrom L fd.scope.names []).lookup x).isSome = true)
 vk : ∀ p ∈ vars, ∀ L, fd.scope.names.lookup p.1 = some .local ∨ (fd.scope.names.lookup p.1 = some .cell ∧ ((cellsFrom L fd.scope.names []).lookup p.1).isSome = true)
 slots : ∀ p ∈ vars, ∀ i, p.2 = i → i < names.length → names[i]? = some p.1
 co : fd.scope.isCoroutine = false
 gen : fd.scope.isGenerator = false
 kind : fd.scope.kind = .function
noncomputable abbrev fnFV (fd : FuncData) (L f : Addr) (vars : List (Str × Nat)) : FV := ⟨callEnvC fd L f, vars⟩
theorem fn_enter {f : Addr} {fd : FuncData} {body : List Stmt} {vars : List (Str × Nat)} {names : List Str} {s₀ s₁ : Shared} {W0 : Addr → Prop} {args : List MV} {vs : List Value} (ok : FnOk K f fd body vars names)
  (hq : VRs s₀.heap W0 [] args vs) (hlen : args.length = names.length) (hW : ∀ a, W0 a → ∃ o, s₀.heap.get? a = some o)
  (x : InCallC s₀ (callEnvC fd s₀.heap.objs.size f).locals (bindL (callEnvC fd s₀.heap.objs.size f).kindOf (names.zip vs) fun _ => none) (callEnvC fd s₀.heap.objs.size f).cells (bindC (callEnvC fd s₀.heap.objs.size f).kindOf (names.zip vs) fun _ => none) s₁) :
  R prog w ⟨s₀.heap, s₀.heap.objs.size, W0, fun _ => False, s₀.heap⟩ (fnFV fd s₀.heap.objs.size f vars) [] (start args) s₁.heap := by
 have hkeep := x.toInCall.keep
 have hns := x.toInCall.ns
 have mem : ∀ {n : Str} {c : Addr}, (callEnvC fd s₀.heap.objs.size f).cells.lookup n = some c → (n, c) ∈ (callEnvC fd s₀.heap.objs.size f).cells := mem_of_lookup
 have hz : (names.zip vs).map (·.1) = names := by rw [List.map_fst_zip]; rw [← hlen, hq.length]; exact Nat.le_refl _
 refine ⟨hkeep, ⟨_, hns⟩, Nat.le_refl _, fun a ha => let ⟨o, ho⟩ := hW a ha; ⟨o, hkeep a o ho⟩, fun p hp => ?_, rfl, fun i a o e => by simp at e, fun a ha => by simp at ha, fun i j a e => by simp at e, fun a ha => by simp at ha,
  ⟨_, hns⟩, Nat.le_refl _, by simp, by simp, fun n c hc => ?_, fun n m c h1 h2 => name_of_addr x.apart (mem h1) (mem h2), fun n c hc => ⟨_, x.cell n c hc⟩, by simp, fun _ hh => hh.elim⟩
 ·have val : ∀ (b : Str → Option Value), (∀ v, (p.1, v) ∈ names.zip vs → b p.1 = some v) → OVR s₁.heap (Cx.av ⟨s₀.heap, s₀.heap.objs.size, W0, fun _ => False, s₀.heap⟩ []) [] ((start args).ρ p.2) (b p.1) := by
   intro b hb
   show OVR _ _ _ args[p.2]? _
   cases e : args[p.2]? with
   | none => trivial
   | some y =>
    obtain ⟨u, hu, hv⟩ := hq.get p.2 y e
    have hi : p.2 < names.length := by rw [← hlen]; exact (List.getElem?_eq_some_iff.mp e).1
    have hn := ok.slots p hp p.2 rfl hi
    refine ⟨u, hb u ?_, VR.mono (fun b o hb ho _ => ⟨hkeep b o ho, fun hc => hc.elim hb (by simp)⟩) (fun _ _ e => e) y hv⟩
    exact List.mem_of_getElem? (i := p.2) (List.getElem?_zip_eq_some.mpr ⟨hn, hu⟩)
  rcases ok.vk p hp (s₀.heap.objs.size + 1) with hl | ⟨hc, hs⟩
  ·exact ⟨_, .inl ⟨hl, _, hns, rfl⟩, val _ fun v hv => bindL_get hl (by rw [hz]; exact ok.nd) (.inl hv)⟩
  ·obtain ⟨c, hs⟩ := Option.isSome_iff_exists.mp hs
   refine ⟨_, .inr ⟨.inl hc, c, hs, x.cell _ c hs⟩, val _ fun v hv => bindC_get (by show fd.scope.names.lookup p.1 ≠ some .local; rw [hc]; decide) (by rw [hz]; exact ok.nd) (.inl hv)⟩
 ·exact Nat.le_of_lt (x.above n c (mem hc))
theorem call_of {f : Addr} {fd : FuncData} {body : List Stmt} {vars : List (Str × Nat)} {names : List Str} {n : Nat} {pack : List MV → Option (List MV)} {m : MSt → Option (Out × MSt)} (ok : FnOk K f fd body vars names) (hb : Binder prog w fd names pack)
  (hpack : ∀ l l', pack l = some l' → l'.length = names.length)
  (W0 : Addr → Prop) (hss : ∀ A C L, C.W0 = W0 → AOk A n → CtxB A C → TopOk K C.h₀ → SS prog w A C (fnFV fd L f vars) (execs body (callEnvC fd L f)) m) : ∀ args v, runFn pack m args = some v →
  ∀ A base outer s vs Q, AOk A (n + 1) → Below A base outer s.heap → TopOk K s.heap → (∀ a, W0 a → ∃ o, s.heap.get? a = some o) → VRs s.heap W0 [] args vs →
  (∀ h' tk rv, Stays s.heap h' → VR h' W0 [] v rv → Q rv { s with heap := h', toks := tk }) → wpAny (model prog w) A (call (.ref f) vs) Q NoE s := by
 intro args v e A base outer s vs Q hA B T hW q h
 simp only [runFn, oI] at e
 obtain ⟨l, el, ⟨p, st'⟩, em, ef⟩ := e
 obtain ⟨o, ho, hd⟩ := ok.look
 have hroom : A.depth < recursionLimit := by have := hA.depth; omega
 obtain ⟨pp, loose, mean, mg, mb, Tp⟩ := T.top
 refine wpAny_call (codeAny_call_function hroom (T.k _ _ ho) hd ok.co ok.gen ok.body (codeRec_of T.k ok.code) ?_)
 refine hb _ W0 s args l vs _ _ el q hW fun h1 t1 vs1 k1 q1 => ?_
 rw [ok.clos]
 have hl := hpack _ _ el
 refine wpAny_newFunctionEnv_cells ok.kind (fun y hy => ok.nk y.1 ?_ _) fun env he s' x => ?_
 ·have := (List.of_mem_zip hy).1; exact this
 subst he
 refine ⟨(Tp.nolimit.keeps k1).keeps x.toInCall.keep, codeAny_func ?_⟩
 have hW1 : ∀ a, W0 a → ∃ o, h1.get? a = some o := fun a ha => let ⟨o, e⟩ := hW a ha; ⟨o, k1 a o e⟩
 have r0 := fn_enter (prog := prog) (w := w) (s₀ := { s with heap := h1, toks := t1 }) (s₁ := s') ok q1 hl hW1 x
 have hA' : AOk (A.deeper (callEnvC fd h1.objs.size f)) n := ⟨hA.handled, by have := hA.depth; show A.depth + 1 + n < _; omega, by have := hA.units; show A.units + 3 + 8 * n + 100 < _; omega⟩
 have hB' : CtxB (A.deeper (callEnvC fd h1.objs.size f)) ⟨h1, h1.objs.size, W0, fun _ => False, h1⟩ := ⟨base, outer, callEnvC fd h1.objs.size f, by show A.frames.map _ = _; rw [B.stack]; rfl, by show fd.scope.kind ≠ _; rw [ok.kind]; decide, rfl, fun b o e => k1 b o (B.stays b o e), fun e he => let ⟨g1, L, o, g2, g3, g4, g5⟩ := funFrames_iff.mp (funFrames_keeps k1 B.frames) e he; ⟨g1, L, g2, g3, .inr ⟨o, g4, g5⟩⟩⟩
 obtain ⟨h1', tk', hs'⟩ := x.toInCall.same
 have hs'' : s' = { s with heap := s'.heap, toks := s'.toks } := by rw [hs']
 refine wpAny_mono ((hss _ ⟨h1, h1.objs.size, W0, fun _ => False, h1⟩ h1.objs.size rfl hA' hB' (T.stays k1)).run [] (start l) s' p st' _ r0 em fun φ' h' tk fl r' _ _ q' => ?_) (fun _ _ z => z) fun _ _ z => z.elim
 cases p with
 | ret u =>
  obtain ⟨rv, rfl, qv⟩ := q'
  have hfin := h h' tk rv (fun b o e => r'.base b o (k1 b o e)) (freeze_ok r' hW1 u ef qv)
  rw [hs'']; exact hfin
 | next => (injection ef; done)
 | brk => (injection ef; done)
 | cont => (injection ef; done)
theorem pure_of {f : Addr} {fd : FuncData} {body : List Stmt} {vars : List (Str × Nat)} {names : List Str} {n : Nat} {pack : List MV → Option (List MV)} {m : MSt → Option (Out × MSt)} (ok : FnOk K f fd body vars names) (hb : Binder prog w fd names pack)
  (hpack : ∀ l l', pack l = some l' → l'.length = names.length)
  (hss : ∀ A C L, AOk A n → CtxB A C → TopOk K C.h₀ → SS prog w A C (fnFV fd L f vars) (execs body (callEnvC fd L f)) m) : ∀ args v, runFn pack m args = some v → Pure prog w K f (n + 1) args v :=
 fun args v e A base outer s W0 vs Q hA B T hW q h => call_of ok hb hpack W0 (fun A C L _ => hss A C L) args v e A base outer s vs Q hA B T hW q h
noncomputable def kindChk (names : List (Str × NameKind)) (x : Str) : Bool := match names.lookup x with
 | some .local => true
 | some .cell => true
 | _ => false
theorem cellsFrom_isSome {x : Str} : ∀ (names : List (Str × NameKind)) (L : Nat) (acc : List (Str × Addr)), (acc.lookup x).isSome = true ∨ names.lookup x = some .cell → ((cellsFrom L names acc).lookup x).isSome = true
 | [], L, acc, h => by
  rcases h with h | h
  ·exact h
  ·simp at h
 | (n, k) :: r, L, acc, h => by
  unfold cellsFrom
  cases hk : k == NameKind.cell with
  | true =>
   simp only [if_true]
   refine cellsFrom_isSome r _ _ ?_
   rcases h with h | h
   ·refine .inl ?_
    simp only [List.lookup_cons]
    cases x == n <;> simp [h]
   ·simp only [List.lookup_cons] at h ⊢
    cases hx : x == n with
    | true => exact .inl (by simp)
    | false => rw [hx] at h; exact .inr h
  | false =>
   simp only [Bool.false_eq_true, if_false]
   refine cellsFrom_isSome r _ _ (h.imp id fun h => ?_)
   simp only [List.lookup_cons] at h
   cases hx : x == n with
   | true => rw [hx] at h; (injection h with h; subst h); simp at hk
   | false => rw [hx] at h; exact h
theorem kindChk_ok {names : List (Str × NameKind)} {x : Str} (h : kindChk names x = true) (L : Nat) : names.lookup x = some .local ∨ (names.lookup x = some .cell ∧ ((cellsFrom L names []).lookup x).isSome = true) := by
 unfold kindChk at h
 refine cps fun G hG => ?_
 split at h
 ·refine hG ?_; clear hG
  rename_i e; exact .inl e
 ·refine hG ?_; clear hG
  rename_i e; exact .inr ⟨e, cellsFrom_isSome _ _ _ (.inr e)⟩
 ·(injection h; done)
noncomputable def fnChk (K : Frag) (fd : FuncData) (vars : List (Str × Nat)) (names : List Str) : Bool :=
 codeIn K fd.code fd.qualname && decide (names.Nodup) && names.all (kindChk fd.scope.names) && vars.all (fun p => kindChk fd.scope.names p.1) && vars.all (fun p => decide (names.length ≤ p.2) || decide (names[p.2]? = some p.1)) && VarsOk vars
theorem FnOk.of {f : Addr} {o : Obj} {fd : FuncData} {body : List Stmt} {vars : List (Str × Nat)} {names : List Str} (look : K.lookup f = some o) (hd : o.data = .func fd) (hb : fd.body = .stmts body) (chk : fnChk K fd vars names = true) (clos : fd.closure = []) (glob : fd.globals = mainGlobals) (bins : fd.builtins = builtinsNs)
  (co : fd.scope.isCoroutine = false) (gen : fd.scope.isGenerator = false) (kind : fd.scope.kind = .function) : FnOk K f fd body vars names := by
 simp only [fnChk, Bool.and_eq_true, List.all_eq_true, Bool.or_eq_true, decide_eq_true_eq] at chk
 refine cps fun G hG => ?_
 obtain ⟨⟨⟨⟨⟨h1, h2⟩, h3⟩, h4⟩, h5⟩, h6⟩ := chk
 refine hG ?_; clear hG
 refine ⟨⟨o, look, hd⟩, hb, h1, clos, glob, bins, h2, fun x hx L => kindChk_ok (h3 x hx) L, fun p hp L => kindChk_ok (h4 p hp) L, fun p hp i e hi => ?_, co, gen, kind⟩
 subst e
 rcases h5 p hp with h | h
 ·omega
 ·exact h
theorem packN_len {n : Nat} {l l' : List MV} (e : packN n l = some l') : l'.length = n := by
 unfold packN at e
 split at e <;> cases e
 assumption
theorem mt1 {α : Type} {x0 x1 : α} {l : List α} : x1 ∈ x0 :: x1 :: l := .tail _ (.head _)
theorem mt2 {α : Type} {x0 x1 x2 : α} {l : List α} : x2 ∈ x0 :: x1 :: x2 :: l := .tail _ mt1
theorem mt3 {α : Type} {x0 x1 x2 x3 : α} {l : List α} : x3 ∈ x0 :: x1 :: x2 :: x3 :: l := .tail _ mt2
theorem mt4 {α : Type} {x0 x1 x2 x3 x4 : α} {l : List α} : x4 ∈ x0 :: x1 :: x2 :: x3 :: x4 :: l := .tail _ mt3
theorem mt5 {α : Type} {x0 x1 x2 x3 x4 x5 : α} {l : List α} : x5 ∈ x0 :: x1 :: x2 :: x3 :: x4 :: x5 :: l := .tail _ mt4
theorem mt6 {α : Type} {x0 x1 x2 x3 x4 x5 x6 : α} {l : List α} : x6 ∈ x0 :: x1 :: x2 :: x3 :: x4 :: x5 :: x6 :: l := .tail _ mt5
theorem mt7 {α : Type} {x0 x1 x2 x3 x4 x5 x6 x7 : α} {l : List α} : x7 ∈ x0 :: x1 :: x2 :: x3 :: x4 :: x5 :: x6 :: x7 :: l := .tail _ mt6
theorem mt8 {α : Type} {x0 x1 x2 x3 x4 x5 x6 x7 x8 : α} {l : List α} : x8 ∈ x0 :: x1 :: x2 :: x3 :: x4 :: x5 :: x6 :: x7 :: x8 :: l := .tail _ mt7
theorem mt9 {α : Type} {x0 x1 x2 x3 x4 x5 x6 x7 x8 x9 : α} {l : List α} : x9 ∈ x0 :: x1 :: x2 :: x3 :: x4 :: x5 :: x6 :: x7 :: x8 :: x9 :: l := .tail _ mt8
theorem mt10 {α : Type} {x0 x1 x2 x3 x4 x5 x6 x7 x8 x9 x10 : α} {l : List α} : x10 ∈ x0 :: x1 :: x2 :: x3 :: x4 :: x5 :: x6 :: x7 :: x8 :: x9 :: x10 :: l := .tail _ mt9
theorem mt11 {α : Type} {x0 x1 x2 x3 x4 x5 x6 x7 x8 x9 x10 x11 : α} {l : List α} : x11 ∈ x0 :: x1 :: x2 :: x3 :: x4 :: x5 :: x6 :: x7 :: x8 :: x9 :: x10 :: x11 :: l := .tail _ mt10
theorem mt12 {α : Type} {x0 x1 x2 x3 x4 x5 x6 x7 x8 x9 x10 x11 x12 : α} {l : List α} : x12 ∈ x0 :: x1 :: x2 :: x3 :: x4 :: x5 :: x6 :: x7 :: x8 :: x9 :: x10 :: x11 :: x12 :: l := .tail _ mt11
theorem mt13 {α : Type} {x0 x1 x2 x3 x4 x5 x6 x7 x8 x9 x10 x11 x12 x13 : α} {l : List α} : x13 ∈ x0 :: x1 :: x2 :: x3 :: x4 :: x5 :: x6 :: x7 :: x8 :: x9 :: x10 :: x11 :: x12 :: x13 :: l := .tail _ mt12
theorem mt14 {α : Type} {x0 x1 x2 x3 x4 x5 x6 x7 x8 x9 x10 x11 x12 x13 x14 : α} {l : List α} : x14 ∈ x0 :: x1 :: x2 :: x3 :: x4 :: x5 :: x6 :: x7 :: x8 :: x9 :: x10 :: x11 :: x12 :: x13 :: x14 :: l := .tail _ mt13
theorem mt15 {α : Type} {x0 x1 x2 x3 x4 x5 x6 x7 x8 x9 x10 x11 x12 x13 x14 x15 : α} {l : List α} : x15 ∈ x0 :: x1 :: x2 :: x3 :: x4 :: x5 :: x6 :: x7 :: x8 :: x9 :: x10 :: x11 :: x12 :: x13 :: x14 :: x15 :: l := .tail _ mt14
theorem mt16 {α : Type} {x0 x1 x2 x3 x4 x5 x6 x7 x8 x9 x10 x11 x12 x13 x14 x15 x16 : α} {l : List α} : x16 ∈ x0 :: x1 :: x2 :: x3 :: x4 :: x5 :: x6 :: x7 :: x8 :: x9 :: x10 :: x11 :: x12 :: x13 :: x14 :: x15 :: x16 :: l := .tail _ mt15
theorem mt17 {α : Type} {x0 x1 x2 x3 x4 x5 x6 x7 x8 x9 x10 x11 x12 x13 x14 x15 x16 x17 : α} {l : List α} : x17 ∈ x0 :: x1 :: x2 :: x3 :: x4 :: x5 :: x6 :: x7 :: x8 :: x9 :: x10 :: x11 :: x12 :: x13 :: x14 :: x15 :: x16 :: x17 :: l := .tail _ mt16
theorem all1 {P : List Value → Prop} {n : Nat} (hn : n = 1) (h : ∀ a, P [a]) (vs : List Value) (e : vs.length = n) : P vs := by
 obtain ⟨a, rfl⟩ := List.length_eq_one_iff.mp (e.trans hn)
 exact h a
theorem len_succ {vs : List Value} {n : Nat} (e : vs.length = n + 1) : ∃ a r, vs = a :: r ∧ r.length = n := match vs, e with
 | a :: r, e => ⟨a, r, rfl, Nat.succ.inj e⟩
theorem all2 {P : List Value → Prop} {n : Nat} (hn : n = 2) (h : ∀ a b, P [a, b]) (vs : List Value) (e : vs.length = n) : P vs := by
 obtain ⟨a, r, rfl, e1⟩ := len_succ (e.trans hn)
 exact all1 (P := fun r => P (a :: r)) rfl (h a) r e1
theorem all3 {P : List Value → Prop} {n : Nat} (hn : n = 3) (h : ∀ a b c, P [a, b, c]) (vs : List Value) (e : vs.length = n) : P vs := by
 obtain ⟨a, r, rfl, e1⟩ := len_succ (e.trans hn)
 exact all2 (P := fun r => P (a :: r)) rfl (h a) r e1
theorem pure_fn {f : Addr} {o : Obj} {fd : FuncData} {body : List Stmt} (vars : List (Str × Nat)) (names : List Str) {n : Nat} {m : MSt → Option (Out × MSt)} (look : K.lookup f = some o) (hd : o.data = .func fd) (hb : fd.body = .stmts body) (chk : fnChk K fd vars names = true)
  (clos : fd.closure = []) (glob : fd.globals = mainGlobals) (bins : fd.builtins = builtinsNs) (co : fd.scope.isCoroutine = false) (gen : fd.scope.isGenerator = false) (kind : fd.scope.kind = .function)
  (hbind : ∀ vs : List Value, vs.length = names.length → bindArgs fd ⟨vs, []⟩ = pure (names.zip vs))
  (hss : ∀ A C L, AOk A n → CtxB A C → TopOk K C.h₀ → EnvOk (callEnvC fd L f) → VarsOk vars = true → SS prog w A C (fnFV fd L f vars) (execs body (callEnvC fd L f)) m) : ∀ args v, runFn (packN names.length) m args = some v → Pure prog w K f (n + 1) args v := by
 have hv : VarsOk vars = true := by simp only [fnChk, Bool.and_eq_true] at chk; exact chk.2
 exact pure_of (FnOk.of look hd hb chk clos glob bins co gen kind) (binder_plain hbind) (fun _ _ e => packN_len e) fun A C L hA hB hT => hss A C L hA hB hT ⟨kind, glob, bins, fun n hn => Option.isSome_iff_exists.mp (cellsFrom_isSome fd.scope.names (L + 1) [] (.inr hn))⟩ hv
end
end
section
section
variable {prog : Program} {w : World} {A : Around} {C : Cx} {fv : FV} {K : Frag}
noncomputable def clStep (cells : List (Str × Addr)) (cs : List (Str × Addr)) (p : Str × NameKind) : List (Str × Addr) := if p.2 == .free then (match cells.lookup p.1 with | some c => (p.1, c) :: cs | none => cs) else cs
noncomputable def clOf (names : List (Str × NameKind)) (cells : List (Str × Addr)) : List (Str × Addr) := names.foldl (clStep cells) []
theorem closureFor_clOf {scope : Scope} {env : Env} (h : ∀ p ∈ scope.names, p.2 = .free → ∃ c, env.cells.lookup p.1 = some c) : closureFor scope env = pure (clOf scope.names env.cells) := by
 have key : ∀ (names : List (Str × NameKind)) (acc : List (Str × Addr)), (∀ p ∈ names, p.2 = .free → ∃ c, env.cells.lookup p.1 = some c) →
   (forIn names acc fun (p : Str × NameKind) (cs : List (Str × Addr)) => (match p with
    | (name, kind) => if (kind == NameKind.free) = true then do let a ← cellOf env name; pure (ForInStep.yield ((name, a) :: cs)) else pure (ForInStep.yield cs) : Sem (ForInStep (List (Str × Addr))))) = pure (names.foldl (clStep env.cells) acc) := by
  intro names
  induction names with
  | nil => intro acc _; rfl
  | cons p r ih =>
   intro acc hp
   obtain ⟨n, k⟩ := p
   rw [List.forIn_cons]
   cases hk : k == NameKind.free with
   | true =>
    obtain ⟨c, hc⟩ := hp (n, k) List.mem_cons_self (by simpa using hk)
    have e1 : clStep env.cells acc (n, k) = (n, c) :: acc := by simp only [clStep, hk, if_true]; rw [show List.lookup (n, k).1 env.cells = some c from hc]
    simp only [hk, if_true, List.foldl_cons, e1]
    rw [show cellOf env n = pure c by unfold cellOf; rw [show List.lookup n env.cells = some c from hc]]
    exact ih _ fun q hq => hp q (List.mem_cons_of_mem _ hq)
   | false =>
    have e1 : clStep env.cells acc (n, k) = acc := by simp [clStep, hk]
    simp only [hk, Bool.false_eq_true, if_false, List.foldl_cons, e1]
    exact ih _ fun q hq => hp q (List.mem_cons_of_mem _ hq)
 have e : closureFor scope env = ((forIn scope.names ([] : List (Str × Addr)) fun (p : Str × NameKind) (cs : List (Str × Addr)) => (match p with
    | (name, kind) => if (kind == NameKind.free) = true then do let a ← cellOf env name; pure (ForInStep.yield ((name, a) :: cs)) else pure (ForInStep.yield cs) : Sem (ForInStep (List (Str × Addr))))) >>= fun cs => pure cs) := rfl
 rw [e, key scope.names [] h]
 rfl
theorem clOf_sub {cells : List (Str × Addr)} : ∀ {names : List (Str × NameKind)} {acc : List (Str × Addr)}, (∀ y c, acc.lookup y = some c → cells.lookup y = some c) → ∀ y c, (names.foldl (clStep cells) acc).lookup y = some c → cells.lookup y = some c
 | [], acc, h, y, c, e => h y c e
 | (n, k) :: r, acc, h, y, c, e => by
  rw [List.foldl_cons] at e
  refine clOf_sub (names := r) (fun z d hz => ?_) y c e
  unfold clStep at hz
  split at hz
  ·split at hz
   ·rename_i c' hc'
    rw [List.lookup_cons] at hz
    cases hzn : z == n with
    | true => rw [hzn] at hz; (injection hz with hz; subst hz); simp only [beq_iff_eq] at hzn; subst hzn; exact hc'
    | false => rw [hzn] at hz; exact h z d hz
   ·exact h z d hz
  ·exact h z d hz
theorem clOf_some {cells : List (Str × Addr)} {x : Str} : ∀ {names : List (Str × NameKind)} {acc : List (Str × Addr)}, (∃ c, acc.lookup x = some c) ∨ ((x, NameKind.free) ∈ names ∧ ∃ c, cells.lookup x = some c) → ∃ c, (names.foldl (clStep cells) acc).lookup x = some c
 | [], acc, h => by
  rcases h with h | h
  ·exact h
  ·simp at h
 | (n, k) :: r, acc, h => by
  rw [List.foldl_cons]
  refine clOf_some (names := r) ?_
  have keep : (∃ c, acc.lookup x = some c) → ∃ c, (clStep cells acc (n, k)).lookup x = some c := by
   rintro ⟨c, hc⟩
   unfold clStep
   split
   ·split
    ·rw [List.lookup_cons]
     cases x == n with
     | true => exact ⟨_, rfl⟩
     | false => exact ⟨c, hc⟩
    ·exact ⟨c, hc⟩
   ·exact ⟨c, hc⟩
  rcases h with h | ⟨h1, c, h2⟩
  ·exact .inl (keep h)
  ·rcases List.mem_cons.mp h1 with e | h1
   ·cases e
    refine .inl ⟨c, ?_⟩
    dsimp only [clStep, beq_self_eq_true, if_true]
    rw [show List.lookup x cells = some c from h2]
    simp
   ·exact .inr ⟨h1, c, h2⟩
theorem lookup_relabel_free {env : Env} (hk : env.scope.kind = .function) : ∀ {names : List (Str × NameKind)} {x : Str}, names.lookup x = some .free → env.kindOf x = some .cell →
  (names.map fun (n, k) => if (k == NameKind.free && env.scope.kind == .function && env.kindOf n == some .cell) then (n, NameKind.cell) else (n, k)).lookup x = some .cell
 | [], _, h, _ => by simp at h
 | (n, k) :: r, x, h, hc => by
  have ih := @lookup_relabel_free env hk r x
  show List.lookup x ((if (k == NameKind.free && env.scope.kind == .function && env.kindOf n == some .cell) = true then (n, NameKind.cell) else (n, k)) :: _) = _
  cases hx : x == n with
  | true =>
   have hxn : x = n := by simpa using hx
   subst hxn
   simp only [List.lookup_cons, hx] at h
   (injection h with h; subst h)
   rw [if_pos (by simp [hk, hc])]
   simp
  | false =>
   simp only [List.lookup_cons, hx] at h
   by_cases hcc : (k == NameKind.free && env.scope.kind == .function && env.kindOf n == some .cell) = true
   ·rw [if_pos hcc]; simp only [List.lookup_cons, hx]; exact ih h hc
   ·rw [if_neg hcc]; simp only [List.lookup_cons, hx]; exact ih h hc
theorem lookup_mem {α β : Type} [BEq α] [LawfulBEq α] {x : α} {y : β} : ∀ {l : List (α × β)}, l.lookup x = some y → (x, y) ∈ l
 | [], h => by simp at h
 | (n, k) :: r, h => by
  rw [List.lookup_cons] at h
  cases hx : x == n with
  | true => rw [hx] at h; (injection h with h; subst h); simp only [beq_iff_eq] at hx; subst hx; exact List.mem_cons_self
  | false => rw [hx] at h; exact List.mem_cons_of_mem _ (lookup_mem h)
theorem mem_relabel_cell {scope : Scope} {env : Env} {x : Str} (hnc : ∀ y ∈ scope.names, y.2 ≠ .cell) (h : (relabel scope env).names.lookup x = some .cell) : (x, NameKind.free) ∈ scope.names ∧ env.kindOf x = some .cell := by
 have hm := lookup_mem h
 simp only [relabel, List.mem_map] at hm
 obtain ⟨⟨n, k⟩, h1, h2⟩ := hm
 dsimp only at h2
 split at h2
 ·rename_i hc
  simp only [Bool.and_eq_true, beq_iff_eq] at hc
  (injection h2 with h2; subst h2)
  exact ⟨by rw [← hc.1.1]; exact h1, hc.2⟩
 ·cases h2; exact (hnc _ h1 rfl).elim
noncomputable def compChk (scope : Scope) (kindOf : Str → Option NameKind) (vars : List (Str × Nat)) (x : Str) (kx : Nat) (vars2 : List (Str × Nat)) : Bool :=
 scope.kind == .function && scope.names.all (fun y => y.2 != .cell && (y.2 != .local || scope.names.lookup y.1 == some .local) && (y.2 != .free || kindOf y.1 == some .cell)) && scope.names.lookup x == some .local &&
  vars2.all (fun p => decide (p ∈ vars) && decide (p.2 ≠ kx) && scope.names.lookup p.1 == some .free && kindOf p.1 == some .cell)
theorem CompOk.of {scope : Scope} {x : Str} {kx : Nat} {vars2 : List (Str × Nat)} (he : EnvOk fv.env) (h : compChk scope fv.env.kindOf fv.vars x kx vars2 = true) : CompOk fv scope (clOf scope.names fv.env.cells) x kx vars2 := by
 simp only [compChk, Bool.and_eq_true, beq_iff_eq, List.all_eq_true, bne_iff_ne, ne_eq, Bool.or_eq_true, decide_eq_true_eq] at h
 obtain ⟨⟨⟨h1, h2⟩, h3⟩, h4⟩ := h
 refine ⟨closureFor_clOf fun p hp hf => ?_, h1, fun y hy hl => ?_, fun y hy => (h2 y hy).1.1, h3, clOf_sub fun y c e => by simp at e, fun p hp => ?_⟩
 ·rcases (h2 p hp).2 with h | h
  ·exact (h hf).elim
  ·exact he.cells _ h
 ·rcases (h2 y hy).1.2 with h | h
  ·exact (h hl).elim
  ·exact h
 ·obtain ⟨⟨⟨g1, g2⟩, g3⟩, g4⟩ := h4 p hp
  exact ⟨g1, g2, g4, lookup_relabel_free he.kind g3 g4, clOf_some (.inr ⟨lookup_mem g3, he.cells _ g4⟩)⟩
theorem EnvOk.comp {env : Env} {scope : Scope} {C2 : Addr} (he : EnvOk env) (hk : scope.kind = .function) (hnc : ∀ y ∈ scope.names, y.2 ≠ .cell) : EnvOk (compEnvC scope (clOf scope.names env.cells) C2 env) :=
 ⟨hk, he.globals, he.builtins, fun n hn => let ⟨h1, h2⟩ := mem_relabel_cell hnc hn; clOf_some (.inr ⟨h1, he.cells n h2⟩)⟩
theorem AOk.le {m n : Nat} (h : AOk A n) (hm : m ≤ n) : AOk A m := ⟨h.handled, by have := h.depth; omega, by have := h.units; omega⟩
theorem SE.lcomp {scope : Scope} {x : Str} (kx : Nat) {px pos : Pos} (vars2 : List (Str × Nat)) {elt iter : Expr} {ifs : List Expr} {im : MSt → Option (List MV)} {tm : MSt → Option Bool} {em : MSt → Option MV} (he : EnvOk fv.env) (chk : compChk scope fv.env.kindOf fv.vars x kx vars2 = true)
  (hi : SI prog w A C fv false (.Name x px) iter im) (ht : ∀ C2 W0, EnvOk (compEnvC scope (clOf scope.names fv.env.cells) C2 fv.env) → SB prog w A { C with W0 := W0 } (innerFV fv scope (clOf scope.names fv.env.cells) C2 x kx vars2) (testsOf ifs (compEnvC scope (clOf scope.names fv.env.cells) C2 fv.env)) tm) (hel : ∀ C2 W0, EnvOk (compEnvC scope (clOf scope.names fv.env.cells) C2 fv.env) → SE prog w A { C with W0 := W0 } (innerFV fv scope (clOf scope.names fv.env.cells) C2 x kx vars2) (eval elt (compEnvC scope (clOf scope.names fv.env.cells) C2 fv.env)) em) (hs : ∀ x, foldedSetIterable iter fv.env x = pure x := by intro _; rfl) :
  SE prog w A C fv (eval (.ListComp elt [⟨.Name x px, iter, ifs, 0⟩] scope pos) fv.env) (eLstOf (eComp kx im tm em)) :=
 have co := CompOk.of he chk
 SE.listComp co hi (fun C2 W0 => ht C2 W0 (he.comp co.kind co.ncell)) (fun C2 W0 => hel C2 W0 (he.comp co.kind co.ncell)) hs
theorem SS.acomp {scope : Scope} {x y : Str} (kx : Nat) {k : Nat} {px py pos spos : Pos} (vars2 : List (Str × Nat)) {elt iter : Expr} {ifs : List Expr} {im : MSt → Option (List MV)} {tm : MSt → Option Bool} {em : MSt → Option MV} (he : EnvOk fv.env) (chk : compChk scope fv.env.kindOf fv.vars x kx vars2 = true)
  (hi : SI prog w A C fv false (.Name x px) iter im) (ht : ∀ C2 W0, EnvOk (compEnvC scope (clOf scope.names fv.env.cells) C2 fv.env) → SB prog w A { C with W0 := W0 } (innerFV fv scope (clOf scope.names fv.env.cells) C2 x kx vars2) (testsOf ifs (compEnvC scope (clOf scope.names fv.env.cells) C2 fv.env)) tm) (hel : ∀ C2 W0, EnvOk (compEnvC scope (clOf scope.names fv.env.cells) C2 fv.env) → SE prog w A { C with W0 := W0 } (innerFV fv scope (clOf scope.names fv.env.cells) C2 x kx vars2) (eval elt (compEnvC scope (clOf scope.names fv.env.cells) C2 fv.env)) em) (hm : (y, k) ∈ fv.vars) (hv : VarsOk fv.vars = true) (hk : fv.env.scope.kind = .function) (hy : fv.env.kindOf y = some .local ∨ fv.env.kindOf y = some .cell)
  (hsw : swapsWith (.ListComp elt [⟨.Name x px, iter, ifs, 0⟩] scope pos) (some (.Name y py)) spos.line fv.env = pure true) (hs : ∀ x, foldedSetIterable iter fv.env x = pure x := by intro _; rfl) :
  SS prog w A C fv (exec (.Assign [.Name y py] (.ListComp elt [⟨.Name x px, iter, ifs, 0⟩] scope pos) spos) fv.env) (sAssign (eLstOf (eComp kx im tm em)) (bName k)) :=
 have co := CompOk.of he chk
 SS.assignComp co hi (fun C2 W0 => ht C2 W0 (he.comp co.kind co.ncell)) (fun C2 W0 => hel C2 W0 (he.comp co.kind co.ncell)) hm hv hk hy hsw hs
theorem SS.ncomp {scope : Scope} {x y : Str} (kx : Nat) {k : Nat} {px py pos spos : Pos} (vars2 : List (Str × Nat)) {elt iter : Expr} {ifs : List Expr} {im : MSt → Option (List MV)} {tm : MSt → Option Bool} {em : MSt → Option MV} (he : EnvOk fv.env) (chk : compChk scope fv.env.kindOf fv.vars x kx vars2 = true)
  (hi : SI prog w A C fv false (.Name x px) iter im) (ht : ∀ C2 W0, EnvOk (compEnvC scope (clOf scope.names fv.env.cells) C2 fv.env) → SB prog w A { C with W0 := W0 } (innerFV fv scope (clOf scope.names fv.env.cells) C2 x kx vars2) (testsOf ifs (compEnvC scope (clOf scope.names fv.env.cells) C2 fv.env)) tm) (hel : ∀ C2 W0, EnvOk (compEnvC scope (clOf scope.names fv.env.cells) C2 fv.env) → SE prog w A { C with W0 := W0 } (innerFV fv scope (clOf scope.names fv.env.cells) C2 x kx vars2) (eval elt (compEnvC scope (clOf scope.names fv.env.cells) C2 fv.env)) em) (hm : (y, k) ∈ fv.vars) (hv : VarsOk fv.vars = true) (hk : fv.env.scope.kind = .function) (hy : fv.env.kindOf y = some .local ∨ fv.env.kindOf y = some .cell)
  (hsw : swapsWith (.ListComp elt [⟨.Name x px, iter, ifs, 0⟩] scope pos) (some (.Name y py)) spos.line fv.env = pure false) (hs : ∀ x, foldedSetIterable iter fv.env x = pure x := by intro _; rfl) :
  SS prog w A C fv (exec (.Assign [.Name y py] (.ListComp elt [⟨.Name x px, iter, ifs, 0⟩] scope pos) spos) fv.env) (sNewComp k (eComp kx im tm em)) :=
 have co := CompOk.of he chk
 SS.newComp co hi (fun C2 W0 => ht C2 W0 (he.comp co.kind co.ncell)) (fun C2 W0 => hel C2 W0 (he.comp co.kind co.ncell)) hm hv hk hy hsw hs
theorem SS.ndict {scope : Scope} {x y : Str} (kx : Nat) {k : Nat} {px py pos spos : Pos} (vars2 : List (Str × Nat)) {ek ev iter : Expr} {im : MSt → Option (List MV)} {km em : MSt → Option MV} (he : EnvOk fv.env) (chk : compChk scope fv.env.kindOf fv.vars x kx vars2 = true)
  (hi : SI prog w A C fv false (.Name x px) iter im) (hek : ∀ C2 W0, EnvOk (compEnvC scope (clOf scope.names fv.env.cells) C2 fv.env) → SE prog w A { C with W0 := W0 } (innerFV fv scope (clOf scope.names fv.env.cells) C2 x kx vars2) (eval ek (compEnvC scope (clOf scope.names fv.env.cells) C2 fv.env)) km) (hev : ∀ C2 W0, EnvOk (compEnvC scope (clOf scope.names fv.env.cells) C2 fv.env) → SE prog w A { C with W0 := W0 } (innerFV fv scope (clOf scope.names fv.env.cells) C2 x kx vars2) (eval ev (compEnvC scope (clOf scope.names fv.env.cells) C2 fv.env)) em) (hm : (y, k) ∈ fv.vars) (hv : VarsOk fv.vars = true) (hk : fv.env.scope.kind = .function) (hy : fv.env.kindOf y = some .local ∨ fv.env.kindOf y = some .cell)
  (hsw : swapsWith (.DictComp ek ev [⟨.Name x px, iter, [], 0⟩] scope pos) (some (.Name y py)) spos.line fv.env = pure false) (hs : ∀ x, foldedSetIterable iter fv.env x = pure x := by intro _; rfl) :
  SS prog w A C fv (exec (.Assign [.Name y py] (.DictComp ek ev [⟨.Name x px, iter, [], 0⟩] scope pos) spos) fv.env) (sNewDict k kx im km em) :=
 have co := CompOk.of he chk
 SS.newDict co hi (fun C2 W0 => hek C2 W0 (he.comp co.kind co.ncell)) (fun C2 W0 => hev C2 W0 (he.comp co.kind co.ncell)) hm hv hk hy hsw hs
end
end
section
set_option backward.match.sparseCases false
section
variable {prog : Program} {w : World} {A : Around} {C : Cx} {fv : FV} {K : Frag}
noncomputable def mwhile (c : MSt → Option Bool) (body : MSt → Option (Out × MSt)) : Nat → MSt → Option (Out × MSt)
 | 0, _ => none
 | n + 1, st => (c st).bind fun x => if x then (body st).bind fun p => match p.1 with
   | .next => mwhile c body n p.2
   | .cont => mwhile c body n p.2
   | .brk => some (.next, p.2)
   | .ret v => some (.ret v, p.2)
  else some (.next, st)
theorem mwhile_n {c : MSt → Option Bool} {body : MSt → Option (Out × MSt)} {st : MSt} : mwhile c body 0 st = none := rfl
theorem mwhile_c {c : MSt → Option Bool} {body : MSt → Option (Out × MSt)} {n : Nat} {st : MSt} : mwhile c body (n + 1) st = ((c st).bind fun x => if x then (body st).bind fun p => match p.1 with
   | .next => mwhile c body n p.2
   | .cont => mwhile c body n p.2
   | .brk => some (.next, p.2)
   | .ret v => some (.ret v, p.2)
  else some (.next, st)) := rfl
noncomputable def sWhile (c : MSt → Option Bool) (body : MSt → Option (Out × MSt)) : MSt → Option (Out × MSt) := mwhile c body 100
theorem SS.while {test : Expr} {body : List Stmt} {pos : Pos} {env : Env} {c : MSt → Option Bool} {mb : MSt → Option (Out × MSt)} (hc : SB prog w A C fv (isTrue test env (eval test env)) c) (hb : SS prog w A C fv (execs body env) mb) :
  SS prog w A C fv (exec (.While test body [] pos) env) (sWhile c mb) := by
 refine ⟨?_⟩
 intro φ st s o st' Q r ev h
 let J : Nat → MSt → Prop := fun k st1 => mwhile c mb k st1 = some (o, st')
 refine wpAny_While (codeAny_whileLoop (WInv prog w C fv s φ J) ?_ 100
  ⟨⟨s.heap, s.toks, φ, st, 0⟩, rfl, r, Ext.refl _ _, Eff.of_stays (Stays.refl _), ev⟩)
 intro k s' hX
 refine cps fun G hG => ?_
 obtain ⟨⟨h1, tk1, φ1, st1, i⟩, es, ⟨r1, x1, e1, em0⟩⟩ := hX
 dsimp only at r1 x1 e1 es
 have em : mwhile c mb k st1 = some (o, st') := em0
 clear em0
 cases k with
 | zero => simp [mwhile_n, mwhile_c] at em
 | succ k =>
  simp only [mwhile_n, mwhile_c, oI] at em
  obtain ⟨b, eb, em⟩ := em
  refine hG ?_; clear hG
  subst es
  refine wpAny_mono (hc.run φ1 st1 _ b _ r1 eb fun h2 tk2 k2 r2 => ?_) (fun _ _ z => z) fun _ _ z => z.elim
  have x2 : Ext φ1 φ1 h1 := Ext.refl _ _
  have e2 : Eff C fv φ s.heap h2 := e1.trans x1 (Eff.of_stays k2)
  cases b with
  | false =>
   simp only [Bool.false_eq_true, if_false] at em ⊢
   injection em with e8; injection e8 with e9 e10; subst e9 e10
   exact wpAny_execs_nil (h φ1 h2 tk2 _ r2 x1 e2 rfl)
  | true =>
   simp only [if_true, oI] at em ⊢
   refine cps fun G hG => ?_
   obtain ⟨⟨p, st3⟩, e3, em⟩ := em
   refine hG ?_; clear hG
   refine wpAny_mono (hb.run φ1 st1 _ p st3 (fun f s₃ => outP (∃ m, m < k + 1 ∧ WInv prog w C fv s φ J m s₃) (fun g => Q g s₃) f) r2 e3 fun φ6 h6 tk6 f r6 x6 k6 q6 => ?_) (fun f _ z => by cases f <;> exact z) fun _ _ z => z.elim
   have x7 : Ext φ φ6 s.heap := x1.trans e2 r2 x6
   have e7 : Eff C fv φ s.heap h6 := e2.trans x1 k6
   exact loop_out q6 (X := mwhile c mb k st3) (st6 := st3) (by cases p <;> exact em) (fun em => ⟨k, Nat.lt_succ_self _, ⟨h6, tk6, φ6, st3, 0⟩, rfl, r6, x7, e7, em⟩) fun g qg e => h φ6 h6 tk6 g (e ▸ r6) x7 e7 qg
noncomputable def mforRef (n : Nat) (b : MV → MSt → Option MSt) (body : MSt → Option (Out × MSt)) : Nat → Nat → MSt → Option (Out × MSt)
 | 0, _, _ => none
 | k + 1, i, st => match st.σ[n]? with
  | some (.list xs) => match xs[i]? with
   | none => some (.next, st)
   | some x => (b x st).bind fun st1 => (body st1).bind fun p => match p.1 with
    | .next => mforRef n b body k (i + 1) p.2
    | .cont => mforRef n b body k (i + 1) p.2
    | .brk => some (.next, p.2)
    | .ret v => some (.ret v, p.2)
  | _ => none
theorem mforRef_n {n : Nat} {b : MV → MSt → Option MSt} {body : MSt → Option (Out × MSt)} {i : Nat} {st : MSt} : mforRef n b body 0 i st = none := rfl
theorem mforRef_c {n : Nat} {b : MV → MSt → Option MSt} {body : MSt → Option (Out × MSt)} {k i : Nat} {st : MSt} : mforRef n b body (k + 1) i st = (match st.σ[n]? with
  | some (.list xs) => match xs[i]? with
   | none => some (.next, st)
   | some x => (b x st).bind fun st1 => (body st1).bind fun p => match p.1 with
    | .next => mforRef n b body k (i + 1) p.2
    | .cont => mforRef n b body k (i + 1) p.2
    | .brk => some (.next, p.2)
    | .ret v => some (.ret v, p.2)
  | _ => none) := rfl
noncomputable def sForRef (kv : Nat) (b : MV → MSt → Option MSt) (body : MSt → Option (Out × MSt)) : MSt → Option (Out × MSt) := fun st => (eVar kv st).bind fun x => match x with
 | .ref n => match st.σ[n]? with
  | some (.list _) => mforRef n b body 1000 0 st
  | _ => none
 | _ => none
theorem SS.forRef {x : Str} {kv : Nat} {np pos : Pos} {target : Expr} {body : List Stmt} {b : MV → MSt → Option MSt} {mb : MSt → Option (Out × MSt)} (hh : A.handled = none) (hm : (x, kv) ∈ fv.vars) (hk : fv.env.scope.kind = .function)
  (hb : SA prog w A C fv (PySem.assign target fv.env) b) (hbody : SS prog w A C fv (execs body fv.env) mb)
  (hd : (x == ("__debug__" : Str)) = false := by decide) (hc : (x == ("__classdict__" : Str)) = false := by decide) (hs : ∀ y, foldedSetIterable (.Name x np) fv.env y = pure y := by intro _; rfl) :
  SS prog w A C fv (exec (.For target (.Name x np) body [] pos) fv.env) (sForRef kv b mb) := by
 refine ⟨?_⟩
 intro φ st s o st' Q r ev h
 simp only [sForRef, oI] at ev
 obtain ⟨y, ey, ev⟩ := ev
 cases y <;> simp only [reduceCtorEq] at ev
 rename_i n
 split at ev
 rotate_left
 ·(injection ev; done)
 rename_i ys hys
 refine wpAny_For ((se_var hm hk hd hc).run φ st s _ _ r ey fun h1 tk1 v1 k1 r1 q1 => ?_) hs
 simp only [vR1, vR2, vR3, vR4, vR5, vR6, vR7, vR8] at q1
 obtain ⟨a, ha, rfl⟩ := q1
 obtain ⟨items, nn, g1, g2, g3⟩ := r1.sto n a _ ha hys
 refine wpAny_pyIter_list (items := items.toArray) ⟨_, g1, rfl, nn, rfl⟩ ?_
 have kp := Stays.push h1 { cls := .type "list_iterator", data := .fields #[.ref a, .int 0 0] }
 have hIn : h1.get? h1.objs.size = none := get?_size_none h1
 have hI0 : (h1.push { cls := .type "list_iterator", data := .fields #[.ref a, .int 0 0] }).IsListIter h1.objs.size a 0 := ⟨_, Heap.get?_push_size _ rfl, rfl, rfl⟩
 have hIoff : Off C fv φ h1.objs.size := r1.off_new hIn
 have hIs : s.heap.get? h1.objs.size = none := by
  cases e : s.heap.get? h1.objs.size with
  | none => rfl
  | some ob => exact (ng hIn (k1 _ _ e)).elim
 generalize hI : h1.objs.size = I at *
 generalize hh2 : h1.push { cls := .type "list_iterator", data := .fields #[.ref a, .int 0 0] } = h2 at *
 have r2 := r1.stays kp
 have k2 := k1.trans kp
 have hI2 : ∃ ob, h2.get? I = some ob := let ⟨ob, ho, _⟩ := hI0; ⟨ob, ho⟩
 have offAt : ∀ {φ1 : List (Option Addr)}, Ext φ φ1 h2 → Off C fv φ1 I := fun x => x.off hIoff hI2
 have hwr : ∀ c ∈ [I], s.heap.get? c = none := fun c hc => by rw [List.mem_singleton.mp hc]; exact hIs
 have fin : ∀ φ' h' tk f, R prog w C fv φ' st' h' → Cum C fv φ φ' [I] h2 h' → FR h' (C.av φ') φ' o f → Q f { s with heap := h', toks := tk } := by
  intro φ' h' tk f r' cm q
  refine h φ' h' tk f r' (cm.ext.stays k2) (fun c ob e1 e2 e3 e4 e5 => cm.keep c ob (k2 c ob e1) (fun hm => ng (hwr c hm) e1) ⟨e2, e3, e4, e5⟩) q
 have nsI : ∀ {h1 : Heap} {i : Nat}, h1.IsListIter I a i → ∀ o, h1.get? I = some o → ¬ IsSeq o := by
  rintro h1 i ⟨ob, ho, _, hd⟩ o' ho' ⟨z, m, hz⟩
  rw [ho] at ho'; (injection ho' with ho'; subst ho'); rw [hd] at hz; (injection hz; done)
 let J : Nat → Nat → MSt → Prop := fun k i st1 => mforRef n b mb k i st1 = some (o, st')
 refine codeAny_forLoop_any (LInv prog w C fv s φ [I] h2 (fun i h => h.IsListIter I a i) J) ?_ 1000
  ⟨⟨h2, tk1, φ, st, 0⟩, rfl, r2, hI0, ⟨fun _ _ e _ _ => e, Ext.refl _ _⟩, ev⟩
 intro k s' hX
 refine cps fun G hG => ?_
 obtain ⟨⟨h3, tk3, φ3, st3, i⟩, es, ⟨r3, hit, cm, em0⟩⟩ := hX
 dsimp only at r3 hit cm es
 have em : mforRef n b mb k i st3 = some (o, st') := em0
 clear em0
 have hoff : ∀ c ∈ [I], Off C fv φ3 c := fun c hc => by rw [List.mem_singleton.mp hc]; exact offAt cm.ext
 have hns3 : ∀ c ∈ [I], ∀ o, h3.get? c = some o → ¬ IsSeq o := fun c hc => by rw [List.mem_singleton.mp hc]; exact nsI hit
 cases k with
 | zero => simp [mforRef_n, mforRef_c] at em
 | succ k =>
  simp only [mforRef_n, mforRef_c] at em
  split at em
  rotate_left
  ·(injection em; done)
  rename_i zs hzs
  have ha3 := cm.ext.grow n a ha
  obtain ⟨its, nz, f1, f2, f3⟩ := r3.sto n a _ ha3 hzs
  have hl3 : h3.IsList a its.toArray := ⟨_, f1, rfl, nz, rfl⟩
  split at em
  ·rename_i hnone
   simp only [Option.some.injEq, Prod.mk.injEq] at em
   obtain ⟨rfl, rfl⟩ := em
   have hnone' : its.toArray[i]? = none := by
    rw [List.getElem?_toArray, List.getElem?_eq_none_iff, ← f2.length]
    exact List.getElem?_eq_none_iff.mp hnone
   refine hG ?_; clear hG
   subst es
   refine wpAny_pyNext_list_end hh hit hl3 hnone' fun h4 he4 => ?_
   have cr4 := Cum.next r hwr hoff cm r3 hns3 (fun c ob hc e => he4 c ob (fun e => hc (List.mem_singleton.mpr e)) e)
   exact wpAny_execs_nil (fin φ3 h4 _ _ cr4.2 cr4.1 rfl)
  ·rename_i z hz
   simp only [oI] at em
   obtain ⟨st5, e5, ⟨p, st6⟩, e6, em⟩ := em
   obtain ⟨u, hu, hv⟩ := f2.get i z hz
   refine hG ?_; clear hG
   subst es
   refine wpAny_pyNext_list_item hit hl3 (x := u) (by rw [List.getElem?_toArray]; exact hu) fun h4 hit4 hs4 => ?_
   have cr4 := Cum.next r hwr hoff cm r3 hns3 (fun c ob hc e => (hs4.2 c (fun e => hc (List.mem_singleton.mpr e))).trans e)
   have cm4 := cr4.1
   have r4 := cr4.2
   have hv4 : VR h4 (C.av φ3) φ3 z u := VR.mono (fun c ob hc ho hsq => ⟨(hs4.2 c (fun e => nsI hit ob (e ▸ ho) hsq)).trans ho, hc⟩) (fun _ _ e => e) z hv
   obtain ⟨oI, hoI, hcI, hdI⟩ := id hit4
   refine go_plain hoI hcI hdI (by decide) ?_
   refine wpAny_mono (hb.run φ3 st3 { s with heap := h4, toks := tk3 } z u st5 (fun _ s₂ => wpAny (model prog w) A (execs body fv.env) (fun f s₃ => outP (∃ m, m < k + 1 ∧ LInv prog w C fv s φ [I] h2 (fun i h => h.IsListIter I a i) J m s₃) (fun g => Q g s₃) f) NoE s₂) r4 e5 hv4 fun h5 tk5 r5 k5 => ?_) (fun _ _ z => wpAny_mono z (fun f s₃ z => ?_) fun _ _ z => z.elim) fun _ _ z => z.elim
   ·have o4 := offAt cm4.ext
    have cm5 := Cum.step cm4 r4 (fun c hc => by rw [List.mem_singleton.mp hc]; exact ⟨oI, hoI⟩) k5 (Ext.refl _ _)
    have hit5 : h5.IsListIter I a (i + 1) := hit4.at fun ob e => k5 I ob e o4.1 o4.2.1 o4.2.2.1 o4.2.2.2
    have hI5 : ∃ o, h5.get? I = some o := let ⟨ob, ho, _⟩ := hit5; ⟨ob, ho⟩
    refine hbody.run φ3 st5 _ p st6 _ r5 e6 fun φ6 h6 tk6 f r6 x6 k6 q6 => ?_
    have o5 := offAt cm5.ext
    have cm6 := Cum.step cm5 r5 (fun c hc => by rw [List.mem_singleton.mp hc]; exact hI5) k6 x6
    have hit6 : h6.IsListIter I a (i + 1) := hit5.at fun ob e => k6 I ob e o5.1 o5.2.1 o5.2.2.1 o5.2.2.2
    exact loop_out q6 (X := mforRef n b mb k (i + 1) st6) (st6 := st6) (by cases p <;> exact em) (fun em => ⟨k, Nat.lt_succ_self _, ⟨h6, tk6, φ6, st6, i + 1⟩, rfl, r6, hit6, cm6, em⟩) fun g qg e => fin φ6 h6 tk6 g (e ▸ r6) cm6 qg
   ·cases f <;> exact z
end
end
section
section
variable {prog : Program} {w : World} {A : Around} {E : Value → Shared → Prop} {s : Shared}
theorem nextOf_tuple_item {it t : Addr} {i : Nat} {items : Array Value} {x : Value} {Q : Value → Shared → Prop} (hit : s.heap.IsTupleIter it t i)
  (ht : s.heap.IsTuple t items) (hx : items[i]? = some x)
  (hQ : ∀ h', h'.IsTupleIter it t (i + 1) → Heap.SameBut it s.heap h' → Q x { s with heap := h' }) :
  wpAny (model prog w) A (Builtin.SmallTypes.nextOf (.ref it)) Q E s := by
 refine cps fun G hG => ?_
 obtain ⟨o, ho, hc, hd⟩ := id hit
 obtain ⟨ol, hol, _, nl, hdl⟩ := ht
 refine hG ?_; clear hG
 unfold Builtin.SmallTypes.nextOf
 refine wpAny_bind (wpAny_callSpecial?_slot (name := Str.ofString "__next__") hit.typeIs F.slot_tuple_iterator_next
  (wpAny_call_entry F.slot_tuple_iterator_next hit.typeIs F.entry_tuple_iterator_next ?_ (F.args_tuple_iterator_next_1 _)))
 show wpAny _ _ (field (.ref it) 0 >>= _) _ _ s
 refine wpAny_bind (wpAny_field ho hd (x := .ref t) rfl ?_)
 show wpAny _ _ (if (Value.ref t == Value.none) = true then _ else _) _ _ s
 rw [if_neg (show ¬ ((Value.ref t == Value.none) = true) from Bool.false_ne_true)]
 show wpAny _ _ (field (.ref it) 1 >>= _) _ _ s
 refine wpAny_bind (wpAny_field ho hd (x := .int i 0) rfl ?_)
 show wpAny _ _ (seqItems? (.ref t) >>= _) _ _ s
 refine wpAny_bind (wpAny_seqItems hol hdl ?_)
 simp only [Int.toNat_natCast, hx]
 refine wpAny_bind (wpAny_setField ho hd (by simp) (wpAny_pure ⟨x, rfl, wpAny_pure (hQ _ ?_ (Heap.SameBut.update ..))⟩))
 exact ⟨_, Heap.get?_update_self _ ho (Obj.isFreed_of_fields (Obj.data_mapFields hd _)), (Obj.cls_mapFields ..).trans hc, by
  rw [Obj.data_mapFields hd]; simp [rawInt]⟩
theorem nextOf_tuple_end {it t : Addr} {i : Nat} {items : Array Value} {Q : Value → Shared → Prop} (hh : A.handled = none)
  (hit : s.heap.IsTupleIter it t i) (ht : s.heap.IsTuple t items) (hx : items[i]? = none)
  (hE : ∀ h' e, Heap.ExtBut it s.heap h' → (∃ o, h'.get? e = some o ∧ o.cls = .type "StopIteration") → E (.ref e) { s with heap := h' }) :
  wpAny (model prog w) A (Builtin.SmallTypes.nextOf (.ref it)) Q E s := by
 refine cps fun G hG => ?_
 obtain ⟨o, ho, hc, hd⟩ := id hit
 obtain ⟨ol, hol, _, nl, hdl⟩ := ht
 refine hG ?_; clear hG
 unfold Builtin.SmallTypes.nextOf
 refine wpAny_bind (wpAny_callSpecial?_slot (name := Str.ofString "__next__") hit.typeIs F.slot_tuple_iterator_next
  (wpAny_call_entry F.slot_tuple_iterator_next hit.typeIs F.entry_tuple_iterator_next ?_ (F.args_tuple_iterator_next_1 _)))
 show wpAny _ _ (field (.ref it) 0 >>= _) _ _ s
 refine wpAny_bind (wpAny_field ho hd (x := .ref t) rfl ?_)
 show wpAny _ _ (if (Value.ref t == Value.none) = true then _ else _) _ _ s
 rw [if_neg (show ¬ ((Value.ref t == Value.none) = true) from Bool.false_ne_true)]
 show wpAny _ _ (field (.ref it) 1 >>= _) _ _ s
 refine wpAny_bind (wpAny_field ho hd (x := .int i 0) rfl ?_)
 show wpAny _ _ (seqItems? (.ref t) >>= _) _ _ s
 refine wpAny_bind (wpAny_seqItems hol hdl ?_)
 (dsimp only [Int.toNat_natCast]; simp only [Int.toNat_natCast, hx])
 refine wpAny_bind (wpAny_rule (wpAny_bind (wpAny_setField ho hd (by simp) ?_)))
 show wpAny _ _ (newExc (.type "StopIteration") [] >>= _) _ _ _
 refine wpAny_bind ?_
 dsimp only [newExc, newTuple]
 refine wpAny_bind (wpAny_newObj_type ?_ (by size_fits))
 refine wpAny_bind (m := firstArgMember _ _) (wpAny_of_eq (a := Value.none) (by first | rfl | (dsimp only [firstArgMember]; rfl)) ?_)
 refine wpAny_newObj_type ?_ (by size_fits)
 dsimp only [raiseNew]
 refine wpAny_bind (wpAny_handled ?_)
 first | rw [show A.in1.handled = none from hh] | rw [hh]
 refine wpAny_bind (wpAny_pure (wpAny_throw ?_))
 exact hE _ _ (((Heap.SameBut.update ..).extBut.push _).push _) ⟨_, Heap.get?_push_size _ rfl, rfl⟩
theorem draws_tuple {A : Around} (hh : A.handled = none) (it l : Addr) (hne : l ≠ it) (items : Array Value) :
  Draws prog w A it [it, l] items.size (fun i v => items[i]? = some v) (fun i h => h.IsTupleIter it l i ∧ h.IsTuple l items) where
 live := fun _ _ st => let ⟨o, ho, _⟩ := st.1; ⟨o, ho⟩
 frame := fun _ _ _ st hk => ⟨let ⟨o, ho, r⟩ := st.1; ⟨o, hk it (by simp) o ho, r⟩, st.2.at fun o e => hk l (by simp) o e⟩
 item := fun i s Q E hi st hQ => by
  refine nextOf_tuple_item st.1 st.2 (x := items[i]) (by simp [hi]) fun h' hit' hs' => ?_
  exact hQ _ h' s.toks (by simp [hi]) ⟨hit', st.2.extBut hs'.extBut hne⟩ hs'
 done := fun s Q E st hE => nextOf_tuple_end hh st.1 st.2 (by simp) hE
theorem meets_enumerate_newT (l : Addr) (items : Array Value) (n : Nat) (dct : Option Addr) (sl : Array (Option Value)) :
  Meets (Builtin.«enumerate.__new__» ⟨[.type "enumerate", .ref l], []⟩) (fun _ R s => s.heap.get? l = some { cls := .type "tuple", dict := dct, data := .seq items n, slots := sl } ∧
   R (.ok (.ret (.ref (s.heap.push { cls := .type "tuple_iterator", data := .fields #[.ref l, .int 0 0] }).objs.size)))
    { s with heap := (s.heap.push { cls := .type "tuple_iterator", data := .fields #[.ref l, .int 0 0] }).push { cls := .type "enumerate", data := .fields #[.none, .bool false, .ref s.heap.objs.size, rawInt 0, .none, .none] } }) :=
 .of_wp fun prog w A R s h => by
  obtain ⟨hp, g, d, tk, os⟩ := s; obtain ⟨hl, h⟩ := h
  have hsub := sub_enumerate
  have hL : Heap.IsTuple (Shared.heap ⟨hp, g, d, tk, os⟩) l items := ⟨_, hl, rfl, n, rfl⟩
  wp_walk using AutoSeq1.wpAny_loadPart' hl
  refine wpAny_stack_any fun st => wpAny_pure ?_
  split
  ·rename_i c _ _ _ _ _
   cases (c == Value.type "enumerate")
   ·wp_walk using AutoSeq1.wpAny_loadPart' hl, wpAny_pyIter_tuple hL
    exact ⟨_, rfl, h⟩
   ·wp_walk using AutoSeq1.wpAny_loadPart' hl, wpAny_pyIter_tuple hL
    exact ⟨_, rfl, h⟩
  ·wp_walk using AutoSeq1.wpAny_loadPart' hl, wpAny_pyIter_tuple hL
   exact ⟨_, rfl, h⟩
theorem call_enumerate_tuple {l : Addr} {items : Array Value} {Q : Value → Shared → Prop} (hL : s.heap.IsTuple l items)
  (h : ∀ h', IsEnum h' (s.heap.objs.size + 1) s.heap.objs.size 0 .none → h'.IsTupleIter s.heap.objs.size l 0 → h'.objs.size = s.heap.objs.size + 2 →
   (∀ b o, s.heap.get? b = some o → h'.get? b = some o) → Q (.ref (s.heap.objs.size + 1)) { s with heap := h' }) :
  wpAny (model prog w) A (call (.type "enumerate") [.ref l]) Q E s := by
 refine cps fun G hG => ?_
 obtain ⟨⟨c, dct, dt, sl⟩, hl, hc, n, hd⟩ := hL
 refine hG ?_; clear hG
 replace hc : c = .type "tuple" := hc
 replace hd : dt = .seq items n := hd
 subst hc hd
 refine callType_new F.called_enumerate (by decide) (F.typeCall_enumerate_1 _) (F.newCall_enumerate_1 _) (fun obj => F.args_object_init_2 obj _) F.entry_enumerate_new
  (meets_enumerate_newT l items n dct sl) ⟨hl, ?_⟩
 have hz : (s.heap.push { cls := .type "tuple_iterator", data := .fields #[.ref l, .int 0 0] }).objs.size = s.heap.objs.size + 1 := Heap.size_push ..
 show _ ∧ _
 rw [hz]
 have he : IsEnum ((s.heap.push { cls := .type "tuple_iterator", data := .fields #[.ref l, .int 0 0] }).push
   { cls := .type "enumerate", data := .fields #[.none, .bool false, .ref s.heap.objs.size, rawInt 0, .none, .none] }) (s.heap.objs.size + 1) s.heap.objs.size 0 .none := by
  have := Heap.get?_push_size (s.heap.push { cls := .type "tuple_iterator", data := .fields #[.ref l, .int 0 0] })
   (o := { cls := .type "enumerate", data := .fields #[.none, .bool false, .ref s.heap.objs.size, rawInt 0, .none, .none] }) rfl
  rw [hz] at this; exact this
 refine ⟨⟨_, he, rfl⟩, h _ he ⟨_, Heap.get?_push_of_some _ (Heap.get?_push_size _ rfl), rfl, rfl⟩ (by rw [Heap.size_push, hz]) fun b o x => Heap.get?_push_of_some _ (Heap.get?_push_of_some _ x)⟩
end
end
section
section
variable {prog : Program} {w : World} {A : Around} {C : Cx} {fv : FV} {K : Frag}
noncomputable def enumL (xs : List MV) : List MV := (List.range xs.length).zipWith (fun i x => MV.tup [.int (i : Nat), x]) xs
theorem enumL_length (xs : List MV) : (enumL xs).length = xs.length := by simp [enumL]
theorem enumL_get {xs : List MV} {i : Nat} {y : MV} (h : (enumL xs)[i]? = some y) : ∃ x, xs[i]? = some x ∧ y = .tup [.int i, x] := by
 simp only [enumL, List.getElem?_zipWith] at h
 cases hx : xs[i]? with
 | none => rw [hx] at h; cases hr : (List.range xs.length)[i]? <;> rw [hr] at h <;> (injection h; done)
 | some x =>
  have hlt := (List.getElem?_eq_some_iff.mp hx).1
  rw [hx, List.getElem?_range hlt] at h
  (injection h with h; subst h)
  exact ⟨x, rfl, rfl⟩
theorem it_enum {elts : List Expr} {ek : Nat} {tp : Pos} {φ : List (Option Addr)} {st : MSt} {h h2 sh : Heap} {b : Addr} {items : List Value} {xs : List MV} {St : Nat → Heap → Prop} (r : R prog w C fv φ st h) (hk : Stays sh h)
  (hl : ∃ o, h.get? b = some o ∧ IsSeq o) (hW : ¬ C.av φ b) (hi : VRs h (C.av φ) φ xs items) (hn : noRefs xs = true)
  (D : Draws prog w A.in1 h.objs.size [h.objs.size, b] items.toArray.size (fun i v => items.toArray[i]? = some v) St) (hst : ∀ i h', St i h' → (∃ o, h'.get? h.objs.size = some o ∧ ¬ IsSeq o) ∧ ∃ o, h'.get? b = some o)
  (he : IsEnum h2 (h.objs.size + 1) h.objs.size 0 .none) (hs0 : St 0 h2) (kk : Stays h h2) :
  ItOk prog w A C fv true (.Tuple elts ek tp) φ h2 (enumL xs) (h.objs.size + 1) sh := by
 have hei : h.objs.size + 1 ≠ h.objs.size := Nat.succ_ne_self _
 obtain ⟨ob, hob, hsq⟩ := hl
 have hbn : b ≠ h.objs.size := Nat.ne_of_lt (Heap.lt_size hob)
 have hbe : b ≠ h.objs.size + 1 := by
  have h1 : @LT.lt Nat _ b h.objs.size := Heap.lt_size hob
  intro e
  have h2 : @Eq Nat b (h.objs.size + 1) := e
  omega
 have W := (WalksT.enumerateD D (h.objs.size + 1) hei (by simp [hei, Ne.symm hbe]) (by simp)).toU
 have hlen : items.toArray.size = (enumL xs).length := by rw [enumL_length, hi.length]; simp
 rw [hlen] at W
 have fresh : ∀ c, (c = h.objs.size ∨ c = h.objs.size + 1) → h.get? c = none := by
  rintro c (rfl | rfl)
  ·exact get?_size_none h
  ·cases e : h.get? (h.objs.size + 1) with
   | none => rfl
   | some o => exact absurd (Heap.lt_size e) (Nat.not_lt.mpr (Nat.le_succ _))
 have notsh : ∀ {c : Addr}, h.get? c = none → sh.get? c = none := fun {c} e => by
  cases e' : sh.get? c with
  | none => rfl
  | some o => have := hk c o e'; exact (ng e this).elim
 have nsq : ∀ i h', ((∃ old, IsEnum h' (h.objs.size + 1) h.objs.size (i : Nat) old) ∧ St i h') → ∀ c ∈ [h.objs.size + 1, h.objs.size], ∀ o, h'.get? c = some o → ¬ IsSeq o := by
  rintro i h' ⟨⟨old, hE⟩, hS⟩ c hc o ho hq
  simp only [List.mem_cons, List.not_mem_nil, or_false] at hc
  rcases hc with rfl | rfl
  ·have hE' : h'.get? (h.objs.size + 1) = _ := hE
   rw [hE'] at ho; (injection ho with ho; subst ho)
   obtain ⟨z, m, hz⟩ := hq; (injection hz; done)
  ·obtain ⟨⟨o', ho', hns⟩, _⟩ := hst i h' hS
   rw [ho'] at ho; (injection ho with ho; subst ho); exact hns hq
 refine ⟨_, _, _, _, _, KTurns.ofWalksU W, ⟨⟨_, he⟩, hs0⟩, fun c hc => ?_, fun c hc => ?_, fun i h' st => ⟨fun c hc => ?_, nsq i h' st⟩, fun i s Q E st hQ => let ⟨⟨_, hE⟩, _⟩ := st; wpAny_pyIter_enum hE hQ, fun i v x h' φ' W' hP hx cm hW' => ?_⟩
 ·simp only [List.mem_cons, List.not_mem_nil, or_false] at hc
  rcases hc with rfl | rfl | rfl
  ·exact ⟨⟨_, he⟩, r.off_new (fresh _ (.inr rfl))⟩
  ·obtain ⟨⟨o, ho, _⟩, _⟩ := hst 0 _ hs0
   exact ⟨⟨o, ho⟩, r.off_new (fresh _ (.inl rfl))⟩
  ·exact ⟨⟨ob, kk _ _ hob⟩, r.off_seq hob hsq hW⟩
 ·simp only [List.mem_cons, List.not_mem_nil, or_false] at hc
  rcases hc with rfl | rfl
  ·exact notsh (fresh _ (.inr rfl))
  ·exact notsh (fresh _ (.inl rfl))
 ·simp only [List.mem_cons, List.not_mem_nil, or_false] at hc
  rcases hc with rfl | rfl | rfl
  ·exact let ⟨⟨_, hE⟩, _⟩ := st; ⟨_, hE⟩
  ·exact let ⟨⟨o, ho, _⟩, _⟩ := hst i h' st.2; ⟨o, ho⟩
  ·exact (hst i h' st.2).2
 ·obtain ⟨T, vals, rfl, ⟨t, y, hy, rfl⟩, hT⟩ := hP
  obtain ⟨z, hz, rfl⟩ := enumL_get hx
  obtain ⟨u, hu, hv⟩ := hi.get i z hz
  have huy : u = y := by
   rw [List.getElem?_toArray, hu] at hy; exact Option.some.inj hy
  subst huy
  refine ⟨_, T, [.int i t, u], rfl, rfl, hT, ?_⟩
  simp only [vRs1, vRs2]
  refine ⟨_, _, rfl, vr_int, _, _, rfl, ?_, rfl⟩
  exact VR.cum (r.stays kk) (nsq 0 h2 ⟨⟨_, he⟩, hs0⟩) cm hW' (noRefs_get hn hz) (hv.stays kk)
noncomputable def iEnum (a : MSt → Option MV) : MSt → Option (List MV) := fun st => (iSeq a st).map enumL
theorem SI.enum {elts : List Expr} {ek : Nat} {tp np pos : Pos} {x : Expr} {a : MSt → Option MV} (hh : A.handled = none) (hT : TopOk K C.h₀) (he : EnvOk fv.env) (hx : fv.env.kindOf "enumerate" = some .globalImplicit) (hg : nsIn K mainGlobals "enumerate" = some none)
  (ha : SE prog w A C fv (eval x fv.env) a) (hse : backTo pos (starEach [x] fv.env) = [(false, eval x fv.env)] := by rfl) : SI prog w A C fv true (.Tuple elts ek tp) (.Call (.Name "enumerate" np) [x] [] pos) (iEnum a) := by
 refine ⟨?_⟩
 intro φ st s xs Q r e h
 (dsimp only [iEnum, iSeq] at e; simp only [iEnum, iSeq, oM, oI] at e)
 refine cps fun G hG => ?_
 obtain ⟨ys, ⟨y, ey, e⟩, rfl⟩ := e
 refine hG ?_; clear hG
 refine wpAny_Call_NameR (ev_builtin hT he hx hg boot_enumerate (by decide) r ?_)
 rw [hse]
 refine PySem.callWith_type rfl (evalArgs_plain (spliced_cons (ha.run φ st s _ _ r ey fun h1 t1 v1 k1 r1 q1 => spliced_nil ?_)))
 refine cps fun G hG => ?_
 cases y <;> simp only [reduceCtorEq] at e
 ·split at e <;> cases e
  rename_i hn
  simp only [vR1, vR2, vR3, vR4, vR5, vR6, vR7, vR8] at q1
  obtain ⟨b, items, rfl, hW, hl, hi⟩ := q1
  refine hG ?_; clear hG
  refine call_enumerate_tuple hl fun h2 hE hit hsz kk => wpAny_pyIter_enum hE (h h2 _ _ (k1.trans kk) (r1.stays kk) ?_)
  refine cps fun G hG => ?_
  obtain ⟨o, ho, hc, n, hd⟩ := id hl
  have hbn : b ≠ h1.objs.size := Nat.ne_of_lt (Heap.lt_size ho)
  refine hG ?_; clear hG
  refine it_enum r1 k1 ⟨o, ho, _, _, hd⟩ hW hi hn (draws_tuple (A := A.in1) hh h1.objs.size b hbn items.toArray) ?_ hE ⟨hit, hl.at fun o e => kk _ _ e⟩ kk
  intro i h' hX6
  refine cps fun G hG => ?_
  obtain ⟨⟨o', ho', _, hd'⟩, ⟨o2, ho2, _⟩⟩ := hX6
  refine hG ?_; clear hG
  exact ⟨⟨o', ho', fun ⟨z, m, hz⟩ => by rw [hd'] at hz; (injection hz; done)⟩, ⟨o2, ho2⟩⟩
 ·split at e <;> cases e
  rename_i hn
  simp only [vR1, vR2, vR3, vR4, vR5, vR6, vR7, vR8] at q1
  obtain ⟨b, items, rfl, hW, hl, hi⟩ := q1
  refine hG ?_; clear hG
  refine call_enumerate_list hl fun h2 hE hit hsz kk => wpAny_pyIter_enum hE (h h2 _ _ (k1.trans kk) (r1.stays kk) ?_)
  refine cps fun G hG => ?_
  obtain ⟨o, ho, hc, n, hd⟩ := id hl
  have hbn : b ≠ h1.objs.size := Nat.ne_of_lt (Heap.lt_size ho)
  refine hG ?_; clear hG
  refine it_enum r1 k1 ⟨o, ho, _, _, hd⟩ hW hi hn (Draws.list (A := A.in1) hh h1.objs.size b hbn items.toArray) ?_ hE ⟨hit, hl.at fun o e => kk _ _ e⟩ kk
  intro i h' hX9
  refine cps fun G hG => ?_
  obtain ⟨⟨o', ho', _, hd'⟩, ⟨o2, ho2, _⟩⟩ := hX9
  refine hG ?_; clear hG
  exact ⟨⟨o', ho', fun ⟨z, m, hz⟩ => by rw [hd'] at hz; (injection hz; done)⟩, ⟨o2, ho2⟩⟩
noncomputable def vInt (i : Int) : Value → Bool
 | .int j _ => decide (i = j)
 | _ => false
noncomputable def vStr (x : Str) : Value → Bool
 | .str y _ => decide (x = y)
 | _ => false
noncomputable def asRefV : Value → Option Addr
 | .ref b => some b
 | _ => none
noncomputable def isTupC : Value → Bool
 | .type n => decide (n = "tuple")
 | _ => false
noncomputable def seqOf : Data → Option (List Value)
 | .seq items _ => some items.toList
 | _ => none
noncomputable def tupAt (K : Frag) (b : Addr) : Option (List Value) := (K.lookup b).bind fun o => if isTupC o.cls then seqOf o.data else none
mutual
noncomputable def vrIn (K : Frag) : MV → Value → Bool
 | .int i, v => vInt i v
 | .str x, v => vStr x v
 | .tup l, v => match (asRefV v).bind (tupAt K) with
  | some items => vrsIn K l items
  | none => false
 | _, _ => false
noncomputable def vrsIn (K : Frag) : List MV → List Value → Bool
 | [], vs => vs.isEmpty
 | x :: xs, vs => match vs with
  | v :: vs => vrIn K x v && vrsIn K xs vs
  | [] => false
end
theorem vInt_inv {i : Int} {v : Value} (e : vInt i v = true) : ∃ t, v = .int i t := by
 cases v with
 | int j t => exact ⟨t, by rw [of_decide_eq_true e]⟩
 | _ => exact absurd e Bool.false_ne_true
theorem vStr_inv {i : Str} {v : Value} (e : vStr i v = true) : ∃ t, v = .str i t := by
 cases v with
 | str j t => exact ⟨t, by rw [of_decide_eq_true e]⟩
 | _ => exact absurd e Bool.false_ne_true
theorem asRefV_inv {v : Value} {b : Addr} (e : asRefV v = some b) : v = .ref b := by
 cases v with
 | ref c => rw [Option.some.inj e]
 | _ => cases e
theorem isTupC_inv {v : Value} (e : isTupC v = true) : v = .type "tuple" := by
 cases v with
 | type n => rw [of_decide_eq_true e]
 | _ => exact absurd e Bool.false_ne_true
theorem seqOf_inv {d : Data} {l : List Value} (e : seqOf d = some l) : ∃ n, d = .seq l.toArray n := by
 cases d with
 | seq items n => exact ⟨n, by rw [← Option.some.inj e, Array.toArray_toList]⟩
 | _ => cases e
theorem tupAt_inv {K : Frag} {b : Addr} {l : List Value} (e : tupAt K b = some l) : ∃ o, K.lookup b = some o ∧ o.cls = .type "tuple" ∧ ∃ n, o.data = .seq l.toArray n := by
 obtain ⟨o, h1, h2⟩ := oI.mp e
 by_cases c : isTupC o.cls = true
 ·rw [if_pos c] at h2
  exact ⟨o, h1, isTupC_inv c, seqOf_inv h2⟩
 ·rw [if_neg c] at h2; cases h2
mutual
theorem vrIn_ok {h : Heap} {W : Addr → Prop} {φ : List (Option Addr)} (hk : K.In h) (hW : ∀ a o, K.lookup a = some o → ¬ W a) : ∀ (x : MV) {v : Value}, vrIn K x v = true → VR h W φ x v
 | .int _, v, e => vInt_inv e
 | .str _, v, e => vStr_inv e
 | .tup l, v, e => by
  have e : (match (asRefV v).bind (tupAt K) with
   | some items => vrsIn K l items
   | none => false) = true := e
  cases q : (asRefV v).bind (tupAt K) with
  | none => rw [q] at e; exact absurd e Bool.false_ne_true
  | some items =>
   rw [q] at e
   obtain ⟨b, h1, h2⟩ := oI.mp q
   obtain ⟨o, h3, h4, n, h5⟩ := tupAt_inv h2
   exact ⟨b, items, asRefV_inv h1, hW b _ h3, ⟨o, hk _ _ h3, h4, n, h5⟩, vrsIn_ok hk hW l e⟩
 | .none, v, e => absurd e Bool.false_ne_true
 | .bool _, v, e => absurd e Bool.false_ne_true
 | .lst _, v, e => absurd e Bool.false_ne_true
 | .ref _, v, e => absurd e Bool.false_ne_true
 | .cls _, v, e => absurd e Bool.false_ne_true
theorem vrsIn_ok {h : Heap} {W : Addr → Prop} {φ : List (Option Addr)} (hk : K.In h) (hW : ∀ a o, K.lookup a = some o → ¬ W a) : ∀ (x : List MV) {v : List Value}, vrsIn K x v = true → VRs h W φ x v
 | [], v, e => List.isEmpty_iff.mp e
 | x :: xs, [], e => absurd e Bool.false_ne_true
 | x :: xs, v :: vs, e => by
  have e : (vrIn K x v && vrsIn K xs vs) = true := e
  rw [Bool.and_eq_true] at e
  exact ⟨_, _, rfl, vrIn_ok hk hW x e.1, vrsIn_ok hk hW xs e.2⟩
end
noncomputable def eK (t : MV) : MSt → Option MV := fun _ => some t
theorem se_glob {x : Str} {pos : Pos} {rv : Value} {t : MV} (hT : TopOk K C.h₀) (he : EnvOk fv.env) (hW : ∀ a, ¬ C.W0 a) (hx : fv.env.kindOf x = some .globalImplicit) (hg : nsIn K mainGlobals x = some (some rv)) (hv : vrIn K t rv = true) (hd : (x == ("__debug__" : Str)) = false := by decide) :
  SE prog w A C fv (eval (.Name x pos) fv.env) (eK t) := by
 refine ⟨?_⟩
 intro φ st s v Q r e h
 (injection e with e; subst e)
 refine ev_fn hT he hx hg r (h s.heap s.toks rv (Stays.refl _) r (vrIn_ok (hT.k.keeps r.base) (fun a o ho hc => ?_) _ hv)) hd
 rcases hc with hc | hc
 ·exact hW a hc
 ·have h1 : @LE.le Nat _ C.h₀.objs.size a := r.new a hc
  have h2 : @LT.lt Nat _ a C.h₀.objs.size := Heap.lt_size (hT.k _ _ ho)
  omega
noncomputable def flatV : MV → Bool
 | .none => true
 | .bool _ => true
 | .int _ => true
 | .str _ => true
 | _ => false
theorem VR.flat {h h' : Heap} {W W' : Addr → Prop} {φ φ' : List (Option Addr)} {x : MV} {v : Value} (hf : flatV x = true) (q : VR h W φ x v) : VR h' W' φ' x v := by
 cases x <;> (dsimp only [flatV] at hf; simp only [flatV, reduceCtorEq] at hf) <;> simpa only [vR1, vR2, vR3, vR4, vR5, vR6, vR7, vR8] using q
theorem pure_flat {f : Addr} {n : Nat} {args : List MV} {v : MV} (hf : flatV v = true)
  (h : ∀ A base outer s vs Q, AOk A n → Below A base outer s.heap → TopOk K s.heap → VRs s.heap (fun _ => False) [] args vs →
   (∀ h' tk rv, Stays s.heap h' → VR h' (fun _ => False) [] v rv → Q rv { s with heap := h', toks := tk }) → wpAny (model prog w) A (call (.ref f) vs) Q NoE s) : Pure prog w K f n args v := by
 intro A base outer s W0 vs Q hA B T hW q hQ
 exact h A base outer s vs Q hA B T (VRs.mono (fun b o hb ho _ => ⟨ho, fun hc => hc⟩) (fun _ _ e => e) _ q) fun h' tk rv hk hv => hQ h' tk rv hk (VR.flat hf hv)
theorem pure_fn0 {f : Addr} {o : Obj} {fd : FuncData} {body : List Stmt} (vars : List (Str × Nat)) (names : List Str) {n : Nat} {m : MSt → Option (Out × MSt)} (look : K.lookup f = some o) (hd : o.data = .func fd) (hb : fd.body = .stmts body) (chk : fnChk K fd vars names = true)
  (clos : fd.closure = []) (glob : fd.globals = mainGlobals) (bins : fd.builtins = builtinsNs) (co : fd.scope.isCoroutine = false) (gen : fd.scope.isGenerator = false) (kind : fd.scope.kind = .function)
  (hbind : ∀ vs : List Value, vs.length = names.length → bindArgs fd ⟨vs, []⟩ = pure (names.zip vs))
  (hss : ∀ A C L, AOk A n → CtxB A C → TopOk K C.h₀ → EnvOk (callEnvC fd L f) → VarsOk vars = true → (∀ a, ¬ C.W0 a) → SS prog w A C (fnFV fd L f vars) (execs body (callEnvC fd L f)) m) :
  ∀ args v, (runFn (packN names.length) m args).filter flatV = some v → Pure prog w K f (n + 1) args v := by
 intro args v e
 obtain ⟨e, hf⟩ := Option.filter_eq_some_iff.mp e
 have hv : VarsOk vars = true := by (dsimp only [fnChk] at chk; simp only [fnChk, Bool.and_eq_true] at chk); exact chk.2
 refine pure_flat hf fun A base outer s vs Q hA B T q hQ => ?_
 exact call_of (FnOk.of look hd hb chk clos glob bins co gen kind) (binder_plain hbind) (fun _ _ e => packN_len e) (fun _ => False)
  (fun A C L hW hA hB hT => hss A C L hA hB hT ⟨kind, glob, bins, fun n hn => Option.isSome_iff_exists.mp (cellsFrom_isSome fd.scope.names (L + 1) [] (.inr hn))⟩ hv (fun a => by rw [hW]; exact id)) args v e A base outer s vs Q hA B T (fun _ h => h.elim) q hQ
end
end
section
section
variable {prog : Program} {w : World} {A : Around} {E : Value → Shared → Prop} {s : Shared}
theorem ty_str : typeOf (.type "str") = pure (.type "type") := by rfl
theorem kind_issub : builtinKind "issubclass.nested" = none := by decide +kernel
theorem plain_issub : plainId "issubclass.nested" = true := by decide +kernel
theorem args_issub (a b c : Value) : argsOk "issubclass.nested" ⟨[a, b, c], []⟩ := by unfold argsOk; kernel_rfl
theorem sub_str : isSubtype (.type "str") (.type "str") = pure true := by rw [isSubtype_type]; kernel_rfl
theorem issub_self {k : Value} {dep : Int} {tk : Tok} {Q : Fin → Shared → Prop} (hk : k = .int dep tk) (hq : Q (.done (.ret (.bool true))) s) :
  wpAny (model prog w) A (Builtin.«issubclass.nested» ⟨[.type "str", .type "str", k], []⟩) Q E s := by
 subst hk
 have hself := sub_str
 have hm := ty_str
 repeat (any_goals (first | assumption | (rw [hm]) | (rw [hself]) | wp_step))
theorem issub_tuple {tp : Addr} {cs rest : List Value} {tk : Tok} {Q : Fin → Shared → Prop} (ht : s.heap.IsTuple tp cs.toArray) (hcs : cs = .type "str" :: rest) (hq : ∀ tk', Q (.done (.ret (.bool true))) { s with toks := tk' }) :
  wpAny (model prog w) A (Builtin.«issubclass.nested» ⟨[.type "str", .ref tp, .int 0 tk], []⟩) Q E s := by
 obtain ⟨⟨c, dct, dt, sl⟩, htp, hc, n, hd⟩ := ht
 replace hc : c = .type "tuple" := hc
 replace hd : dt = .seq _ n := hd
 subst hc hd
 obtain ⟨h, g, d, t, os⟩ := s
 have hT2 : (⟨h, g, d, t, os⟩ : Shared).TypeIs (.ref tp) "tuple" := ⟨_, htp, rfl⟩
 have f1 := F.isi_sub_tuple
 repeat (any_goals (first | assumption | wp_step))
 refine wpAny_arrayLoop ?_
 simp only [Option.getD_some, List.toList_toArray]
 rw [hcs, List.forIn_cons]
 refine wpAny_bind (wpAny_bind (call_function_meets (S := fun _ R s => R (.ok (.ret (.bool true))) s) kind_issub plain_issub F.entry_issubclass_nested (args_issub _ _ _) (fun _ _ _ _ _ hs => issub_self rfl hs) ?_))
 show wpAny _ _ (truthy (.bool true) >>= _) _ _ _
 refine wpAny_bind (m := truthy (.bool true)) (wpAny_pure ?_)
 refine wpAny_bind (wpAny_pure (wpAny_pure (wpAny_pure ?_)))
 repeat (any_goals (first | assumption | wp_step))
 exact hq _
theorem call_issub {tp : Addr} {rest : List Value} {Q : Value → Shared → Prop} (ht : s.heap.IsTuple tp (.type "str" :: rest).toArray) (hq : ∀ tk', Q (.bool true) { s with toks := tk' }) :
  wpAny (model prog w) A (call (.builtin "issubclass") [.type "str", .ref tp]) Q E s :=
 call_issubclass (S := fun _ R s => s.heap.IsTuple tp (.type "str" :: rest).toArray ∧ ∀ tk', R (.ok (.ret (.bool true))) { s with toks := tk' }) (fun _ _ _ _ _ hs => issubclass_outer (issub_tuple hs.1 rfl hs.2)) ⟨ht, hq⟩
end
section
variable {prog : Program} {w : World} {A : Around} {C : Cx} {fv : FV} {K : Frag}
noncomputable def sDead : MSt → Option (Out × MSt) := fun _ => none
theorem ss_dead {t : Sem Flow} : SS prog w A C fv t sDead := ⟨fun _ _ _ _ _ _ _ e => by (injection e; done)⟩
noncomputable def eDead : MSt → Option MV := fun _ => none
noncomputable def eCls (n : String) : MSt → Option MV := fun _ => some (.cls n)
theorem se_cls {x : Str} {n : String} {pos : Pos} (hT : TopOk K C.h₀) (he : EnvOk fv.env) (hx : fv.env.kindOf x = some .globalImplicit) (hg : nsIn K mainGlobals x = some none) (hv : bootBuiltins x = some (.type n)) (hnm : x ≠ "__name__") (hdb : (x == ("__debug__" : Str)) = false := by decide) :
  SE prog w A C fv (eval (.Name x pos) fv.env) (eCls n) := by
 refine ⟨?_⟩
 intro φ st s v Q r e h
 (injection e with e; subst e)
 exact ev_builtin hT he hx hg hv hnm r (h _ _ _ (Stays.refl _) r (by simp only [vR1, vR2, vR3, vR4, vR5, vR6, vR7, vR8])) hdb
noncomputable def eType (a : MSt → Option MV) : MSt → Option MV := fun st => (a st).bind fun x => match x with
 | .str _ => some (.cls "str")
 | _ => none
theorem SE.type {x : Expr} {np pos : Pos} {a : MSt → Option MV} (hT : TopOk K C.h₀) (he : EnvOk fv.env) (hx : fv.env.kindOf "type" = some .globalImplicit) (hg : nsIn K mainGlobals "type" = some none)
  (ha : SE prog w A C fv (eval x fv.env) a) (hse : backTo pos (starEach [x] fv.env) = [(false, eval x fv.env)] := by rfl) : SE prog w A C fv (eval (.Call (.Name "type" np) [x] [] pos) fv.env) (eType a) := by
 refine ⟨?_⟩
 intro φ st s v Q r e h
 simp only [eType, oI] at e
 obtain ⟨y, ey, e⟩ := e
 cases y <;> simp only [reduceCtorEq, Option.some.injEq] at e
 subst e
 refine wpAny_Call_NameR (ev_builtin hT he hx hg boot_type (by decide) r ?_)
 rw [hse]
 refine PySem.callWith_type rfl (evalArgs_plain (spliced_cons (ha.run φ st s _ _ r ey fun h1 t1 v1 k1 r1 q1 => spliced_nil ?_)))
 obtain ⟨t, rfl⟩ := vr_str_inv q1
 exact call_type_of (typeIs_str _ _ _) (by decide) (h _ _ _ k1 r1 (by simp only [vR1, vR2, vR3, vR4, vR5, vR6, vR7, vR8]))
noncomputable def isClsStr : MV → Bool
 | .cls n => decide (n = "str")
 | _ => false
noncomputable def tupHead : MV → Bool
 | .tup l => (match l with
  | x :: _ => isClsStr x
  | [] => false)
 | _ => false
noncomputable def issubV (_ : MSt) (x y : MV) : Option MV := if isClsStr x = true ∧ tupHead y = true then some (.bool true) else none
theorem isClsStr_inv {x : MV} (h : isClsStr x = true) : x = .cls "str" := by
 cases x with
 | cls n => rw [of_decide_eq_true h]
 | _ => exact absurd h Bool.false_ne_true
theorem tupHead_inv {x : MV} (h : tupHead x = true) : ∃ l, x = .tup (.cls "str" :: l) := by
 cases x with
 | tup l => cases l with
  | nil => exact absurd h Bool.false_ne_true
  | cons x r => exact ⟨r, by rw [isClsStr_inv h]⟩
 | _ => exact absurd h Bool.false_ne_true
theorem bok_issub : BOk prog w A C fv (.builtin "issubclass") (f2 issubV) := by
 intro φ st s vs rvs v Q r e0 q0 h
 refine cps fun G hG => ?_
 obtain ⟨x, y, rfl, e⟩ := f2_inv e0
 obtain ⟨rx, ry, rfl, qx, qy⟩ := vrs_two q0
 refine hG ?_; clear hG
 unfold issubV at e
 refine cps fun G hG => ?_
 split at e
 ·rename_i hc
  (injection e with e; subst e)
  obtain rfl := isClsStr_inv hc.1
  obtain ⟨l, rfl⟩ := tupHead_inv hc.2
  simp only [vR1, vR2, vR3, vR4, vR5, vR6, vR7, vR8] at qx qy
  obtain ⟨b, items, rfl, _, hl, hi⟩ := qy
  simp only [vRs1, vRs2] at hi
  obtain ⟨z, rs, rfl, hz, _⟩ := hi
  simp only [vR1, vR2, vR3, vR4, vR5, vR6, vR7, vR8] at hz
  subst qx hz
  refine hG ?_; clear hG
  exact call_issub hl fun tk => h _ _ _ (Stays.refl _) vr_bool
 ·(injection e; done)
noncomputable def isinstV : MSt → MV → MV → Option MV
 | _, .str _, .cls "bytes" => some (.bool false)
 | _, _, _ => none
theorem bok_isinst : BOk prog w A C fv (.builtin "isinstance") (f2 isinstV) := by
 intro φ st s vs rvs v Q r e0 q0 h
 refine cps fun G hG => ?_
 obtain ⟨x, y, rfl, e⟩ := f2_inv e0
 obtain ⟨rx, ry, rfl, qx, qy⟩ := vrs_two q0
 refine hG ?_; clear hG
 unfold isinstV at e
 refine cps fun G hG => ?_
 split at e
 ·(injection e with e; subst e)
  obtain ⟨t, rfl⟩ := vr_str_inv qx
  simp only [vR1, vR2, vR3, vR4, vR5, vR6, vR7, vR8] at qy
  subst qy
  refine hG ?_; clear hG
  exact call_isinstance (isinstance_false_str (by decide) rfl (by rw [isSubtype_type]; kernel_rfl)) (h _ _ _ (Stays.refl _) vr_bool)
 ·(injection e; done)
noncomputable def packStar : List MV → Option (List MV)
 | [x, y] => some [x, .tup [y]]
 | _ => none
theorem packStar_len {l l' : List MV} (e : packStar l = some l') : l'.length = 2 := by
 unfold packStar at e
 split at e <;> cases e
 rfl
theorem binder_star {fd : FuncData} {a b : Str} (h : ∀ x y : Value, bindArgs fd ⟨[x, y], []⟩ = (do let t ← newTuple [y]; pure [(a, x), (b, t)])) : Binder prog w fd [a, b] packStar := by
 intro A W0 s args args' vs Q E e q hW hQ
 unfold packStar at e
 split at e <;> cases e
 obtain ⟨v, u, rfl, q1, q2⟩ := vrs_two q
 rw [h]
 refine wpAny_bind ?_
 unfold newTuple
 refine wpAny_newObj_type (wpAny_pure ?_) (by size_fits)
 have k := Stays.push s.heap { cls := .type "tuple", data := .seq [u].toArray }
 refine hQ _ s.toks [v, .ref s.heap.objs.size] k ?_
 simp only [vRs1, vRs2]
 refine ⟨v, _, rfl, q1.stays k, _, _, rfl, ?_, rfl⟩
 simp only [vR1, vR2, vR3, vR4, vR5, vR6, vR7, vR8]
 refine ⟨_, [u], rfl, fun hc => ?_, ⟨_, Heap.get?_push_size _ rfl, rfl, _, rfl⟩, by simp only [vRs1, vRs2]; exact ⟨u, [], rfl, q2.stays k, rfl⟩⟩
 obtain ⟨o, ho⟩ := hW _ hc
 rw [get?_size_none] at ho; (injection ho; done)
theorem pure_star {f : Addr} {o : Obj} {fd : FuncData} {body : List Stmt} (vars : List (Str × Nat)) (a b : Str) {n : Nat} {m : MSt → Option (Out × MSt)} (look : K.lookup f = some o) (hd : o.data = .func fd) (hb : fd.body = .stmts body) (chk : fnChk K fd vars [a, b] = true)
  (clos : fd.closure = []) (glob : fd.globals = mainGlobals) (bins : fd.builtins = builtinsNs) (co : fd.scope.isCoroutine = false) (gen : fd.scope.isGenerator = false) (kind : fd.scope.kind = .function)
  (hbind : ∀ x y : Value, bindArgs fd ⟨[x, y], []⟩ = (do let t ← newTuple [y]; pure [(a, x), (b, t)]))
  (hss : ∀ A C L, AOk A n → CtxB A C → TopOk K C.h₀ → EnvOk (callEnvC fd L f) → VarsOk vars = true → SS prog w A C (fnFV fd L f vars) (execs body (callEnvC fd L f)) m) : ∀ args v, runFn packStar m args = some v → Pure prog w K f (n + 1) args v := by
 have hv : VarsOk vars = true := by simp only [fnChk, Bool.and_eq_true] at chk; exact chk.2
 exact pure_of (FnOk.of look hd hb chk clos glob bins co gen kind) (binder_star hbind) (fun _ _ e => packStar_len e) fun A C L hA hB hT => hss A C L hA hB hT ⟨kind, glob, bins, fun n hn => Option.isSome_iff_exists.mp (cellsFrom_isSome fd.scope.names (L + 1) [] (.inr hn))⟩ hv
end
end
section
theorem slot_map_iter : Slot "map" "__iter__" "map.__iter__" :=
 .of (owner := "map") (n := "__iter__") (by rw [typeLookup_type, builtinLookup_eq_fast]; kernel_rfl) (by decide +kernel) (by decide +kernel) (by decide +kernel)
  (by first | exact .inl (by decide +kernel) | exact .inr (by decide +kernel)) (by rw [isSubtype_type]; kernel_rfl)
theorem slot_map_next : Slot "map" "__next__" "map.__next__" :=
 .of (owner := "map") (n := "__next__") (by rw [typeLookup_type, builtinLookup_eq_fast]; kernel_rfl) (by decide +kernel) (by decide +kernel) (by decide +kernel)
  (by first | exact .inl (by decide +kernel) | exact .inr (by decide +kernel)) (by rw [isSubtype_type]; kernel_rfl)
theorem slot_map_init : Slot "map" "__init__" "object.__init__" :=
 .of (owner := "object") (n := "__init__") (by rw [typeLookup_type, builtinLookup_eq_fast]; kernel_rfl) (by decide +kernel) (by decide +kernel) (by decide +kernel)
  (by first | exact .inl (by decide +kernel) | exact .inr (by decide +kernel)) (by rw [isSubtype_type]; kernel_rfl)
theorem entry_map_iter : entryFor table "map.__iter__" = some Builtin.«dict_keyiterator.__iter__» :=
 entryFor_alias (id' := "dict_keyiterator.__iter__") (by kernel_rfl) (by first | rfl | decide +kernel | (unfold String.splitOn; simp +decide [String.splitOnAux])) (by decide +kernel) (by kernel_rfl)
theorem entry_map_next : entryFor table "map.__next__" = some Builtin.«map.__next__» := entryFor_of_tree (by kernel_rfl)
theorem entry_map_new : entryFor table "map.__new__" = some Builtin.«map.__new__» := entryFor_of_tree (by kernel_rfl)
theorem owner_map : Manifest.owners.lookup (String.ofList ['p', 'a', 'm'].reverse) = some Manifest.sig_map := by kernel_rfl
theorem args_map_iter (a : Value) : argsOk "map.__iter__" ⟨[a], []⟩ := by
 unfold argsOk; rw [signature?_of (id := "map.__iter__") (n := ['_', '_', 'r', 'e', 't', 'i', '_', '_']) (o := ['p', 'a', 'm']) (by kernel_rfl) owner_map]; kernel_rfl
theorem args_map_next (a : Value) : argsOk "map.__next__" ⟨[a], []⟩ := by
 unfold argsOk; rw [signature?_of (id := "map.__next__") (n := ['_', '_', 't', 'x', 'e', 'n', '_', '_']) (o := ['p', 'a', 'm']) (by kernel_rfl) owner_map]; kernel_rfl
theorem mro_map : mroOf (.type "map") = pure [.type "map", .type "object"] := by rw [mroOf_type]; kernel_rfl
theorem lookup_map_new : typeLookup (.type "map") "__new__" = pure (some (.builtin "map.__new__")) := by rw [typeLookup_type, builtinLookup_eq_fast]; kernel_rfl
theorem called_map : TypeCalled "map" "map.__new__" "object.__init__" :=
 ⟨by decide +kernel, by decide +kernel, ⟨_, _, mro_map⟩, madeBy_type mro_map lookup_map_new (by decide +kernel), by decide +kernel, by rw [isSubtype_type]; kernel_rfl, slot_map_init⟩
theorem typeCall_map (a b : Value) : checkTypeCall "map" ⟨[a, b], []⟩ = pure () := by kernel_rfl
theorem newCall_map (a b : Value) : checkBuiltinCall "map.__new__" ⟨[.type "map", a, b], []⟩ = pure () := by kernel_rfl
theorem sub_map : isSubtype (.type "map") (.type "map") = pure true := by rw [isSubtype_type]; kernel_rfl
theorem map_no_len : typeLookup (.type "map") "__len__" = pure none := by rw [typeLookup_type, builtinLookup_eq_fast]; kernel_rfl
theorem map_no_hint : typeLookup (.type "map") "__length_hint__" = pure none := by rw [typeLookup_type, builtinLookup_eq_fast]; kernel_rfl
noncomputable abbrev IsMap (h : Heap) (z T : Addr) (f : Value) : Prop := h.get? z = some { cls := .type "map", data := .fields #[.ref T, f] }
noncomputable abbrev IsOne (h : Heap) (T : Addr) (a : Value) : Prop := h.get? T = some { cls := .type "tuple", data := .seq #[a] }
theorem meets_map_new (f l : Addr) (items : Array Value) (n : Nat) (dct : Option Addr) (sl : Array (Option Value)) :
  Meets (Builtin.«map.__new__» ⟨[.type "map", .ref f, .ref l], []⟩) (fun _ R s => s.heap.get? l = some { cls := .type "list", dict := dct, data := .seq items n, slots := sl } ∧
   R (.ok (.ret (.ref ((s.heap.push { cls := .type "list_iterator", data := .fields #[.ref l, .int 0 0] }).push { cls := .type "tuple", data := .seq #[.ref s.heap.objs.size] }).objs.size)))
    { s with heap := ((s.heap.push { cls := .type "list_iterator", data := .fields #[.ref l, .int 0 0] }).push { cls := .type "tuple", data := .seq #[.ref s.heap.objs.size] }).push { cls := .type "map", data := .fields #[.ref (s.heap.push { cls := .type "list_iterator", data := .fields #[.ref l, .int 0 0] }).objs.size, .ref f] } }) :=
 .of_wp fun prog w A R s h => by
  obtain ⟨hp, g, d, tk, os⟩ := s; obtain ⟨hl, h⟩ := h
  have hsub := sub_map
  have hL : Heap.IsList (Shared.heap ⟨hp, g, d, tk, os⟩) l items := ⟨_, hl, rfl, n, rfl⟩
  wp_walk using AutoSeq1.wpAny_loadPart' hl, wpAny_pyIter_list hL
  exact ⟨_, rfl, h⟩
section
variable {prog : Program} {w : World} {A : Around} {E : Value → Shared → Prop} {s : Shared}
theorem call_map {f l : Addr} {items : Array Value} {Q : Value → Shared → Prop} (hL : s.heap.IsList l items)
  (h : ∀ h', IsMap h' (s.heap.objs.size + 2) (s.heap.objs.size + 1) (.ref f) → IsOne h' (s.heap.objs.size + 1) (.ref s.heap.objs.size) → h'.IsListIter s.heap.objs.size l 0 → h'.objs.size = s.heap.objs.size + 3 →
   (∀ b o, s.heap.get? b = some o → h'.get? b = some o) → Q (.ref (s.heap.objs.size + 2)) { s with heap := h' }) :
  wpAny (model prog w) A (call (.type "map") [.ref f, .ref l]) Q E s := by
 refine cps fun G hG => ?_
 obtain ⟨⟨c, dct, dt, sl⟩, hl, hc, n, hd⟩ := hL
 refine hG ?_; clear hG
 replace hc : c = .type "list" := hc
 replace hd : dt = .seq items n := hd
 subst hc hd
 refine callType_new called_map (by decide) (typeCall_map _ _) (newCall_map _ _) (fun obj => F.args_object_init_3 obj _ _) entry_map_new (meets_map_new f l items n dct sl) ⟨hl, ?_⟩
 generalize e1 : s.heap.push { cls := .type "list_iterator", data := .fields #[.ref l, .int 0 0] } = h1
 have z1 : h1.objs.size = s.heap.objs.size + 1 := by rw [← e1, Heap.size_push]
 generalize e2 : h1.push { cls := .type "tuple", data := .seq #[.ref s.heap.objs.size] } = h2
 have z2 : h2.objs.size = s.heap.objs.size + 2 := by rw [← e2, Heap.size_push, z1]
 generalize e3 : h2.push { cls := .type "map", data := .fields #[.ref h1.objs.size, .ref f] } = h3
 have z3 : h3.objs.size = s.heap.objs.size + 3 := by rw [← e3, Heap.size_push, z2]
 have k1 : ∀ b o, s.heap.get? b = some o → h1.get? b = some o := fun b o e => by rw [← e1]; exact Heap.get?_push_of_some _ e
 have k2 : ∀ b o, h1.get? b = some o → h2.get? b = some o := fun b o e => by rw [← e2]; exact Heap.get?_push_of_some _ e
 have k3 : ∀ b o, h2.get? b = some o → h3.get? b = some o := fun b o e => by rw [← e3]; exact Heap.get?_push_of_some _ e
 have hm : IsMap h3 (s.heap.objs.size + 2) (s.heap.objs.size + 1) (.ref f) := by rw [← z2, ← z1, ← e3]; exact Heap.get?_push_size _ rfl
 have ht : IsOne h3 (s.heap.objs.size + 1) (.ref s.heap.objs.size) := k3 _ _ (by rw [← z1, ← e2]; exact Heap.get?_push_size _ rfl)
 have hi : h3.IsListIter s.heap.objs.size l 0 := ⟨_, k3 _ _ (k2 _ _ (by rw [← e1]; exact Heap.get?_push_size _ rfl)), rfl, rfl⟩
 show _ ∧ _
 rw [z2]
 exact ⟨⟨_, hm, rfl⟩, h h3 hm ht hi z3 fun b o e => k3 _ _ (k2 _ _ (k1 _ _ e))⟩
theorem map_next_item {z T it l f : Addr} {i : Nat} {items : Array Value} {x : Value} {Q : Value → Shared → Prop} (hz : IsMap s.heap z T (.ref f)) (hT : IsOne s.heap T (.ref it)) (hit : s.heap.IsListIter it l i) (hl : s.heap.IsList l items) (hx : items[i]? = some x) (hzi : z ≠ it) (hTi : T ≠ it)
  (hQ : ∀ h', IsMap h' z T (.ref f) → IsOne h' T (.ref it) → h'.IsListIter it l (i + 1) → Heap.SameBut it s.heap h' → wpAny (model prog w) A (call (.ref f) [x]) Q E { s with heap := h' }) :
  wpAny (model prog w) A (Builtin.«map.__next__» ⟨[.ref z], []⟩) (fun fin s' => ∃ v, fin = .done (.ret v) ∧ Q v s') E s := by
 show wpAny _ _ (field (.ref z) 0 >>= _) _ _ _
 refine wpAny_bind (wpAny_field hz rfl (x := .ref T) rfl ?_)
 refine wpAny_bind (wpAny_seqItems hT rfl ?_)
 refine wpAny_bind (wpAny_arrayLoop ?_)
 simp only [List.forIn_cons, List.forIn_nil]
 refine wpAny_bind (wpAny_bind (wpAny_holding (wpAny_nextOf_list_item hit hl hx fun h' hit' hs' => ?_)))
 have hz' : IsMap h' z T (.ref f) := (hs'.2 z hzi).trans hz
 have hT' : IsOne h' T (.ref it) := (hs'.2 T hTi).trans hT
 refine wpAny_pure (wpAny_pure ?_)
 refine wpAny_bind (wpAny_field hz' rfl (x := .ref f) rfl ?_)
 refine wpAny_bind (wpAny_holding (wpAny_mono (hQ h' hz' hT' hit' hs') (fun v s' hq => ?_) fun _ _ e => e))
 exact wpAny_bind (wpAny_letGo (wpAny_pure ⟨_, rfl, hq⟩))
end
end
section
section
variable {prog : Program} {w : World} {A : Around} {E : Value → Shared → Prop} {s : Shared}
theorem pyNext_map_item {z T it l f : Addr} {i : Nat} {items : Array Value} {x : Value} {Q : Option Value → Shared → Prop} (hz : IsMap s.heap z T (.ref f)) (hT : IsOne s.heap T (.ref it)) (hit : s.heap.IsListIter it l i) (hl : s.heap.IsList l items) (hx : items[i]? = some x) (hzi : z ≠ it) (hTi : T ≠ it)
  (hQ : ∀ h', IsMap h' z T (.ref f) → IsOne h' T (.ref it) → h'.IsListIter it l (i + 1) → Heap.SameBut it s.heap h' → wpAny (model prog w) A.in1 (call (.ref f) [x]) (fun v s' => Q (some v) s') NoE { s with heap := h' }) :
  wpAny (model prog w) A (pyNext (.ref z)) Q E s := by
 have hTy : s.TypeIs (.ref z) "map" := ⟨_, hz, rfl⟩
 unfold pyNext
 refine wpAny_bind (wpAny_attempt (wpAny_callSpecial?_slot (name := Str.ofString "__next__") hTy slot_map_next
  (wpAny_call_entry slot_map_next hTy entry_map_next ?_ (args_map_next _))))
 refine wpAny_mono (map_next_item (E := NoE) hz hT hit hl hx hzi hTi fun h' a b c d => wpAny_mono (hQ h' a b c d) (fun v s' hq => hq) fun _ _ e => e) (fun fin s' ⟨v, hv, hq⟩ => ⟨v, hv, wpAny_pure hq⟩) fun _ _ e => e.elim
theorem pyNext_map_end {z T it l f : Addr} {i : Nat} {items : Array Value} {Q : Option Value → Shared → Prop} (hh : A.handled = none) (hz : IsMap s.heap z T (.ref f)) (hT : IsOne s.heap T (.ref it)) (hit : s.heap.IsListIter it l i) (hl : s.heap.IsList l items) (hx : items[i]? = none)
  (hQ : ∀ h', Heap.ExtBut it s.heap h' → Q none { s with heap := h' }) : wpAny (model prog w) A (pyNext (.ref z)) Q E s := by
 have hTy : s.TypeIs (.ref z) "map" := ⟨_, hz, rfl⟩
 unfold pyNext
 refine wpAny_bind (wpAny_attempt (wpAny_callSpecial?_slot (name := Str.ofString "__next__") hTy slot_map_next
  (wpAny_call_entry slot_map_next hTy entry_map_next ?_ (args_map_next _))))
 show wpAny _ _ (field (.ref z) 0 >>= _) _ _ _
 refine wpAny_bind (wpAny_field hz rfl (x := .ref T) rfl ?_)
 refine wpAny_bind (wpAny_seqItems hT rfl ?_)
 refine wpAny_bind (wpAny_arrayLoop ?_)
 simp only [List.forIn_cons, List.forIn_nil]
 refine wpAny_bind (wpAny_bind (wpAny_holding (wpAny_nextOf_list_end (A := A.in1) hh hit hl hx fun h' x he' hx' => ?_)))
 obtain ⟨o, ho, hc⟩ := hx'
 refine wpAny_bind (wpAny_isInstance (T := "StopIteration") (b := true) ⟨o, ho, hc⟩ isSubtype_stop ?_)
 exact wpAny_pure (hQ _ he')
theorem pyIter_map {z T : Addr} {f : Value} {Q : Value → Shared → Prop} (hz : IsMap s.heap z T f) (h : Q (.ref z) s) : wpAny (model prog w) A (pyIter (.ref z)) Q E s := by
 have hT : s.TypeIs (.ref z) "map" := ⟨_, hz, rfl⟩
 refine wpAny_pyIter_slot hT slot_map_iter (wpAny_call_entry slot_map_iter hT entry_map_iter ?_ (args_map_iter _))
 show wpAny _ _ (ret (.ref z)) _ _ s
 exact wpAny_pure ⟨_, rfl, "map", _, hT, slot_map_next.lookup, h⟩
structure MapSt (s0 h : Heap) (z T it l f : Addr) (items : Array Value) (i : Nat) : Prop where
 m : IsMap h z T (.ref f)
 t : IsOne h T (.ref it)
 i : h.IsListIter it l i
 l : h.IsList l items
 k : ∀ b o, s0.get? b = some o → h.get? b = some o
theorem MapSt.stays {s0 h h' : Heap} {z T it l f : Addr} {items : Array Value} {i : Nat} (x : MapSt s0 h z T it l f items i) (k : ∀ b o, h.get? b = some o → h'.get? b = some o) : MapSt s0 h' z T it l f items i :=
 ⟨k _ _ x.m, k _ _ x.t, x.i.at fun o e => k _ o e, x.l.at fun o e => k _ o e, fun b o e => k _ _ (x.k b o e)⟩
variable {R : Result → Shared → Prop} {s0 : Heap} {z T it l f : Addr} {items : Array Value} {P : Nat → Value → Prop}
theorem extend_loop_map (hh : A.handled = none) (hn : items.size ≤ sizeLine) (S : Addr) (res : Value) (hzi : z ≠ it) (hTi : T ≠ it) (hli : l ≠ it) (hSz : S ≠ z) (hST : S ≠ T) (hSi : S ≠ it) (hSl : S ≠ l) (hS0 : s0.get? S = none) (hit0 : s0.get? it = none)
  (hcall : ∀ i x (s' : Shared) (Q : Value → Shared → Prop), items[i]? = some x → (∀ b o, s0.get? b = some o → s'.heap.get? b = some o) →
   (∀ h'' tk v, (∀ b o, s'.heap.get? b = some o → h''.get? b = some o) → P i v → Q v { s' with heap := h'', toks := tk }) → wpAny (model prog w) A.in1.in1 (call (.ref f) [x]) Q NoE s') :
  ∀ (k i : Nat) (s : Shared) (acc : Array Value) (c : Nat), items.size - i = k → i ≤ items.size → MapSt s0 s.heap z T it l f items i → s.heap.get? S = some { cls := .type "list", dict := none, data := .seq acc c, slots := #[] } → ItemsOf P acc i →
  (∀ h' tk acc' c', (∀ b o, s0.get? b = some o → h'.get? b = some o) → h'.get? S = some { cls := .type "list", dict := none, data := .seq acc' c', slots := #[] } → ItemsOf P acc' items.size → R (.ok (.ret res)) { s with heap := h', toks := tk }) →
  codeAny (model prog w) A (.builtin "list.extend.loop" ⟨[.ref S, .ref z, res], []⟩) R s := by
 intro k
 induction k with
 | zero =>
  intro i s acc c hk hi hst hS hacc hR
  have hin : i = items.size := by omega
  subst hin
  refine codeAny_builtin F.entry_extend_loop ?_
  rw [Around.under_plainId F.plain_extend_loop _]
  show wpAny _ A.in1 (pyNext (.ref z) >>= _) _ _ s
  refine wpAny_bind (pyNext_map_end (A := A.in1) hh hst.m hst.t hst.i hst.l (by simp) fun h' hx => ?_)
  exact wpAny_pure (hR h' s.toks acc c (fun b o e => hx b o (fun q => by rw [q, hit0] at e; (injection e; done)) (hst.k b o e)) (hx S _ hSi hS) hacc)
 | succ k ih =>
  intro i s acc c hk hi hst hS hacc hR
  have hlt : i < items.size := by omega
  have hx : items[i]? = some items[i] := Array.getElem?_eq_getElem hlt
  refine codeAny_builtin F.entry_extend_loop ?_
  rw [Around.under_plainId F.plain_extend_loop _]
  show wpAny _ A.in1 (pyNext (.ref z) >>= _) _ _ s
  refine wpAny_bind (pyNext_map_item (A := A.in1) hst.m hst.t hst.i hst.l hx hzi hTi fun h' hm ht hi' hs' => ?_)
  have k' : ∀ b o, s0.get? b = some o → h'.get? b = some o := fun b o e => (hs'.2 b (fun q => by rw [q, hit0] at e; (injection e; done))).trans (hst.k b o e)
  have st' : MapSt s0 h' z T it l f items (i + 1) := ⟨hm, ht, hi', hst.l.at fun o e => (hs'.2 l hli).trans e, k'⟩
  refine hcall i _ _ _ hx k' fun h'' tk v k'' hP => ?_
  have st'' := st'.stays k''
  have hS' : h''.get? S = some { cls := .type "list", dict := none, data := .seq acc c, slots := #[] } := k'' _ _ ((hs'.2 S hSi).trans hS)
  show wpAny _ A.in1 (updateSeq S (·.push v) >>= _) _ _ _
  refine wpAny_bind ?_
  have oth : ∀ b o, b ≠ S → h''.get? b = some o → (h''.update S (Obj.mapSeq (·.push v))).get? b = some o := fun b o hb e => (Heap.get?_update_other _ _ (Ne.symm hb)).trans e
  refine wpAny_updateSeq hS' rfl (wpAny_pure ⟨plainId_quiet F.plain_extend_loop _, ih (i + 1) _ (acc.push v) _ (by omega) hlt ?_ (Heap.get?_update_self _ hS' rfl) (hacc.push hP) fun h3 tk3 acc' c' k3 hS3 hacc' => ?_⟩)
   (by rw [hacc.1]; omega) (by show (acc.push v).size ≤ sizeLine + 1; rw [Array.size_push, hacc.1]; omega)
  ·exact ⟨oth _ _ (Ne.symm hSz) st''.m, oth _ _ (Ne.symm hST) st''.t, st''.i.at fun o e => oth _ o (Ne.symm hSi) e, st''.l.at fun o e => oth _ o (Ne.symm hSl) e, fun b o e => oth b o (fun q => by rw [q, hS0] at e; (injection e; done)) (st''.k b o e)⟩
  ·exact hR h3 tk3 acc' c' k3 hS3 hacc'
theorem collect_map {Q : List Value → Shared → Prop} (hh : A.handled = none) (hn : items.size ≤ sizeLine) (hzi : z ≠ it) (hTi : T ≠ it) (hli : l ≠ it) (hit0 : s0.get? it = none) (hst : MapSt s0 s.heap z T it l f items 0)
  (hcall : ∀ i x (s' : Shared) (Q : Value → Shared → Prop), items[i]? = some x → (∀ b o, s0.get? b = some o → s'.heap.get? b = some o) →
   (∀ h'' tk v, (∀ b o, s'.heap.get? b = some o → h''.get? b = some o) → P i v → Q v { s' with heap := h'', toks := tk }) → wpAny (model prog w) A.in1.in1 (call (.ref f) [x]) Q NoE s')
  (hQ : ∀ h' tk acc, (∀ b o, s0.get? b = some o → h'.get? b = some o) → ItemsOf P acc items.size → Q acc.toList { s with heap := h', toks := tk }) : wpAny (model prog w) A (collect (.ref z)) Q E s := by
 have ne : ∀ {a : Addr} {o : Obj}, s.heap.get? a = some o → s.heap.objs.size ≠ a := fun e q => by have := Heap.lt_size e; rw [← q] at this; exact Nat.lt_irrefl _ this
 have hSz := ne hst.m
 have hST := ne hst.t
 have hSi : s.heap.objs.size ≠ it := by obtain ⟨o, ho, _⟩ := hst.i; exact ne ho
 have hSl : s.heap.objs.size ≠ l := by obtain ⟨o, ho, _⟩ := hst.l; exact ne ho
 have hS0 : s0.get? s.heap.objs.size = none := by
  cases e : s0.get? s.heap.objs.size with
  | none => rfl
  | some o => exact absurd rfl (ne (hst.k _ _ e))
 unfold collect
 refine wpAny_bind (wpAny_runValue (codeAny_builtin F.entry_proto_collect ?_))
 rw [Around.under_plainId F.plain_proto_collect _]
 show wpAny _ A.in1 (newList [] >>= fun l => again (.builtin "list.__iadd__" ⟨[l, .ref z], []⟩)) _ _ s
 refine wpAny_bind (wpAny_newObj_type ?_)
 refine wpAny_pure ⟨plainId_quiet F.plain_list_iadd _, codeAny_builtin F.entry_list_iadd ?_⟩
 rw [Around.under_plainId F.plain_list_iadd _]
 have hst₁ := hst.stays (h' := s.heap.push { cls := .type "list", data := .seq ([] : List Value).toArray }) fun b o e => Heap.get?_push_of_some _ e
 show wpAny _ A.in1 (Builtin.List.listExtendWith (.ref s.heap.objs.size) (.ref z) (.ref s.heap.objs.size)) _ _ _
 unfold Builtin.List.listExtendWith
 have hTy : ({ s with heap := s.heap.push { cls := .type "list", data := .seq ([] : List Value).toArray } } : Shared).TypeIs (.ref z) "map" := ⟨_, hst₁.m, rfl⟩
 refine wpAny_bind (wpAny_typeOf hTy ?_)
 have h1 : Builtin.List.listSameRef (.ref s.heap.objs.size) (.ref z) = false := by simp [Builtin.List.listSameRef, hSz]
 have h2 : (Value.type "map" == Value.type "list") = false := by decide
 have h3 : (Value.type "map" == Value.type "tuple") = false := by decide
 simp only [h1, h2, h3, Bool.or_false, Bool.false_eq_true, if_false]
 refine wpAny_bind (pyIter_map hst₁.m ?_)
 refine wpAny_bind (wpAny_holding ?_)
 unfold Builtin.List.listLengthHint
 refine wpAny_bind (wpAny_specialOf hTy map_no_len ?_)
 show wpAny _ A.in1 (specialOf (Value.ref z) (Str.ofString "__length_hint__") >>= _) _ _ _
 refine wpAny_bind (wpAny_specialOf hTy map_no_hint ?_)
 refine wpAny_pure ?_
 show wpAny _ A.in1 (rule "list.extend.makes-room" >>= fun _ => Builtin.List.listTouch (.ref s.heap.objs.size) >>= fun _ =>
  again (.builtin "list.extend.loop" ⟨[.ref s.heap.objs.size, .ref z, .ref s.heap.objs.size], []⟩)) _ _ _
 refine wpAny_bind (wpAny_rule ?_)
 have hS₁ : (s.heap.push { cls := .type "list", data := .seq ([] : List Value).toArray }).get? s.heap.objs.size = some { cls := .type "list", data := .seq ([] : List Value).toArray } := Heap.get?_push_size _ rfl
 refine wpAny_bind ?_
 show wpAny _ A.in1 (updateSeq s.heap.objs.size (·.push .none) >>= fun _ => updateSeq s.heap.objs.size (·.pop)) _ _ _
 refine wpAny_bind (wpAny_updateSeq hS₁ rfl ?_)
 have hS₂ := Heap.get?_update_self (Obj.mapSeq (·.push Value.none)) hS₁ rfl
 refine wpAny_updateSeq hS₂ rfl ?_
 have hS₃ := Heap.get?_update_self (Obj.mapSeq (·.pop)) hS₂ rfl
 have oth : ∀ b o, b ≠ s.heap.objs.size → (s.heap.push { cls := .type "list", data := .seq ([] : List Value).toArray }).get? b = some o →
   (((s.heap.push { cls := .type "list", data := .seq ([] : List Value).toArray }).update s.heap.objs.size (Obj.mapSeq (·.push Value.none))).update s.heap.objs.size (Obj.mapSeq (·.pop))).get? b = some o :=
  fun b o hb e => (Heap.get?_update_other _ _ (Ne.symm hb)).trans ((Heap.get?_update_other _ _ (Ne.symm hb)).trans e)
 have hst₃ : MapSt s0 (((s.heap.push { cls := .type "list", data := .seq ([] : List Value).toArray }).update s.heap.objs.size (Obj.mapSeq (·.push Value.none))).update s.heap.objs.size (Obj.mapSeq (·.pop))) z T it l f items 0 :=
  ⟨oth _ _ (Ne.symm hSz) hst₁.m, oth _ _ (Ne.symm hST) hst₁.t, hst₁.i.at fun o e => oth _ o (Ne.symm hSi) e, hst₁.l.at fun o e => oth _ o (Ne.symm hSl) e, fun b o e => oth b o (fun q => by rw [q, hS0] at e; (injection e; done)) (hst₁.k b o e)⟩
 refine wpAny_pure ⟨plainId_quiet F.plain_extend_loop _, extend_loop_map (P := P) hh hn _ _ hzi hTi hli hSz hST hSi hSl hS0 hit0 hcall items.size 0 _ _ _ rfl (Nat.zero_le _) hst₃ hS₃ (ItemsOf.nil P) fun h' tk acc' c' k' hS' hacc => ?_⟩
 show wpAny _ A (load s.heap.objs.size >>= _) _ _ _
 refine wpAny_bind (wpAny_load hS' ?_)
 exact wpAny_pure (hQ h' tk acc' k' hacc)
theorem tuple_map {Q : Value → Shared → Prop} (hh : A.handled = none) (hn : items.size ≤ sizeLine) (hzi : z ≠ it) (hTi : T ≠ it) (hli : l ≠ it) (hit0 : s0.get? it = none) (hst : MapSt s0 s.heap z T it l f items 0)
  (hcall : ∀ i x (s' : Shared) (Q : Value → Shared → Prop), items[i]? = some x → (∀ b o, s0.get? b = some o → s'.heap.get? b = some o) →
   (∀ h'' tk v, (∀ b o, s'.heap.get? b = some o → h''.get? b = some o) → P i v → Q v { s' with heap := h'', toks := tk }) → wpAny (model prog w) A.in1.in1.in1.in1 (call (.ref f) [x]) Q NoE s')
  (hQ : ∀ (h' : Heap) tk acc, (∀ b o, s0.get? b = some o → h'.get? b = some o) → ItemsOf P acc items.size → Q (.ref h'.objs.size) { s with heap := h'.push { cls := .type "tuple", data := .seq acc }, toks := tk }) :
  wpAny (model prog w) A (call (.type "tuple") [.ref z]) Q E s := by
 refine callType_codes (Q₁ := fun obj s₁ => s₁.TypeIs obj "tuple" ∧ Q obj s₁) F.called_tuple (F.typeCall_tuple_1 _) F.entry_object_init ?_ fun obj s₁ h₁ => ?_
 ·refine codeAny_of_tree ?_
  show wpAny _ A.in1.in1 (do checkBuiltinCall "tuple.__new__" ⟨[.type "tuple", .ref z], []⟩; again (.builtin "tuple.__new__" ⟨[.type "tuple", .ref z], []⟩)) _ _ s
  refine wpAny_bind (wpAny_of_eq (F.newCall_tuple_1 _) (wpAny_pure ⟨plainId_quiet F.plain_tuple_new _, codeAny_builtin F.entry_tuple_new ?_⟩))
  rw [Around.under_plainId F.plain_tuple_new _]
  have hsub := sub_tuple_self
  have hinit := init_tuple_lookup
  have hmh := madeHere_tuple
  have hTI : s.TypeIs (.ref z) "map" := ⟨_, hst.m, rfl⟩
  wp_walk using wpAny_typeOf hTI, collect_map (A := A.in1.in1) (P := P) hh hn hzi hTi hli hit0 hst hcall
  intro h' tk acc k' hacc
  show wpAny _ _ (Builtin.Tuple.tupleExact acc.toList.toArray >>= fun v => ret v) _ _ _
  unfold Builtin.Tuple.tupleExact
  refine wpAny_bind (wpAny_newObj_type ?_ (by show acc.toList.toArray.size ≤ sizeLine; simp only [Array.toArray_toList]; rw [hacc.1]; exact hn))
  refine wpAny_pure ?_
  have e : acc.toList.toArray = acc := by simp
  rw [e]
  exact ⟨⟨_, Heap.get?_push_size _ rfl, rfl⟩, hQ h' tk acc k' hacc⟩
 ·exact ⟨h₁.1, F.args_object_init_2 obj _, object_init_meets F.called_tuple.init.lookup F.called_tuple.made (by decide) prog w A.in1 _ s₁ ⟨h₁.1, rfl, h₁.2⟩⟩
end
end
section
set_option backward.match.sparseCases false
section
variable {prog : Program} {w : World} {A : Around} {C : Cx} {fv : FV} {K : Frag}
noncomputable def mapFlat (spec : List MV → Option MV) : List MV → Option (List MV)
 | [] => some []
 | x :: xs => (spec [x]).bind fun y => if flatV y && noRef x then (mapFlat spec xs).map (y :: ·) else none
theorem mF1 {spec : List MV → Option MV} : mapFlat spec [] = some [] := rfl
theorem mF2 {spec : List MV → Option MV} {x : MV} {xs : List MV} : mapFlat spec (x :: xs) = ((spec [x]).bind fun y => if flatV y && noRef x then (mapFlat spec xs).map (y :: ·) else none) := rfl
theorem mapFlat_get {spec : List MV → Option MV} : ∀ {xs ys : List MV}, mapFlat spec xs = some ys → xs.length = ys.length ∧ ∀ (i : Nat) x, xs[i]? = some x → ∃ y, ys[i]? = some y ∧ spec [x] = some y ∧ flatV y = true ∧ noRef x = true
 | [], ys, e => by simp only [mF1, mF2, Option.some.injEq] at e; subst e; exact ⟨rfl, fun i x h => by simp at h⟩
 | x :: xs, ys, e => by
  simp only [mF1, mF2, oI] at e
  refine cps fun G hG => ?_
  obtain ⟨y, e1, e⟩ := e
  split at e
  ·rename_i hf
   simp only [Bool.and_eq_true] at hf
   simp only [oM] at e
   obtain ⟨ys', e2, rfl⟩ := e
   obtain ⟨h1, h2⟩ := mapFlat_get e2
   refine hG ?_; clear hG
   refine ⟨by simp [h1], fun i z hz => ?_⟩
   cases i with
   | zero => simp at hz; subst hz; exact ⟨y, rfl, e1, hf.1, hf.2⟩
   | succ i => exact h2 i z (by simpa using hz)
  ·(injection e; done)
noncomputable def eTupMap (spec : List MV → Option MV) (a : MSt → Option MV) : MSt → Option MV := fun st => (a st).bind fun x => match x with
 | .lst l => if l.length ≤ 1000 then (mapFlat spec l).map .tup else none
 | _ => none
theorem SE.tupMap {g : Str} {f : Addr} {n : Nat} {x : Expr} {p1 p2 p3 p4 p5 : Pos} {a : MSt → Option MV} {spec : List MV → Option MV} (hA : AOk A (n + 1)) (hB : CtxB A C) (hT : TopOk K C.h₀) (he : EnvOk fv.env)
  (hx1 : fv.env.kindOf "tuple" = some .globalImplicit) (hg1 : nsIn K mainGlobals "tuple" = some none) (hx2 : fv.env.kindOf "map" = some .globalImplicit) (hg2 : nsIn K mainGlobals "map" = some none)
  (hx3 : fv.env.kindOf g = some .globalImplicit) (hg3 : nsIn K mainGlobals g = some (some (.ref f)))
  (hspec : ∀ vs v, spec vs = some v → Pure prog w K f n vs v) (ha : SE prog w A C fv (eval x fv.env) a)
  (hse1 : backTo p5 (starEach [.Call (.Name "map" p2) [.Name g p3, x] [] p4] fv.env) = [(false, eval (.Call (.Name "map" p2) [.Name g p3, x] [] p4) fv.env)] := by rfl)
  (hse2 : backTo p4 (starEach [.Name g p3, x] fv.env) = [(false, eval (.Name g p3) fv.env), (false, eval x fv.env)] := by rfl) (hd : (g == ("__debug__" : Str)) = false := by decide) :
  SE prog w A C fv (eval (.Call (.Name "tuple" p1) [.Call (.Name "map" p2) [.Name g p3, x] [] p4] [] p5) fv.env) (eTupMap spec a) := by
 refine ⟨?_⟩
 intro φ st s v Q r e h
 simp only [eTupMap, oI] at e
 refine cps fun G hG => ?_
 obtain ⟨y, ey, e⟩ := e
 cases y <;> simp only [reduceCtorEq] at e
 rename_i xs
 split at e
 rotate_left
 ·(injection e; done)
 rename_i hlen
 simp only [oM] at e
 obtain ⟨ys, em, rfl⟩ := e
 obtain ⟨hl, hget⟩ := mapFlat_get em
 refine hG ?_; clear hG
 refine wpAny_Call_NameR (ev_builtin hT he hx1 hg1 boot_tuple (by decide) r ?_)
 rw [hse1]
 refine PySem.callWith_type rfl (evalArgs_plain (spliced_cons ?_))
 refine wpAny_Call_NameR (ev_builtin hT he hx2 hg2 boot_map (by decide) r ?_)
 rw [hse2]
 refine PySem.callWith_type rfl (evalArgs_plain (spliced_cons (ev_fn hT he hx3 hg3 r (spliced_cons (ha.run φ st s _ _ r ey fun h1 t1 v1 k1 r1 q1 => spliced_nil ?_)) hd)))
 simp only [vR1, vR2, vR3, vR4, vR5, vR6, vR7, vR8] at q1
 refine cps fun G hG => ?_
 obtain ⟨b, items, rfl, hW, hls, hi⟩ := q1
 refine hG ?_; clear hG
 refine call_map hls fun h2 hm ht hit hsz kk => spliced_nil ?_
 have hlt : ∀ {c : Addr} {o : Obj}, h1.get? c = some o → @LT.lt Nat _ c h1.objs.size := fun e => Heap.lt_size e
 have hb : @LT.lt Nat _ b h1.objs.size := by obtain ⟨o, ho, _⟩ := hls; exact hlt ho
 refine tuple_map (A := A) (s0 := h1) (z := h1.objs.size + 2) (T := h1.objs.size + 1) (it := h1.objs.size) (l := b) (f := f) (items := items.toArray) (P := fun i rv => ∃ y, ys[i]? = some y ∧ ∀ h W φ, VR h W φ y rv) hA.handled ?_ ?_ ?_ ?_ (get?_size_none h1)
  ⟨hm, ht, hit, hls.at fun o e => kk _ o e, kk⟩ ?_ ?_
 ·rw [List.size_toArray, ← hi.length]; exact le_sizeLine (by omega)
 ·exact Nat.ne_of_gt (Nat.lt_succ_of_lt (Nat.lt_succ_self _))
 ·exact Nat.succ_ne_self _
 ·exact Nat.ne_of_lt hb
 ·intro i rx s' Q' hx' k' hQ'
  rw [List.getElem?_toArray] at hx'
  have hix : i < xs.length := by rw [hi.length]; exact (List.getElem?_eq_some_iff.mp hx').1
  refine cps fun G hG => ?_
  obtain ⟨u, hu, hv⟩ := hi.get i xs[i] (List.getElem?_eq_getElem hix)
  refine hG ?_; clear hG
  rw [hx'] at hu; (injection hu with hu; subst hu)
  refine cps fun G hG => ?_
  obtain ⟨y, hy, hsp, hf, hnr⟩ := hget i xs[i] (List.getElem?_eq_getElem hix)
  have r' := r1.stays k'
  obtain ⟨base, outer, B⟩ := hB.below r'
  have hA' : AOk A.in1.in1.in1.in1 n := ⟨hA.handled, by have := hA.depth; show A.depth + n < _; omega, by have := hA.units; show A.units + 1 + 1 + 1 + 1 + 8 * n + 100 < _; omega⟩
  have B' : Below A.in1.in1.in1.in1 base outer s'.heap := ⟨B.stack, B.stays, B.frames⟩
  refine hG ?_; clear hG
  refine hspec _ _ hsp A.in1.in1.in1.in1 base outer s' (C.av φ) [rx] Q' hA' B' (hT.stays r'.base) r'.av_live ?_ fun h'' tk rv k'' q'' => hQ' h'' tk rv k'' ⟨y, hy, fun h W φ => VR.flat hf q''⟩
  simp only [vRs1, vRs2]
  exact ⟨rx, [], rfl, VR.noRef _ (hv.stays k') hnr, rfl⟩
 ·intro h' tk acc k' hacc
  have k2 : Stays h1 (h'.push { cls := .type "tuple", data := .seq acc }) := fun b o e => Heap.get?_push_of_some _ (k' b o e)
  have r' := r1.stays k'
  refine h _ _ _ (k1.trans k2) (r1.stays k2) ?_
  simp only [vR1, vR2, vR3, vR4, vR5, vR6, vR7, vR8]
  refine ⟨_, acc.toList, rfl, r'.fresh, ⟨_, Heap.get?_push_size _ rfl, rfl, _, by simp; rfl⟩, VRs.forall₂ ?_ fun i y u hy hu => ?_⟩
  ·have := hacc.1; rw [← hl, hi.length]; simp at this ⊢; omega
  ·obtain ⟨y', hy', hv⟩ := hacc.2 i u (by simpa using hu)
   rw [hy] at hy'; (injection hy' with hy'; subst hy'); exact hv _ _ _
end
end
section
noncomputable def tb1 (led : Bool) : SetTable := { mask := 7, place := #[1], dummies := #[], finger := 0, led := led, moves := 0, plain := true }
noncomputable abbrev setObj1 (es : Array (Int × Value)) (ep : Nat) (t : SetTable) : Obj := { cls := .type "set", data := .set es ep t }
theorem lay1 (led : Bool) : layNew (SetTable.fresh 0 0 led) #[] 1 (.bool true) = (#[(1, .bool true)], tb1 led, false, false) := by
 cases led <;> rfl
section
variable {prog : Program} {w : World} {A : Around} {E : Value → Shared → Prop} {s : Shared}
theorem slot_bool_hash : Slot "bool" "__hash__" "int.__hash__" :=
 .of (owner := "int") (n := "__hash__") (by rw [typeLookup_type, builtinLookup_eq_fast]; kernel_rfl) (by decide +kernel) (by decide +kernel) (by decide +kernel)
  (by first | exact .inl (by decide +kernel) | exact .inr (by decide +kernel)) (by rw [isSubtype_type]; kernel_rfl)
theorem typeIs_bool' (s : Shared) (b : Bool) : s.TypeIs (.bool b) "bool" := rfl
theorem hash_true {Q : Int → Shared → Prop} (h : ∀ tk, Q 1 { s with toks := tk }) : wpAny (model prog w) A (pyHash (.bool true)) Q E s := by
 unfold pyHash
 have hv : [Value.bool true].any Value.onHeap = false := rfl
 refine wpAny_bind ?_
 rw [cRoomFor, if_neg (by rw [hv]; exact Bool.false_ne_true)]; refine wpAny_pure ?_
 refine wpAny_bind (wpAny_specialOf (typeIs_bool' s true) slot_bool_hash.lookup ?_)
 show wpAny _ _ (if (some (Value.builtin "int.__hash__") == some Value.none) = true then _ else _) Q E s
 rw [if_neg (by rw [beq_builtin_none]; exact Bool.false_ne_true)]
 refine wpAny_bind (wpAny_specialOf (typeIs_bool' s true) slot_bool_hash.lookup ?_)
 show wpAny _ _ (callSpecialIfBoundUnlessNone? (.bool true) "__hash__" _ >>= _) Q E s
 refine wpAny_bind (wpAny_callSpecialIfBoundUnlessNone?_slot (typeIs_bool' s true) slot_bool_hash
  (wpAny_call_entry slot_bool_hash (typeIs_bool' s true) entry_int_hash
   (show wpAny _ _ (do ret (← mkInt (rawHash 1))) _ _ s from wpAny_ret_mkInt ?_) (args_int_hash _)))
 show wpAny _ _ (if (decide (-(2 : Int) ^ 63 ≤ rawHash 1) && decide (rawHash 1 < 2 ^ 63)) = true then _ else _) Q E _
 rw [if_pos (by decide +kernel)]
 exact wpAny_pure (h _)
theorem eq_true {Q : Bool → Shared → Prop} (h : Q true s) : wpAny (model prog w) A (eqBool (.bool true) (.bool true)) Q E s := by
 obtain ⟨hp, g, d, tk, os⟩ := s
 wp_walk
 exact h
theorem set_add_enter {a : Addr} {o : Obj} {Q : Value → Shared → Prop} (ho : s.heap.get? a = some o) (hc : o.cls = .type "set") (h : ∀ tk, wpAny (model prog w) A.in1 (setAddHashed a (.bool true) 1) (fun _ s' => Q .none s') E { s with toks := tk }) :
  wpAny (model prog w) A (call (.builtin "set.add") [.ref a, .bool true]) Q E s := by
 refine wpAny_call_entry F.slot_set_add ⟨o, ho, hc⟩ F.entry_set_add ?_ (F.args_set_add_2 _ _)
 unfold Builtin.«set.add» Builtin.Frozenset.oneOther
 simp only [List.isEmpty_nil, bind_assoc]
 unfold Builtin.Frozenset.addrOf setAdd
 refine wpAny_bind (wpAny_pure ?_)
 try dsimp only
 refine wpAny_bind (wpAny_pure ?_)
 try dsimp only
 refine wpAny_bind ?_
 refine wpAny_holding ?_
 refine wpAny_bind (hash_true fun tk => ?_)
 refine wpAny_mono (h tk) (fun b s' hq => ?_) fun _ _ e => e
 show wpAny _ _ (ret Value.none) _ _ _
 exact wpAny_pure ⟨_, rfl, hq⟩
theorem set_add1 {a : Addr} {led : Bool} {Q : Value → Shared → Prop} (ho : s.heap.get? a = some (setObj1 #[] 0 (SetTable.fresh 0 0 led)))
  (h : ∀ h' tk ep, Heap.SameBut a s.heap h' → h'.get? a = some (setObj1 #[(1, .bool true)] ep (tb1 led)) → Q .none { s with heap := h', toks := tk }) :
  wpAny (model prog w) A (call (.builtin "set.add") [.ref a, .bool true]) Q E s := by
 refine set_add_enter ho rfl fun tk => ?_
 unfold setAddHashed setAddHashedIn
 refine wpAny_holding (wpAny_bind (wpAny_setState_of ho rfl (by cases led <;> rfl) ?_))
 dsimp only
 rw [if_pos (by decide +kernel)]
 unfold setAddByScan
 refine wpAny_bind (wpAny_bind (wpAny_rule ?_))
 refine wpAny_bind (wpAny_pure (a := ScanMet.absent) ?_)
 dsimp only
 rw [lay1]
 dsimp only
 refine wpAny_bind (wpAny_pure ?_)
 rw [if_pos (show (tb1 led).plain = true from rfl)]
 refine wpAny_bind (m := hashByValue 8 (.bool true)) (wpAny_pure (a := true) ?_)
 simp only [if_true]
 have hst : ∀ (Q' : Unit → Shared → Prop), Q' () { s with heap := s.heap.update a (Obj.putSet #[(1, .bool true)] (tb1 led)), toks := tk } → wpAny (model prog w) A.in1 (storeSet a #[(1, .bool true)] (tb1 led)) Q' E { s with toks := tk } := by
  intro Q' hq
  unfold storeSet
  refine wpAny_bind (wpAny_load ho ?_)
  dsimp only
  rw [if_neg (by decide +kernel)]
  exact wpAny_update ho hq
 refine wpAny_bind (hst _ ?_)
 rw [if_neg (by cases led <;> decide +kernel)]
 refine wpAny_pure (wpAny_pure (h _ _ 1 (Heap.SameBut.update ..) ?_))
 rw [Heap.get?_update_self _ ho rfl]
 rfl
theorem set_add2 {a : Addr} {led : Bool} {ep : Nat} {Q : Value → Shared → Prop} (ho : s.heap.get? a = some (setObj1 #[(1, .bool true)] ep (tb1 led)))
  (h : ∀ tk, Q .none { s with toks := tk }) :
  wpAny (model prog w) A (call (.builtin "set.add") [.ref a, .bool true]) Q E s := by
 refine set_add_enter ho rfl fun tk => ?_
 unfold setAddHashed setAddHashedIn
 refine wpAny_holding (wpAny_bind (wpAny_setState_of ho rfl (by cases led <;> rfl) ?_))
 dsimp only
 rw [if_pos (by decide +kernel)]
 unfold setAddByScan
 refine wpAny_bind (wpAny_bind (wpAny_rule ?_))
 have hscan : ∀ (Q' : ScanMet → Shared → Prop), Q' (.found 0) { s with toks := tk } → wpAny (model prog w) A.in1 (setScan a (.bool true) 1 true #[(1, .bool true)]) Q' E { s with toks := tk } := by
  intro Q' hq
  show wpAny _ _ (setScanFrom a (.bool true) 1 true [(1, .bool true)] 0) _ _ _
  unfold setScanFrom
  rw [if_pos (by decide)]
  refine wpAny_bind (wpAny_setEpoch_of ho rfl (by cases led <;> rfl) ?_)
  refine wpAny_bind (eq_true ?_)
  rw [if_pos rfl]
  exact wpAny_pure hq
 refine wpAny_bind (hscan _ ?_)
 exact wpAny_pure (wpAny_pure (h tk))
end
end
section
theorem slot_set_iter' : Slot "set" "__iter__" "set.__iter__" :=
 .of (owner := "set") (n := "__iter__") (by rw [typeLookup_type, builtinLookup_eq_fast]; kernel_rfl) (by decide +kernel) (by decide +kernel) (by decide +kernel)
  (by first | exact .inl (by decide +kernel) | exact .inr (by decide +kernel)) (by rw [isSubtype_type]; kernel_rfl)
theorem slot_seti_next : Slot "set_iterator" "__next__" "set_iterator.__next__" :=
 .of (owner := "set_iterator") (n := "__next__") (by rw [typeLookup_type, builtinLookup_eq_fast]; kernel_rfl) (by decide +kernel) (by decide +kernel) (by decide +kernel)
  (by first | exact .inl (by decide +kernel) | exact .inr (by decide +kernel)) (by rw [isSubtype_type]; kernel_rfl)
theorem entry_set_iter' : entryFor table "set.__iter__" = some Builtin.«frozenset.__iter__» :=
 entryFor_alias (id' := "frozenset.__iter__") (by kernel_rfl) (by first | rfl | decide +kernel | (unfold String.splitOn; simp +decide [String.splitOnAux])) (by decide +kernel) (by kernel_rfl)
theorem entry_seti_next : entryFor table "set_iterator.__next__" = some Builtin.«set_iterator.__next__» := entryFor_of_tree (by kernel_rfl)
theorem owner_set' : Manifest.owners.lookup (String.ofList ['t', 'e', 's'].reverse) = some Manifest.sig_set := by kernel_rfl
theorem owner_seti : Manifest.owners.lookup (String.ofList ['r', 'o', 't', 'a', 'r', 'e', 't', 'i', '_', 't', 'e', 's'].reverse) = some Manifest.sig_set_iterator := by kernel_rfl
theorem args_set_iter' (a : Value) : argsOk "set.__iter__" ⟨[a], []⟩ := by
 unfold argsOk; rw [signature?_of (id := "set.__iter__") (n := ['_', '_', 'r', 'e', 't', 'i', '_', '_']) (o := ['t', 'e', 's']) (by kernel_rfl) owner_set']; kernel_rfl
theorem args_seti_next (a : Value) : argsOk "set_iterator.__next__" ⟨[a], []⟩ := by
 unfold argsOk; rw [signature?_of (id := "set_iterator.__next__") (n := ['_', '_', 't', 'x', 'e', 'n', '_', '_']) (o := ['r', 'o', 't', 'a', 'r', 'e', 't', 'i', '_', 't', 'e', 's']) (by kernel_rfl) owner_seti]; kernel_rfl
section
variable {prog : Program} {w : World} {A : Around} {E : Value → Shared → Prop} {s : Shared}
theorem pyIter_set1 {a : Addr} {led : Bool} {ep : Nat} {Q : Value → Shared → Prop} (ho : s.heap.get? a = some (setObj1 #[(1, .bool true)] ep (tb1 led)))
  (h : Q (.ref s.heap.objs.size) { s with heap := s.heap.push { cls := .type "set_iterator", data := .fields #[rawInt 0, rawInt 0, .ref a, rawInt 1, rawInt ep] } }) :
  wpAny (model prog w) A (pyIter (.ref a)) Q E s := by
 have hT : s.TypeIs (.ref a) "set" := ⟨_, ho, rfl⟩
 have hst : ∀ {Q' : (Array (Int × Value) × Nat × SetTable) → Shared → Prop}, Q' (#[(1, .bool true)], ep, tb1 led) s → wpAny (model prog w) A.in1 (setState a) Q' E s := fun hq => wpAny_setState_of ho rfl (by cases led <;> rfl) hq
 refine wpAny_pyIter_slot hT slot_set_iter' (wpAny_call_entry slot_set_iter' hT entry_set_iter' ?_ (args_set_iter' _))
 unfold Builtin.«frozenset.__iter__»
 refine wpAny_bind (m := Builtin.Frozenset.slot0 _ _) (wpAny_pure (a := a) ?_)
 refine wpAny_bind ?_
 unfold Builtin.Frozenset.sizeOf setEntries
 refine wpAny_bind (wpAny_bind (hst (wpAny_pure (wpAny_pure ?_))))
 refine wpAny_bind ?_
 unfold setDrawn setsByText
 refine wpAny_bind (hst (wpAny_bind (wpAny_bind (wpAny_askSetting (wpAny_pure (wpAny_pure ?_))))))
 try dsimp only
 rw [if_neg (by rw [show ∀ b : Bool, (b && _) = false from fun b => by cases b <;> rfl]; decide)]
 refine wpAny_bind (wpAny_pure ?_)
 try dsimp only
 refine wpAny_bind (wpAny_setEpoch_of ho rfl (by cases led <;> rfl) ?_)
 unfold newFields
 refine wpAny_bind (wpAny_newObj_type (wpAny_pure ⟨_, rfl, "set_iterator", _, ⟨_, Heap.get?_push_size _ rfl, rfl⟩, slot_seti_next.lookup, h⟩) (by size_fits))
theorem setNext1 {a : Addr} {led : Bool} {ep : Nat} {Q : Option (Value × Nat) → Shared → Prop} (ho : s.heap.get? a = some (setObj1 #[(1, .bool true)] ep (tb1 led))) (hled : led = !(w.params.followText "set-order"))
  (h : ∀ n, (n = 0 ∧ w.params.followText "set-order" = true ∨ n = 2 ∧ w.params.followText "set-order" = false) → Q (some (.bool true, n)) s) : wpAny (model prog w) A (setNext a 0 0 ep) Q E s := by
 have hst : ∀ {Q' : (Array (Int × Value) × Nat × SetTable) → Shared → Prop}, Q' (#[(1, .bool true)], ep, tb1 led) s → wpAny (model prog w) A (setState a) Q' E s := fun hq => wpAny_setState_of ho rfl (by cases led <;> rfl) hq
 unfold setNext setsByText
 refine wpAny_bind (hst ?_)
 refine wpAny_bind (wpAny_bind (wpAny_askSetting (wpAny_pure ?_)))
 show wpAny _ _ (if (w.params.followText "set-order") = true then _ else _) _ _ _
 have walk : w.params.followText "set-order" = true → ∀ (Q' : Array (Int × Value) → Shared → Prop), Q' #[(1, .bool true)] s → wpAny (model prog w) A (setWalk a) Q' E s := by
  intro hf Q' hq
  unfold setWalk setsByText
  refine wpAny_bind (hst ?_)
  refine wpAny_bind (wpAny_bind (wpAny_askSetting (wpAny_pure ?_)))
  show wpAny _ _ (if (w.params.followText "set-order") = true then _ else _) _ _ _
  rw [if_pos hf]
  refine wpAny_bind (wpAny_askSetting (wpAny_pure ?_))
  have : pickOrder (w.params.setOrder a ep) #[((1 : Int), Value.bool true)] = #[(1, .bool true)] := by
   simp [pickOrder, pickOrder.go, Nat.mod_one]
  show Q' (pickOrder (w.params.setOrder a ep) _) s
  rw [this]; exact hq
 cases hf : w.params.followText "set-order" with
 | true =>
  simp only [if_true]
  rw [if_neg (by simp)]
  refine wpAny_bind (walk hf _ (wpAny_pure ?_))
  exact h 0 (.inl ⟨rfl, hf⟩)
 | false =>
  dsimp only [Bool.false_eq_true, if_false]
  rw [hf] at hled
  subst hled
  rw [if_neg (by decide +kernel)]
  refine wpAny_bind (wpAny_pure ?_)
  exact wpAny_pure (h 2 (.inr ⟨rfl, hf⟩))
end
end
section
section
variable {prog : Program} {w : World} {A : Around} {E : Value → Shared → Prop} {s : Shared}
theorem setNext2 {a : Addr} {led : Bool} {ep n : Nat} {Q : Option (Value × Nat) → Shared → Prop} (ho : s.heap.get? a = some (setObj1 #[(1, .bool true)] ep (tb1 led))) (hled : led = !(w.params.followText "set-order"))
  (hn : n = 0 ∧ w.params.followText "set-order" = true ∨ n = 2 ∧ w.params.followText "set-order" = false) (h : Q none s) : wpAny (model prog w) A (setNext a n 1 ep) Q E s := by
 have hst : ∀ {Q' : (Array (Int × Value) × Nat × SetTable) → Shared → Prop}, Q' (#[(1, .bool true)], ep, tb1 led) s → wpAny (model prog w) A (setState a) Q' E s := fun hq => wpAny_setState_of ho rfl (by cases led <;> rfl) hq
 unfold setNext setsByText
 refine wpAny_bind (hst ?_)
 refine wpAny_bind (wpAny_bind (wpAny_askSetting (wpAny_pure ?_)))
 show wpAny _ _ (if (w.params.followText "set-order") = true then _ else _) _ _ _
 have walk : w.params.followText "set-order" = true → ∀ (Q' : Array (Int × Value) → Shared → Prop), Q' #[(1, .bool true)] s → wpAny (model prog w) A (setWalk a) Q' E s := by
  intro hf Q' hq
  unfold setWalk setsByText
  refine wpAny_bind (hst ?_)
  refine wpAny_bind (wpAny_bind (wpAny_askSetting (wpAny_pure ?_)))
  show wpAny _ _ (if (w.params.followText "set-order") = true then _ else _) _ _ _
  rw [if_pos hf]
  refine wpAny_bind (wpAny_askSetting (wpAny_pure ?_))
  have : pickOrder (w.params.setOrder a ep) #[((1 : Int), Value.bool true)] = #[(1, .bool true)] := by
   simp [pickOrder, pickOrder.go, Nat.mod_one]
  show Q' (pickOrder (w.params.setOrder a ep) _) s
  rw [this]; exact hq
 rcases hn with ⟨rfl, hf⟩ | ⟨rfl, hf⟩
 ·rw [hf]
  simp only [if_true]
  rw [if_neg (by simp)]
  exact wpAny_bind (walk hf _ (wpAny_pure h))
 ·rw [hf]
  dsimp only [Bool.false_eq_true, if_false]
  rw [hf] at hled
  subst hled
  rw [if_neg (by decide +kernel)]
  exact wpAny_bind (wpAny_pure (wpAny_pure h))
noncomputable abbrev setIt (n i : Nat) (a : Addr) (ep : Nat) : Obj := { cls := .type "set_iterator", data := .fields #[rawInt n, rawInt i, .ref a, rawInt 1, rawInt ep] }
theorem setSize1 {a : Addr} {led : Bool} {ep : Nat} {Q : Array (Int × Value) → Shared → Prop} (ho : s.heap.get? a = some (setObj1 #[(1, .bool true)] ep (tb1 led))) (h : Q #[(1, .bool true)] s) : wpAny (model prog w) A (setEntries a) Q E s := by
 unfold setEntries
 exact wpAny_bind (wpAny_setState_of ho rfl (by cases led <;> rfl) (wpAny_pure h))
theorem pyNext_set1 {I a : Addr} {led : Bool} {ep : Nat} {Q : Option Value → Shared → Prop} (hI : s.heap.get? I = some (setIt 0 0 a ep)) (ho : s.heap.get? a = some (setObj1 #[(1, .bool true)] ep (tb1 led))) (hled : led = !(w.params.followText "set-order"))
  (h : ∀ h' n, (n = 0 ∧ w.params.followText "set-order" = true ∨ n = 2 ∧ w.params.followText "set-order" = false) → Heap.SameBut I s.heap h' → h'.get? I = some (setIt n 1 a ep) → Q (some (.bool true)) { s with heap := h' }) :
  wpAny (model prog w) A (pyNext (.ref I)) Q E s := by
 have hT : s.TypeIs (.ref I) "set_iterator" := ⟨_, hI, rfl⟩
 unfold pyNext
 refine wpAny_bind (wpAny_attempt (wpAny_callSpecial?_slot (name := Str.ofString "__next__") hT slot_seti_next
  (wpAny_call_entry slot_seti_next hT entry_seti_next ?_ (args_seti_next _))))
 unfold Builtin.«set_iterator.__next__»
 refine wpAny_bind (m := slotArgs _ _ _) (wpAny_pure (a := (Value.ref I, [])) ?_)
 dsimp only
 refine wpAny_bind (wpAny_fieldsOf hI rfl ?_)
 dsimp only
 refine wpAny_bind (setSize1 ho ?_)
 rw [if_neg (by decide +kernel)]
 refine wpAny_bind (setNext1 ho hled fun n hn => ?_)
 dsimp only
 refine wpAny_bind (wpAny_setField_rec hI (by simp) fun h1 g1 s1 => ?_)
 refine wpAny_bind (wpAny_setField_rec (s := { s with heap := h1 }) g1 (by simp) fun h2 g2 s2 => ?_)
 refine wpAny_pure ⟨_, rfl, wpAny_pure (h h2 n hn (s1.trans s2) ?_)⟩
 rw [g2]
 rfl
theorem pyNext_set2 {I a : Addr} {led : Bool} {ep n : Nat} {Q : Option Value → Shared → Prop} (hh : A.handled = none) (hI : s.heap.get? I = some (setIt n 1 a ep)) (ho : s.heap.get? a = some (setObj1 #[(1, .bool true)] ep (tb1 led))) (hled : led = !(w.params.followText "set-order"))
  (hn : n = 0 ∧ w.params.followText "set-order" = true ∨ n = 2 ∧ w.params.followText "set-order" = false)
  (hQ : ∀ h', Heap.ExtBut I s.heap h' → Q none { s with heap := h' }) :
  wpAny (model prog w) A (pyNext (.ref I)) Q E s := by
 have hT : s.TypeIs (.ref I) "set_iterator" := ⟨_, hI, rfl⟩
 unfold pyNext
 refine wpAny_bind (wpAny_attempt (wpAny_callSpecial?_slot (name := Str.ofString "__next__") hT slot_seti_next
  (wpAny_call_entry slot_seti_next hT entry_seti_next ?_ (args_seti_next _))))
 unfold Builtin.«set_iterator.__next__»
 refine wpAny_bind (m := slotArgs _ _ _) (wpAny_pure (a := (Value.ref I, [])) ?_)
 dsimp only
 refine wpAny_bind (wpAny_fieldsOf hI rfl ?_)
 dsimp only
 refine wpAny_bind (setSize1 ho ?_)
 rw [if_neg (by decide +kernel)]
 refine wpAny_bind (setNext2 ho hled hn ?_)
 dsimp only
 refine wpAny_bind (wpAny_setField_rec hI (by simp) fun h1 g1 s1 => ?_)
 refine wpAny_bind ?_
 dsimp only [newExc, newTuple]
 refine wpAny_bind (wpAny_newObj_type ?_ (by size_fits))
 refine wpAny_bind (m := firstArgMember _ _) (wpAny_of_eq (a := Value.none) (by first | rfl | (dsimp only [firstArgMember]; rfl)) ?_)
 refine wpAny_newObj_type ?_ (by size_fits)
 dsimp only [raiseNew]
 refine wpAny_bind (wpAny_handled ?_)
 first | rw [show A.in1.handled = none from hh] | rw [hh]
 refine wpAny_bind (wpAny_pure (wpAny_throw ?_))
 refine wpAny_bind (wpAny_isInstance (T := "StopIteration") (b := true) ⟨_, Heap.get?_push_size _ rfl, rfl⟩ isSubtype_stop ?_)
 exact wpAny_pure (hQ _ ((s1.extBut.push _).push _))
theorem unpack_set1 {a : Addr} {led : Bool} {ep : Nat} {Q : List Value → Shared → Prop} (hh : A.handled = none) (ho : s.heap.get? a = some (setObj1 #[(1, .bool true)] ep (tb1 led))) (hled : led = !(w.params.followText "set-order"))
  (hQ : ∀ h', Stays s.heap h' → Q [.bool true] { s with heap := h' }) : wpAny (model prog w) A (unpackItems (.ref a) 1 none) Q E s := by
 have hne : a ≠ s.heap.objs.size := Nat.ne_of_lt (Heap.lt_size ho)
 unfold unpackItems
 refine wpAny_bind ?_
 unfold notIterableAtAll
 refine wpAny_bind (wpAny_specialOf (T := "set") ⟨_, ho, rfl⟩ slot_set_iter'.lookup ?_)
 refine wpAny_pure ?_
 dsimp only [Bool.false_eq_true, if_false]
 refine wpAny_bind (wpAny_holding (pyIter_set1 ho ?_))
 have ho1 := Heap.get?_push_of_some { cls := .type "set_iterator", data := .fields #[rawInt 0, rawInt 0, .ref a, rawInt 1, rawInt ep] } ho
 refine wpAny_bind (wpAny_holding ?_)
 show wpAny _ _ (pyNext _ >>= _) _ _ _
 refine wpAny_bind (pyNext_set1 (I := s.heap.objs.size) (Heap.get?_push_size _ rfl) ho1 hled fun h1 n hn s1 g1 => ?_)
 refine wpAny_bind (wpAny_holding (wpAny_pure (wpAny_pure ?_)))
 rw [if_neg (by simp)]
 have ho2 : h1.get? a = some (setObj1 #[(1, .bool true)] ep (tb1 led)) := (s1.2 a hne).trans ho1
 refine wpAny_bind (wpAny_holding (pyNext_set2 hh g1 ho2 hled hn fun h2 e2 => ?_))
 dsimp only [Option.isSome_none, Bool.false_eq_true, if_false]
 refine wpAny_pure (hQ h2 fun b o e => ?_)
 have hb : b ≠ s.heap.objs.size := Nat.ne_of_lt (Heap.lt_size e)
 exact e2 b o hb ((s1.2 b hb).trans (Heap.get?_push_of_some _ e))
end
end
section
set_option backward.match.sparseCases false
section
variable {prog : Program} {w : World} {A : Around} {E : Value → Shared → Prop} {R : Result → Shared → Prop} {s : Shared}
theorem compTurn_set (elt target iter : Expr) (scope : Scope) (pos : Pos) (it acc : Value) (env : Env) :
  compTurn (.SetComp elt [⟨target, iter, [], 0⟩] scope pos) 0 it acc env = (do
   standAt iter.pos
   match ← pyNext it with
   | none => pure (.done .next)
   | some v =>
    letOwnedTupleGo target it v
    PySem.assign target env v
    let r ← (forIn ([] : List Expr) true fun c r => if r = true then do let ok ← isTrue c env (eval c env); pure (ForInStep.yield ok) else pure (ForInStep.yield r))
    if r = true then
     (do let v ← eval elt env; standAt elt.pos; let _ ← call (.builtin "set.add") [acc, v])
    again (.compLoop (.SetComp elt [⟨target, iter, [], 0⟩] scope pos) 0 it acc env)) := by rfl
theorem codeAny_compStart_set {elt target iter ifs rest scope pos it acc env}
  (h0 : codeAny (model prog w) A (.compLoop (.SetComp elt (⟨target, iter, ifs, 0⟩ :: rest) scope pos) 0 it acc env) R s)
  (h : wpAny (model prog w) A (pyIter it) (fun it' s' => codeAny (model prog w) A (.compLoop (.SetComp elt (⟨target, iter, ifs, 0⟩ :: rest) scope pos) 0 it' acc env) R s')
   (notedBy (model prog w) A env fun x s' => R (.error x) s') s) :
  codeAny (model prog w) A (.compStart (.SetComp elt (⟨target, iter, ifs, 0⟩ :: rest) scope pos) 0 it acc env) R s := by
 refine codeAny_of_tree ?_
 show wpAny _ A ((compStart (.SetComp elt (⟨target, iter, ifs, 0⟩ :: rest) scope pos) 0 it acc env).onRaise (fun x => do noteFrame x env; standAt theWindowsPlace)) _ _ s
 refine wpAny_notedAt ?_
 unfold compStart
 show wpAny _ A (ask >>= _) _ _ s
 refine wpAny_bind (wpAny_askSetting (wpAny_ite ?_))
 split
 ·first
   | exact wpAny_bind (wpAny_pure (wpAny_pure (And.intro rfl h0)))
   | exact wpAny_pure (And.intro rfl h0)
 ·first
   | exact wpAny_bind (wpAny_rule (wpAny_bind (wpAny_standAt (wpAny_bind (wpAny_mono h (fun it' s' h' => wpAny_pure (And.intro rfl h')) fun _ _ x => x)))))
   | (refine wpAny_bind (wpAny_rule ?_); show wpAny _ _ (standAt iter.pos >>= _) _ _ s; exact wpAny_bind (wpAny_standAt (wpAny_bind (wpAny_mono h (fun it' s' h' => wpAny_pure (And.intro rfl h')) fun _ _ x => x))))
theorem codeAny_compLoop_set {elt target iter : Expr} {scope : Scope} {pos : Pos} {it acc : Value} {env : Env} (I : Nat → Shared → Prop)
  (turn : ∀ n s, I n s → wpAny (model prog w) A (pyNext it) (fun r s₁ => match r with
   | none => R (.ok .next) s₁
   | some v => wpAny (model prog w) A (PySem.assign target env v) (fun _ s₂ =>
     wpAny (model prog w) A (eval elt env) (fun kv s₄ => wpAny (model prog w) A (call (.builtin "set.add") [acc, kv]) (fun _ s₆ => ∃ m, m < n ∧ I m s₆) (notedBy (model prog w) A env fun e s' => R (.error e) s') s₄) (notedBy (model prog w) A env fun e s' => R (.error e) s') s₂)
       (notedBy (model prog w) A env fun e s' => R (.error e) s') s₁) (notedBy (model prog w) A env fun e s' => R (.error e) s') s)
  (n : Nat) (h : I n s) (ht : ∀ v, letOwnedTupleGo target it v = pure () := by intro _; rfl) :
  codeAny (model prog w) A (.compLoop (.SetComp elt [⟨target, iter, [], 0⟩] scope pos) 0 it acc env) R s := by
 refine codeAny_loop rfl I (fun n s hI => ?_) n h
 show wpAny _ A ((compTurn (.SetComp elt [⟨target, iter, [], 0⟩] scope pos) 0 it acc env).onRaise (fun x => do noteFrame x env; theTreesLotGoes x)) _ _ s
 refine wpAny_noted ?_
 rw [compTurn_set]
 refine wpAny_bind (wpAny_standAt (wpAny_bind (wpAny_mono (turn n s hI) (fun r s₁ h₁ => ?_) fun _ _ h' => h')))
 cases r with
 | none => exact wpAny_pure h₁
 | some v =>
  refine wpAny_bind (wpAny_of_eq (ht v) ?_)
  refine wpAny_bind (wpAny_mono h₁ (fun _ s₂ h₂ => ?_) fun _ _ h' => h')
  refine wpAny_bind (wpAny_tests_nil ?_)
  dsimp only [if_true]
  refine wpAny_bind (wpAny_bind (wpAny_mono h₂ (fun kv s₄ h₄ => wpAny_bind (wpAny_standAt (wpAny_bind (wpAny_mono h₄ (fun _ s₅ h₅ => wpAny_pure (wpAny_pure ⟨rfl, h₅⟩)) fun _ _ h' => h')))) fun _ _ h' => h'))
end
noncomputable def isTrueV : Option MV → Bool
 | some (.bool true) => true
 | _ => false
theorem isTrueV_iff {x : Option MV} (h : isTrueV x = true) : x = some (.bool true) := by
 unfold isTrueV at h
 split at h
 ·rfl
 ·(injection h; done)
noncomputable def SetSt (h : Heap) (D : Addr) (led : Bool) : Nat → Prop
 | 0 => h.get? D = some (setObj1 #[] 0 (SetTable.fresh 0 0 led))
 | _ + 1 => ∃ ep, h.get? D = some (setObj1 #[(1, .bool true)] ep (tb1 led))
theorem SetSt.at {h h' : Heap} {D : Addr} {led : Bool} {i : Nat} (x : SetSt h D led i) (hk : ∀ o, h.get? D = some o → h'.get? D = some o) : SetSt h' D led i := by
 cases i with
 | zero => exact hk _ x
 | succ i => obtain ⟨ep, x⟩ := x; exact ⟨ep, hk _ x⟩
theorem SetSt.live {h : Heap} {D : Addr} {led : Bool} {i : Nat} (x : SetSt h D led i) : ∃ o, h.get? D = some o := by
 cases i with
 | zero => exact ⟨_, x⟩
 | succ i => obtain ⟨ep, x⟩ := x; exact ⟨_, x⟩
section
variable {prog : Program} {w : World} {A : Around} {C : Cx} {fv : FV} {K : Frag}
theorem comp_set {scope : Scope} {cl : List (Str × Addr)} {x : Str} {kx : Nat} {px pos : Pos} {vars2 : List (Str × Nat)} {φ : List (Option Addr)} {st : MSt} {s2 : Shared} {sh : Heap} {xs : List MV} {I : Addr} {ev iter : Expr} {em : MSt → Option MV}
  {E : Value → Shared → Prop} {RR : Value → Addr → Result → Shared → Prop}
  (it : ItOk prog w A C fv false (.Name x px) φ s2.heap xs I sh) (co : CompOk fv scope cl x kx vars2) (r0 : R prog w C fv φ st sh) (hk : Stays sh s2.heap)
  (hev : ∀ C2 W0, SE prog w A { C with W0 := W0 } (innerFV fv scope cl C2 x kx vars2) (eval ev (compEnvC scope cl C2 fv.env)) em)
  (hall : ∀ y ∈ xs, em (st.set kx y) = some (.bool true)) (hpos : 0 < xs.length)
  (hRR : ∀ D C2 h' tk ep, sh.get? D = none → sh.get? C2 = none → C.h₀.objs.size ≤ D → D ≠ C2 → (∃ m, h'.Ns C2 m) → h'.get? D = some (setObj1 #[(1, .bool true)] ep (tb1 (!(w.params.followText "set-order")))) → R prog w (C.plus D) fv φ st h' →
   Stays sh h' → RR (.ref D) C2 (.ok .next) { s2 with heap := h', toks := tk }) :
  wpAny (model prog w) A (newSet (.type "set")) (fun acc s₃ => wpAny (model prog w) A (newFunctionEnv scope fv.env.globals cl [] fv.env.qual none .none (some fv.env)) (fun cenv s₄ =>
   codeAny (model prog w) A (.compStart (.SetComp ev [⟨.Name x px, iter, [], 0⟩] scope pos) 0 (.ref I) acc { cenv with scope := relabel scope fv.env }) (RR acc cenv.locals) s₄) E s₃) E s2 := by
 obtain ⟨fp, wr, P, Md, St, W, st0, hfp, hwr, halive, hself, hitem⟩ := it
 have it : CompIt prog w A C fv (.Name x px) φ s2.heap xs I sh fp wr P Md St := ⟨W, st0, hfp, hwr, halive, hself, hitem⟩
 have r2 := r0.stays hk
 unfold newSet setsByText
 refine wpAny_bind (wpAny_bind (wpAny_askSetting (wpAny_pure ?_)))
 show wpAny _ _ (newObj (.type "set") (.set #[] 0 (.fresh 0 0 (!(w.params.followText "set-order"))))) _ _ _
 refine wpAny_newObj_type (wpAny_newFunctionEnv co.ncell (by intro y hy; simp at hy) (fun h₁ hns₁ hsb₁ => ?_) co.kind)
 dsimp only at hns₁ hsb₁ ⊢
 generalize hled : (!(w.params.followText "set-order")) = led at *
 have hnew : (s2.heap.push (setObj1 #[] 0 (SetTable.fresh 0 0 led))).get? s2.heap.objs.size = some (setObj1 #[] 0 (SetTable.fresh 0 0 led)) := Heap.get?_push_size _ rfl
 generalize hH2 : s2.heap.push (setObj1 #[] 0 (SetTable.fresh 0 0 led)) = H2 at hns₁ hsb₁ hnew ⊢
 have hC : H2.objs.size = s2.heap.objs.size + 1 := by rw [← hH2, Heap.size_push]
 have hDC : s2.heap.objs.size ≠ H2.objs.size := by rw [hC]; exact Nat.ne_of_lt (Nat.lt_succ_self _)
 have old : Stays s2.heap h₁ := fun b o e => hsb₁.extBut b o (by have := Heap.lt_size e; rw [hC]; exact Nat.ne_of_lt (Nat.lt_succ_of_lt this)) (Heap.get?_push_of_some _ (hH2 ▸ Heap.get?_push_of_some _ e))
 have hacc : SetSt h₁ s2.heap.objs.size led 0 := hsb₁.extBut _ _ hDC (Heap.get?_push_of_some _ hnew)
 have hDn : s2.heap.get? s2.heap.objs.size = none := get?_size_none _
 have hCn : s2.heap.get? H2.objs.size = none := by
  cases e : s2.heap.get? H2.objs.size with
  | none => rfl
  | some o =>
   have h1 : @LT.lt Nat _ H2.objs.size s2.heap.objs.size := Heap.lt_size e
   have h2 : @Eq Nat H2.objs.size (s2.heap.objs.size + 1) := hC
   omega
 clear hnew
 generalize hD : s2.heap.objs.size = D at *
 generalize hC2 : H2.objs.size = C2 at *
 have hDfp : D ∉ fp := fun hm => by obtain ⟨⟨o, ho⟩, _⟩ := hfp D hm; exact (ng hDn ho).elim
 have hgeD : C.h₀.objs.size ≤ D := by have := r2.size_ge; rw [hD] at this; exact this
 have hgeC : C.h₀.objs.size ≤ C2 := by
  have h1 : @LE.le Nat _ C.h₀.objs.size D := hgeD
  show @LE.le Nat _ C.h₀.objs.size C2
  have h2 : @Eq Nat C2 (D + 1) := hC
  omega
 have hW' : ∀ a, (C.W0 a ∨ a = D) → C.W0 a ∨ s2.heap.get? a = none := fun a ha => ha.imp id fun e => by rw [e]; exact hDn
 have hCW : ¬ (C.W0 C2 ∨ C2 = D) := by
  rintro (h1 | h1)
  ·obtain ⟨o, ho⟩ := r2.av0 _ h1; exact (ng hCn ho).elim
  ·exact hDC h1.symm
 have ci0 : CI prog w (C.plus D) fv φ st s2.heap wr St C2 0 h₁ := ⟨r2.growW old hDn hacc.live, ⟨_, hns₁⟩, W.frame _ _ _ st0 fun b _ o e => old b o e, fun b o e _ => old b o e⟩
 have loop : ∀ s₃ : Shared, s₃ = { s2 with heap := h₁, toks := s2.toks + ([] : List (Str × Value)).length } →
   codeAny (model prog w) A (.compLoop (.SetComp ev [⟨.Name x px, iter, [], 0⟩] scope pos) 0 (.ref I) (.ref D) (compEnvC scope cl C2 fv.env)) (RR (.ref D) C2) s₃ := by
  rintro s₃ rfl
  refine codeAny_compLoop_set (fun k s' => ∃ h1 tk i, s' = { s2 with heap := h1, toks := tk } ∧ CI prog w (C.plus D) fv φ st s2.heap wr St C2 i h1 ∧ SetSt h1 D led i ∧ i ≤ xs.length ∧ k = xs.length + 1 - i) ?_ (xs.length + 1)
   ⟨h₁, _, 0, rfl, ci0, hacc, Nat.zero_le _, rfl⟩
  intro k s' hX
  refine cps fun G hG => ?_
  obtain ⟨h1, tk, i, es, ci, hDo, hi, ek⟩ := hX
  refine hG ?_; clear hG
  subst es ek
  by_cases hlt : i < xs.length
  ·have hx : xs[i]? = some xs[i] := List.getElem?_eq_getElem hlt
   refine comp_turn it co r0 r2 hW' hCn hgeC hCW ci hx fun h5 tk5 ci5 k5 r5 => ?_
   have hD5 : SetSt h5 D led i := hDo.at fun o e => k5 D o hDC (fun hm => hDfp (W.sub _ hm)) e
   refine wpAny_mono ((hev C2 _).run φ _ _ _ _ r5 (hall _ (List.getElem_mem hlt)) fun h6 tk6 v6 k6 r6 q6 => ?_) (fun _ _ z => z) fun _ _ z => z.elim
   obtain rfl := vr_bool_inv q6
   have ci6 := ci5.stays W.frame k6
   have hD6 : SetSt h6 D led i := hD5.at fun o e => k6 _ _ e
   cases i with
   | zero =>
    refine set_add1 (led := led) hD6 fun h7 tk7 ep hs7 g7 => ?_
    exact ⟨xs.length + 1 - 1, by omega, h7, tk7, 1, rfl, ci6.gather W.frame r2 hDn hDfp hDC (.inr rfl) hs7 ⟨_, g7⟩, ⟨ep, g7⟩, hlt, rfl⟩
   | succ i =>
    obtain ⟨ep, hD6⟩ := hD6
    refine set_add2 (led := led) hD6 fun tk7 => ?_
    exact ⟨xs.length + 1 - (i + 1 + 1), by omega, h6, tk7, i + 1 + 1, rfl, ci6, ⟨ep, hD6⟩, hlt, rfl⟩
  ·have hin : i = xs.length := by omega
   subst hin
   refine comp_end (C2 := C2) it r0 hW' hCn ci fun h5 tk5 r5 hn5 k5 => ?_
   have noton : ∀ {c : Addr}, s2.heap.get? c = none → sh.get? c = none := fun {c} e => by
    cases e' : sh.get? c with
    | none => rfl
    | some o => have := hk c o e'; exact (ng e this).elim
   have hD5 : SetSt h5 D led xs.length := hDo.at fun o e => k5 D o (fun hm => hDfp (W.sub _ hm)) e
   obtain ⟨j, hj⟩ : ∃ j, xs.length = j + 1 := ⟨xs.length - 1, by omega⟩
   rw [hj] at hD5
   obtain ⟨ep, hD5⟩ := hD5
   refine hRR D C2 h5 tk5 ep (noton hDn) (noton hCn) hgeD hDC hn5 hD5 r5 fun b o e => ?_
   have hb : b ∉ wr := fun hm => by exact (ng (hwr b hm) e).elim
   exact k5 b o hb (ci.kp b o (hk b o e) hb)
 exact codeAny_compStart_set (loop _ rfl) (hself 0 _ _ _ (W.frame _ _ _ st0 fun b _ o e => old b o e) (loop _ rfl))
noncomputable def sSetOne (k kx : Nat) (it : MSt → Option (List MV)) (em : MSt → Option MV) : MSt → Option (Out × MSt) := fun st => (it st).bind fun xs => if 0 < xs.length ∧ (xs.all fun x => isTrueV (em (st.set kx x))) = true then some (.next, st.set k (.bool true)) else none
theorem SS.setOne {scope : Scope} {x y : Str} (kx : Nat) {k : Nat} {px py pos pt spos : Pos} {kt : Nat} (vars2 : List (Str × Nat)) {ev iter : Expr} {im : MSt → Option (List MV)} {em : MSt → Option MV}
  (hh : A.handled = none) (he : EnvOk fv.env) (chk : compChk scope fv.env.kindOf fv.vars x kx vars2 = true) (hi : SI prog w A C fv false (.Name x px) iter im)
  (hev : ∀ C2 W0, EnvOk (compEnvC scope (clOf scope.names fv.env.cells) C2 fv.env) → SE prog w A { C with W0 := W0 } (innerFV fv scope (clOf scope.names fv.env.cells) C2 x kx vars2) (eval ev (compEnvC scope (clOf scope.names fv.env.cells) C2 fv.env)) em)
  (hm : (y, k) ∈ fv.vars) (hv : VarsOk fv.vars = true) (hk : fv.env.scope.kind = .function) (hy : fv.env.kindOf y = some .local ∨ fv.env.kindOf y = some .cell)
  (hs : ∀ x, foldedSetIterable iter fv.env x = pure x := by intro _; rfl) :
  SS prog w A C fv (exec (.Assign [.Tuple [.Name y py] kt pt] (.SetComp ev [⟨.Name x px, iter, [], 0⟩] scope pos) spos) fv.env) (sSetOne k kx im em) := by
 have co := CompOk.of he chk
 replace hev := fun C2 W0 => hev C2 W0 (he.comp co.kind co.ncell)
 refine ⟨?_⟩
 intro φ st s o st' Q r evv h
 simp only [sSetOne, oI] at evv
 refine cps fun G hG => ?_
 obtain ⟨xs, ex, em'⟩ := evv
 split at em'
 ·rename_i hc
  (injection em' with em'; injection em' with em' Y9; subst em' Y9)
  refine hG ?_; clear hG
  refine wpAny_Assign_stores ?_ rfl rfl
  show wpAny _ A (comprehension (.SetComp ev [⟨.Name x px, iter, [], 0⟩] scope pos) scope fv.env _ (newSet (.type "set")) false (eval iter fv.env) none) _ _ s
  refine wpAny_comprehension_free (use := none) rfl hs co.clos co.kind co.names (hi.run φ st s xs _ r ex fun h2 tk I k2 r2 it => ?_)
  refine comp_set (RR := fun acc C2 => compPost (model prog w) A NoE none _ acc C2) (s2 := { s with heap := h2, toks := tk }) it co r k2 hev (fun y hy => isTrueV_iff (List.all_eq_true.mp hc.2 y hy)) hc.1 ?_
  rintro D C2 h' tk' ep hD hC2 hge hDC ⟨m, hn⟩ hDo rD hk2
  have offC := fresh_off r hC2
  have r3 : R prog w C fv φ st h' := rD.dropW fun a ha => .inl ha
  refine ⟨m, hn, fun h4 hs4 => ?_⟩
  have r4 := R.letGo r hC2 r3 offC.1 hn hs4
  have k4 : Stays s.heap h4 := fun b ob e => (hs4.2 b (fun e' => by rw [e', hC2] at e; (injection e; done))).trans (hk2 b ob e)
  have hD4 : h4.get? D = _ := (hs4.2 D hDC).trans hDo
  show wpAny _ _ (PySem.assign (.Tuple [.Name y py] kt pt) fv.env (.ref D)) _ _ _
  rw [arm_assign_Tuple]
  refine wpAny_bind (wpAny_standAt ?_)
  unfold unpack
  show wpAny _ _ ((holding [.ref D] (unpackItems (.ref D) 1 none)) >>= _) _ _ _
  refine wpAny_bind (wpAny_holding (unpack_set1 hh hD4 rfl fun h5 k5 => ?_))
  show wpAny _ _ (assignInOrder [PySem.assign (.Name y py) fv.env] [.bool true]) _ _ _
  refine wpAny_bind (wpAny_holding (wpAny_assign_Name ?_))
  refine (r4.stays k5).setVar hm hv hk hy vr_bool fun h6 t6 r6 e6 => wpAny_pure ?_
  exact h φ h6 t6 _ r6 (Ext.refl _ _) ((Eff.of_stays (k4.trans k5)).trans (Ext.refl _ _) e6) rfl
 ·(injection em'; done)
end
end
section
open PySem.AutoSeq1 (wpAny_loadPart')
noncomputable def ltSs : List Str → List Str → Bool
 | [], [] => false
 | [], _ :: _ => true
 | _ :: _, [] => false
 | x :: xs, y :: ys => if x = y then ltSs xs ys else decide (sLt x y)
theorem lS1 : ltSs [] [] = false := rfl
theorem lS2 {y : Str} {ys : List Str} : ltSs [] (y :: ys) = true := rfl
theorem lS3 {x : Str} {xs : List Str} : ltSs (x :: xs) [] = false := rfl
theorem lS4 {x y : Str} {xs ys : List Str} : ltSs (x :: xs) (y :: ys) = if x = y then ltSs xs ys else decide (sLt x y) := rfl
noncomputable def ordOp (up : Bool) : CmpOp := if up then .Lt else .Gt
noncomputable def ordCode (up : Bool) : Int := if up then 0 else 4
noncomputable def ordSs (up : Bool) (xs ys : List Str) : Bool := if up then ltSs xs ys else ltSs ys xs
theorem ordSs_cons {up : Bool} {x y : Str} {xs ys : List Str} : ordSs up (x :: xs) (y :: ys) = if x = y then ordSs up xs ys else (if up then decide (sLt x y) else decide (sLt y x)) := by
 cases up <;> simp only [ordSs, lS1, lS2, lS3, lS4, Bool.false_eq_true, if_false, if_true]
 by_cases h : x = y
 ·subst h; simp
 ·rw [if_neg (fun e => h e.symm), if_neg h]
theorem StrsAre.nth {vs : List Value} {ss : List Str} (h : StrsAre vs ss) : vs.length = ss.length ∧ ∀ (i : Nat) v, vs[i]? = some v → ∃ x t, ss[i]? = some x ∧ v = .str x t := by
 induction h with
 | nil => exact ⟨rfl, fun i v e => by simp at e⟩
 | @cons x t vs ss h ih =>
  refine ⟨by simp [ih.1], fun i v e => ?_⟩
  cases i with
  | zero => simp at e; subst e; exact ⟨x, t, by simp, rfl⟩
  | succ i =>
   obtain ⟨y, u, h1, h2⟩ := ih.2 i v (by simpa using e)
   exact ⟨y, u, by simpa using h1, h2⟩
section
variable {prog : Program} {w : World} {A : Around} {E : Value → Shared → Prop} {s : Shared}
theorem rich_strs (up : Bool) {x y : Str} {t u : Tok} {Q : Value → Shared → Prop} (h : Q (.bool (if up then decide (sLt x y) else decide (sLt y x))) s) : wpAny (model prog w) A (richCompare (ordOp up) (.str x t) (.str y u)) Q E s := by
 cases up with
 | true => exact P.lt_str (by simpa using h)
 | false => exact P.gt_str (by simpa using h)
theorem eqb_strs {x y : Str} {t u : Tok} {Q : Bool → Shared → Prop} (h : Q (x == y) s) : wpAny (model prog w) A (eqBool (.str x t) (.str y u)) Q E s := SeqAt.EqAt.str_str x t y u prog w E Q h
theorem ord_loop (up : Bool) (l b : Addr) (items items2 : List Value) (n n2 : Nat) (dd dd2 : Option Addr) (sl sl2 : Array (Option Value)) (xs ys : List Str) (hx : StrsAre items xs) (hy : StrsAre items2 ys) (k : Nat) :
  ∀ i : Nat, items.length - i = k → i ≤ items.length → i ≤ items2.length → Meets (Builtin.«list.__eq__.loop» ⟨[.ref l, .ref b, rawInt i, rawInt (ordCode up)], []⟩)
   (fun A R s => s.heap.get? l = some { cls := .type "list", dict := dd, data := .seq items.toArray n, slots := sl } ∧ s.heap.get? b = some { cls := .type "list", dict := dd2, data := .seq items2.toArray n2, slots := sl2 } ∧
    R (.ok (.ret (.bool (ordSs up (xs.drop i) (ys.drop i))))) s) := by
 have lx := (StrsAre.nth hx).1
 have ly := (StrsAre.nth hy).1
 have stop : ∀ i : Nat, i ≤ items.length → i ≤ items2.length → (items[i]? = none ∨ items2[i]? = none) → Meets (Builtin.«list.__eq__.loop» ⟨[.ref l, .ref b, rawInt i, rawInt (ordCode up)], []⟩)
   (fun A R s => s.heap.get? l = some { cls := .type "list", dict := dd, data := .seq items.toArray n, slots := sl } ∧ s.heap.get? b = some { cls := .type "list", dict := dd2, data := .seq items2.toArray n2, slots := sl2 } ∧
    R (.ok (.ret (.bool (ordSs up (xs.drop i) (ys.drop i))))) s) := by
  intro i h1 h2 hn prog w A R s h
  obtain ⟨hp, g, d, tk, os⟩ := s; obtain ⟨hl, hb, h⟩ := h
  have hv : ordSs up (xs.drop i) (ys.drop i) = (if up then decide (items.length < items2.length) else decide (items.length > items2.length)) := by
   rcases hn with hn | hn
   ·have e1 : items.length = i := by have := List.getElem?_eq_none_iff.mp hn; omega
    have e2 : xs.drop i = [] := List.drop_of_length_le (by omega)
    rw [e2]
    cases hd : ys.drop i with
    | nil =>
     have : ys.length ≤ i := List.drop_eq_nil_iff.mp hd
     cases up <;> simp [ordSs, lS1, lS2, lS3, lS4] <;> omega
    | cons a r =>
     have : ¬ ys.length ≤ i := fun hh => by rw [List.drop_eq_nil_iff.mpr hh] at hd; (injection hd; done)
     cases up <;> simp [ordSs, lS1, lS2, lS3, lS4] <;> omega
   ·have e1 : items2.length = i := by have := List.getElem?_eq_none_iff.mp hn; omega
    have e2 : ys.drop i = [] := List.drop_of_length_le (by omega)
    rw [e2]
    cases hd : xs.drop i with
    | nil =>
     have : xs.length ≤ i := List.drop_eq_nil_iff.mp hd
     cases up <;> simp [ordSs, lS1, lS2, lS3, lS4] <;> omega
    | cons a r =>
     have : ¬ xs.length ≤ i := fun hh => by rw [List.drop_eq_nil_iff.mpr hh] at hd; (injection hd; done)
     cases up <;> simp [ordSs, lS1, lS2, lS3, lS4] <;> omega
  rw [hv] at h
  have fin : wpAny (model prog w) A.in1 (do let xs ← Builtin.List.listItems (.ref l); let ys ← Builtin.List.listItems (.ref b); ret (.bool (if up then decide (xs.size < ys.size) else decide (xs.size > ys.size))))
    (fun fin s' => match fin with
     | Fin.done f => R (.ok f) s'
     | Fin.again c' => c'.quiet = true ∧ codeAny (model prog w) A c' R s') (fun e s' => R (.error e) s') ⟨hp, g, d, tk, os⟩ := by
   wp_walk using wpAny_loadPart' hl, wpAny_loadPart' hb
   simpa using h
  rcases hn with hn | hn
  ·have hi1 : items.toArray[((i : Nat) : Int).toNat]? = none := by simpa using hn
   cases up with
   | true =>
    dsimp only [ordCode, if_true] at fin ⊢
    wp_walk using wpAny_loadPart' hl, wpAny_loadPart' hb
    rw [hi1]
    exact fin
   | false =>
    dsimp only [ordCode, Bool.false_eq_true, if_false] at fin ⊢
    wp_walk using wpAny_loadPart' hl, wpAny_loadPart' hb
    rw [hi1]
    exact fin
  ·have hi2 : items2.toArray[((i : Nat) : Int).toNat]? = none := by simpa using hn
   cases up with
   | true =>
    dsimp only [ordCode, if_true] at fin ⊢
    wp_walk using wpAny_loadPart' hl, wpAny_loadPart' hb
    rw [hi2]
    cases items.toArray[((i : Nat) : Int).toNat]? <;> exact fin
   | false =>
    dsimp only [ordCode, Bool.false_eq_true, if_false] at fin ⊢
    wp_walk using wpAny_loadPart' hl, wpAny_loadPart' hb
    rw [hi2]
    cases items.toArray[((i : Nat) : Int).toNat]? <;> exact fin
 induction k with
 | zero => 
  intro i hk h1 h2
  exact stop i h1 h2 (.inl (List.getElem?_eq_none_iff.mpr (by omega)))
 | succ k ih =>
  intro i hk h1 h2
  by_cases hlt2 : i < items2.length
  ·intro prog w A R s h
   obtain ⟨hp, g, d, tk, os⟩ := s; obtain ⟨hl, hb, h⟩ := h
   have hlt : i < items.length := by omega
   have hi1 : items.toArray[((i : Nat) : Int).toNat]? = some items[i] := by simp [hlt]
   have hi2 : items2.toArray[((i : Nat) : Int).toNat]? = some items2[i] := by simp [hlt2]
   refine cps fun G hG => ?_
   obtain ⟨x, t, ex, vx⟩ := (StrsAre.nth hx).2 i _ (List.getElem?_eq_getElem hlt)
   obtain ⟨y, u, ey, vy⟩ := (StrsAre.nth hy).2 i _ (List.getElem?_eq_getElem hlt2)
   have dx : xs.drop i = x :: xs.drop (i + 1) := by obtain ⟨hh, rfl⟩ := List.getElem?_eq_some_iff.mp ex; exact List.drop_eq_getElem_cons hh
   have dy : ys.drop i = y :: ys.drop (i + 1) := by obtain ⟨hh, rfl⟩ := List.getElem?_eq_some_iff.mp ey; exact List.drop_eq_getElem_cons hh
   rw [dx, dy, ordSs_cons] at h
   rw [vx] at hi1
   rw [vy] at hi2
   have hc : ((i : Int) + 1) = ((i + 1 : Nat) : Int) := by push_cast; rfl
   refine hG ?_; clear hG
   cases up with
   | true =>
    dsimp only [ordCode, if_true] at h ⊢
    wp_walk using wpAny_loadPart' hl, wpAny_loadPart' hb
    rw [hi1, hi2]
    refine wpAny_bind (eqb_strs ?_)
    by_cases hxy : x = y
    ·rw [if_pos hxy] at h
     rw [show (x == y) = true by simp [hxy]]
     wp_walk
     rw [hc]
     exact ⟨plainId_quiet MeetsSeq3.plain_eq_loop _, codeAny_builtin MeetsSeq3.entry_eq_loop (by
      rw [Around.under_plainId MeetsSeq3.plain_eq_loop _]
      exact ih (i + 1) (by omega) (by omega) (by omega) prog w A R _ ⟨hl, hb, h⟩)⟩
    ·rw [if_neg hxy] at h
     rw [show (x == y) = false by simp [hxy]]
     wp_walk using wpAny_loadPart' hl, wpAny_loadPart' hb
     rw [hi1, hi2]
     show wpAny _ _ (richCompare .Lt (.str x t) (.str y u) >>= _) _ _ _
     refine wpAny_bind (rich_strs true ?_)
     exact wpAny_pure h
   | false =>
    dsimp only [ordCode, Bool.false_eq_true, if_false] at h ⊢
    wp_walk using wpAny_loadPart' hl, wpAny_loadPart' hb
    rw [hi1, hi2]
    refine wpAny_bind (eqb_strs ?_)
    by_cases hxy : x = y
    ·rw [if_pos hxy] at h
     rw [show (x == y) = true by simp [hxy]]
     wp_walk
     rw [hc]
     exact ⟨plainId_quiet MeetsSeq3.plain_eq_loop _, codeAny_builtin MeetsSeq3.entry_eq_loop (by
      rw [Around.under_plainId MeetsSeq3.plain_eq_loop _]
      exact ih (i + 1) (by omega) (by omega) (by omega) prog w A R _ ⟨hl, hb, h⟩)⟩
    ·rw [if_neg hxy] at h
     rw [show (x == y) = false by simp [hxy]]
     wp_walk using wpAny_loadPart' hl, wpAny_loadPart' hb
     rw [hi1, hi2]
     show wpAny _ _ (richCompare .Gt (.str x t) (.str y u) >>= _) _ _ _
     refine wpAny_bind (rich_strs false ?_)
     exact wpAny_pure h
  ·exact stop i h1 h2 (.inr (List.getElem?_eq_none_iff.mpr (by omega)))
theorem rich_lists (up : Bool) {l b : Addr} {items items2 : List Value} {xs ys : List Str} {Q : Value → Shared → Prop} (hl : s.heap.IsList l items.toArray) (hb : s.heap.IsList b items2.toArray) (hx : StrsAre items xs) (hy : StrsAre items2 ys)
  (hu : A.units < cLine) (h : Q (.bool (ordSs up xs ys)) s) : wpAny (model prog w) A (richCompare (ordOp up) (.ref l) (.ref b)) Q E s := by
 refine cps fun G hG => ?_
 obtain ⟨⟨cls, dd, data, sl⟩, ho, hc, n, hd⟩ := id hl
 obtain ⟨⟨cls2, dd2, data2, sl2⟩, ho2, hc2, n2, hd2⟩ := id hb
 refine hG ?_; clear hG
 simp only at hc hd hc2 hd2
 subst hc hd hc2 hd2
 have loop := ord_loop up l b items items2 n n2 dd dd2 sl sl2 xs ys hx hy _ 0 rfl (Nat.zero_le _) (Nat.zero_le _)
 have f3 := AutoSeq1.sub_list_list
 cases up with
 | true =>
  refine richCompare_meets_room (op := .Lt) ⟨_, ho, rfl⟩ ⟨_, ho2, rfl⟩ F.slot_list_lt F.entry_list_lt (F.args_list_lt_2 _ _) (S := fun A R s => s.heap.get? l = some { cls := .type "list", dict := dd, data := .seq items.toArray n, slots := sl } ∧ s.heap.get? b = some { cls := .type "list", dict := dd2, data := .seq items2.toArray n2, slots := sl2 } ∧
    R (.ok (.ret (.bool (ordSs true xs ys)))) s) ?_ ⟨ho, ho2, ?_⟩ hu
  ·intro prog w A R s h
   obtain ⟨hp, g, d, tk, os⟩ := s; obtain ⟨hl, hb, h⟩ := h
   wp_walk using wpAny_loadPart' hl, wpAny_loadPart' hb
   exact ⟨plainId_quiet MeetsSeq3.plain_eq_loop _, codeAny_builtin MeetsSeq3.entry_eq_loop (by
    rw [Around.under_plainId MeetsSeq3.plain_eq_loop _]
    exact loop prog w A R _ ⟨hl, hb, h⟩)⟩
  ·show Value.bool (ordSs true xs ys) ≠ Value.notImplemented ∧ Q (.bool (ordSs true xs ys)) s
   exact ⟨(fun x => nomatch x), h⟩
 | false =>
  refine richCompare_meets_room (op := .Gt) ⟨_, ho, rfl⟩ ⟨_, ho2, rfl⟩ F.slot_list_gt F.entry_list_gt (F.args_list_gt_2 _ _) (S := fun A R s => s.heap.get? l = some { cls := .type "list", dict := dd, data := .seq items.toArray n, slots := sl } ∧ s.heap.get? b = some { cls := .type "list", dict := dd2, data := .seq items2.toArray n2, slots := sl2 } ∧
    R (.ok (.ret (.bool (ordSs false xs ys)))) s) ?_ ⟨ho, ho2, ?_⟩ hu
  ·intro prog w A R s h
   obtain ⟨hp, g, d, tk, os⟩ := s; obtain ⟨hl, hb, h⟩ := h
   wp_walk using wpAny_loadPart' hl, wpAny_loadPart' hb
   exact ⟨plainId_quiet MeetsSeq3.plain_eq_loop _, codeAny_builtin MeetsSeq3.entry_eq_loop (by
    rw [Around.under_plainId MeetsSeq3.plain_eq_loop _]
    exact loop prog w A R _ ⟨hl, hb, h⟩)⟩
  ·show Value.bool (ordSs false xs ys) ≠ Value.notImplemented ∧ Q (.bool (ordSs false xs ys)) s
   exact ⟨(fun x => nomatch x), h⟩
end
end
section
section
variable {prog : Program} {w : World} {A : Around} {E : Value → Shared → Prop} {s : Shared}
theorem max_two {l : Addr} {x y : Value} {bt : Bool} {Q : Value → Shared → Prop} (hh : A.handled = none) (hl : s.heap.IsList l #[x, y])
  (hcmp : ∀ (s' : Shared) (Q : Value → Shared → Prop) (E : Value → Shared → Prop), Stays s.heap s'.heap → Q (.bool bt) s' → wpAny (model prog w) A.in1 (richCompare .Gt y x) Q E s')
  (h : ∀ h' tk, Stays s.heap h' → Q (if bt then y else x) { s with heap := h', toks := tk }) :
  wpAny (model prog w) A (call (.builtin "max") [.ref l]) Q E s := by
 have hname : (toString "max" ++ toString ".loop" : String) = "max.loop" := by decide
 have hlt : l < s.heap.objs.size := by obtain ⟨_, e, _⟩ := hl; exact Heap.lt_size e
 refine call_function_tree F.kind_max F.plain_max F.entry_max (F.args_max1 _) ?_
 show wpAny _ A.in1 (Builtin.Builtins.bindParams "max" ["key", "default"] 0 ⟨[], []⟩ >>= _) _ _ s
 refine wpAny_bind (wpAny_of_eq (show Builtin.Builtins.bindParams "max" ["key", "default"] 0 ⟨[], []⟩ = pure [none, none] from rfl) ?_)
 refine wpAny_bind (wpAny_pure ?_)
 refine wpAny_bind (wpAny_pyIter_list hl ?_)
 refine wpAny_bind (wpAny_newObj_type ?_)
 rw [hname]
 have hne : l ≠ s.heap.objs.size := Nat.ne_of_lt hlt
 have W := Walks.list (prog := prog) (w := w) (A := A.in1) hh s.heap.objs.size l hne #[x, y]
 have hS0 : (s.heap.push { cls := .type "list_iterator", data := .fields #[.ref l, .int 0 0] }).objs.size = s.heap.objs.size + 1 := Heap.size_push ..
 generalize hi : s.heap.objs.size = I at *
 have k0 : ∀ b o, s.heap.get? b = some o → b ≠ I := fun b o e => by have := Heap.lt_size e; rw [hi] at this; exact Nat.ne_of_lt this
 have k1 : ∀ b o, s.heap.get? b = some o → b ≠ I + 1 := fun b o e => by have := Heap.lt_size e; rw [hi] at this; exact Nat.ne_of_lt (Nat.lt_succ_of_lt this)
 have hS1 : s.heap.get? (I + 1) = none := by
  cases e : s.heap.get? (I + 1) with
  | none => rfl
  | some o => exact absurd rfl (k1 _ _ e)
 have hI1 : s.heap.get? I = none := by
  cases e : s.heap.get? I with
  | none => rfl
  | some o => exact absurd rfl (k0 _ _ e)
 have hIS : I + 1 ≠ I := Nat.succ_ne_self I
 rw [hS0]
 have hSo : (((s.heap.push { cls := .type "list_iterator", data := .fields #[.ref l, .int 0 0] }).push { cls := .type "list", data := .seq #[] }).get? (I + 1)) = some { cls := .type "list", dict := none, data := .seq #[] 0, slots := #[] } := by rw [← hS0]; exact Heap.get?_push_size _ rfl
 have hst : ((s.heap.push { cls := .type "list_iterator", data := .fields #[.ref l, .int 0 0] }).push { cls := .type "list", data := .seq #[] }).IsListIter I l 0 ∧ ((s.heap.push { cls := .type "list_iterator", data := .fields #[.ref l, .int 0 0] }).push { cls := .type "list", data := .seq #[] }).IsList l #[x, y] :=
  ⟨⟨_, Heap.get?_push_of_some _ (hi ▸ Heap.get?_push_size _ rfl), rfl, rfl⟩, (hl.push _).push _⟩
 have hold : Stays s.heap ((s.heap.push { cls := .type "list_iterator", data := .fields #[.ref l, .int 0 0] }).push { cls := .type "list", data := .seq #[] }) := fun b o e => Heap.get?_push_of_some _ (Heap.get?_push_of_some _ e)
 generalize ((s.heap.push { cls := .type "list_iterator", data := .fields #[.ref l, .int 0 0] }).push { cls := .type "list", data := .seq #[] }) = H at *
 have hSl : I + 1 ≠ l := fun e => by obtain ⟨o, ho, _⟩ := hl; exact k1 _ _ ho e.symm
 have frame : ∀ {i : Nat} {h : Heap} (f : Obj → Obj), (h.IsListIter I l i ∧ h.IsList l #[x, y]) → (h.update (I + 1) f).IsListIter I l i ∧ (h.update (I + 1) f).IsList l #[x, y] := fun f st =>
  W.frame _ _ _ st fun b hb o e => (Heap.get?_update_other _ _ (fun h => by
   rcases List.mem_cons.mp hb with rfl | hb
   ·exact hIS h
   ·rcases List.mem_cons.mp hb with rfl | hb
    ·exact hSl h
    ·cases hb)).trans e
 have keepU : ∀ {h : Heap} (f : Obj → Obj), Stays s.heap h → Stays s.heap (h.update (I + 1) f) := fun f k b o e => (Heap.get?_update_other _ _ (fun q => k1 _ _ e q.symm)).trans (k b o e)
 have keepW : ∀ {h h' : Heap}, Stays s.heap h → (∀ b o, b ∉ [I] → h.get? b = some o → h'.get? b = some o) → Stays s.heap h' := fun k k' b o e => k' b o (fun hm => by
  rcases List.mem_cons.mp hm with e' | hm
  ·exact k0 _ _ e e'
  ·cases hm) (k b o e)
 have Skeep : ∀ {h h' : Heap} {o : Obj}, (∀ b o, b ∉ [I] → h.get? b = some o → h'.get? b = some o) → h.get? (I + 1) = some o → h'.get? (I + 1) = some o := fun k' e => k' _ _ (fun hm => by
  rcases List.mem_cons.mp hm with e' | hm
  ·exact hIS e'
  ·cases hm) e
 refine wpAny_pure ⟨plainId_quiet F.plain_max_loop _, ?_⟩
 refine codeAny_builtin F.entry_max_loop ?_
 rw [Around.under_plainId F.plain_max_loop _]
 show wpAny _ A.in1 (seqItems? (.ref (I + 1)) >>= _) _ _ _
 refine wpAny_bind (wpAny_seqItems hSo rfl ?_)
 show wpAny _ A.in1 (tryCatch (pyNext (.ref I)) _ >>= _) _ _ _
 refine wpAny_bind (wpAny_tryCatch (W.item 0 _ _ _ (Nat.succ_pos _) hst fun v h1 t1 hv st1 m1 => ?_))
 obtain rfl : x = v := by simpa using hv
 have hS1' := Skeep m1 hSo
 have ho1 := keepW hold m1
 show wpAny _ A.in1 (updateSeq (I + 1) (fun _ => #[x, x]) >>= _) _ _ _
 refine wpAny_bind ?_
 refine wpAny_updateSeq hS1' rfl ?_
 rw [hname]
 refine wpAny_pure ⟨plainId_quiet F.plain_max_loop _, ?_⟩
 have hS2 := Heap.get?_update_self (h := h1) (Obj.mapSeq fun _ => #[x, x]) hS1' rfl
 have st2 := frame (Obj.mapSeq fun _ => #[x, x]) st1
 have ho2 := keepU (Obj.mapSeq fun _ => #[x, x]) ho1
 refine codeAny_builtin F.entry_max_loop ?_
 rw [Around.under_plainId F.plain_max_loop _]
 show wpAny _ A.in1 (seqItems? (.ref (I + 1)) >>= _) _ _ _
 refine wpAny_bind (wpAny_seqItems hS2 rfl ?_)
 show wpAny _ A.in1 (tryCatch (pyNext (.ref I)) _ >>= _) _ _ _
 refine wpAny_bind (wpAny_tryCatch (W.item 1 _ _ _ (by simp) st2 fun v h3 t3 hv st3 m3 => ?_))
 obtain rfl : y = v := by simpa using hv
 have hS3 := Skeep m3 hS2
 have ho3 := keepW ho2 m3
 show wpAny _ A.in1 (tryCatch (holding [y, y] (richCompare .Gt y x >>= _)) _ >>= _) _ _ _
 refine wpAny_bind (wpAny_tryCatch (wpAny_holding (wpAny_bind (hcmp _ _ _ ho3 ?_))))
 refine wpAny_bind (wpAny_holding (wpAny_truthy_bool ?_))
 refine wpAny_bind (wpAny_letGo (wpAny_pure ?_))
 have last : ∀ (h4 : Heap) (t4 : Tok) (z : Value) (c : Nat), h4.get? (I + 1) = some { cls := .type "list", dict := none, data := .seq #[z, z] c, slots := #[] } → (h4.IsListIter I l 2 ∧ h4.IsList l #[x, y]) → Stays s.heap h4 →
   (∀ h' tk, Stays s.heap h' → Q z { s with heap := h', toks := tk }) →
   codeAny (model prog w) A (.builtin "max.loop" ⟨[.ref I, .none, .ref (I + 1)], []⟩) (wants Q E) { s with heap := h4, toks := t4 } := by
  intro h4 t4 z c hS4 st4 ho4 hz
  refine codeAny_builtin F.entry_max_loop ?_
  rw [Around.under_plainId F.plain_max_loop _]
  show wpAny _ A.in1 (seqItems? (.ref (I + 1)) >>= _) _ _ _
  refine wpAny_bind (wpAny_seqItems hS4 rfl ?_)
  show wpAny _ A.in1 (tryCatch (pyNext (.ref I)) _ >>= _) _ _ _
  refine wpAny_bind (wpAny_tryCatch (W.done _ _ _ st4 fun h5 t5 m5 => ?_))
  have hS5 := Skeep m5 hS4
  have ho5 := keepW ho4 m5
  show wpAny _ A.in1 (updateSeq (I + 1) (fun _ => #[]) >>= _) _ _ _
  refine wpAny_bind ?_
  refine wpAny_updateSeq hS5 rfl (wpAny_bind (wpAny_letGo (wpAny_pure ?_)))
  exact hz _ _ (keepU _ ho5)
 cases bt with
 | true =>
  dsimp only [if_true]
  refine wpAny_bind ?_
  refine wpAny_updateSeq hS3 rfl (wpAny_bind (wpAny_letGo ?_))
  rw [hname]
  exact wpAny_pure ⟨plainId_quiet F.plain_max_loop _, last _ _ y _ (Heap.get?_update_self _ hS3 rfl) (frame _ st3) (keepU _ ho3) h⟩
 | false =>
  dsimp only [Bool.false_eq_true, if_false]
  refine wpAny_bind (wpAny_letGo ?_)
  rw [hname]
  exact wpAny_pure ⟨plainId_quiet F.plain_max_loop _, last _ _ x _ hS3 st3 ho3 h⟩
theorem min_two {l : Addr} {x y : Value} {bt : Bool} {Q : Value → Shared → Prop} (hh : A.handled = none) (hl : s.heap.IsList l #[x, y])
  (hcmp : ∀ (s' : Shared) (Q : Value → Shared → Prop) (E : Value → Shared → Prop), Stays s.heap s'.heap → Q (.bool bt) s' → wpAny (model prog w) A.in1 (richCompare .Lt y x) Q E s')
  (h : ∀ h' tk, Stays s.heap h' → Q (if bt then y else x) { s with heap := h', toks := tk }) :
  wpAny (model prog w) A (call (.builtin "min") [.ref l]) Q E s := by
 have hname : (toString "min" ++ toString ".loop" : String) = "min.loop" := by decide
 have hlt : l < s.heap.objs.size := by obtain ⟨_, e, _⟩ := hl; exact Heap.lt_size e
 refine call_function_tree F.kind_min F.plain_min F.entry_min (F.args_min1 _) ?_
 show wpAny _ A.in1 (Builtin.Builtins.bindParams "min" ["key", "default"] 0 ⟨[], []⟩ >>= _) _ _ s
 refine wpAny_bind (wpAny_of_eq (show Builtin.Builtins.bindParams "min" ["key", "default"] 0 ⟨[], []⟩ = pure [none, none] from rfl) ?_)
 refine wpAny_bind (wpAny_pure ?_)
 refine wpAny_bind (wpAny_pyIter_list hl ?_)
 refine wpAny_bind (wpAny_newObj_type ?_)
 rw [hname]
 have hne : l ≠ s.heap.objs.size := Nat.ne_of_lt hlt
 have W := Walks.list (prog := prog) (w := w) (A := A.in1) hh s.heap.objs.size l hne #[x, y]
 have hS0 : (s.heap.push { cls := .type "list_iterator", data := .fields #[.ref l, .int 0 0] }).objs.size = s.heap.objs.size + 1 := Heap.size_push ..
 generalize hi : s.heap.objs.size = I at *
 have k0 : ∀ b o, s.heap.get? b = some o → b ≠ I := fun b o e => by have := Heap.lt_size e; rw [hi] at this; exact Nat.ne_of_lt this
 have k1 : ∀ b o, s.heap.get? b = some o → b ≠ I + 1 := fun b o e => by have := Heap.lt_size e; rw [hi] at this; exact Nat.ne_of_lt (Nat.lt_succ_of_lt this)
 have hS1 : s.heap.get? (I + 1) = none := by
  cases e : s.heap.get? (I + 1) with
  | none => rfl
  | some o => exact absurd rfl (k1 _ _ e)
 have hI1 : s.heap.get? I = none := by
  cases e : s.heap.get? I with
  | none => rfl
  | some o => exact absurd rfl (k0 _ _ e)
 have hIS : I + 1 ≠ I := Nat.succ_ne_self I
 rw [hS0]
 have hSo : (((s.heap.push { cls := .type "list_iterator", data := .fields #[.ref l, .int 0 0] }).push { cls := .type "list", data := .seq #[] }).get? (I + 1)) = some { cls := .type "list", dict := none, data := .seq #[] 0, slots := #[] } := by rw [← hS0]; exact Heap.get?_push_size _ rfl
 have hst : ((s.heap.push { cls := .type "list_iterator", data := .fields #[.ref l, .int 0 0] }).push { cls := .type "list", data := .seq #[] }).IsListIter I l 0 ∧ ((s.heap.push { cls := .type "list_iterator", data := .fields #[.ref l, .int 0 0] }).push { cls := .type "list", data := .seq #[] }).IsList l #[x, y] :=
  ⟨⟨_, Heap.get?_push_of_some _ (hi ▸ Heap.get?_push_size _ rfl), rfl, rfl⟩, (hl.push _).push _⟩
 have hold : Stays s.heap ((s.heap.push { cls := .type "list_iterator", data := .fields #[.ref l, .int 0 0] }).push { cls := .type "list", data := .seq #[] }) := fun b o e => Heap.get?_push_of_some _ (Heap.get?_push_of_some _ e)
 generalize ((s.heap.push { cls := .type "list_iterator", data := .fields #[.ref l, .int 0 0] }).push { cls := .type "list", data := .seq #[] }) = H at *
 have hSl : I + 1 ≠ l := fun e => by obtain ⟨o, ho, _⟩ := hl; exact k1 _ _ ho e.symm
 have frame : ∀ {i : Nat} {h : Heap} (f : Obj → Obj), (h.IsListIter I l i ∧ h.IsList l #[x, y]) → (h.update (I + 1) f).IsListIter I l i ∧ (h.update (I + 1) f).IsList l #[x, y] := fun f st =>
  W.frame _ _ _ st fun b hb o e => (Heap.get?_update_other _ _ (fun h => by
   rcases List.mem_cons.mp hb with rfl | hb
   ·exact hIS h
   ·rcases List.mem_cons.mp hb with rfl | hb
    ·exact hSl h
    ·cases hb)).trans e
 have keepU : ∀ {h : Heap} (f : Obj → Obj), Stays s.heap h → Stays s.heap (h.update (I + 1) f) := fun f k b o e => (Heap.get?_update_other _ _ (fun q => k1 _ _ e q.symm)).trans (k b o e)
 have keepW : ∀ {h h' : Heap}, Stays s.heap h → (∀ b o, b ∉ [I] → h.get? b = some o → h'.get? b = some o) → Stays s.heap h' := fun k k' b o e => k' b o (fun hm => by
  rcases List.mem_cons.mp hm with e' | hm
  ·exact k0 _ _ e e'
  ·cases hm) (k b o e)
 have Skeep : ∀ {h h' : Heap} {o : Obj}, (∀ b o, b ∉ [I] → h.get? b = some o → h'.get? b = some o) → h.get? (I + 1) = some o → h'.get? (I + 1) = some o := fun k' e => k' _ _ (fun hm => by
  rcases List.mem_cons.mp hm with e' | hm
  ·exact hIS e'
  ·cases hm) e
 refine wpAny_pure ⟨plainId_quiet F.plain_min_loop _, ?_⟩
 refine codeAny_builtin F.entry_min_loop ?_
 rw [Around.under_plainId F.plain_min_loop _]
 show wpAny _ A.in1 (seqItems? (.ref (I + 1)) >>= _) _ _ _
 refine wpAny_bind (wpAny_seqItems hSo rfl ?_)
 show wpAny _ A.in1 (tryCatch (pyNext (.ref I)) _ >>= _) _ _ _
 refine wpAny_bind (wpAny_tryCatch (W.item 0 _ _ _ (Nat.succ_pos _) hst fun v h1 t1 hv st1 m1 => ?_))
 obtain rfl : x = v := by simpa using hv
 have hS1' := Skeep m1 hSo
 have ho1 := keepW hold m1
 show wpAny _ A.in1 (updateSeq (I + 1) (fun _ => #[x, x]) >>= _) _ _ _
 refine wpAny_bind ?_
 refine wpAny_updateSeq hS1' rfl ?_
 rw [hname]
 refine wpAny_pure ⟨plainId_quiet F.plain_min_loop _, ?_⟩
 have hS2 := Heap.get?_update_self (h := h1) (Obj.mapSeq fun _ => #[x, x]) hS1' rfl
 have st2 := frame (Obj.mapSeq fun _ => #[x, x]) st1
 have ho2 := keepU (Obj.mapSeq fun _ => #[x, x]) ho1
 refine codeAny_builtin F.entry_min_loop ?_
 rw [Around.under_plainId F.plain_min_loop _]
 show wpAny _ A.in1 (seqItems? (.ref (I + 1)) >>= _) _ _ _
 refine wpAny_bind (wpAny_seqItems hS2 rfl ?_)
 show wpAny _ A.in1 (tryCatch (pyNext (.ref I)) _ >>= _) _ _ _
 refine wpAny_bind (wpAny_tryCatch (W.item 1 _ _ _ (by simp) st2 fun v h3 t3 hv st3 m3 => ?_))
 obtain rfl : y = v := by simpa using hv
 have hS3 := Skeep m3 hS2
 have ho3 := keepW ho2 m3
 show wpAny _ A.in1 (tryCatch (holding [y, y] (richCompare .Lt y x >>= _)) _ >>= _) _ _ _
 refine wpAny_bind (wpAny_tryCatch (wpAny_holding (wpAny_bind (hcmp _ _ _ ho3 ?_))))
 refine wpAny_bind (wpAny_holding (wpAny_truthy_bool ?_))
 refine wpAny_bind (wpAny_letGo (wpAny_pure ?_))
 have last : ∀ (h4 : Heap) (t4 : Tok) (z : Value) (c : Nat), h4.get? (I + 1) = some { cls := .type "list", dict := none, data := .seq #[z, z] c, slots := #[] } → (h4.IsListIter I l 2 ∧ h4.IsList l #[x, y]) → Stays s.heap h4 →
   (∀ h' tk, Stays s.heap h' → Q z { s with heap := h', toks := tk }) →
   codeAny (model prog w) A (.builtin "min.loop" ⟨[.ref I, .none, .ref (I + 1)], []⟩) (wants Q E) { s with heap := h4, toks := t4 } := by
  intro h4 t4 z c hS4 st4 ho4 hz
  refine codeAny_builtin F.entry_min_loop ?_
  rw [Around.under_plainId F.plain_min_loop _]
  show wpAny _ A.in1 (seqItems? (.ref (I + 1)) >>= _) _ _ _
  refine wpAny_bind (wpAny_seqItems hS4 rfl ?_)
  show wpAny _ A.in1 (tryCatch (pyNext (.ref I)) _ >>= _) _ _ _
  refine wpAny_bind (wpAny_tryCatch (W.done _ _ _ st4 fun h5 t5 m5 => ?_))
  have hS5 := Skeep m5 hS4
  have ho5 := keepW ho4 m5
  show wpAny _ A.in1 (updateSeq (I + 1) (fun _ => #[]) >>= _) _ _ _
  refine wpAny_bind ?_
  refine wpAny_updateSeq hS5 rfl (wpAny_bind (wpAny_letGo (wpAny_pure ?_)))
  exact hz _ _ (keepU _ ho5)
 cases bt with
 | true =>
  dsimp only [if_true]
  refine wpAny_bind ?_
  refine wpAny_updateSeq hS3 rfl (wpAny_bind (wpAny_letGo ?_))
  rw [hname]
  exact wpAny_pure ⟨plainId_quiet F.plain_min_loop _, last _ _ y _ (Heap.get?_update_self _ hS3 rfl) (frame _ st3) (keepU _ ho3) h⟩
 | false =>
  dsimp only [Bool.false_eq_true, if_false]
  refine wpAny_bind (wpAny_letGo ?_)
  rw [hname]
  exact wpAny_pure ⟨plainId_quiet F.plain_min_loop _, last _ _ x _ hS3 st3 ho3 h⟩
end
section
variable {prog : Program} {w : World} {A : Around} {C : Cx} {fv : FV} {K : Frag}
noncomputable def asLst : MV → Option (List MV)
 | .lst a => some a
 | _ => none
theorem asLst_inv {x : MV} {a : List MV} (e : asLst x = some a) : x = .lst a := by
 cases x with
 | lst b => rw [Option.some.inj e]
 | _ => cases e
noncomputable def minSsV (up : Bool) (st : MSt) (x : MV) : Option MV := (listOf st x).bind fun l => match l with
 | [x, y] => (asLst x).bind fun a => (asLst y).bind fun b => (strsOf a).bind fun xs => (strsOf b).bind fun ys => some (if ordSs up ys xs then .lst b else .lst a)
 | _ => none
theorem minSsV_inv {up : Bool} {st : MSt} {x v : MV} (e : minSsV up st x = some v) : ∃ a b xs ys, listOf st x = some [.lst a, .lst b] ∧ strsOf a = some xs ∧ strsOf b = some ys ∧ v = if ordSs up ys xs then .lst b else .lst a := by
 simp only [minSsV, oI] at e
 refine cps fun G hG => ?_
 obtain ⟨l, el, e⟩ := e
 split at e
 ·simp only [oI, Option.some.injEq] at e
  obtain ⟨a, ea, b, eb, xs, e1, ys, e2, e3⟩ := e
  obtain rfl := asLst_inv ea
  obtain rfl := asLst_inv eb
  refine hG ?_; clear hG
  exact ⟨a, b, xs, ys, el, e1, e2, e3.symm⟩
 ·(injection e; done)
theorem isList_keeps {h h' : Heap} {a : Addr} {items : Array Value} (hk : Stays h h') (hl : h.IsList a items) : h'.IsList a items := let ⟨o, e, r⟩ := hl; ⟨o, hk _ _ e, r⟩
theorem two_lists {φ : List (Option Addr)} {s : Shared} {W : Addr → Prop} {a b : List MV} {items : List Value} (hi : VRs s.heap W φ [.lst a, .lst b] items) :
  ∃ p q ia ib, items = [.ref p, .ref q] ∧ VR s.heap W φ (.lst a) (.ref p) ∧ VR s.heap W φ (.lst b) (.ref q) ∧ s.heap.IsList p (List.toArray ia) ∧ s.heap.IsList q (List.toArray ib) ∧ VRs s.heap W φ a ia ∧ VRs s.heap W φ b ib := by
 refine cps fun G hG => ?_
 obtain ⟨u, v, rfl, h1, h2⟩ := vrs_two hi
 have g1 := h1
 have g2 := h2
 simp only [vR1, vR2, vR3, vR4, vR5, vR6, vR7, vR8] at h1 h2
 obtain ⟨p, ia, rfl, -, hp, hia⟩ := h1
 obtain ⟨q, ib, rfl, -, hq, hib⟩ := h2
 refine hG ?_; clear hG
 exact ⟨p, q, ia, ib, rfl, g1, g2, hp, hq, hia, hib⟩
theorem bok_maxSs (hh : A.handled = none) (hu : A.units + 64 < cLine) : BOk prog w A C fv (.builtin "max") (f1 (minSsV false)) := by
 intro φ st s vs rvs v Q r e0 q0 h
 refine cps fun G hG => ?_
 obtain ⟨x, rfl, e⟩ := f1_inv e0
 obtain ⟨rv, rfl, q⟩ := vrs_one q0
 obtain ⟨a, b, xs, ys, el, e1, e2, rfl⟩ := minSsV_inv e
 obtain ⟨c, items, rfl, hl, hi⟩ := listOf_real r q el
 obtain ⟨p, q', ia, ib, rfl, g1, g2, hp, hq, hia, hib⟩ := two_lists hi
 refine hG ?_; clear hG
 refine max_two (bt := ordSs false ys xs) hh hl (fun s' Q' E' hk hq' => rich_lists false (isList_keeps hk hq) (isList_keeps hk hp) (strs_are hib e2) (strs_are hia e1) (by show A.units + 1 < cLine; omega) hq') fun h' tk hk => ?_
 refine h h' tk _ hk ?_
 split
 ·exact g2.stays hk
 ·exact g1.stays hk
theorem bok_minSs (hh : A.handled = none) (hu : A.units + 64 < cLine) : BOk prog w A C fv (.builtin "min") (f1 (minSsV true)) := by
 intro φ st s vs rvs v Q r e0 q0 h
 refine cps fun G hG => ?_
 obtain ⟨x, rfl, e⟩ := f1_inv e0
 obtain ⟨rv, rfl, q⟩ := vrs_one q0
 obtain ⟨a, b, xs, ys, el, e1, e2, rfl⟩ := minSsV_inv e
 obtain ⟨c, items, rfl, hl, hi⟩ := listOf_real r q el
 obtain ⟨p, q', ia, ib, rfl, g1, g2, hp, hq, hia, hib⟩ := two_lists hi
 refine hG ?_; clear hG
 refine min_two (bt := ordSs true ys xs) hh hl (fun s' Q' E' hk hq' => rich_lists true (isList_keeps hk hq) (isList_keeps hk hp) (strs_are hib e2) (strs_are hia e1) (by show A.units + 1 < cLine; omega) hq') fun h' tk hk => ?_
 refine h h' tk _ hk ?_
 split
 ·exact g2.stays hk
 ·exact g1.stays hk
end
end
section
set_option backward.match.sparseCases false
section
variable {prog : Program} {w : World} {A : Around} {C : Cx} {fv : FV} {K : Frag}
noncomputable def truthL (st : MSt) : MV → Option Bool
 | .tup l => if l.length ≤ 100000 then some (!l.isEmpty) else none
 | x => (listOf st x).bind fun l => if l.length ≤ 100000 then some (!l.isEmpty) else none
noncomputable def bL (a : MSt → Option MV) : MSt → Option Bool := fun st => (a st).bind (truthL st)
theorem VRs.isEmpty {h : Heap} {W : Addr → Prop} {φ : List (Option Addr)} {x : List MV} {v : List Value} (q : VRs h W φ x v) : v.isEmpty = x.isEmpty := by
 cases x with
 | nil => simp only [vRs1, vRs2] at q; subst q; rfl
 | cons a r => simp only [vRs1, vRs2] at q; obtain ⟨u, t, rfl, _⟩ := q; rfl
theorem SB.seq {x : Expr} {env : Env} {a : MSt → Option MV} (ha : SE prog w A C fv (eval x env) a)
  (he : isTrue x env (eval x env) = (do let v ← eval x env; standAt x.pos; holding [v] (truthy v)) := by rfl) : SB prog w A C fv (isTrue x env (eval x env)) (bL a) := by
 refine ⟨?_⟩
 intro φ st s v Q r e h
 simp only [bL, oI] at e
 obtain ⟨y, ey, e⟩ := e
 refine isTrue_plain (ha.run φ st s y _ r ey fun h1 t1 v1 k1 r1 q1 => ?_) he
 unfold truthL at e
 split at e
 ·rename_i l
  split at e <;> cases e
  simp only [vR1, vR2, vR3, vR4, vR5, vR6, vR7, vR8] at q1
  obtain ⟨b, items, rfl, _, hb, hi⟩ := q1
  have := VRs.length hi
  refine truthy_tuple (items := items.toArray) hb (by simp; omega) ?_
  have := h h1 (t1 + 1 + 1) k1 r1
  rw [← VRs.isEmpty hi] at this
  simpa using this
 ·simp only [oI] at e
  obtain ⟨l, el, e⟩ := e
  split at e <;> cases e
  obtain ⟨b, items, rfl, hb, hi⟩ := listOf_real r1 q1 el
  have := VRs.length hi
  refine wpAny_truthy_list (items := items.toArray) hb (by simp; omega) ?_
  have := h h1 (t1 + 1 + 1) k1 r1
  rw [← VRs.isEmpty hi] at this
  simpa using this
end
end
section
noncomputable def FieldsOf (o : Obj) : Prop := ∃ vs, o.data = .fields vs
noncomputable def SlotOf (o o' : Obj) : Prop := ∃ sl, o' = { o with slots := sl }
noncomputable def Book (C : Cx) (ex : Addr → Prop) (h h' : Heap) : Prop := ∀ b o, h.get? b = some o → ∃ o', h'.get? b = some o' ∧ (o' = o ∨ ((b = C.fn ∨ C.hid b) ∧ SlotOf o o') ∨ (ex b ∧ FieldsOf o ∧ FieldsOf o'))
theorem SlotOf.data {o o' : Obj} (h : SlotOf o o') : o'.data = o.data := by obtain ⟨sl, rfl⟩ := h; rfl
theorem SlotOf.trans {o o' o'' : Obj} (h : SlotOf o o') (h' : SlotOf o' o'') : SlotOf o o'' := by obtain ⟨sl, rfl⟩ := h; obtain ⟨sl', rfl⟩ := h'; exact ⟨sl', rfl⟩
theorem Book.of_stays {C : Cx} {ex : Addr → Prop} {h h' : Heap} (k : Stays h h') : Book C ex h h' := fun b o e => ⟨o, k b o e, .inl rfl⟩
theorem Book.trans {C : Cx} {ex : Addr → Prop} {h h' h'' : Heap} (x : Book C ex h h') (y : Book C ex h' h'') : Book C ex h h'' := by
 intro b o e
 obtain ⟨o', e', c⟩ := x b o e
 obtain ⟨o'', e'', c'⟩ := y b o' e'
 refine ⟨o'', e'', ?_⟩
 rcases c with rfl | ⟨c1, c2⟩ | ⟨c1, c2, c3⟩
 ·exact c'
 ·rcases c' with rfl | ⟨d1, d2⟩ | ⟨d1, ⟨vs, d2⟩, d3⟩
  ·exact .inr (.inl ⟨c1, c2⟩)
  ·exact .inr (.inl ⟨c1, c2.trans d2⟩)
  ·exact .inr (.inr ⟨d1, ⟨vs, c2.data ▸ d2⟩, d3⟩)
 ·obtain ⟨vs, c3⟩ := c3
  rcases c' with rfl | ⟨d1, d2⟩ | ⟨d1, d2, d3⟩
  ·exact .inr (.inr ⟨c1, c2, vs, c3⟩)
  ·exact .inr (.inr ⟨c1, c2, vs, d2.data.trans c3⟩)
  ·exact .inr (.inr ⟨c1, c2, d3⟩)
theorem Book.mono {C : Cx} {ex ex' : Addr → Prop} {h h' : Heap} (x : Book C ex h h') (k : ∀ b, ex b → ex' b) : Book C ex' h h' := fun b o e => let ⟨o', e', c⟩ := x b o e; ⟨o', e', c.imp id fun c => c.imp id fun c => ⟨k b c.1, c.2⟩⟩
theorem Book.data {C : Cx} {ex : Addr → Prop} {h h' : Heap} (x : Book C ex h h') {b : Addr} {o : Obj} (e : h.get? b = some o) (hn : ∀ vs, o.data ≠ .fields vs) : ∃ o', h'.get? b = some o' ∧ o'.data = o.data := by
 obtain ⟨o', e', c⟩ := x b o e
 refine ⟨o', e', ?_⟩
 rcases c with rfl | ⟨_, c⟩ | ⟨_, ⟨vs, c⟩, _⟩
 ·rfl
 ·exact c.data
 ·exact (hn vs c).elim
theorem Book.plain {C : Cx} {ex : Addr → Prop} {h h' : Heap} (x : Book C ex h h') {b : Addr} {o : Obj} (e : h.get? b = some o) (hn : ∀ vs, o.data ≠ .fields vs) (h1 : b ≠ C.fn) (h2 : ¬ C.hid b) : h'.get? b = some o := by
 obtain ⟨o', e', c⟩ := x b o e
 rcases c with rfl | ⟨c | c, _⟩ | ⟨_, ⟨vs, c⟩, _⟩
 ·exact e'
 ·exact (h1 c).elim
 ·exact (h2 c).elim
 ·exact (hn vs c).elim
theorem Book.ns {C : Cx} {ex : Addr → Prop} {h h' : Heap} (x : Book C ex h h') {a : Addr} {m : Str → Option Value} (n : h.Ns a m) : h'.Ns a m := by
 obtain ⟨o, es, ep, ho, hd, r⟩ := n
 obtain ⟨o', e', d⟩ := x.data ho (fun vs q => by rw [hd] at q; (injection q; done))
 exact ⟨o', es, ep, e', d.trans hd, r⟩
theorem Book.cell {C : Cx} {ex : Addr → Prop} {h h' : Heap} (x : Book C ex h h') {a : Addr} {v : Option Value} (n : h.IsCell a v) : h'.IsCell a v := by
 obtain ⟨o, ho, hd⟩ := n
 obtain ⟨o', e', d⟩ := x.data ho (fun vs q => by rw [hd] at q; (injection q; done))
 exact ⟨o', e', d.trans hd⟩
theorem Book.varVal {C : Cx} {ex : Addr → Prop} {h h' : Heap} (x : Book C ex h h') {env : Env} {y : Str} {v : Option Value} (e : VarVal env h y v) : VarVal env h' y v := by
 rcases e with ⟨h1, m, h2, h3⟩ | ⟨h1, c, h2, h3⟩
 ·exact .inl ⟨h1, m, x.ns h2, h3⟩
 ·exact .inr ⟨h1, c, h2, x.cell h3⟩
section
variable {prog : Program} {w : World} {A : Around} {C : Cx} {fv : FV}
theorem R.seq_off {φ : List (Option Addr)} {st : MSt} {h : Heap} (r : R prog w C fv φ st h) {b : Addr} {o : Obj} (e : h.get? b = some o) (hs : IsSeq o) : b ≠ C.fn ∧ ¬ C.hid b := by
 refine ⟨?_, fun hh => ?_⟩
 ·rintro rfl
  obtain ⟨m, n⟩ := r.fr
  exact seq_ne_dict n e hs rfl
 ·obtain ⟨⟨o', g1, g2, _⟩, _⟩ := r.hid b hh
  rw [e] at g1; (injection g1 with g1; subst g1); exact g2 hs
theorem R.book {ex : Addr → Prop} {φ : List (Option Addr)} {st : MSt} {h h' : Heap} (r : R prog w C fv φ st h) (x : Book C ex h h') (hex : ∀ b, ex b → C.h₀.get? b = none) : R prog w C fv φ st h' := by
 have trees : ∀ b o, ¬ C.av φ b → h.get? b = some o → IsSeq o → h'.get? b = some o ∧ ¬ C.av φ b := fun b o hb e hs => by
  obtain ⟨h1, h2⟩ := r.seq_off e hs
  obtain ⟨items, n, hd⟩ := id hs
  exact ⟨x.plain e (fun vs q => by rw [hd] at q; (injection q; done)) h1 h2, hb⟩
 refine ⟨?_, ?_, r.above, ?_, ?_, r.len, ?_, ?_, r.nodup, r.new, ?_, r.locNew, r.locOff, r.fnOff, r.celNew, r.celInj, ?_, r.celOff, ?_⟩
 ·intro b o e
  obtain ⟨o', e', c⟩ := x b o (r.base b o e)
  rcases c with rfl | ⟨c | c, _⟩ | ⟨c, _⟩
  ·exact e'
  ·exfalso
   have h1 : @LT.lt Nat _ b C.h₀.objs.size := Heap.lt_size e
   have h2 : @LE.le Nat _ C.h₀.objs.size C.fn := r.above
   rw [c] at h1
   omega
  ·have := (r.hid b c).2.2; exact (ng this e).elim
  ·have := hex b c; exact (ng this e).elim
 ·obtain ⟨m, n⟩ := r.fr; exact ⟨m, x.ns n⟩
 ·intro a ha
  refine cps fun G hG => ?_
  obtain ⟨o, e⟩ := r.av0 a ha
  obtain ⟨o', e', _⟩ := x a o e
  refine hG ?_; clear hG
  exact ⟨o', e'⟩
 ·intro p hp
  obtain ⟨v, e1, e2⟩ := r.vars p hp
  exact ⟨v, x.varVal e1, OVR.mono trees (fun _ _ e => e) e2⟩
 ·intro i a o e1 e2
  have hm : some a ∈ φ := List.mem_of_getElem? e1
  have hfn : a ≠ C.fn := fun q => r.fnOff (q ▸ hm)
  have hhid : ¬ C.hid a := fun q => r.hid_ne q (r.new a hm) rfl
  have s := r.sto i a o e1 e2
  cases o with
  | list xs =>
   refine cps fun G hG => ?_
   obtain ⟨items, n, g1, g2, g3⟩ := s
   refine hG ?_; clear hG
   exact ⟨items, n, x.plain g1 (fun vs q => by (injection q; done)) hfn hhid, VRs.mono trees (fun _ _ e => e) _ g2, g3⟩
  | dict f n =>
   refine cps fun G hG => ?_
   obtain ⟨kvs, ⟨ob, es, ep, g1, g2, g3, g4⟩, g5, g6, g7⟩ := s
   refine hG ?_; clear hG
   exact ⟨kvs, ⟨ob, es, ep, x.plain g1 (fun vs q => by rw [g3] at q; (injection q; done)) hfn hhid, g2, g3, g4⟩, g5, g6, fun y => OVR.mono trees (fun _ _ e => e) (g7 y)⟩
 ·intro a ha
  refine cps fun G hG => ?_
  obtain ⟨o, e⟩ := r.live a ha
  obtain ⟨o', e', _⟩ := x a o e
  refine hG ?_; clear hG
  exact ⟨o', e'⟩
 ·obtain ⟨m, n⟩ := r.loc; exact ⟨m, x.ns n⟩
 ·intro y c e
  obtain ⟨v, n⟩ := r.celIs y c e
  exact ⟨v, x.cell n⟩
 ·intro b hb
  refine cps fun G hG => ?_
  obtain ⟨⟨o, g1, g2, g3, g4⟩, g5⟩ := r.hid b hb
  obtain ⟨o', e', c⟩ := x b o g1
  refine hG ?_; clear hG
  refine ⟨⟨o', e', ?_⟩, g5⟩
  rcases c with rfl | ⟨_, c⟩ | ⟨_, ⟨vs, c⟩, _⟩
  ·exact ⟨g2, g3, g4⟩
  ·refine ⟨fun ⟨i, n, hd⟩ => g2 ⟨i, n, c.data ▸ hd⟩, fun vs hd => g3 vs (c.data ▸ hd), fun o'' e'' => ?_⟩
   exact SlotOf.trans (g4 o'' e'') c
  ·exact (g3 vs c).elim
theorem Eff.book {ex : Addr → Prop} {φ : List (Option Addr)} {h1 h h' : Heap} (a : Eff C fv φ h1 h) (x : Book C ex h h') (hex : ∀ b, ex b → h1.get? b = none) (hl : fv.env.locals = C.fn) : Eff C fv φ h1 h' := by
 intro b o e g1 g2 g3 g4
 obtain ⟨o', e', c⟩ := x b o (a b o e g1 g2 g3 g4)
 rcases c with rfl | ⟨c | c, _⟩ | ⟨c, _⟩
 ·exact e'
 ·exact (g2 (c.trans hl.symm)).elim
 ·exact (g4 c).elim
 ·have := hex b c; exact (ng this e).elim
theorem R.absent {φ : List (Option Addr)} {st : MSt} {h : Heap} (r : R prog w C fv φ st h) {b : Addr} (e : h.get? b = none) : C.h₀.get? b = none := by
 cases q : C.h₀.get? b with
 | none => rfl
 | some o => have := r.base b o q; exact (ng e this).elim
theorem R.notMem {φ : List (Option Addr)} {st : MSt} {h : Heap} (r : R prog w C fv φ st h) {a : Addr} {o : Obj} {vs : Array Value} (e : h.get? a = some o) (hd : o.data = .fields vs) : some a ∉ φ := by
 intro hm
 obtain ⟨i, hi⟩ := List.getElem?_of_mem hm
 have hlen : i < st.σ.length := by rw [← r.len]; exact (List.getElem?_eq_some_iff.mp hi).1
 have s := r.sto i a _ hi (List.getElem?_eq_getElem hlen)
 cases hq : st.σ[i] with
 | list xs =>
  rw [hq] at s
  obtain ⟨items, n, g, _⟩ := s
  rw [e] at g; (injection g with g; subst g); (injection hd; done)
 | dict f n =>
  rw [hq] at s
  obtain ⟨kvs, ⟨ob, es, ep, g1, _, g3, _⟩, _⟩ := s
  rw [e] at g1; (injection g1 with g1; subst g1); rw [hd] at g3; (injection g3; done)
noncomputable def ExcAt (X : String) (ex : Addr → Prop) (h : Heap) (e : Addr) (ctx : Value) (fl : Option Value) : Prop :=
 ∃ oe vs, h.get? e = some oe ∧ oe.cls = .type X ∧ oe.data = .fields vs ∧ vs[2]? = some ctx ∧ ex e ∧ match fl with
  | none => vs[1]? = some .none
  | some f => ∃ T oT ts, vs[1]? = some (.ref T) ∧ T ≠ e ∧ h.get? T = some oT ∧ oT.data = .fields ts ∧ ts[3]? = some f ∧ ex T
noncomputable def CtxX (A : Around) (C : Cx) (fv : FV) : Prop := ∃ (base : Heap) (outer : List Env), A.frames = some (fv.env :: outer) ∧ fv.env.scope.kind ≠ .module ∧ fv.env.frame = some C.fn ∧ fv.env.locals = C.fn ∧ base.StaysIn C.h₀ ∧
 ∀ e ∈ outer, e.scope.kind ≠ .module ∧ ∃ L, e.frame = some L ∧ base.get? L = none ∧ C.hid L
theorem CtxX.parts (x : CtxX A C fv) : fv.env.scope.kind ≠ .module ∧ fv.env.frame = some C.fn ∧ fv.env.locals = C.fn ∧ ∃ base : Heap, base.StaysIn C.h₀ := by
 refine cps fun G hG => ?_
 obtain ⟨base, outer, h1, h2, h3, h4, h5, h6⟩ := x
 refine hG ?_; clear hG
 exact ⟨h2, h3, h4, base, h5⟩
theorem CtxX.ctxB (x : CtxX A C fv) : CtxB A C := by
 refine cps fun G hG => ?_
 obtain ⟨base, outer, h1, h2, h3, h4, h5, h6⟩ := x
 refine hG ?_; clear hG
 exact ⟨base, outer, fv.env, h1, h2, h3, h5, fun e he => let ⟨g1, L, g2, g3, g4⟩ := h6 e he; ⟨g1, L, g2, g3, .inl g4⟩⟩
theorem CtxX.mark (x : CtxX A C fv) (v : Option Value) : CtxX (A.mark v) C fv := x
theorem CtxX.frames {φ : List (Option Addr)} {st : MSt} {h : Heap} (x : CtxX A C fv) (r : R prog w C fv φ st h) : ∃ (base : Heap) (outer : List Env), A.frames = some (fv.env :: outer) ∧ h.FunFrames base (fv.env :: outer) ∧ ∀ b ∈ (fv.env :: outer).filterMap (·.frame), b = C.fn ∨ C.hid b := by
 refine cps fun G hG => ?_
 obtain ⟨base, outer, h1, h2, h3, h4, h5, h6⟩ := x
 refine hG ?_; clear hG
 refine ⟨base, outer, h1, ⟨h2, ?_, funFrames_iff.mpr fun e he => ?_⟩, ?_⟩
 ·obtain ⟨m, o, es, ep, ho, hd, _⟩ := r.fr
  refine ⟨C.fn, o, h3, ?_, ho, fun vs e => by rw [hd] at e; (injection e; done)⟩
  cases hq : base.get? C.fn with
  | none => rfl
  | some o' =>
   have h7 : @LT.lt Nat _ C.fn C.h₀.objs.size := Heap.lt_size (h5 _ _ hq)
   have h8 : @LE.le Nat _ C.h₀.objs.size C.fn := r.above
   omega
 ·obtain ⟨g1, L, g2, g3, g4⟩ := h6 e he
  refine cps fun G hG => ?_
  obtain ⟨⟨o, g5, _, g6, _⟩, _⟩ := r.hid L g4
  refine hG ?_; clear hG
  exact ⟨g1, L, o, g2, g3, g5, g6⟩
 ·intro b hb
  rw [List.filterMap_cons, h3] at hb
  rcases List.mem_cons.mp hb with rfl | hb
  ·exact .inl rfl
  ·obtain ⟨e, he, hf⟩ := List.mem_filterMap.mp hb
   obtain ⟨g1, L, g2, g3, g4⟩ := h6 e he
   rw [hf] at g2; (injection g2 with g2; subst g2)
   exact .inr g4
theorem Book.slots {ex : Addr → Prop} {h h' : Heap} {l : List Addr} (x : Heap.SlotsOnly l h h') (hl : ∀ b ∈ l, b = C.fn ∨ C.hid b) : Book C ex h h' := by
 intro b o e
 by_cases hb : b ∈ l
 ·obtain ⟨sl, e'⟩ := x.2.2 b o e
  exact ⟨_, e', .inr (.inl ⟨hl b hb, sl, rfl⟩)⟩
 ·exact ⟨o, (x.2.1 b hb).trans e, .inl rfl⟩
theorem Book.setField {ex : Addr → Prop} {h : Heap} {a : Addr} {o : Obj} {vs : Array Value} (f : Array Value → Array Value) (e : h.get? a = some o) (hd : o.data = .fields vs) (ha : ex a) : Book C ex h (h.update a (Obj.mapFields f)) := by
 intro b ob eb
 by_cases hb : b = a
 ·subst hb
  rw [e] at eb; (injection eb with eb; subst eb)
  have hd' := Obj.data_mapFields hd f
  exact ⟨_, Heap.get?_update_self _ e (Obj.isFreed_of_fields hd'), .inr (.inr ⟨ha, ⟨_, hd⟩, ⟨_, hd'⟩⟩)⟩
 ·exact ⟨ob, (Heap.get?_update_other _ _ (Ne.symm hb)).trans eb, .inl rfl⟩
end
end
section
section
variable {M : Model} {A : Around} {E : Value → Shared → Prop} {s : Shared} {X : String} {ex : Addr → Prop} {C : Cx} {e : Addr} {ctx : Value}
theorem note_held {env : Env} {L : Addr} {Q : Unit → Shared → Prop} (hf : env.frame = some L) (x : ExcAt X ex s.heap e ctx (some (rawInt L))) (h : Q () s) : wpAny M A (noteFrame (.ref e) env) Q E s := by
 refine cps fun G hG => ?_
 obtain ⟨oe, vs, he, _, hd, _, _, T, oT, ts, h1, _, hT, hdT, h3, _⟩ := x
 refine hG ?_; clear hG
 exact wpAny_noteFrame_inFlight hf he hd h1 hT hdT h3 h
theorem set_flight {fl : Value} {fr : Option Addr} {Q : Unit → Shared → Prop} (x : ExcAt X ex s.heap e ctx (some fl))
  (h : ∀ h', Book C ex s.heap h' → ExcAt X ex h' e ctx (some (fr.elim .none fun f => rawInt f)) → Q () { s with heap := h' }) : wpAny M A (setFlight (.ref e) fr) Q E s := by
 refine cps fun G hG => ?_
 obtain ⟨oe, vs, he, hc, hd, h2, hxe, T, oT, ts, h1, hTe, hT, hdT, h3, hxT⟩ := x
 have hsz : 3 < ts.size := (Array.getElem?_eq_some_iff.mp h3).1
 refine hG ?_; clear hG
 unfold setFlight
 refine wpAny_bind (wpAny_field he hd h1 ?_)
 rw [if_pos (show (Value.ref T != Value.none) = true from by simp)]
 refine wpAny_setField hT hdT hsz (h _ (Book.setField _ hT hdT hxT) ?_)
 have hd' := Obj.data_mapFields hdT (·.setIfInBounds 3 (fr.elim Value.none fun f => rawInt f))
 exact ⟨oe, vs, (Heap.get?_update_other _ _ hTe).trans he, hc, hd, h2, hxe, T, _, _, h1, hTe, Heap.get?_update_self _ hT (Obj.isFreed_of_fields hd'), hd', by simp [hsz], hxT⟩
theorem came_back {env : Env} {L : Addr} {fl : Value} (hf : env.frame = some L) (x : ExcAt X ex s.heap e ctx (some fl))
  (h : ∀ h', Book C ex s.heap h' → ExcAt X ex h' e ctx (some (rawInt L)) → E (.ref e) { s with heap := h' }) : cameBackBy M A env E (.ref e) s := by
 refine cps fun G hG => ?_
 obtain ⟨oe, vs, he, hc, hd, h2, hxe, T, oT, ts, h1, r⟩ := id x
 refine hG ?_; clear hG
 unfold cameBackBy
 refine wpAny_bind (wpAny_field he hd h1 ?_)
 rw [if_neg (show ¬ ((Value.ref T == Value.none) = true) from by simp)]
 refine set_flight (C := C) (fr := env.frame) x fun h' b x' => ?_
 rw [hf] at x'
 exact h h' b x'
theorem pass_on {α : Type} {env : Env} {L : Addr} {fl : Value} {what : String} {Q : α → Shared → Prop} (hf : env.frame = some L) (x : ExcAt X ex s.heap e ctx (some fl))
  (h : ∀ h', Book C ex s.heap h' → ExcAt X ex h' e ctx (some (rawInt L)) → E (.ref e) { s with heap := h' }) : wpAny M A (PySem.passOn what (.ref e) env : Sem α) Q E s := by
 refine cps fun G hG => ?_
 obtain ⟨oe, vs, he, hc, hd, h2, hxe, T, oT, ts, h1, r⟩ := id x
 refine hG ?_; clear hG
 unfold PySem.passOn
 refine wpAny_bind (wpAny_field he hd h1 ?_)
 rw [if_neg (show ¬ ((Value.ref T == Value.none) = true) from by simp)]
 refine wpAny_bind (set_flight (C := C) (fr := env.frame) x fun h' b x' => ?_)
 rw [hf] at x'
 exact wpAny_throw (h h' b x')
end
section
variable {prog : Program} {w : World} {A : Around} {C : Cx} {fv : FV} {E : Value → Shared → Prop} {s : Shared} {X : String} {ex : Addr → Prop} {e : Addr} {ctx : Value}
theorem note_fresh {φ : List (Option Addr)} {st : MSt} {Q : Unit → Shared → Prop} (cx : CtxX A C fv) (r : R prog w C fv φ st s.heap) (x : ExcAt X ex s.heap e ctx none) (hex : ∀ b, s.heap.get? b = none → ex b)
  (h : ∀ h', Book C ex s.heap h' → ExcAt X ex h' e ctx (some (rawInt C.fn)) → Q () { s with heap := h' }) : wpAny (model prog w) A (noteFrame (.ref e) fv.env) Q E s := by
 refine cps fun G hG => ?_
 obtain ⟨base, outer, hfr, hl, hmem⟩ := cx.frames r
 have hf : fv.env.frame = some C.fn := by obtain ⟨_, _, _, _, hf, _⟩ := cx; exact hf
 obtain ⟨oe, vs, he, hc, hd, h2, hxe, h1⟩ := x
 have hsz : 1 < vs.size := (Array.getElem?_eq_some_iff.mp h1).1
 have hene : e ∉ (fv.env :: outer).filterMap (·.frame) := fun hm => by
  obtain ⟨_, o, ho, hnf⟩ := hl.mem hm
  rw [he] at ho; (injection ho with ho; subst ho); exact hnf vs hd
 refine hG ?_; clear hG
 unfold noteFrame
 simp only [hf]
 refine wpAny_bind (wpAny_field he hd h1 ?_)
 rw [if_neg (by decide)]
 refine wpAny_bind (wpAny_frameOf_fun hfr hl hf fun h₁ hs₁ => ?_)
 refine wpAny_bind (wpAny_entryPlaceOf fun pl hpl => ?_)
 unfold EntryCells.newEntry newFields
 refine wpAny_bind (wpAny_newObj_type ?_ (hpl.sizeOk5 _ _ _ _ _))
 have he₁ : h₁.get? e = some oe := (hs₁.2.1 e hene).trans he
 have b₁ : Book C ex s.heap h₁ := Book.slots hs₁ hmem
 have hTn : s.heap.get? h₁.objs.size = none := by
  cases q : s.heap.get? h₁.objs.size with
  | none => rfl
  | some o => obtain ⟨sl, q'⟩ := hs₁.2.2 _ _ q; exact absurd (Heap.lt_size q') (Nat.lt_irrefl _)
 generalize hTo : ({ cls := .type "traceback", dict := none, data := .fields ([Value.none, .ref C.fn, .none, rawInt C.fn, .none] ++ (if pl.isEmpty then List.replicate 6 Value.none else pl)).toArray } : Obj) = oT
 have hTd : oT.data = .fields ([Value.none, .ref C.fn, .none, rawInt C.fn, .none] ++ (if pl.isEmpty then List.replicate 6 Value.none else pl)).toArray := by rw [← hTo]
 have hTf : oT.isFreed = false := Obj.isFreed_of_fields hTd
 have hTe : h₁.objs.size ≠ e := Nat.ne_of_gt (Heap.lt_size he₁)
 have he₂ := Heap.get?_push_of_some (h := h₁) oT he₁
 have hT₂ : (h₁.push oT).get? h₁.objs.size = some oT := Heap.get?_push_size h₁ hTf
 refine wpAny_setField he₂ hd hsz (h _ ((b₁.trans (Book.of_stays fun b o q => Heap.get?_push_of_some _ q)).trans (Book.setField _ he₂ hd hxe)) ?_)
 have hd₃ := Obj.data_mapFields hd (·.setIfInBounds 1 (Value.ref h₁.objs.size))
 refine ⟨_, _, Heap.get?_update_self _ he₂ (Obj.isFreed_of_fields hd₃), by rw [Obj.cls_mapFields]; exact hc, hd₃, by rw [Array.getElem?_setIfInBounds_ne (by decide)]; exact h2, hxe, h₁.objs.size, oT, _, by simp [hsz], hTe, (Heap.get?_update_other _ _ (Ne.symm hTe)).trans hT₂, hTd, by simp, hex _ hTn⟩
noncomputable def HOk (A : Around) (φ : List (Option Addr)) (h : Heap) : Prop := ∀ v, A.handled = some v → ∃ a oe vs, v = .ref a ∧ some a ∉ φ ∧ h.get? a = some oe ∧ oe.data = .fields vs ∧ vs[2]? = some .none
theorem HOk.of_none {φ : List (Option Addr)} {h : Heap} (hh : A.handled = none) : HOk A φ h := fun v e => by exact (ng hh e).elim
theorem HOk.step {φ φ' : List (Option Addr)} {st : MSt} {h h' : Heap} (x : HOk A φ h) (r : R prog w C fv φ st h) (xt : Ext φ φ' h) (k : Eff C fv φ h h') : HOk A φ' h' := by
 intro v e
 refine cps fun G hG => ?_
 obtain ⟨a, oe, vs, h1, h2, h3, h4, h5⟩ := x v e
 refine hG ?_; clear hG
 refine ⟨a, oe, vs, h1, fun hm => ?_, k a oe h3 h2 ?_ ?_ ?_, h4, h5⟩
 ·rcases xt.mem a hm with q | q
  ·exact h2 q
  ·exact (ng q h3).elim
 ·rintro rfl
  obtain ⟨m, o, es, ep, g1, g2, _⟩ := r.loc
  rw [h3] at g1; (injection g1 with g1; subst g1); rw [h4] at g2; (injection g2; done)
 ·rintro x c hc rfl
  refine cps fun G hG => ?_
  obtain ⟨v, o, g1, g2⟩ := r.celIs x a hc
  refine hG ?_; clear hG
  rw [h3] at g1; (injection g1 with g1; subst g1); rw [h4] at g2; (injection g2; done)
 ·intro hh
  refine cps fun G hG => ?_
  obtain ⟨⟨o, g1, _, g3, _⟩, _⟩ := r.hid a hh
  refine hG ?_; clear hG
  rw [h3] at g1; (injection g1 with g1; subst g1); exact g3 _ h4
theorem HOk.stays {φ : List (Option Addr)} {h h' : Heap} (x : HOk A φ h) (k : Stays h h') : HOk A φ h' := fun v e => let ⟨a, oe, vs, h1, h2, h3, h4, h5⟩ := x v e; ⟨a, oe, vs, h1, h2, k _ _ h3, h4, h5⟩
theorem entry_unchain : entryFor table "proto.unchain" = some Builtin.«proto.unchain» := entryFor_of_tree (by kernel_rfl)
theorem plain_unchain : plainId "proto.unchain" = true := by decide +kernel
theorem unchain_none {a b : Addr} {oa : Obj} {va : Array Value} {Q : Value → Shared → Prop} (ha : s.heap.get? a = some oa) (hd : oa.data = .fields va) (h2 : va[2]? = some .none) (h : Q .none s) :
  wpAny (model prog w) A (runValue (.builtin "proto.unchain" ⟨[.ref b, .ref a, .ref a, .bool false], []⟩)) Q E s := by
 refine wpAny_runValue (codeAny_builtin entry_unchain ?_)
 rw [Around.under_plainId plain_unchain _]
 unfold Builtin.«proto.unchain»
 refine wpAny_bind (wpAny_field ha hd h2 ?_)
 rw [if_pos (by rfl)]
 show wpAny _ _ (pure (PySem.Fin.done (.ret .none)) >>= pure) _ _ _
 exact wpAny_bind (wpAny_pure (wpAny_pure h))
theorem raise_new {α : Type} {cls msg : String} {φ : List (Option Addr)} {Q : α → Shared → Prop} (hp : PlainExc cls) (ho : HOk A φ s.heap) (hex : ∀ b, s.heap.get? b = none → ex b)
  (h : ∀ h' tk e ctx, Stays s.heap h' → s.heap.get? e = none → ExcAt cls ex h' e ctx none → (A.handled = none → ctx = .none) → E (.ref e) { s with heap := h', toks := tk }) :
  wpAny (model prog w) A (raiseErrorWords cls msg : Sem α) Q E s := by
 unfold raiseErrorWords
 refine wpAny_bind (wpAny_mkText (wpAny_bind ?_))
 unfold newExc newTuple
 refine wpAny_bind (wpAny_newObj_type ?_)
 refine wpAny_bind (m := firstArgMember _ _) (wpAny_of_eq (a := Value.none) (by simp only [firstArgMember, hp.first]; rfl) ?_)
 rw [hp.own]
 refine wpAny_newObj_type ?_
 generalize hP : s.heap.push { cls := .type "tuple", data := .seq #[Value.str (msg : Str) s.toks] } = P
 generalize hO : ({ cls := .type cls, data := .fields (#[Value.ref s.heap.objs.size, .none, .none, .none, .bool false, .none] ++ #[]) } : Obj) = O
 show wpAny (model prog w) A (raiseNew (.ref P.objs.size) : Sem α) Q E { s with heap := P.push O, toks := s.toks + 1 }
 have hst : Stays s.heap (P.push O) := fun b o q => Heap.get?_push_of_some _ (hP ▸ Heap.get?_push_of_some _ q)
 have hNn : s.heap.get? P.objs.size = none := by
  cases q : s.heap.get? P.objs.size with
  | none => rfl
  | some o =>
   have q' : P.get? P.objs.size = some o := by
    have := Heap.get?_push_of_some (h := s.heap) { cls := .type "tuple", data := .seq #[Value.str (msg : Str) s.toks] } q
    rw [hP] at this; exact this
   exact absurd (Heap.lt_size q') (Nat.lt_irrefl _)
 have hOd : O.data = .fields #[Value.ref s.heap.objs.size, .none, .none, .none, .bool false, .none] := by rw [← hO]; rfl
 have hOc : O.cls = .type cls := by rw [← hO]
 have hOg : (P.push O).get? P.objs.size = some O := Heap.get?_push_size P (Obj.isFreed_of_fields hOd)
 generalize P.push O = H at *
 generalize P.objs.size = N at *
 unfold raiseNew
 refine wpAny_bind (wpAny_handled ?_)
 cases hv : A.handled with
 | none =>
  first
   | refine wpAny_throw ?_
   | refine wpAny_bind (wpAny_pure (wpAny_throw ?_))
  exact h H _ N .none hst hNn ⟨O, _, hOg, hOc, hOd, rfl, hex _ hNn, rfl⟩ fun _ => rfl
 | some v =>
  refine cps fun G hG => ?_
  obtain ⟨a, oa, va, rfl, g2, g3, g4, g5⟩ := ho v hv
  have haN : a ≠ N := fun q => by rw [q, hNn] at g3; (injection g3; done)
  refine hG ?_; clear hG
  dsimp only
  rw [if_pos (show (Value.ref a != Value.ref N) = true from by simpa using haN)]
  refine wpAny_bind (wpAny_holding (unchain_none (hst _ _ g3) g4 g5 ?_))
  have up : wpAny (model prog w) A (PySem.setField (.ref N) 2 (.ref a)) (fun _ s' => wpAny (model prog w) A (throw (.ref N) : Sem α) Q E s') E { s with heap := H, toks := s.toks + 1 } := by
   refine wpAny_setField hOg hOd (by simp) (wpAny_throw ?_)
   have hd' := Obj.data_mapFields hOd (·.setIfInBounds 2 (.ref a))
   refine h _ _ N (.ref a) (fun b o q => (Heap.get?_update_other _ _ (fun q' => by rw [← q', hNn] at q; (injection q; done))).trans (hst b o q)) hNn ?_ fun q => by exact (ng q hv).elim
   exact ⟨_, _, Heap.get?_update_self _ hOg (Obj.isFreed_of_fields hd'), by rw [Obj.cls_mapFields]; exact hOc, hd', rfl, hex _ hNn, rfl⟩
  exact wpAny_bind up
end
end
section
set_option backward.match.sparseCases false
theorem ExcAt.mono {X : String} {ex ex' : Addr → Prop} {h : Heap} {e : Addr} {ctx : Value} {fl : Option Value} (x : ExcAt X ex h e ctx fl) (k : ∀ b, ex b → ex' b) : ExcAt X ex' h e ctx fl := by
 refine cps fun G hG => ?_
 obtain ⟨oe, vs, he, hc, hd, h2, hxe, r⟩ := x
 refine hG ?_; clear hG
 refine ⟨oe, vs, he, hc, hd, h2, k _ hxe, ?_⟩
 cases fl with
 | none => exact r
 | some f => obtain ⟨T, oT, ts, h1, hTe, hT, hdT, h3, hxT⟩ := r; exact ⟨T, oT, ts, h1, hTe, hT, hdT, h3, k _ hxT⟩
noncomputable def Fly (P : Prop) (X : String) (L : Addr) (h1 h' : Heap) (x : Addr) : Prop := ∃ ctx fl, (fl = none ∨ fl = some (rawInt L)) ∧ ExcAt X (fun b => h1.get? b = none) h' x ctx fl ∧ (P → ctx = .none)
theorem Fly.mono {P P' : Prop} {X : String} {L : Addr} {h1 h2 h' : Heap} {x : Addr} (f : Fly P X L h2 h' x) (k : ∀ b, h2.get? b = none → h1.get? b = none) (hP : P' → P) : Fly P' X L h1 h' x := by
 refine cps fun G hG => ?_
 obtain ⟨ctx, fl, h3, h4, h5⟩ := f
 refine hG ?_; clear hG
 exact ⟨ctx, fl, h3, h4.mono k, fun p => h5 (hP p)⟩
section
variable {prog : Program} {w : World} {A : Around} {C : Cx} {fv : FV} {K : Frag} {P : Prop} {X : String}
theorem Ext.live {φ φ' : List (Option Addr)} {st st' : MSt} {h h' : Heap} (x : Ext φ φ' h) (_r : R prog w C fv φ st h) (k : Eff C fv φ h h') (r' : R prog w C fv φ' st' h') : ∀ b, h'.get? b = none → h.get? b = none := by
 intro b hb
 cases e : h.get? b with
 | none => rfl
 | some o =>
  exfalso
  have dead : ∀ o', h'.get? b = some o' → False := fun o' q => by exact (ng hb q).elim
  by_cases h1 : some b ∈ φ
  ·obtain ⟨i, hi⟩ := List.getElem?_of_mem h1
   obtain ⟨o', q⟩ := r'.live b (List.mem_of_getElem? (x.grow i b hi))
   exact dead _ q
  by_cases h2 : b = fv.env.locals
  ·obtain ⟨m, o', _, _, q, _⟩ := r'.loc
   exact dead _ (h2 ▸ q)
  by_cases h3 : ∃ y c, fv.env.cells.lookup y = some c ∧ b = c
  ·obtain ⟨y, c, q1, rfl⟩ := h3
   obtain ⟨v, o', q, _⟩ := r'.celIs y b q1
   exact dead _ q
  by_cases h4 : C.hid b
  ·obtain ⟨⟨o', q, _⟩, _⟩ := r'.hid b h4
   exact dead _ q
  exact dead _ (k b o e h1 h2 (fun y c q1 q2 => h3 ⟨y, c, q1, q2⟩) h4)
theorem stays_live {h h' : Heap} (k : Stays h h') : ∀ b, h'.get? b = none → h.get? b = none := fun b hb => by
 cases e : h.get? b with
 | none => rfl
 | some o => exact (ng hb (k b o e)).elim
theorem note_any {h1 : Heap} {x : Addr} {φ : List (Option Addr)} {st : MSt} {s : Shared} {E : Value → Shared → Prop} {Q : Unit → Shared → Prop} (cx : CtxX A C fv) (r : R prog w C fv φ st s.heap) (f : Fly P X C.fn h1 s.heap x) (k : ∀ b, s.heap.get? b = none → h1.get? b = none)
  (h : ∀ h' ctx, Book C (fun b => h1.get? b = none) s.heap h' → ExcAt X (fun b => h1.get? b = none) h' x ctx (some (rawInt C.fn)) → (P → ctx = .none) → Q () { s with heap := h' }) : wpAny (model prog w) A (noteFrame (.ref x) fv.env) Q E s := by
 refine cps fun G hG => ?_
 obtain ⟨ctx, fl, rfl | rfl, h4, h5⟩ := f
 ·refine hG ?_; clear hG
  exact note_fresh cx r h4 k fun h' b e => h h' ctx b e h5
 ·refine hG ?_; clear hG
  have hf : fv.env.frame = some C.fn := by obtain ⟨_, _, _, _, hf, _⟩ := cx; exact hf
  exact note_held hf h4 (h s.heap ctx (Book.of_stays (Stays.refl _)) h4 h5)
theorem fly_out {A' : Around} {h1 : Heap} {x : Addr} {φ : List (Option Addr)} {st : MSt} {s : Shared} {E : Value → Shared → Prop} (cx : CtxX A C fv) (r : R prog w C fv φ st s.heap) (f : Fly P X C.fn h1 s.heap x) (k : ∀ b, s.heap.get? b = none → h1.get? b = none)
  (h : ∀ h', Book C (fun b => h1.get? b = none) s.heap h' → Fly P X C.fn h1 h' x → E (.ref x) { s with heap := h' }) : notedBy (model prog w) A fv.env (cameBackBy (model prog w) A' fv.env E) (.ref x) s := by
 have hf : fv.env.frame = some C.fn := by obtain ⟨_, _, _, _, hf, _⟩ := cx; exact hf
 refine note_any cx r f k fun h' ctx b e p => ?_
 exact came_back (C := C) (s := { s with heap := h' }) hf e fun h'' b' e' => h h'' (b.trans b') ⟨ctx, _, .inr rfl, e', p⟩
variable (prog w A C fv P X) in
structure SEX (t : Sem Value) (e : MSt → Option (Option MV)) : Prop where
 run : ∀ φ st s v Q E, R prog w C fv φ st s.heap → HOk A φ s.heap → e st = some v →
  (∀ u, v = some u → ∀ h' tk rv, Stays s.heap h' → R prog w C fv φ st h' → VR h' (C.av φ) φ u rv → Q rv { s with heap := h', toks := tk }) →
  (v = none → ∀ h' tk x, Stays s.heap h' → R prog w C fv φ st h' → Fly P X C.fn s.heap h' x → E (.ref x) { s with heap := h', toks := tk }) → wpAny (model prog w) A t Q E s
variable (prog w A C fv P X) in
structure SBX (t : Sem Bool) (e : MSt → Option (Option Bool)) : Prop where
 run : ∀ φ st s v Q E, R prog w C fv φ st s.heap → HOk A φ s.heap → e st = some v →
  (∀ u, v = some u → ∀ h' tk, Stays s.heap h' → R prog w C fv φ st h' → Q u { s with heap := h', toks := tk }) →
  (v = none → ∀ h' tk x, Stays s.heap h' → R prog w C fv φ st h' → Fly P X C.fn s.heap h' x → E (.ref x) { s with heap := h', toks := tk }) → wpAny (model prog w) A t Q E s
variable (prog w A C fv P X) in
structure SX (t : Sem Flow) (m : MSt → Option (Option Out × MSt)) : Prop where
 run : ∀ φ st s o st' Q E, R prog w C fv φ st s.heap → HOk A φ s.heap → m st = some (o, st') →
  (∀ out, o = some out → ∀ φ' h' tk f, R prog w C fv φ' st' h' → Ext φ φ' s.heap → Eff C fv φ s.heap h' → FR h' (C.av φ') φ' out f → Q f { s with heap := h', toks := tk }) →
  (o = none → ∀ φ' h' tk x, R prog w C fv φ' st' h' → Ext φ φ' s.heap → Eff C fv φ s.heap h' → Fly P X C.fn s.heap h' x → E (.ref x) { s with heap := h', toks := tk }) → wpAny (model prog w) A t Q E s
noncomputable def xS (m : MSt → Option (Out × MSt)) : MSt → Option (Option Out × MSt) := fun st => (m st).map fun p => (some p.1, p.2)
theorem SX.of {t : Sem Flow} {m : MSt → Option (Out × MSt)} (hs : SS prog w A C fv t m) : SX prog w A C fv P X t (xS m) := by
 refine ⟨?_⟩
 intro φ st s o st' Q E r _ e h _
 simp only [xS, oM, Prod.mk.injEq] at e
 refine cps fun G hG => ?_
 obtain ⟨⟨p, q⟩, e, rfl, rfl⟩ := e
 refine hG ?_; clear hG
 exact wpAny_mono (hs.run φ st s p q _ r e fun φ' h' tk f r' x' k' f' => h p rfl φ' h' tk f r' x' k' f') (fun _ _ z => z) fun _ _ z => z.elim
noncomputable def xSub (a b : MSt → Option MV) : MSt → Option (Option MV) := fun st => (a st).bind fun x => (b st).bind fun y => match y with
 | .int k => (listOf st x).bind fun l => if 0 ≤ k ∧ k < 100000 then some l[k.toNat]? else none
 | _ => none
theorem getItem_out {l : Addr} {items : Array Value} {k : Int} {t : Tok} {s : Shared} {φ : List (Option Addr)} {Q : Value → Shared → Prop} {E : Value → Shared → Prop} (hl : s.heap.IsList l items) (h0 : 0 ≤ k) (hk : k < 2 ^ 63) (hx : items[k.toNat]? = none)
  (ho : HOk A φ s.heap) (hE : ∀ h' tk e ctx, Stays s.heap h' → s.heap.get? e = none → ExcAt "IndexError" (fun b => s.heap.get? b = none) h' e ctx none → (A.handled = none → ctx = .none) → E (.ref e) { s with heap := h', toks := tk }) :
  wpAny (model prog w) A (getItem (.ref l) (.int k t)) Q E s := by
 refine cps fun G hG => ?_
 obtain ⟨o, hg, hc, ne, hd⟩ := id hl
 refine hG ?_; clear hG
 unfold getItem
 try with_reducible refine wpAny_holding ?_
 first | refine wpAny_bind (wpAny_pure ?_) | skip
 refine wpAny_bind (wpAny_sequenceKey hl.typeIs (by decide) ?_)
 refine wpAny_bind (wpAny_callSpecial?_slot (name := Str.ofString "__getitem__") hl.typeIs slot_list_getitem
  (wpAny_call_entry slot_list_getitem hl.typeIs entry_list_getitem ?_ (args_list_getitem _ _)))
 show wpAny _ _ (Builtin.List.listSubscript? (.int k t) >>= _) _ _ s
 refine wpAny_bind (wpAny_listSubscript_int (fitsIndex_both (by omega) hk) ?_)
 clear hk
 cases k with
 | negSucc j => exact absurd h0 (by have := Int.negSucc_lt_zero j; omega)
 | ofNat j =>
  show wpAny _ _ ((seqItemAt l j >>= fun r => pure (r.map (j, ·))) >>= _) _ _ s
  refine wpAny_bind (wpAny_bind (wpAny_seqItemAt hg hd (wpAny_pure ?_)))
  have hx' : items[j]? = none := hx
  rw [hx']
  first
   | exact wpAny_bind (wpAny_rule (raise_new (A := A.in1) (φ := φ) plainExc_IndexError ho (fun _ z => z) hE))
   | exact wpAny_bind (wpAny_rule (wpAny_bind (raise_new (A := A.in1) (φ := φ) plainExc_IndexError ho (fun _ z => z) hE)))
   | exact wpAny_bind (wpAny_bind (wpAny_rule (raise_new (A := A.in1) (φ := φ) plainExc_IndexError ho (fun _ z => z) hE)))
   | exact wpAny_rule (raise_new (A := A.in1) (φ := φ) plainExc_IndexError ho (fun _ z => z) hE)
end
end
section
set_option backward.match.sparseCases false
section
variable {prog : Program} {w : World} {A : Around} {C : Cx} {fv : FV} {K : Frag} {P : Prop} {X : String}
theorem SEX.sub {value slice : Expr} {pos : Pos} {env : Env} {a b : MSt → Option MV} (hP : P → A.handled = none) (ha : SE prog w A C fv (eval value env) a) (hb : SE prog w A C fv (eval slice env) b) (hs : PlainSlice slice := by intro _ _; rfl) :
  SEX prog w A C fv P "IndexError" (eval (.Subscript value slice pos) env) (xSub a b) := by
 refine ⟨?_⟩
 intro φ st s v Q E r ho e h hE
 simp only [xSub, oI] at e
 refine cps fun G hG => ?_
 obtain ⟨x, ex, y, ey, e⟩ := e
 refine hG ?_; clear hG
 refine Subscript_ (wpAny_mono (ha.run φ st s x (fun v1 s1 => wpAny (model prog w) A (eval slice env) (fun v2 s2 => wpAny (model prog w) A (subscriptTail value slice v1 v2) Q E s2) E s1) r ex fun h1 t1 v1 k1 r1 q1 => ?_) (fun _ _ z => z) fun _ _ z => z.elim)
 refine wpAny_mono (hb.run φ st _ y (fun v2 s2 => wpAny (model prog w) A (subscriptTail value slice v1 v2) Q E s2) r1 ey fun h2 t2 v2 k2 r2 q2 => ?_) (fun _ _ z => z) fun _ _ z => z.elim
 have q1' := q1.stays k2
 refine cps fun G hG => ?_
 cases y <;> simp only [reduceCtorEq] at e
 rename_i k
 simp only [oI] at e
 obtain ⟨l, el, e⟩ := e
 split at e
 case isFalse => (injection e; done)
 rename_i hk
 (injection e with e; subst e)
 obtain ⟨u, rfl⟩ := vr_int_inv q2
 obtain ⟨c, items, rfl, hl, hi⟩ := listOf_real r2 q1' el
 refine hG ?_; clear hG
 refine tail_any (T := "list") hl.typeIs slot_list_getitem.lookup ?_ (hs _ _)
 cases hq : l[k.toNat]? with
 | some y =>
  rw [hq] at h
  refine cps fun G hG => ?_
  obtain ⟨u', hu, hv⟩ := hi.get _ _ hq
  refine hG ?_; clear hG
  exact wpAny_getItem_list hl hk.1 (by omega) (by simpa using hu) (h y rfl h2 _ u' (k1.trans k2) r2 hv)
 | none =>
  rw [hq] at hE
  have hn : items.toArray[k.toNat]? = none := by
   have h3 := List.getElem?_eq_none_iff.mp hq
   have h4 := hi.length
   simp; omega
  refine getItem_out (φ := φ) hl hk.1 (by omega) hn ((ho.stays k1).stays k2) fun h' tk x ctx k3 hx xc hc => ?_
  have k := (k1.trans k2).trans k3
  exact hE rfl h' tk x k (r2.stays k3) ⟨ctx, none, .inl rfl, xc.mono fun b hb => stays_live (k1.trans k2) b hb, fun p => hc (hP p)⟩
noncomputable def xB2 (f : MV → MV → Option MV) (a : MSt → Option (Option MV)) (b : MSt → Option MV) : MSt → Option (Option Bool) := fun st => (a st).bind fun x => match x with
 | none => some none
 | some x => (b st).bind fun y => (f x y).bind fun z => (asBool z).map some
theorem SBX.cmp {l r : Expr} {op : CmpOp} {pos : Pos} {env : Env} {whole : Sem Value} {f : MV → MV → Option MV} {a : MSt → Option (Option MV)} {b : MSt → Option MV} (hf : Op2 A (compareOp op) f prog w) (ha : SEX prog w A C fv P X (eval l env) a) (hb : SE prog w A C fv (eval r env) b)
  (hm : behindInMarks op r = false := by with_unfolding_all rfl) : SBX prog w A C fv P X (isTrue (.Compare l [op] [r] pos) env whole) (xB2 f a b) := by
 refine ⟨?_⟩
 intro φ st s v Q E rr ho e h hE
 simp only [xB2, oI] at e
 obtain ⟨x, ex, e⟩ := e
 refine wpAny_isTrue_Compare1 (ha.run φ st s x _ _ rr ho ex (fun x1 hx1 h1 t1 v1 k1 r1 q1 => ?_) fun hx1 h1 t1 v1 k1 r1 q1 => ?_) hm
 ·subst hx1
  simp only [oI, oM] at e
  refine cps fun G hG => ?_
  obtain ⟨y, ey, z, ef, bz, ez, rfl⟩ := e
  cases z <;> simp only [asBool, reduceCtorEq] at ez
  (injection ez with ez; subst ez)
  refine hG ?_; clear hG
  refine wpAny_mono (hb.run φ st _ y _ r1 ey fun h2 t2 v2 k2 r2 q2 => ?_) (fun _ _ z => z) fun _ _ z => z.elim
  refine wpAny_mono (hf _ _ _ x1 y _ v1 v2 _ ef (q1.stays k2) q2 fun h3 t3 v3 k3 q3 => ?_) (fun _ _ z => z) fun _ _ z => z.elim
  obtain rfl := vr_bool_inv q3
  exact wpAny_truthy_bool (h _ rfl h3 t3 ((k1.trans k2).trans k3) (r2.stays k3))
 ·subst hx1
  (injection e with e; subst e)
  exact hE rfl h1 t1 v1 k1 r1 q1
noncomputable def xSeq (a b : MSt → Option (Option Out × MSt)) : MSt → Option (Option Out × MSt) := fun st => (a st).bind fun p => match p.1 with
 | some .next => b p.2
 | o => some (o, p.2)
theorem SX.cons {x : Stmt} {rest : List Stmt} {env : Env} {a b : MSt → Option (Option Out × MSt)} (ha : SX prog w A C fv P X (exec x env) a) (hb : SX prog w A C fv P X (execs rest env) b) : SX prog w A C fv P X (execs (x :: rest) env) (xSeq a b) := by
 refine ⟨?_⟩
 intro φ st s o st' Q E r ho e h hE
 simp only [xSeq, oI] at e
 obtain ⟨⟨p, st1⟩, e1, e⟩ := e
 refine wpAny_execs_cons (ha.run φ st s p st1 _ _ r ho e1 (fun p1 hp1 φ1 h1 t1 f1 r1 x1 k1 q1 => ?_) fun hp1 φ1 h1 t1 x r1 x1 k1 q1 => ?_)
 ·subst hp1
  cases p1 with
  | next =>
   simp only [FR] at q1
   subst q1
   refine hb.run φ1 st1 _ o st' _ _ r1 (ho.step r x1 k1) e (fun out hout φ2 h2 t2 f2 r2 x2 k2 q2 => h out hout φ2 h2 t2 f2 r2 (x1.trans k1 r1 x2) (k1.trans x1 k2) q2) fun ho' φ2 h2 t2 x r2 x2 k2 q2 => ?_
   exact hE ho' φ2 h2 t2 x r2 (x1.trans k1 r1 x2) (k1.trans x1 k2) (q2.mono (x1.live r k1 r1) id)
  | brk => (injection e with e; injection e with e Y9; subst e Y9); simp only [FR] at q1; subst q1; exact h _ rfl _ _ _ _ r1 x1 k1 rfl
  | cont => (injection e with e; injection e with e Y9; subst e Y9); simp only [FR] at q1; subst q1; exact h _ rfl _ _ _ _ r1 x1 k1 rfl
  | ret v => (injection e with e; injection e with e Y9; subst e Y9); obtain ⟨rv, rfl, q⟩ := q1; exact h _ rfl _ _ _ _ r1 x1 k1 ⟨rv, rfl, q⟩
 ·subst hp1
  (injection e with e; injection e with e Y9; subst e Y9)
  exact hE rfl φ1 h1 t1 x r1 x1 k1 q1
noncomputable def xIf (c : MSt → Option Bool) (a b : MSt → Option (Option Out × MSt)) : MSt → Option (Option Out × MSt) := fun st => (c st).bind fun x => if x then a st else b st
theorem SX.ifs {t : Expr} {body orelse : List Stmt} {pos : Pos} {env : Env} {c : MSt → Option Bool} {a b : MSt → Option (Option Out × MSt)} (hc : SB prog w A C fv (isTrue t env (eval t env)) c) (ha : SX prog w A C fv P X (execs body env) a)
  (hb : SX prog w A C fv P X (execs orelse env) b) : SX prog w A C fv P X (exec (.If t body orelse pos) env) (xIf c a b) := by
 refine ⟨?_⟩
 intro φ st s o st' Q E r ho e h hE
 simp only [xIf, oI] at e
 obtain ⟨x, ex, e⟩ := e
 refine wpAny_If (wpAny_mono (hc.run φ st s x _ r ex fun h1 t1 k1 r1 => ?_) (fun _ _ z => z) fun _ _ z => z.elim)
 cases x
 ·exact hb.run φ st _ o st' _ _ r1 (ho.stays k1) e (fun out hout φ2 h2 t2 f2 r2 x2 k2 q2 => h out hout φ2 h2 t2 f2 r2 (x2.stays k1) ((Eff.of_stays k1).trans (Ext.refl _ _) k2) q2) fun hout φ2 h2 t2 x r2 x2 k2 q2 => hE hout φ2 h2 t2 x r2 (x2.stays k1) ((Eff.of_stays k1).trans (Ext.refl _ _) k2) (q2.mono (stays_live k1) id)
 ·exact ha.run φ st _ o st' _ _ r1 (ho.stays k1) e (fun out hout φ2 h2 t2 f2 r2 x2 k2 q2 => h out hout φ2 h2 t2 f2 r2 (x2.stays k1) ((Eff.of_stays k1).trans (Ext.refl _ _) k2) q2) fun hout φ2 h2 t2 x r2 x2 k2 q2 => hE hout φ2 h2 t2 x r2 (x2.stays k1) ((Eff.of_stays k1).trans (Ext.refl _ _) k2) (q2.mono (stays_live k1) id)
noncomputable def xAssign (e : MSt → Option (Option MV)) (k : Nat) : MSt → Option (Option Out × MSt) := fun st => (e st).map fun v => match v with
 | some v => (some .next, st.set k v)
 | none => (none, st)
theorem SX.assign {x : Str} {k : Nat} {pp pos : Pos} {value : Expr} {e : MSt → Option (Option MV)} (he : SEX prog w A C fv P X (eval value fv.env) e) (hm : (x, k) ∈ fv.vars) (hv : VarsOk fv.vars = true) (hk : fv.env.scope.kind = .function)
  (hx : fv.env.kindOf x = some .local ∨ fv.env.kindOf x = some .cell) (hs : swapsWith value (some (.Name x pp)) pos.line fv.env = pure false := by rfl) : SX prog w A C fv P X (exec (.Assign [.Name x pp] value pos) fv.env) (xAssign e k) := by
 refine ⟨?_⟩
 intro φ st s o st' Q E r ho ev h hE
 simp only [xAssign, oM] at ev
 obtain ⟨v, e1, ev⟩ := ev
 refine wpAny_Assign_Name (he.run φ st s v _ _ r ho e1 (fun u hu h1 t1 v1 k1 r1 q1 => ?_) fun hu h1 t1 x k1 r1 q1 => ?_) hs
 ·subst hu
  cases ev
  exact wpAny_mono ((sa_store hm hv hk hx).run φ st _ u v1 _ _ r1 rfl q1 fun h2 t2 r2 k2 => h _ rfl φ h2 t2 _ r2 (Ext.refl _ _) ((Eff.of_stays k1).trans (Ext.refl _ _) k2) rfl) (fun _ _ z => z) fun _ _ z => z.elim
 ·subst hu
  cases ev
  exact hE rfl φ h1 t1 x r1 (Ext.refl _ _) (Eff.of_stays k1) q1
end
end
section
set_option backward.match.sparseCases false
section
variable {prog : Program} {w : World} {A : Around} {C : Cx} {fv : FV} {K : Frag} {P : Prop} {X : String}
theorem R.after {φ : List (Option Addr)} {st st1 : MSt} {φ1 : List (Option Addr)} {h1 h h' : Heap} (r : R prog w C fv φ st h) (r1 : R prog w C fv φ1 st1 h1) (b : Book C (fun b => h1.get? b = none) h h') : R prog w C fv φ st h' := r.book b fun _ hb => r1.absent hb
noncomputable def xmwhile (c : MSt → Option (Option Bool)) (body : MSt → Option (Option Out × MSt)) : Nat → MSt → Option (Option Out × MSt)
 | 0, _ => none
 | n + 1, st => (c st).bind fun x => match x with
  | none => some (none, st)
  | some false => some (some .next, st)
  | some true => (body st).bind fun p => match p.1 with
   | none => some (none, p.2)
   | some .next => xmwhile c body n p.2
   | some .cont => xmwhile c body n p.2
   | some .brk => some (some .next, p.2)
   | some (.ret v) => some (some (.ret v), p.2)
noncomputable def xWhile (c : MSt → Option (Option Bool)) (body : MSt → Option (Option Out × MSt)) : MSt → Option (Option Out × MSt) := xmwhile c body 100
noncomputable def outEX (X : Option (Option Out × MSt)) (st6 : MSt) (r : Option (Option Out × MSt)) : Out → Prop
 | .next => X = r
 | .cont => X = r
 | .brk => some (some .next, st6) = r
 | .ret v => some (some (.ret v), st6) = r
theorem loop_outX {h : Heap} {W : Addr → Prop} {φ : List (Option Addr)} {o : Option Out} {p : Out} {f : Flow} {st6 st' : MSt} {X : Option (Option Out × MSt)} {N : Prop} {B : Flow → Prop} (q : FR h W φ p f) (em : outEX X st6 (some (o, st')) p) (hN : X = some (o, st') → N)
  (hB : ∀ out g, o = some out → FR h W φ out g → st6 = st' → B g) : outP N B f := by
 cases p with
 | next => subst q; exact hN em
 | cont => subst q; exact hN em
 | brk => subst q; injection em with em; injection em with em e2; exact hB _ _ em.symm rfl e2
 | ret v => obtain ⟨ru, rfl, qu⟩ := q; injection em with em; injection em with em e2; exact hB _ _ em.symm ⟨ru, rfl, qu⟩ e2
theorem SX.while {test : Expr} {body : List Stmt} {pos : Pos} {c : MSt → Option (Option Bool)} {mb : MSt → Option (Option Out × MSt)} (cx : CtxX A C fv) (hc : SBX prog w A C fv P X (isTrue test fv.env (eval test fv.env)) c) (hb : SX prog w A C fv P X (execs body fv.env) mb) :
  SX prog w A C fv P X (exec (.While test body [] pos) fv.env) (xWhile c mb) := by
 have hl : fv.env.locals = C.fn := cx.parts.2.2.1
 refine ⟨?_⟩
 intro φ st s o st' Q E r ho ev h hE
 let J : Nat → MSt → Prop := fun k st1 => xmwhile c mb k st1 = some (o, st')
 refine wpAny_While (codeAny_whileLoop (WInv prog w C fv s φ J) ?_ 100
  ⟨⟨s.heap, s.toks, φ, st, 0⟩, rfl, r, Ext.refl _ _, Eff.of_stays (Stays.refl _), ev⟩)
 have out : ∀ φ2 st2 h2 tk2 x, R prog w C fv φ2 st2 h2 → Ext φ φ2 s.heap → Eff C fv φ s.heap h2 → Fly P X C.fn s.heap h2 x → (o, st') = (none, st2) →
   notedBy (model prog w) A fv.env (cameBackBy (model prog w) A fv.env E) (.ref x) { s with heap := h2, toks := tk2 } := by
  intro φ2 st2 h2 tk2 x r2 x2 k2 f2 eo
  injection eo with e9 e10
  subst e10
  refine fly_out (s := { s with heap := h2, toks := tk2 }) cx r2 f2 (x2.live r k2 r2) fun h3 b3 f3 => ?_
  exact hE e9 φ2 h3 tk2 x (r2.after r b3) x2 (k2.book b3 (fun _ z => z) hl) f3
 intro k s' hX
 refine cps fun G hG => ?_
 obtain ⟨⟨h1, tk1, φ1, st1, i⟩, es, ⟨r1, x1, e1, em0⟩⟩ := hX
 dsimp only at r1 x1 e1 es
 have em : xmwhile c mb k st1 = some (o, st') := em0
 clear em0
 cases k with
 | zero => simp [xmwhile] at em
 | succ k =>
  simp only [xmwhile, oI] at em
  obtain ⟨b, eb, em⟩ := em
  refine hG ?_; clear hG
  subst es
  refine hc.run φ1 st1 _ b _ _ r1 (ho.step r x1 e1) eb (fun u hu h2 tk2 k2 r2 => ?_) fun hu h2 tk2 x k2 r2 f2 => ?_
  ·subst hu
   have x2 : Ext φ1 φ1 h1 := Ext.refl _ _
   have e2 : Eff C fv φ s.heap h2 := e1.trans x1 (Eff.of_stays k2)
   cases u with
   | false =>
    simp only [Bool.false_eq_true, if_false] at em ⊢
    injection em with e8; injection e8 with e9 e10; subst e10
    exact wpAny_execs_nil (h _ e9.symm φ1 h2 tk2 _ r2 x1 e2 rfl)
   | true =>
    simp only [if_true, oI] at em ⊢
    refine cps fun G hG => ?_
    obtain ⟨⟨p, st3⟩, e3, em⟩ := em
    refine hG ?_; clear hG
    refine hb.run φ1 st1 _ p st3 (fun f s₃ => outP (∃ m, m < k + 1 ∧ WInv prog w C fv s φ J m s₃) (fun g => Q g s₃) f) _ r2 (ho.step r x1 e2) e3 (fun p1 hp1 φ6 h6 tk6 f r6 x6 k6 q6 => ?_) fun hp1 φ6 h6 tk6 x r6 x6 k6 f6 => ?_
    ·subst hp1
     have x7 : Ext φ φ6 s.heap := x1.trans e2 r2 x6
     have e7 : Eff C fv φ s.heap h6 := e2.trans x1 k6
     exact loop_outX q6 (X := xmwhile c mb k st3) (st6 := st3) (by cases p1 <;> exact em) (fun em => ⟨k, Nat.lt_succ_self _, ⟨h6, tk6, φ6, st3, 0⟩, rfl, r6, x7, e7, em⟩) fun out g eo qg e => h out eo φ6 h6 tk6 g (e ▸ r6) x7 e7 qg
    ·subst hp1
     have x7 : Ext φ φ6 s.heap := x1.trans e2 r2 x6
     have e7 : Eff C fv φ s.heap h6 := e2.trans x1 k6
     exact out φ6 st3 h6 tk6 x r6 x7 e7 (f6.mono (x1.live r e2 r2) id) (Option.some.inj em).symm
  ·subst hu
   exact out φ1 st1 h2 tk2 x r2 x1 (e1.trans x1 (Eff.of_stays k2)) (f2.mono (x1.live r e1 r1) id) (Option.some.inj em).symm
theorem Eff.fields {φ : List (Option Addr)} {st : MSt} {h h' : Heap} (k : Eff C fv φ h h') (r : R prog w C fv φ st h) {a : Addr} {o : Obj} {vs : Array Value} (e : h.get? a = some o) (hd : o.data = .fields vs) : h'.get? a = some o := by
 refine k a o e (r.notMem e hd) ?_ ?_ ?_
 ·rintro rfl
  obtain ⟨m, o', es, ep, g1, g2, _⟩ := r.loc
  rw [e] at g1; (injection g1 with g1; subst g1); rw [hd] at g2; (injection g2; done)
 ·rintro x c hc rfl
  obtain ⟨v, o', g1, g2⟩ := r.celIs x a hc
  rw [e] at g1; (injection g1 with g1; subst g1); rw [hd] at g2; (injection g2; done)
 ·intro hh
  obtain ⟨⟨o', g1, _, g3, _⟩, _⟩ := r.hid a hh
  rw [e] at g1; (injection g1 with g1; subst g1); exact g3 _ hd
theorem Eff.exc {φ : List (Option Addr)} {st : MSt} {h h' : Heap} {ex : Addr → Prop} {e : Addr} {ctx : Value} {fl : Option Value} (k : Eff C fv φ h h') (r : R prog w C fv φ st h) (x : ExcAt X ex h e ctx fl) : ExcAt X ex h' e ctx fl := by
 refine cps fun G hG => ?_
 obtain ⟨oe, vs, he, hc, hd, h2, hxe, rest⟩ := x
 refine hG ?_; clear hG
 refine ⟨oe, vs, k.fields r he hd, hc, hd, h2, hxe, ?_⟩
 cases fl with
 | none => exact rest
 | some f => obtain ⟨T, oT, ts, h1, hTe, hT, hdT, h3, hxT⟩ := rest; exact ⟨T, oT, ts, h1, hTe, k.fields r hT hdT, hdT, h3, hxT⟩
noncomputable def xTryFin (body fin : MSt → Option (Option Out × MSt)) : MSt → Option (Option Out × MSt) := fun st => (body st).bind fun p => match p.1 with
 | some .next => (fin p.2).bind fun q => match q.1 with
  | some .next => some (some .next, q.2)
  | none => some (none, q.2)
  | _ => none
 | none => (fin p.2).bind fun q => match q.1 with
  | some .next => some (none, q.2)
  | none => some (none, q.2)
  | _ => none
 | _ => none
theorem SX.tryFin {body : List Stmt} {f₀ : Stmt} {fs : List Stmt} {pos : Pos} {mb mf : MSt → Option (Option Out × MSt)} (cx : CtxX A C fv) (hh : A.handled = none) (hb : SX prog w A C fv True X (execs body fv.env) mb)
  (hf : ∀ v, SX prog w (A.mark v) C fv False X (execs (f₀ :: fs) fv.env) mf) : SX prog w A C fv False X (exec (.Try body [] [] (f₀ :: fs) pos) fv.env) (xTryFin mb mf) := by
 have hl : fv.env.locals = C.fn := cx.parts.2.2.1
 have hfr : fv.env.frame = some C.fn := by obtain ⟨_, _, _, _, hf, _⟩ := cx; exact hf
 have hf0 : SX prog w A C fv False X (execs (f₀ :: fs) fv.env) mf := by have := hf none; rwa [Around.mark_none] at this
 refine ⟨?_⟩
 intro φ st s o st' Q E r ho ev h hE
 simp only [xTryFin, oI] at ev
 refine cps fun G hG => ?_
 obtain ⟨⟨p, st1⟩, e1, ev⟩ := ev
 refine hG ?_; clear hG
 refine wpAny_Try_finally (hb.run φ st s p st1 _ _ r ho e1 (fun p1 hp1 φ1 h1 t1 f1 r1 x1 k1 q1 => ?_) fun hp1 φ1 h1 t1 x r1 x1 k1 q1 => ?_)
 ·subst hp1
  refine cps fun G hG => ?_
  cases p1 <;> simp only [reduceCtorEq, oI] at ev
  refine hG ?_; clear hG
  simp only [FR] at q1; subst q1
  obtain ⟨⟨q, st2⟩, e2, ev⟩ := ev
  refine wpAny_execs_nil ?_
  refine hf0.run φ1 st1 _ q st2 _ _ r1 (HOk.of_none hh) e2 (fun q1 hq1 φ2 h2 t2 f2 r2 x2 k2 g2 => ?_) fun hq1 φ2 h2 t2 x r2 x2 k2 g2 => ?_
  ·subst hq1
   refine cps fun G hG => ?_
   cases q1 <;> simp only [reduceCtorEq, Option.some.injEq, Prod.mk.injEq] at ev
   obtain ⟨rfl, rfl⟩ := ev
   refine hG ?_; clear hG
   simp only [FR] at g2; subst g2
   exact h _ rfl φ2 h2 t2 _ r2 (x1.trans k1 r1 x2) (k1.trans x1 k2) rfl
  ·subst hq1
   (injection ev with ev; injection ev with ev Y9; subst ev Y9)
   have x3 := x1.trans k1 r1 x2
   have k3 := k1.trans x1 k2
   refine fly_out (s := { s with heap := h2, toks := t2 }) cx r2 (g2.mono (x1.live r k1 r1) id) (x3.live r k3 r2) fun h3 b3 f3 => ?_
   exact hE rfl φ2 h3 t2 x (r2.after r b3) x3 (k3.book b3 (fun _ z => z) hl) f3
 ·subst hp1
  simp only [oI] at ev
  refine cps fun G hG => ?_
  obtain ⟨⟨q, st2⟩, e2, ev⟩ := ev
  refine hG ?_; clear hG
  refine note_any (s := { s with heap := h1, toks := t1 }) cx r1 q1 (x1.live r k1 r1) fun h2 ctx b2 g2 hctx => ⟨ref_ne_byPass x, ?_⟩
  refine note_held (s := { s with heap := h2, toks := t1 }) hfr g2 ?_
  refine set_flight (C := C) (fr := none) (s := { s with heap := h2, toks := t1 }) g2 fun h3 b3 g3 => ?_
  have b := b2.trans b3
  have r3 : R prog w C fv φ1 st1 h3 := r1.after r b
  have k3 : Eff C fv φ s.heap h3 := k1.book b (fun _ z => z) hl
  have hok : HOk (A.mark (some (.ref x))) φ1 h3 := by
   intro v hv
   (injection hv with hv; subst hv)
   refine cps fun G hG => ?_
   obtain ⟨oe, vs, he, _, hd, hc, hxe, _⟩ := g3
   refine hG ?_; clear hG
   exact ⟨x, oe, vs, rfl, r3.notMem he hd, he, hd, by rw [hc, hctx trivial]⟩
  refine (hf (some (.ref x))).run φ1 st1 { s with heap := h3, toks := t1 } q st2 _ _ r3 hok e2 (fun q1 hq1 φ4 h4 t4 f4 r4 x4 k4 g4 => ?_) fun hq1 φ4 h4 t4 y r4 x4 k4 g4 => ?_
  ·subst hq1
   refine cps fun G hG => ?_
   cases q1 <;> simp only [reduceCtorEq, Option.some.injEq, Prod.mk.injEq] at ev
   obtain ⟨rfl, rfl⟩ := ev
   refine hG ?_; clear hG
   simp only [FR] at g4; subst g4
   have x5 := x1.trans k3 r3 x4
   have k5 := k3.trans x1 k4
   have g5 : ExcAt X (fun b => s.heap.get? b = none) h4 x ctx (some .none) := k4.exc r3 g3
   refine pass_on (C := C) (s := { s with heap := h4, toks := t4 }) hfr g5 fun h6 b6 g6 => ?_
   exact hE rfl φ4 h6 t4 x (r4.after r b6) x5 (k5.book b6 (fun _ z => z) hl) ⟨ctx, _, .inr rfl, g6, fun z => z.elim⟩
  ·subst hq1
   (injection ev with ev; injection ev with ev Y9; subst ev Y9)
   have x5 := x1.trans k3 r3 x4
   have k5 := k3.trans x1 k4
   refine fly_out (A := A.mark (some (.ref x))) (s := { s with heap := h4, toks := t4 }) (cx.mark _) r4 (g4.mono (x1.live r k3 r3) id) (x5.live r k5 r4) fun h6 b6 f6 => ?_
   exact hE rfl φ4 h6 t4 y (r4.after r b6) x5 (k5.book b6 (fun _ z => z) hl) f6
end
end
section
set_option backward.match.sparseCases false
open PySem.AutoSeq1 (wpAny_loadPart')
theorem extend_meets (l : Addr) (items : Array Value) (n : Nat) (b : Addr) (items2 : Array Value) (n2 : Nat) (dd : Option Addr) (sl : Array (Option Value)) (hs : items.size + items2.size ≤ 100000) :
  Meets (Builtin.«list.extend» ⟨[.ref l, .ref b], []⟩) (fun _ R s => s.heap.get? l = some { cls := .type "list", dict := none, data := .seq items n, slots := #[] } ∧ s.heap.get? b = some { cls := .type "list", dict := dd, data := .seq items2 n2, slots := sl } ∧
   R (.ok (.ret .none)) { s with heap := s.heap.update l (Obj.mapSeq fun x => x ++ items2) }) :=
 .of_wp fun prog w A R s h => by
  obtain ⟨hp, g, d, tk, os⟩ := s
  obtain ⟨hl, hb, h⟩ := h
  have f3 := AutoSeq1.sub_list_list
  have hz : items.size ≤ sizeLine := le_sizeLine (by omega)
  have hz' : (items ++ items2).size ≤ sizeLine + 1 := by rw [Array.size_append]; have := le_sizeLine hs; omega
  have hc : ¬(!items.isEmpty && Builtin.List.listTooLong (items.size + items2.size)) = true := by
   have := le_sizeLine hs
   simp [Builtin.List.listTooLong]
   intro _
   omega
  wp_walk using (wpAny_updateSeq hl rfl (hz := hz) (_hz' := hz')), wpAny_loadPart' hl, wpAny_loadPart' hb
  exact ⟨_, rfl, h⟩
section
variable {prog : Program} {w : World} {A : Around} {C : Cx} {fv : FV} {K : Frag} {P : Prop} {X : String}
noncomputable def sExtend (k : Nat) (e : MSt → Option MV) : MSt → Option (Out × MSt) := fun st => (eVar k st).bind fun x => match x with
 | .ref n => (e st).bind fun v => match v with
  | .lst l => match st.σ[n]? with
   | some (.list xs) => if xs.length + l.length ≤ 1000 then some (.next, { st with σ := st.σ.set n (.list (xs ++ l)) }) else none
   | _ => none
  | _ => none
 | _ => none
theorem SS.extend {x : Str} {k : Nat} {np apos pos spos : Pos} {arg : Expr} {e : MSt → Option MV} (he : SE prog w A C fv (eval arg fv.env) e) (hm : (x, k) ∈ fv.vars) (hk : fv.env.scope.kind = .function)
  (hd : (x == ("__debug__" : Str)) = false := by decide) (hc : (x == ("__classdict__" : Str)) = false := by decide)
  (hse : starEach [arg] fv.env = [(false, eval arg fv.env)] := by rfl)
  (hbase : attributeBase (.Name x np) "extend" fv.env (eval (.Name x np) fv.env) = eval (.Name x np) fv.env := by rfl)
  (hline : (apos.endLine == pos.line) = true := by rfl) (hi : interactive fv.env = false := by rfl) :
  SS prog w A C fv (exec (.Expr (.Call (.Attribute (.Name x np) "extend" apos) [arg] [] pos) spos) fv.env) (sExtend k e) := by
 refine ⟨?_⟩
 intro φ st s o st' Q r ev h
 simp only [sExtend, oI] at ev
 refine cps fun G hG => ?_
 obtain ⟨y, ey, ev⟩ := ev
 cases y <;> simp only [reduceCtorEq, oI] at ev
 rename_i n
 obtain ⟨v, e1, ev⟩ := ev
 cases v <;> simp only [reduceCtorEq] at ev
 rename_i l
 split at ev
 ·rename_i xs hn
  split at ev <;> cases ev
  rename_i hlt
  refine hG ?_; clear hG
  refine wpAny_Expr_any ?_ hi rfl
  refine wpAny_Call_method hbase (by rw [hse]; rfl) hline F.plainAttrs_list F.slot_list_extend F.type_list_extend ((se_var hm hk hd hc).run φ st s _ _ r ey fun h1 t1 v1 k1 r1 q1 => ?_)
  simp only [vR1, vR2, vR3, vR4, vR5, vR6, vR7, vR8] at q1
  refine cps fun G hG => ?_
  obtain ⟨a, ha, rfl⟩ := q1
  obtain ⟨items, m, g1, g2, g3⟩ := r1.sto n a _ ha hn
  refine hG ?_; clear hG
  refine ⟨⟨_, g1, rfl⟩, fun b eb => by (injection eb with eb; subst eb); exact ⟨_, g1, rfl⟩, callWith_builtin (by rw [hse]; rfl) ?_⟩
  rw [hse]
  refine evalArgs_plain (spliced_cons (he.run φ st _ _ _ r1 e1 fun h2 t2 v2 k2 r2 q2 => spliced_nil ?_))
  refine cps fun G hG => ?_
  obtain ⟨items, m, g1, g2, g3⟩ := r2.sto n a _ ha hn
  simp only [vR1, vR2, vR3, vR4, vR5, vR6, vR7, vR8] at q2
  obtain ⟨c, its, rfl, hW, ⟨⟨cls, dd, data, sl⟩, ho, hcl, nn, hdt⟩, hi2⟩ := q2
  simp only at hcl hdt
  subst hcl hdt
  have l1 := g2.length
  have l2 := hi2.length
  have hmem : some a ∈ φ := List.mem_of_getElem? ha
  refine hG ?_; clear hG
  refine call_meets F.slot_list_extend ⟨_, g1, rfl⟩ F.entry_list_extend (F.args_list_extend_2 _ _) (extend_meets a items.toArray m c its.toArray nn dd sl (by simp; omega)) ⟨g1, ho, ?_⟩
  have hs3 : Heap.SameBut a h2 (h2.update a (Obj.mapSeq fun x => x ++ its.toArray)) := Heap.SameBut.update ..
  have g5 : ∃ m', (h2.update a (Obj.mapSeq fun x => x ++ its.toArray)).get? a = some (listObj (items ++ its) m') := by
   refine ⟨if its = [] then m else m + 1, (Heap.get?_update_self _ g1 (by simp [Obj.mapSeq, listObj]; rfl)).trans ?_⟩
   simp [Obj.mapSeq, listObj]
  obtain ⟨m', g5⟩ := g5
  have mono : ∀ b o, ¬ C.av φ b → h2.get? b = some o → IsSeq o → (h2.update a (Obj.mapSeq fun x => x ++ its.toArray)).get? b = some o ∧ ¬ C.av φ b := fun b o hb ho _ => ⟨(hs3.2 b (fun e => hb (.inr (e ▸ hmem)))).trans ho, hb⟩
  refine h φ _ _ _ (r2.update ha hs3 ⟨_, g5⟩ ⟨_, m', g5, (VRs.mono mono (fun _ _ e => e) _ g2).append (VRs.mono mono (fun _ _ e => e) _ hi2), by simp; omega⟩) (Ext.refl _ _) ?_ rfl
  exact (Eff.of_stays (k1.trans k2)).trans (Ext.refl _ _) (Eff.update hmem hs3)
 ·(injection ev; done)
noncomputable def xTryEx (mb : MSt → Option (Option Out × MSt)) (ms : MSt → Option (Out × MSt)) : MSt → Option (Out × MSt) := fun st => (mb st).bind fun p => match p.1 with
 | some o => some (o, p.2)
 | none => ms p.2
theorem SS.tryExcept {body suite : List Stmt} {b₀ : Stmt} {x : Str} {np hp pos : Pos} {mb : MSt → Option (Option Out × MSt)} {ms : MSt → Option (Out × MSt)} (cx : CtxX A C fv) (hT : TopOk K C.h₀) (he : EnvOk fv.env)
  (hx : fv.env.kindOf x = some .globalImplicit) (hg : nsIn K mainGlobals x = some none) (hv : bootBuiltins x = some (.type X)) (hnm : x ≠ "__name__")
  (hexc : isSubtype (.type X) (.type "BaseException") = pure true) (hnt : isSubtype (.type ((Manifest.find? X).elim "type" fun y => y.metatype)) (.type "tuple") = pure false) (hsub : isSubtype (.type X) (.type X) = pure true)
  (hh : A.handled = none) (hb : SX prog w A C fv P X (execs body fv.env) mb) (hs : ∀ e, SS prog w (A.mark (some (.ref e))) C fv (execs (b₀ :: suite) fv.env) ms) (hd : (x == ("__debug__" : Str)) = false := by decide) :
  SS prog w A C fv (exec (.Try body [.ExceptHandler (some (.Name x np)) none (b₀ :: suite) hp] [] [] pos) fv.env) (xTryEx mb ms) := by
 have hl : fv.env.locals = C.fn := cx.parts.2.2.1
 refine ⟨?_⟩
 intro φ st s o st' Q r ev h
 simp only [xTryEx, oI] at ev
 obtain ⟨⟨p, st1⟩, e1, ev⟩ := ev
 refine wpAny_Try_except (hb.run φ st s p st1 _ _ r (HOk.of_none hh) e1 (fun p1 hp1 φ1 h1 t1 f1 r1 x1 k1 q1 => ?_) fun hp1 φ1 h1 t1 y r1 x1 k1 q1 => ?_)
 ·subst hp1
  cases ev
  cases o with
  | next => simp only [FR] at q1; subst q1; exact wpAny_execs_nil (h φ1 h1 t1 _ r1 x1 k1 rfl)
  | brk => simp only [FR] at q1; subst q1; exact h φ1 h1 t1 _ r1 x1 k1 rfl
  | cont => simp only [FR] at q1; subst q1; exact h φ1 h1 t1 _ r1 x1 k1 rfl
  | ret u => obtain ⟨ru, rfl, qu⟩ := q1; exact h φ1 h1 t1 _ r1 x1 k1 ⟨ru, rfl, qu⟩
 ·subst hp1
  refine note_any (s := { s with heap := h1, toks := t1 }) cx r1 q1 (x1.live r k1 r1) fun h2 ctx b2 g2 _ => ?_
  refine set_flight (C := C) (fr := none) (s := { s with heap := h2, toks := t1 }) g2 fun h3 b3 g3 => ?_
  have r3 : R prog w C fv φ1 st1 h3 := r1.after r (b2.trans b3)
  refine wpAny_handleBy_builtin (X := X) (T := X) (b := true) hexc hnt hsub ?_
  refine wpAny_mono (ev_builtin (A := A.mark (some (.ref y))) (s := { s with heap := h3, toks := t1 }) (Q := fun c s₁ => c = .type X ∧ s₁ = { s with heap := h3, toks := t1 }) hT he hx hg hv hnm r3 ⟨rfl, rfl⟩ hd) (fun c s₁ hc => ?_) fun _ _ z => z.elim
  obtain ⟨rfl, rfl⟩ := hc
  refine ⟨rfl, ?_, ?_⟩
  ·obtain ⟨oe, vs, he', hc, _⟩ := g3; exact ⟨oe, he', hc⟩
  ·rw [if_pos rfl]
   refine set_flight (C := C) (fr := none) (s := { s with heap := h3, toks := t1 }) g3 fun h4 b4 g4 => ?_
   have b := (b2.trans b3).trans b4
   have r4 : R prog w C fv φ1 st1 h4 := r1.after r b
   have k4 : Eff C fv φ s.heap h4 := k1.book b (fun _ z => z) hl
   exact wpAny_mono ((hs y).run φ1 st1 { s with heap := h4, toks := t1 } o st' _ r4 ev fun φ5 h5 t5 f r5 x5 k5 q5 => h φ5 h5 t5 f r5 (x1.trans k4 r4 x5) (k4.trans x1 k5) q5) (fun _ _ z => z) fun _ _ z => z.elim
end
end
section
noncomputable def KeepX (l : List Addr) (h h' : Heap) : Prop := ∀ b o, h.get? b = some o → (b ∉ l → h'.get? b = some o) ∧ ∃ sl, h'.get? b = some { o with slots := sl }
noncomputable abbrev framesOf (outer : List Env) : List Addr := outer.filterMap (·.frame)
section
variable {prog : Program} {w : World} {A : Around} {C : Cx} {fv : FV} {K : Frag}
theorem R.hide {h₀ hh h : Heap} {fn : Addr} {W0 hid : Addr → Prop} {φ : List (Option Addr)} {st : MSt} (r : R prog w ⟨h₀, fn, W0, hid, hh⟩ fv φ st h) (l : List Addr) (hl : ∀ b ∈ l, ∃ o, h₀.get? b = some o ∧ ¬ IsSeq o ∧ ∀ vs, o.data ≠ .fields vs) :
  R prog w ⟨hideAll h₀ l, fn, W0, (· ∈ l), h₀⟩ fv φ st h := by
 have hz : @Eq Nat (hideAll h₀ l).objs.size h₀.objs.size := hideAll_size l h₀
 have le : ∀ {a : Addr}, @LE.le Nat _ h₀.objs.size a → @LE.le Nat _ (hideAll h₀ l).objs.size a := fun h => by rw [hz]; exact h
 refine ⟨fun b o e => r.base b o (of_hideAll l e), r.fr, le r.above, r.av0, r.vars, r.len, r.sto, r.live, r.nodup, fun a ha => le (r.new a ha), r.loc, le r.locNew, r.locOff, r.fnOff, fun x c e => le (r.celNew x c e), r.celInj, r.celIs, r.celOff, fun b hb => ?_⟩
 refine cps fun G hG => ?_
 obtain ⟨o, g1, g2, g3⟩ := hl b hb
 refine hG ?_; clear hG
 refine ⟨⟨o, r.base b o g1, g2, g3, fun o' e => ?_⟩, ?_, hideAll_none l hb⟩
 ·have e : h₀.get? b = some o' := e
  rw [g1] at e; (injection e with e; subst e); exact ⟨o.slots, rfl⟩
 ·show @LT.lt Nat _ b (hideAll h₀ l).objs.size
  rw [hz]; exact Heap.lt_size g1
variable (prog w K) in
noncomputable def PureX (W0 : Addr → Prop) (f : Addr) (n : Nat) (args : List MV) (v : MV) : Prop :=
 ∀ A base outer s vs Q, AOk A n → Below A base outer s.heap → (∀ b ∈ framesOf outer, ∃ o, s.heap.get? b = some o ∧ ¬ IsSeq o) → TopOk K (hideAll s.heap (framesOf outer)) →
  (∀ a, W0 a → a ∉ framesOf outer ∧ ∃ o, s.heap.get? a = some o) → VRs s.heap W0 [] args vs →
  (∀ h' tk rv, KeepX (framesOf outer) s.heap h' → VR h' W0 [] v rv → Q rv { s with heap := h', toks := tk }) → wpAny (model prog w) A (call (.ref f) vs) Q NoE s
theorem pureX_of {f : Addr} {fd : FuncData} {body : List Stmt} {vars : List (Str × Nat)} {names : List Str} {n : Nat} {pack : List MV → Option (List MV)} {m : MSt → Option (Out × MSt)} (ok : FnOk K f fd body vars names) (hb : Binder prog w fd names pack)
  (hpack : ∀ l l', pack l = some l' → l'.length = names.length) (hcell : ∀ n, fd.scope.names.lookup n = some .cell → ∀ L, ((cellsFrom L fd.scope.names []).lookup n).isSome = true)
  (W0 : Addr → Prop) (hss : ∀ A C L, C.W0 = W0 → AOk A n → CtxX A C (fnFV fd L f vars) → TopOk K C.h₀ → EnvOk (callEnvC fd L f) → SS prog w A C (fnFV fd L f vars) (execs body (callEnvC fd L f)) m) : ∀ args v, runFn pack m args = some v → PureX prog w K W0 f (n + 1) args v := by
 intro args v e A base outer s vs Q hA B hseq T hW q h
 simp only [runFn, oI] at e
 obtain ⟨l, el, ⟨p, st'⟩, em, ef⟩ := e
 obtain ⟨o, ho, hd⟩ := ok.look
 have hroom : A.depth < recursionLimit := by have := hA.depth; omega
 have T' : TopOk K s.heap := T.stays fun b o e => of_hideAll _ e
 obtain ⟨pp, loose, mean, mg, mb, Tp⟩ := T'.top
 refine wpAny_call (codeAny_call_function hroom (T'.k _ _ ho) hd ok.co ok.gen ok.body (codeRec_of T'.k ok.code) ?_)
 refine hb _ W0 s args l vs _ _ el q (fun a ha => (hW a ha).2) fun h1 t1 vs1 k1 q1 => ?_
 rw [ok.clos]
 have hl := hpack _ _ el
 refine wpAny_newFunctionEnv_cells ok.kind (fun y hy => ok.nk y.1 ?_ _) fun env he s' x => ?_
 ·have := (List.of_mem_zip hy).1; exact this
 subst he
 refine ⟨(Tp.nolimit.keeps k1).keeps x.toInCall.keep, codeAny_func ?_⟩
 have hW1 : ∀ a, W0 a → ∃ o, h1.get? a = some o := fun a ha => let ⟨o, e⟩ := (hW a ha).2; ⟨o, k1 a o e⟩
 have r0 := fn_enter (prog := prog) (w := w) (s₀ := { s with heap := h1, toks := t1 }) (s₁ := s') ok q1 hl hW1 x
 have fmem : ∀ b ∈ framesOf outer, base.get? b = none ∧ ∃ o, h1.get? b = some o ∧ ¬ IsSeq o ∧ ∀ vs, o.data ≠ .fields vs := fun b hb => by
  obtain ⟨g1, o, g2, g3⟩ := B.frames.mem hb
  obtain ⟨o', g4, g5⟩ := hseq b hb
  rw [g2] at g4; (injection g4 with g4; subst g4)
  exact ⟨g1, o, k1 _ _ g2, g5, g3⟩
 have r1 := r0.hide (framesOf outer) fun b hb => (fmem b hb).2
 have hA' : AOk (A.deeper (callEnvC fd h1.objs.size f)) n := ⟨hA.handled, by have := hA.depth; show A.depth + 1 + n < _; omega, by have := hA.units; show A.units + 3 + 8 * n + 100 < _; omega⟩
 have hX : CtxX (A.deeper (callEnvC fd h1.objs.size f)) ⟨hideAll h1 (framesOf outer), h1.objs.size, W0, (· ∈ framesOf outer), h1⟩ (fnFV fd h1.objs.size f vars) := by
  refine ⟨base, outer, by show A.frames.map _ = _; rw [B.stack]; rfl, by show fd.scope.kind ≠ _; rw [ok.kind]; decide, rfl, rfl, fun b o e => hideAll_get _ (k1 b o (B.stays b o e)) (fun hm => by exact (ng ((fmem b hm).1) e).elim), fun e he => ?_⟩
  obtain ⟨g1, L, o, g2, g3, g4, g5⟩ := funFrames_iff.mp B.frames e he
  exact ⟨g1, L, g2, g3, List.mem_filterMap.mpr ⟨e, he, g2⟩⟩
 have hT1 : TopOk K (hideAll h1 (framesOf outer)) := T.stays fun b o e => by
  have hb : b ∉ framesOf outer := fun hm => by exact (ng (hideAll_none _ hm) e).elim
  exact hideAll_get _ (k1 b o (of_hideAll _ e)) hb
 have hE : EnvOk (callEnvC fd h1.objs.size f) := ⟨ok.kind, ok.glob, ok.bins, fun n hn => Option.isSome_iff_exists.mp (hcell n hn _)⟩
 obtain ⟨h1', tk', hs'⟩ := x.toInCall.same
 have hs'' : s' = { s with heap := s'.heap, toks := s'.toks } := by rw [hs']
 refine wpAny_mono ((hss _ ⟨hideAll h1 (framesOf outer), h1.objs.size, W0, (· ∈ framesOf outer), h1⟩ h1.objs.size rfl hA' hX hT1 hE).run [] (start l) s' p st' _ r1 em fun φ' h' tk fl r' _ _ q' => ?_) (fun _ _ z => z) fun _ _ z => z.elim
 cases p with
 | ret u =>
  obtain ⟨rv, rfl, qv⟩ := q'
  have hfin := h h' tk rv (fun b o e => ?_) (freeze_ok r' (fun a ha => ?_) u ef qv)
  ·rw [hs'']; exact hfin
  ·have kept : b ∉ framesOf outer → h'.get? b = some o := fun hb => r'.base b o (hideAll_get _ (k1 b o e) hb)
   refine ⟨kept, ?_⟩
   by_cases hb : b ∈ framesOf outer
   ·obtain ⟨⟨o', g1, _, _, g4⟩, _⟩ := r'.hid b hb
    obtain ⟨sl, rfl⟩ := g4 o (k1 b o e)
    exact ⟨sl, g1⟩
   ·exact ⟨o.slots, kept hb⟩
  ·obtain ⟨o, g⟩ := hW1 a ha
   exact ⟨o, hideAll_get _ g (hW a ha).1⟩
 | next => (injection ef; done)
 | brk => (injection ef; done)
 | cont => (injection ef; done)
theorem pureX_fn {f : Addr} {o : Obj} {fd : FuncData} {body : List Stmt} (vars : List (Str × Nat)) (names : List Str) {n : Nat} {m : MSt → Option (Out × MSt)} (look : K.lookup f = some o) (hd : o.data = .func fd) (hb : fd.body = .stmts body) (chk : fnChk K fd vars names = true)
  (clos : fd.closure = []) (glob : fd.globals = mainGlobals) (bins : fd.builtins = builtinsNs) (co : fd.scope.isCoroutine = false) (gen : fd.scope.isGenerator = false) (kind : fd.scope.kind = .function)
  (hbind : ∀ vs : List Value, vs.length = names.length → bindArgs fd ⟨vs, []⟩ = pure (names.zip vs)) (W0 : Addr → Prop)
  (hss : ∀ A C L, C.W0 = W0 → AOk A n → CtxX A C (fnFV fd L f vars) → TopOk K C.h₀ → EnvOk (callEnvC fd L f) → VarsOk vars = true → SS prog w A C (fnFV fd L f vars) (execs body (callEnvC fd L f)) m) : ∀ args v, runFn (packN names.length) m args = some v → PureX prog w K W0 f (n + 1) args v := by
 have hv : VarsOk vars = true := by simp only [fnChk, Bool.and_eq_true] at chk; exact chk.2
 exact pureX_of (FnOk.of look hd hb chk clos glob bins co gen kind) (binder_plain hbind) (fun _ _ e => packN_len e) (fun n hn L => cellsFrom_isSome fd.scope.names L [] (.inr hn)) W0 fun A C L hw hA hX hT hE => hss A C L hw hA hX hT hE hv
theorem SS.callX {y x : Str} {k : Nat} {pp np pos spos : Pos} {args : List Expr} {f : Addr} {n : Nat} {es : MSt → Option (List MV)} {spec : List MV → Option MV} {o : Obj} {fd : FuncData}
  (cx : CtxX A C fv) (hA : AOk A n) (hT : TopOk K C.h₀) (hW : ∀ a, ¬ C.W0 a) (he : EnvOk fv.env) (hx : fv.env.kindOf x = some .globalImplicit) (hg : nsIn K mainGlobals x = some (some (.ref f))) (ho : K.lookup f = some o) (hd : o.data = .func fd)
  (hspec : ∀ W0 vs v, spec vs = some v → PureX prog w K W0 f n vs v)
  (hs : SL prog w A C fv (spliced (backTo pos (starEach args fv.env))) es) (hm : (y, k) ∈ fv.vars) (hv : VarsOk fv.vars = true) (hk : fv.env.scope.kind = .function) (hy : fv.env.kindOf y = some .local ∨ fv.env.kindOf y = some .cell)
  (hne : ∃ t rest, backTo pos (starEach args fv.env) = (false, t) :: rest := by exact ⟨_, _, rfl⟩) (hdb : (x == ("__debug__" : Str)) = false := by decide)
  (hsw : swapsWith (.Call (.Name x np) args [] pos) (some (.Name y pp)) spos.line fv.env = pure false := by rfl) :
  SS prog w A C fv (exec (.Assign [.Name y pp] (.Call (.Name x np) args [] pos) spos) fv.env) (sAssign (eCall spec es) (bName k)) := by
 have hl : fv.env.locals = C.fn := cx.parts.2.2.1
 refine ⟨?_⟩
 intro φ st s o' st' Q r ev h
 simp only [sAssign, oI, oM, Prod.mk.injEq] at ev
 refine cps fun G hG => ?_
 obtain ⟨v, e1, st1, e2, rfl, rfl⟩ := ev
 simp only [eCall, oI] at e1
 obtain ⟨l, el, e1⟩ := e1
 split at e1
 case isFalse => (injection e1; done)
 rename_i hn
 refine hG ?_; clear hG
 refine wpAny_Assign_Name ?_ hsw
 refine wpAny_Call_NameR (ev_fn hT he hx hg r (callWith_function (o := o) (fd := fd) (evalArgs_sl hs hne r el fun h1 t1 v1 k1 r1 q1 => ⟨⟨r1.base _ _ (hT.k _ _ ho), hd⟩, ?_⟩)) hdb)
 refine cps fun G hG => ?_
 obtain ⟨base, outer, hfr, hff, hmem⟩ := cx.frames r1
 obtain ⟨base', outer', B⟩ := cx.ctxB.below r1
 have hoo : outer' = fv.env :: outer := by have := B.stack; rw [hfr] at this; (injection this with this; subst this); rfl
 subst hoo
 have hTn : TopOk K (hideAll h1 (framesOf (fv.env :: outer))) := hT.stays fun b ob e => hideAll_get _ (r1.base b ob e) fun hb => by
  rcases hmem b hb with rfl | hh
  ·have h6 : @LT.lt Nat _ C.fn C.h₀.objs.size := Heap.lt_size e
   have h7 : @LE.le Nat _ C.h₀.objs.size C.fn := r1.above
   omega
  ·have := (r1.hid b hh).2.2; exact (ng this e).elim
 refine hG ?_; clear hG
 refine hspec (C.av φ) l v e1 A base' (fv.env :: outer) { s with heap := h1, toks := t1 } v1 _ hA B (fun b hb => ?_) hTn (fun a ha => ⟨fun hb => ?_, r1.av_live a ha⟩) (VRs.noRef l q1 hn) fun h2 t2 rv kx qv => ?_
 ·rcases hmem b hb with rfl | hh
  ·obtain ⟨m, ob, es', ep, g1, g2, _⟩ := r1.fr
   exact ⟨ob, g1, fun ⟨i, n, hd⟩ => by rw [g2] at hd; (injection hd; done)⟩
  ·obtain ⟨⟨ob, g1, g2, _⟩, _⟩ := r1.hid b hh
   exact ⟨ob, g1, g2⟩
 ·rcases ha with ha | ha
  ·exact hW a ha
  ·rcases hmem a hb with rfl | hh
   ·exact r1.fnOff ha
   ·exact r1.hid_ne hh (r1.new a ha) rfl
 ·have bk : Book C (fun _ => False) h1 h2 := fun b ob e => by
   obtain ⟨g1, sl, g2⟩ := kx b ob e
   by_cases hb : b ∈ framesOf (fv.env :: outer)
   ·exact ⟨_, g2, .inr (.inl ⟨hmem b hb, sl, rfl⟩)⟩
   ·exact ⟨ob, g1 hb, .inl rfl⟩
  have r2 := r1.book bk fun _ z => z.elim
  have k2 : Eff C fv φ s.heap h2 := (Eff.of_stays k1).book bk (fun _ z => z.elim) hl
  have q2 : VR h2 (C.av φ) φ v rv := VR.mono (fun b o hb ho _ => ⟨ho, hb⟩) (fun n a e => by simp at e) v qv
  exact (sa_store hm hv hk hy).run φ st _ v rv _ _ r2 e2 q2 fun h3 t3 r3 k3 => h φ h3 t3 _ r3 (Ext.refl _ _) (k2.trans (Ext.refl _ _) k3) rfl
end
end
section
set_option backward.match.sparseCases false
open PySem.AutoSeq1 (wpAny_loadPart')
theorem add_meets (l : Addr) (items : Array Value) (n : Nat) (b : Addr) (items2 : Array Value) (n2 : Nat) (d1 d2 : Option Addr) (s1 s2 : Array (Option Value)) (hs : items.size + items2.size ≤ 100000) :
  Meets (Builtin.«list.__add__» ⟨[.ref l, .ref b], []⟩) (fun _ R s => s.heap.get? l = some { cls := .type "list", dict := d1, data := .seq items n, slots := s1 } ∧ s.heap.get? b = some { cls := .type "list", dict := d2, data := .seq items2 n2, slots := s2 } ∧
   R (.ok (.ret (.ref s.heap.objs.size))) { s with heap := s.heap.push { cls := .type "list", data := .seq (items ++ items2) } }) :=
 .of_wp fun prog w A R s h => by
  obtain ⟨hp, g, d, tk, os⟩ := s
  obtain ⟨hl, hb, h⟩ := h
  have f3 := AutoSeq1.sub_list_list
  have hz : items.size + items2.size ≤ sizeLine := le_sizeLine hs
  wp_walk using wpAny_loadPart' hl, wpAny_loadPart' hb
  exact ⟨_, rfl, h⟩
noncomputable def flats : List MV → Bool
 | [] => true
 | x :: xs => flatV x && flats xs
theorem VRs.flat {h h' : Heap} {W W' : Addr → Prop} {φ φ' : List (Option Addr)} : ∀ {x : List MV} {v : List Value}, flats x = true → VRs h W φ x v → VRs h' W' φ' x v
 | [], _, _, q => by simp only [vRs1, vRs2] at q; subst q; simp [vRs1, vRs2]
 | x :: xs, _, hf, q => by
  simp only [flats, Bool.and_eq_true] at hf
  simp only [vRs1, vRs2] at q ⊢
  obtain ⟨v, r, rfl, h1, h2⟩ := q
  exact ⟨v, r, rfl, VR.flat hf.1 h1, VRs.flat hf.2 h2⟩
theorem flats_get : ∀ {l : List MV} {i : Nat} {x : MV}, flats l = true → l[i]? = some x → flatV x = true
 | [], _, _, _, e => by simp at e
 | y :: l, 0, x, h, e => by
  simp only [flats, Bool.and_eq_true] at h
  simp at e; subst e; exact h.1
 | y :: l, i + 1, x, h, e => by
  simp only [flats, Bool.and_eq_true] at h
  exact flats_get (l := l) (i := i) h.2 (by simpa using e)
section
variable {prog : Program} {w : World} {A : Around} {C : Cx} {fv : FV} {K : Frag}
variable (prog w A C fv) in
structure SEN (t : Sem Value) (e : MSt → Option (List MV)) : Prop where
 run : ∀ φ st s l Q, R prog w C fv φ st s.heap → e st = some l →
  (∀ h' tk a items n, Stays s.heap h' → s.heap.get? a = none → C.h₀.objs.size ≤ a → h'.get? a = some (listObj items n) → VRs h' (C.av φ) φ l items → Q (.ref a) { s with heap := h', toks := tk }) → wpAny (model prog w) A t Q NoE s
noncomputable def nAdd (a b : MSt → Option MV) : MSt → Option (List MV) := fun st => (a st).bind fun x => (b st).bind fun y => (listOf st x).bind fun l => (listOf st y).bind fun l' => if l.length + l'.length ≤ 1000 then some (l ++ l') else none
theorem SEN.add {l r : Expr} {pos : Pos} {env : Env} {a b : MSt → Option MV} (ha : SE prog w A C fv (eval l env) a) (hb : SE prog w A C fv (eval r env) b) : SEN prog w A C fv (eval (.BinOp l .Add r pos) env) (nAdd a b) := by
 refine ⟨?_⟩
 intro φ st s v Q r e h
 simp only [nAdd, oI] at e
 refine cps fun G hG => ?_
 obtain ⟨x, ex, y, ey, l1, el1, l2, el2, e⟩ := e
 split at e <;> cases e
 rename_i hlen
 refine hG ?_; clear hG
 refine wpAny_BinOp (ha.run φ st s x _ r ex fun h1 t1 v1 k1 r1 q1 => hb.run φ st _ y _ r1 ey fun h2 t2 v2 k2 r2 q2 => ?_)
 refine cps fun G hG => ?_
 obtain ⟨b1, i1, rfl, g1, g2⟩ := listOf_real r2 (q1.stays k2) el1
 obtain ⟨b2, i2, rfl, g3, g4⟩ := listOf_real r2 q2 el2
 have len1 := g2.length
 have len2 := g4.length
 obtain ⟨⟨c1, d1, dt1, s1⟩, o1, oc1, n1, od1⟩ := g1
 obtain ⟨⟨c2, d2, dt2, s2⟩, o2, oc2, n2, od2⟩ := g3
 simp only at oc1 od1 oc2 od2
 subst oc1 od1 oc2 od2
 refine hG ?_; clear hG
 refine concat_meets ⟨_, o1, rfl⟩ ⟨_, o2, rfl⟩ noFill_list_add seq_list_add F.slot_list_add F.entry_list_add (F.args_list_add_2 _ _) (add_meets b1 i1.toArray n1 b2 i2.toArray n2 d1 d2 s1 s2 (by simp; omega)) ⟨o1, o2, ?_⟩
 have kp := Stays.push h2 { cls := .type "list", data := .seq (i1.toArray ++ i2.toArray) }
 refine h _ t2 _ (i1 ++ i2) 0 ((k1.trans k2).trans kp) ?_ r2.size_ge ?_ ((g2.append g4).stays kp)
 ·exact stays_live (k1.trans k2) _ (get?_size_none h2)
 ·rw [Heap.get?_push_size _ rfl]; simp [listObj]
noncomputable def nSlice (a : MSt → Option MV) (l u k : MSt → Option (Option Int)) : MSt → Option (List MV) := fun st => (a st).bind fun x => (l st).bind fun lo => (u st).bind fun hi => (k st).bind fun sp => (listOf st x).bind fun l => if sp ≠ some 0 ∧ l.length ≤ 1000 then some (sliceV l lo hi sp) else none
theorem SEN.slice {value : Expr} {lower upper step : Option Expr} {p pos : Pos} {env : Env} {a : MSt → Option MV} {l u k : MSt → Option (Option Int)} (ha : SE prog w A C fv (eval value env) a)
  (hl : SP prog w A C fv (evalPart lower env) l) (hu : SP prog w A C fv (evalPart upper env) u) (hk : SP prog w A C fv (evalPart step env) k) :
  SEN prog w A C fv (eval (.Subscript value (.Slice lower upper step p) pos) env) (nSlice a l u k) := by
 refine ⟨?_⟩
 intro φ st s v Q r e h
 simp only [nSlice, oI] at e
 refine cps fun G hG => ?_
 obtain ⟨x, ex, lo, el, hi, eh, sp, es, xs, exs, e⟩ := e
 split at e <;> cases e
 rename_i hc
 refine hG ?_; clear hG
 refine Subscript_ (ha.run φ st s x _ r ex fun h1 t1 v1 k1 r1 q1 => wpAny_Slice (hl.run φ st _ lo _ r1 el fun h2 t2 v2 k2 r2 p2 => hu.run φ st _ hi _ r2 eh fun h3 t3 v3 k3 r3 p3 => hk.run φ st _ sp _ r3 es fun h4 t4 v4 k4 r4 p4 => ?_))
 have q1' := q1.stays (k2.trans (k3.trans k4))
 have kk := k1.trans (k2.trans (k3.trans k4))
 have kp := Stays.push h4 { cls := .type "slice", data := .fields #[v2, v3, v4] }
 have hops : ∃ ops : Value → Value → List Value, ∀ o i, subscripted (.Slice lower upper step p) false o i = operate (ops o i) (getItem o i) := by
  cases step
  ·exact ⟨fun o i => [i, o], fun _ _ => rfl⟩
  ·exact ⟨fun o i => [o, i], fun _ _ => rfl⟩
 refine cps fun G hG => ?_
 obtain ⟨ops, hops⟩ := hops
 obtain ⟨b, items, rfl, hli, hit⟩ := listOf_real r4 q1' exs
 have hli' : (h4.push { cls := .type "slice", data := .fields #[v2, v3, v4] }).IsList b items.toArray := hli.push _
 refine hG ?_; clear hG
 refine tail_any (T := "list") hli'.typeIs slot_list_getitem.lookup (wpAny_getItem_list_slice hli' (Heap.IsSliceOf.new h4 v2 v3 v4) p2 p3 p4 hc.1 ?_ ?_) (hops _ _)
 ·rw [slicePick_list]
  have kp2 := Stays.push (h4.push { cls := .type "slice", data := .fields #[v2, v3, v4] }) { cls := .type "list", data := .seq (sliceV items lo hi sp).toArray }
  exact h _ _ _ (sliceV items lo hi sp) 0 (kk.trans (kp.trans kp2)) (stays_live (kk.trans kp) _ (get?_size_none _)) (r4.stays kp).size_ge (Heap.get?_push_size _ rfl) ((hit.sliceV lo hi sp).stays (kp.trans kp2))
 ·rw [List.size_toArray, ← hit.length]; exact le_sizeLine (by omega)
noncomputable def sNewFlat (k : Nat) (e : MSt → Option (List MV)) : MSt → Option (Out × MSt) := fun st => (e st).bind fun l => if flats l ∧ l.length ≤ 1000 then some (.next, MSt.set { st with σ := st.σ ++ [MObj.list l] } k (.ref st.σ.length)) else none
theorem SS.newFlat {x : Str} {k : Nat} {pp pos : Pos} {value : Expr} {e : MSt → Option (List MV)} (he : SEN prog w A C fv (eval value fv.env) e) (hm : (x, k) ∈ fv.vars) (hv : VarsOk fv.vars = true) (hk : fv.env.scope.kind = .function)
  (hx : fv.env.kindOf x = some .local ∨ fv.env.kindOf x = some .cell) (hs : swapsWith value (some (.Name x pp)) pos.line fv.env = pure false := by rfl) : SS prog w A C fv (exec (.Assign [.Name x pp] value pos) fv.env) (sNewFlat k e) := by
 refine ⟨?_⟩
 intro φ st s o st' Q r ev h
 simp only [sNewFlat, oI] at ev
 refine cps fun G hG => ?_
 obtain ⟨l, e1, ev⟩ := ev
 split at ev <;> cases ev
 rename_i hc
 refine hG ?_; clear hG
 refine wpAny_Assign_Name (he.run φ st s l _ r e1 fun h1 t1 a items n k1 hn hge hg q1 => ?_) hs
 have r1 : R prog w C fv (φ ++ [some a]) { st with σ := st.σ ++ [.list l] } h1 := r.alloc k1 hn hge ⟨_, hg⟩ ⟨items, n, hg, q1.flat hc.1, by omega⟩
 have hx1 : Ext φ (φ ++ [some a]) s.heap := by
  refine ⟨fun b hb => ?_, fun i b e => ?_⟩
  ·rcases List.mem_append.mp hb with hb | hb
   ·exact .inl hb
   ·simp only [List.mem_singleton, Option.some.injEq] at hb; subst hb; exact .inr hn
  ·rw [List.getElem?_append_left (List.getElem?_eq_some_iff.mp e).1]; exact e
 refine (sa_store hm hv hk hx).run (φ ++ [some a]) _ _ (.ref st.σ.length) (.ref a) _ _ r1 rfl (vr_ref (ref_last r.len)) fun h2 t2 r2 k2 => h _ h2 t2 _ r2 hx1 ?_ rfl
 exact (Eff.of_stays k1).trans hx1 k2
noncomputable def OpS (prog : Program) (w : World) (A : Around) (C : Cx) (fv : FV) (op : Value → Value → Sem Value) (f : MSt → MV → MV → Option MV) : Prop :=
 ∀ φ st (s : Shared) a b c ra rb Q, R prog w C fv φ st s.heap → f st a b = some c → VR s.heap (C.av φ) φ a ra → VR s.heap (C.av φ) φ b rb →
  (∀ h' tk rv, Stays s.heap h' → VR h' (C.av φ) φ c rv → Q rv { s with heap := h', toks := tk }) → wpAny (model prog w) A (op ra rb) Q NoE s
noncomputable def e2S (f : MSt → MV → MV → Option MV) (a b : MSt → Option MV) : MSt → Option MV := fun st => (a st).bind fun x => (b st).bind fun y => f st x y
theorem SE.cmpS {l r : Expr} {op : CmpOp} {pos : Pos} {env : Env} {f : MSt → MV → MV → Option MV} {a b : MSt → Option MV} (hf : OpS prog w A C fv (compareOp op) f) (ha : SE prog w A C fv (eval l env) a) (hb : SE prog w A C fv (eval r env) b)
  (hm : behindInMarks op r = false := by with_unfolding_all rfl) : SE prog w A C fv (eval (.Compare l [op] [r] pos) env) (e2S f a b) := by
 refine ⟨?_⟩
 intro φ st s v Q r e h
 simp only [e2S, oI] at e
 refine cps fun G hG => ?_
 obtain ⟨x, ex, y, ey, ef⟩ := e
 refine hG ?_; clear hG
 refine wpAny_Compare1 (ha.run φ st s x _ r ex fun h1 t1 v1 k1 r1 q1 => hb.run φ st _ y _ r1 ey fun h2 t2 v2 k2 r2 q2 => ?_) hm
 exact hf φ st _ x y v v1 v2 _ r2 ef (q1.stays k2) q2 fun h3 t3 v3 k3 q3 => h h3 t3 v3 ((k1.trans k2).trans k3) (r2.stays k3) q3
mutual
noncomputable def thaw (st : MSt) : MV → Option MV
 | .ref n => match st.σ[n]? with
  | some (.list xs) => if noRefs xs then some (.lst xs) else none
  | _ => none
 | .tup l => (thaws st l).map .tup
 | .lst l => (thaws st l).map .lst
 | x => some x
noncomputable def thaws (st : MSt) : List MV → Option (List MV)
 | [] => some []
 | x :: xs => (thaw st x).bind fun y => (thaws st xs).map (y :: ·)
end
theorem tH1 {st : MSt} : thaw st .none = some .none := rfl
theorem tH2 {st : MSt} {b : Bool} : thaw st (.bool b) = some (.bool b) := rfl
theorem tH3 {st : MSt} {b : Int} : thaw st (.int b) = some (.int b) := rfl
theorem tH4 {st : MSt} {b : Str} : thaw st (.str b) = some (.str b) := rfl
theorem tH5 {st : MSt} {l : List MV} : thaw st (.tup l) = (thaws st l).map .tup := rfl
theorem tH6 {st : MSt} {l : List MV} : thaw st (.lst l) = (thaws st l).map .lst := rfl
theorem tH7 {st : MSt} {n : Nat} : thaw st (.ref n) = (match st.σ[n]? with
  | some (.list xs) => if noRefs xs then some (.lst xs) else none
  | _ => none) := rfl
theorem tH8 {st : MSt} {n : String} : thaw st (.cls n) = some (.cls n) := rfl
theorem tHs1 {st : MSt} : thaws st [] = some [] := rfl
theorem tHs2 {st : MSt} {x : MV} {xs : List MV} : thaws st (x :: xs) = ((thaw st x).bind fun y => (thaws st xs).map (y :: ·)) := rfl
mutual
theorem thaw_ok {φ : List (Option Addr)} {st : MSt} {h : Heap} (r : R prog w C fv φ st h) : ∀ (x : MV) {y : MV} {v : Value}, thaw st x = some y → VR h (C.av φ) φ x v → VR h (fun _ => False) φ y v
 | .cls _, _, _, e, q => by simp only [tH1, tH2, tH3, tH4, tH5, tH6, tH7, tH8, Option.some.injEq] at e; subst e; simpa only [vR1, vR2, vR3, vR4, vR5, vR6, vR7, vR8] using q
 | .none, _, _, e, q => by simp only [tH1, tH2, tH3, tH4, tH5, tH6, tH7, tH8, Option.some.injEq] at e; subst e; simpa only [vR1, vR2, vR3, vR4, vR5, vR6, vR7, vR8] using q
 | .bool _, _, _, e, q => by simp only [tH1, tH2, tH3, tH4, tH5, tH6, tH7, tH8, Option.some.injEq] at e; subst e; simpa only [vR1, vR2, vR3, vR4, vR5, vR6, vR7, vR8] using q
 | .int _, _, _, e, q => by simp only [tH1, tH2, tH3, tH4, tH5, tH6, tH7, tH8, Option.some.injEq] at e; subst e; simpa only [vR1, vR2, vR3, vR4, vR5, vR6, vR7, vR8] using q
 | .str _, _, _, e, q => by simp only [tH1, tH2, tH3, tH4, tH5, tH6, tH7, tH8, Option.some.injEq] at e; subst e; simpa only [vR1, vR2, vR3, vR4, vR5, vR6, vR7, vR8] using q
 | .tup l, _, _, e, q => by
  simp only [tH1, tH2, tH3, tH4, tH5, tH6, tH7, tH8, oM] at e
  obtain ⟨l', e, rfl⟩ := e
  simp only [vR1, vR2, vR3, vR4, vR5, vR6, vR7, vR8] at q ⊢
  obtain ⟨b, items, rfl, hb, ho, hl⟩ := q
  exact ⟨b, items, rfl, id, ho, thaws_ok r l e hl⟩
 | .lst l, _, _, e, q => by
  simp only [tH1, tH2, tH3, tH4, tH5, tH6, tH7, tH8, oM] at e
  obtain ⟨l', e, rfl⟩ := e
  simp only [vR1, vR2, vR3, vR4, vR5, vR6, vR7, vR8] at q ⊢
  obtain ⟨b, items, rfl, hb, ho, hl⟩ := q
  exact ⟨b, items, rfl, id, ho, thaws_ok r l e hl⟩
 | .ref n, _, _, e, q => by
  simp only [tH1, tH2, tH3, tH4, tH5, tH6, tH7, tH8] at e
  split at e
  ·rename_i xs hn
   split at e <;> cases e
   simp only [vR1, vR2, vR3, vR4, vR5, vR6, vR7, vR8] at q ⊢
   obtain ⟨a, ha, rfl⟩ := q
   obtain ⟨items, m, g1, g2, _⟩ := r.sto n a _ ha hn
   exact ⟨a, items, rfl, id, ⟨_, g1, rfl, m, rfl⟩, VRs.mono (fun b o _ ho _ => ⟨ho, id⟩) (fun _ _ e => e) _ g2⟩
  ·(injection e; done)
theorem thaws_ok {φ : List (Option Addr)} {st : MSt} {h : Heap} (r : R prog w C fv φ st h) : ∀ (x : List MV) {y : List MV} {v : List Value}, thaws st x = some y → VRs h (C.av φ) φ x v → VRs h (fun _ => False) φ y v
 | [], _, _, e, q => by simp only [tHs1, tHs2, Option.some.injEq] at e; subst e; simpa only [vRs1, vRs2] using q
 | x :: xs, _, _, e, q => by
  simp only [tHs1, tHs2, oI, oM] at e
  obtain ⟨y, e1, ys, e2, rfl⟩ := e
  simp only [vRs1, vRs2] at q ⊢
  obtain ⟨v, t, rfl, h1, h2⟩ := q
  exact ⟨v, t, rfl, thaw_ok r x e1 h1, thaws_ok r xs e2 h2⟩
end
noncomputable def eqR (st : MSt) (a b : MV) : Option MV := (thaw st a).bind fun x => (thaw st b).bind fun y => eqV x y
theorem ops_eq (hu : A.units + 64 < cLine) : OpS prog w A C fv (compareOp .Eq) eqR := by
 intro φ st s a b c ra rb Q r e ha hb h
 simp only [eqR, oI] at e
 obtain ⟨x, ex, y, ey, e⟩ := e
 refine op_eq hu (fun _ => False) φ s x y c ra rb Q e (thaw_ok r a ex ha) (thaw_ok r b ey hb) fun h' tk rv hk hv => h h' tk rv hk ?_
 have : ∃ z, c = .bool z := by unfold eqV at e; split at e <;> cases e; exact ⟨_, rfl⟩
 obtain ⟨z, rfl⟩ := this
 obtain rfl := vr_bool_inv hv
 exact vr_bool
noncomputable def isR (_ : MSt) (x y : MV) : Option MV := match x with
 | .ref a => (match y with
  | .ref b => if a = b then some (.bool true) else none
  | _ => none)
 | _ => none
theorem ops_is : OpS prog w A C fv (compareOp .Is) isR := by
 intro φ st s a b c ra rb Q r e ha hb h
 refine cps fun G hG => ?_
 cases a <;> cases b <;> simp only [isR, reduceCtorEq] at e
 split at e <;> cases e
 rename_i n m hnm
 subst hnm
 simp only [vR1, vR2, vR3, vR4, vR5, vR6, vR7, vR8] at ha hb
 obtain ⟨x, hx, rfl⟩ := ha
 obtain ⟨y, hy, rfl⟩ := hb
 refine hG ?_; clear hG
 rw [hx] at hy; cases hy
 exact wpAny_is_ref_self (h s.heap s.toks _ (Stays.refl _) vr_bool)
noncomputable def eAnd (a b : MSt → Option MV) : MSt → Option MV := fun st => (a st).bind fun x => match x with
 | .bool true => b st
 | .bool false => some (.bool false)
 | _ => none
theorem SE.and {x y : Expr} {rest : List Expr} {pos : Pos} {env : Env} {a b : MSt → Option MV} (ha : SE prog w A C fv (eval x env) a) (hb : SE prog w A C fv (eval (.BoolOp .And (y :: rest) pos) env) b) :
  SE prog w A C fv (eval (.BoolOp .And (x :: y :: rest) pos) env) (eAnd a b) := by
 refine ⟨?_⟩
 intro φ st s v Q r e h
 simp only [eAnd, oI] at e
 obtain ⟨z, ez, e⟩ := e
 refine BoolOp_and (ha.run φ st s z _ r ez fun h1 t1 v1 k1 r1 q1 => ?_)
 split at e
 ·obtain rfl := vr_bool_inv q1
  exact wpAny_truthy_bool (hb.run φ st _ v _ r1 e fun h2 t2 v2 k2 r2 q2 => h h2 t2 v2 (k1.trans k2) r2 q2)
 ·obtain rfl := vr_bool_inv q1
  (injection e with e; subst e)
  exact wpAny_truthy_bool (h h1 t1 _ k1 r1 vr_bool)
 ·(injection e; done)
theorem SE.andOne {x : Expr} {pos : Pos} {env : Env} {a : MSt → Option MV} (ha : SE prog w A C fv (eval x env) a) : SE prog w A C fv (eval (.BoolOp .And [x] pos) env) a :=
 ⟨fun φ st s v Q r e h => BoolOp_one (ha.run φ st s v Q r e h)⟩
end
end
section
set_option backward.match.sparseCases false
theorem VRs.eraseIdx {h : Heap} {W : Addr → Prop} {φ : List (Option Addr)} : ∀ {x : List MV} {v : List Value} (j : Nat), VRs h W φ x v → VRs h W φ (x.eraseIdx j) (v.eraseIdx j)
 | [], _, j, q => by simp only [vRs1, vRs2] at q; subst q; simp [vRs1, vRs2]
 | x :: xs, _, 0, q => by
  simp only [vRs1, vRs2] at q
  obtain ⟨v, r, rfl, _, h2⟩ := q
  simpa using h2
 | x :: xs, _, j + 1, q => by
  simp only [vRs1, vRs2] at q
  obtain ⟨v, r, rfl, h1, h2⟩ := q
  simp only [List.eraseIdx_cons_succ, vRs1, vRs2]
  exact ⟨v, _, rfl, h1, VRs.eraseIdx j h2⟩
theorem flats_eraseIdx : ∀ {x : List MV} (j : Nat), flats x = true → flats (x.eraseIdx j) = true
 | [], _, h => by simpa using h
 | x :: xs, 0, h => by simp only [flats, Bool.and_eq_true] at h; simpa using h.2
 | x :: xs, j + 1, h => by
  simp only [flats, Bool.and_eq_true] at h
  simp only [List.eraseIdx_cons_succ, flats, Bool.and_eq_true]
  exact ⟨h.1, flats_eraseIdx j h.2⟩
theorem erased_list (items : List Value) (j : Nat) (m : Nat) : ∃ m', Obj.mapSeq (fun xs => xs.eraseIdxIfInBounds j) (listObj items m) = listObj (items.eraseIdx j) m' := by
 have : items.toArray.eraseIdxIfInBounds j = (items.eraseIdx j).toArray := by simp
 exact ⟨if (items.eraseIdx j).toArray.size == items.toArray.size then m else m + 1, by unfold Obj.mapSeq; dsimp only; rw [this]⟩
theorem ne_before {x : Str} : ∀ {l : List Str} {k : Nat} (hk : k < l.length), k < l.idxOf x → l[k] ≠ x
 | [], _, hk, _ => absurd hk (Nat.not_lt_zero _)
 | y :: l, 0, _, h => by
  intro e
  have e : y = x := e
  subst e
  simp at h
 | y :: l, k + 1, hk, h => by
  rw [List.idxOf_cons] at h
  cases hy : y == x with
  | true => rw [hy] at h; simp at h
  | false =>
   rw [hy] at h
   simp only [cond_false] at h
   have : k < l.idxOf x := by omega
   simpa using ne_before (l := l) (k := k) (by simpa using hk) this
section
variable {prog : Program} {w : World} {A : Around} {C : Cx} {fv : FV} {K : Frag} {P : Prop}
theorem R.relist {φ : List (Option Addr)} {st : MSt} {h : Heap} {a : Addr} {n m : Nat} {items : List Value} {xs : List MV} {f : Array Value → Array Value} (r : R prog w C fv φ st h) (ha : φ[n]? = some (some a)) (g : h.get? a = some (listObj items m)) (its : List Value) {m' : Nat} (hf : Obj.mapSeq f (listObj items m) = listObj its m') (hi : VRs h (C.av φ) φ xs its) (hfl : flats xs = true) (hl : xs.length ≤ 100000) :
  R prog w C fv φ { st with σ := st.σ.set n (.list xs) } (h.update a (Obj.mapSeq f)) ∧ Eff C fv φ h (h.update a (Obj.mapSeq f)) := by
 have hs : Heap.SameBut a h (h.update a (Obj.mapSeq f)) := Heap.SameBut.update ..
 have g' : (h.update a (Obj.mapSeq f)).get? a = some (listObj its m') := by rw [Heap.get?_update_self _ g (by rw [hf]; rfl), hf]
 exact ⟨r.update ha hs ⟨_, g'⟩ ⟨its, m', g', hi.flat hfl, hl⟩, Eff.update (List.mem_of_getElem? ha) hs⟩
noncomputable def sPop (kx ke : Nat) : MSt → Option (Out × MSt) := fun st => (eVar ke st).bind fun e => match e with
 | .ref n => match st.σ[n]? with
  | some (.list xs) => if flats xs ∧ xs.length ≤ 1000 then (xs[xs.length - 1]?).map fun y => (.next, MSt.set { st with σ := st.σ.set n (.list (xs.eraseIdx (xs.length - 1))) } kx y) else none
  | _ => none
 | _ => none
theorem SS.pop {x y : Str} {kx ke : Nat} {np pp apos pos spos : Pos} (hmy : (y, ke) ∈ fv.vars) (hm : (x, kx) ∈ fv.vars) (hv : VarsOk fv.vars = true) (hk : fv.env.scope.kind = .function) (hx : fv.env.kindOf x = some .local ∨ fv.env.kindOf x = some .cell)
  (hd : (y == ("__debug__" : Str)) = false := by decide) (hc : (y == ("__classdict__" : Str)) = false := by decide)
  (hbase : attributeBase (.Name y np) "pop" fv.env (eval (.Name y np) fv.env) = eval (.Name y np) fv.env := by rfl)
  (hline : (apos.endLine == pos.line) = true := by rfl)
  (hsw : swapsWith (.Call (.Attribute (.Name y np) "pop" apos) [] [] pos) (some (.Name x pp)) spos.line fv.env = pure false := by rfl) :
  SS prog w A C fv (exec (.Assign [.Name x pp] (.Call (.Attribute (.Name y np) "pop" apos) [] [] pos) spos) fv.env) (sPop kx ke) := by
 refine ⟨?_⟩
 intro φ st s o st' Q r ev h
 simp only [sPop, oI] at ev
 refine cps fun G hG => ?_
 obtain ⟨z, ez, ev⟩ := ev
 cases z <;> simp only [reduceCtorEq] at ev
 rename_i n
 split at ev
 ·rename_i xs hn
  split at ev
  case isFalse => (injection ev; done)
  rename_i hc
  simp only [oM, Prod.mk.injEq] at ev
  obtain ⟨u, hu, rfl, rfl⟩ := ev
  refine hG ?_; clear hG
  refine wpAny_Assign_Name ?_ hsw
  refine wpAny_Call_method hbase (by rfl) hline F.plainAttrs_list F.slot_list_pop F.type_list_pop ((se_var hmy hk hd (by assumption)).run φ st s _ _ r ez fun h1 t1 v1 k1 r1 q1 => ?_)
  simp only [vR1, vR2, vR3, vR4, vR5, vR6, vR7, vR8] at q1
  refine cps fun G hG => ?_
  obtain ⟨a, ha, rfl⟩ := q1
  obtain ⟨items, m, g1, g2, g3⟩ := r1.sto n a _ ha hn
  have hlen := g2.length
  refine hG ?_; clear hG
  refine ⟨⟨_, g1, rfl⟩, fun b eb => by (injection eb with eb; subst eb); exact ⟨_, g1, rfl⟩, callWith_builtin (by rfl) ?_⟩
  refine PyProof.Rows.evalArgs_empty ?_
  refine cps fun G hG => ?_
  obtain ⟨yv, hy, qy⟩ := g2.get _ _ hu
  obtain ⟨m', hm'⟩ := erased_list items (items.length - 1) m
  refine hG ?_; clear hG
  refine call_meets F.slot_list_pop ⟨_, g1, rfl⟩ F.entry_list_pop (F.args_list_pop_1 _) (MeetsSeq.list_pop_last a items.toArray m yv (by simpa [hlen] using hy) (by rw [List.size_toArray]; exact le_sizeLine (by omega))) ⟨g1, ?_⟩
  have hsz : items.toArray.size - 1 = items.length - 1 := by simp
  rw [hsz]
  obtain ⟨r2, k2⟩ := r1.relist (xs := xs.eraseIdx (xs.length - 1)) ha g1 (items.eraseIdx (items.length - 1)) hm' (by rw [hlen]; exact g2.eraseIdx _) (flats_eraseIdx _ hc.1) (by have := List.length_eraseIdx_le xs (xs.length - 1); omega)
  refine (sa_store hm hv hk hx).run φ _ { s with heap := _, toks := t1 } u yv _ _ r2 rfl (VR.flat (flats_get hc.1 hu) qy) fun h3 t3 r3 k3 => h φ h3 t3 _ r3 (Ext.refl _ _) (((Eff.of_stays k1).trans (Ext.refl _ _) k2).trans (Ext.refl _ _) k3) rfl
 ·(injection ev; done)
noncomputable def strIs (xx : Str) : Value → Bool
 | .str yy _ => yy == xx
 | _ => false
noncomputable def xRemove (ka ki : Nat) : MSt → Option (Option Out × MSt) := fun st => (eVar ka st).bind fun e => (eVar ki st).bind fun i => match e, i with
 | .ref n, .str x => match st.σ[n]? with
  | some (.list ys) => (strsOf ys).bind fun ss => if flats ys ∧ ys.length ≤ 1000 then
    (if ss.idxOf x < ss.length then some (some .next, { st with σ := st.σ.set n (.list (ys.eraseIdx (ss.idxOf x))) }) else some (none, st)) else none
  | _ => none
 | _, _ => none
theorem SX.remove {y x : Str} {ka ki : Nat} {np np2 apos pos spos : Pos} (hmy : (y, ka) ∈ fv.vars) (hm : (x, ki) ∈ fv.vars) (hk : fv.env.scope.kind = .function) (hP : P → A.handled = none) (hh : A.handled = none)
  (hd : (y == ("__debug__" : Str)) = false := by decide) (hc : (y == ("__classdict__" : Str)) = false := by decide)
  (hd2 : (x == ("__debug__" : Str)) = false := by decide) (hc2 : (x == ("__classdict__" : Str)) = false := by decide)
  (hse : starEach [.Name x np2] fv.env = [(false, eval (.Name x np2) fv.env)] := by rfl)
  (hbase : attributeBase (.Name y np) "remove" fv.env (eval (.Name y np) fv.env) = eval (.Name y np) fv.env := by rfl)
  (hline : (apos.endLine == pos.line) = true := by rfl) (hi : interactive fv.env = false := by rfl) :
  SX prog w A C fv P "ValueError" (exec (.Expr (.Call (.Attribute (.Name y np) "remove" apos) [.Name x np2] [] pos) spos) fv.env) (xRemove ka ki) := by
 refine ⟨?_⟩
 intro φ st s o st' Q E r ho ev h hE
 simp only [xRemove, oI] at ev
 refine cps fun G hG => ?_
 obtain ⟨z, ez, i, ei, ev⟩ := ev
 cases z <;> cases i <;> simp only [reduceCtorEq] at ev
 rename_i n xx
 split at ev
 ·rename_i ys hn
  simp only [oI] at ev
  obtain ⟨ss, es, ev⟩ := ev
  split at ev
  case isFalse => (injection ev; done)
  rename_i hfl
  refine hG ?_; clear hG
  refine wpAny_Expr_any ?_ hi rfl
  refine wpAny_Call_method hbase (by rw [hse]; rfl) hline F.plainAttrs_list F.slot_list_remove F.type_list_remove (wpAny_mono ((se_var hmy hk hd hc).run φ st s _ (fun v1 s1 => v1 = v1 ∧ ∃ h1 t1, s1 = { s with heap := h1, toks := t1 } ∧ Stays s.heap h1 ∧ R prog w C fv φ st h1 ∧ VR h1 (C.av φ) φ (.ref n) v1) r ez fun h1 t1 v1 k1 r1 q1 => ⟨rfl, h1, t1, rfl, k1, r1, q1⟩) (fun v1 s1 hq => ?_) fun _ _ z => z.elim)
  refine cps fun G hG => ?_
  obtain ⟨_, h1, t1, rfl, k1, r1, q1⟩ := hq
  simp only [vR1, vR2, vR3, vR4, vR5, vR6, vR7, vR8] at q1
  obtain ⟨a, ha, rfl⟩ := q1
  obtain ⟨items, m, g1, g2, g3⟩ := r1.sto n a _ ha hn
  refine hG ?_; clear hG
  refine ⟨⟨_, g1, rfl⟩, fun b eb => by (injection eb with eb; subst eb); exact ⟨_, g1, rfl⟩, callWith_builtin (by rw [hse]; rfl) ?_⟩
  rw [hse]
  refine evalArgs_plain (spliced_cons (wpAny_mono ((se_var hm hk hd2 hc2).run φ st _ _ (fun v2 s2 => v2 = v2 ∧ ∃ h2 t2, s2 = { s with heap := h2, toks := t2 } ∧ Stays h1 h2 ∧ R prog w C fv φ st h2 ∧ VR h2 (C.av φ) φ (.str xx) v2) r1 ei fun h2 t2 v2 k2 r2 q2 => ⟨rfl, h2, t2, rfl, k2, r2, q2⟩) (fun v2 s2 hq => ?_) fun _ _ z => z.elim))
  refine cps fun G hG => ?_
  obtain ⟨_, h2, t2, rfl, k2, r2, q2⟩ := hq
  obtain ⟨u, rfl⟩ := vr_str_inv q2
  refine hG ?_; clear hG
  refine spliced_nil ?_
  refine cps fun G hG => ?_
  obtain ⟨items, m, g1, g2, g3⟩ := r2.sto n a _ ha hn
  have hst := strs_are g2 es
  obtain ⟨hlen, hat⟩ := StrsAre.nth hst
  have eqs : ∀ v, v ∈ items.toArray → MeetsSeq.EqGives v (.str xx u) (strIs xx v) := by
   intro v hv
   obtain ⟨i, hi⟩ := List.getElem?_of_mem (by simpa using hv)
   obtain ⟨yy, t, _, rfl⟩ := hat i v hi
   have := SeqRoads2.EqGives.str yy xx t u
   rw [SeqAt.str_beq] at this
   exact this
  have hitem : ∀ (j : Nat) (hj : j < items.toArray.size), ∃ hs : j < ss.length, (strIs xx items.toArray[j]) = (ss[j] == xx) := by
   intro j hj
   have hj' : j < items.length := by simpa using hj
   obtain ⟨yy, t, h1, h2⟩ := hat j items[j] (List.getElem?_eq_getElem hj')
   obtain ⟨hs, e⟩ := List.getElem?_eq_some_iff.mp h1
   refine ⟨hs, ?_⟩
   have : items.toArray[j] = .str yy t := by simpa using h2
   rw [this, e]; rfl
  split at ev
  ·rename_i hin
   (injection ev with ev; injection ev with ev Y9; subst ev Y9)
   have hj : ss.idxOf xx < items.toArray.size := by simp; omega
   obtain ⟨m', hm'⟩ := erased_list items (ss.idxOf xx) m
   refine hG ?_; clear hG
   refine call_meets F.slot_list_remove ⟨_, g1, rfl⟩ F.entry_list_remove (F.args_list_remove_2 _ _) (MeetsSeq.list_remove a items.toArray m (.str xx u) _ eqs (ss.idxOf xx) hj (by
    obtain ⟨hs, e⟩ := hitem _ hj
    rw [e]; simp) (fun k hk hlt => by
    obtain ⟨hs, e⟩ := hitem _ hk
    rw [e]
    simpa using ne_before hs hlt) (by rw [List.size_toArray, hlen]; exact le_sizeLine (by have := g2.length; omega))) ⟨g1, ?_⟩
   obtain ⟨r3, k3⟩ := r2.relist ha g1 (items.eraseIdx (ss.idxOf xx)) hm' (g2.eraseIdx _) (flats_eraseIdx _ hfl.1) (by have := List.length_eraseIdx_le ys (ss.idxOf xx); omega)
   exact h _ rfl φ _ t2 _ r3 (Ext.refl _ _) (((Eff.of_stays k1).trans (Ext.refl _ _) (Eff.of_stays k2)).trans (Ext.refl _ _) k3) rfl
  ·rename_i hin
   (injection ev with ev; injection ev with ev Y9; subst ev Y9)
   refine hG ?_; clear hG
   refine call_meets F.slot_list_remove ⟨_, g1, rfl⟩ F.entry_list_remove (F.args_list_remove_2 _ _) (MeetsSeq.list_remove_none a items.toArray m (.str xx u) _ eqs (fun k hk => by
    obtain ⟨hs, e⟩ := hitem _ hk
    rw [e]
    have : ¬ xx ∈ ss := fun hm => hin (List.idxOf_lt_length_of_mem hm)
    have h5 : ss[k] ≠ xx := fun e => this (e ▸ List.getElem_mem hs)
    simpa using h5)) ⟨g1, hh, fun h4 t4 e hne => ?_⟩
   refine cps fun G hG => ?_
   obtain ⟨ob, t, e1, e2, e3⟩ := hne.there
   have k := (k1.trans k2).trans hne.keeps
   refine hG ?_; clear hG
   refine hE rfl φ h4 t4 e (r2.stays hne.keeps) (Ext.refl _ _) (Eff.of_stays k) ⟨.none, none, .inl rfl, ⟨ob, _, e1, e2, e3, rfl, ?_, rfl⟩, fun _ => rfl⟩
   exact stays_live (k1.trans k2) _ hne.new
 ·(injection ev; done)
end
end
section
set_option backward.match.sparseCases false
noncomputable def gap : Obj := { cls := .none, data := .freed }
theorem get?_gap {h : Heap} {b : Addr} {o : Obj} : (h.push gap).get? b = some o ↔ h.get? b = some o := by
 constructor
 ·intro e
  obtain ⟨e1, e2⟩ := Heap.get?_some_iff.mp e
  refine Heap.get?_some_iff.mpr ⟨?_, e2⟩
  have e1 : (h.objs.push gap)[b]? = some o := by cases h; simpa [Heap.push] using e1
  rw [Array.getElem?_push] at e1
  split at e1
  ·(injection e1 with e1; subst e1); (injection e2; done)
  ·exact e1
 ·exact Heap.get?_push_of_some gap
theorem strsOf_map : ∀ {l : List MV} {ss : List Str}, strsOf l = some ss → l = ss.map .str
 | [], _, e => by (injection e with e; subst e); rfl
 | x :: l, ss, e => by
  cases x <;> (dsimp only [sO0, sO1, sO2, sO3, sO4, sO5, sO6, sO7, sO8] at e; simp only [sO0, sO1, sO2, sO3, sO4, sO5, sO6, sO7, sO8, reduceCtorEq, oM] at e)
  obtain ⟨r, e, rfl⟩ := e
  rw [strsOf_map e]; rfl
theorem flats_strs : ∀ ss : List Str, flats (ss.map .str) = true
 | [] => rfl
 | x :: r => by simp [flats, flatV, flats_strs r]
noncomputable def ofRel {α : Type} (P : α → Prop) : Option α := open Classical in if h : ∃ a, P a then some h.choose else none
theorem ofRel_inv {α : Type} {P : α → Prop} {a : α} (h : ofRel P = some a) : P a := by
 unfold ofRel at h
 by_cases c : ∃ a, P a
 ·rw [dif_pos c] at h; exact Option.some.inj h ▸ c.choose_spec
 ·exact (ng (dif_neg c) h).elim
theorem ofRel_eq {α : Type} {P : α → Prop} {a : α} (h : P a) (u : ∀ b, P b → b = a) : ofRel P = some a := by
 have c : ∃ a, P a := ⟨a, h⟩
 unfold ofRel
 rw [dif_pos c, u _ c.choose_spec]
theorem map_str_inj {a b : List Str} (h : a.map MV.str = b.map MV.str) : a = b := (List.map_inj_right (fun _ _ e => MV.str.inj e)).mp h
noncomputable def picked (p : Out × MSt) (q : List Str × List Str × List Str) : Prop := p.1 = .ret (.tup [.ref 2, .ref 1]) ∧ p.2.σ = [.list (q.2.1.map .str), .list (q.2.2.map .str), .list (q.1.map .str)]
noncomputable def pickU (p : Out × MSt) : Option (List Str × List Str × List Str) := ofRel (picked p)
theorem pickU_inv {p : Out × MSt} {c a b : List Str} (h : pickU p = some (c, a, b)) : p.1 = .ret (.tup [.ref 2, .ref 1]) ∧ p.2.σ = [.list (a.map .str), .list (b.map .str), .list (c.map .str)] := ofRel_inv (P := picked p) h
theorem pickU_eq {p : Out × MSt} {c a b : List Str} (h1 : p.1 = .ret (.tup [.ref 2, .ref 1])) (h2 : p.2.σ = [.list (a.map .str), .list (b.map .str), .list (c.map .str)]) : pickU p = some (c, a, b) :=
 ofRel_eq (P := picked p) ⟨h1, h2⟩ fun q ⟨_, h⟩ => by
  rw [h2] at h
  injection h with e1 h
  injection h with e2 h
  injection h with e3 h
  exact Prod.ext (map_str_inj (MObj.list.inj e3)).symm (Prod.ext (map_str_inj (MObj.list.inj e1)).symm (map_str_inj (MObj.list.inj e2)).symm)
noncomputable def startU (xs ys : List Str) : MSt := ⟨fun k => [MV.ref 0, MV.ref 1][k]?, [.list (xs.map .str), .list (ys.map .str)]⟩
noncomputable def specU (m : MSt → Option (Out × MSt)) (xs ys : List Str) : Option (List Str × List Str × List Str) := if xs.length ≤ 1000 ∧ ys.length ≤ 1000 then (m (startU xs ys)).bind pickU else none
noncomputable def isRef (n : Nat) : Option MV → Bool
 | some (.ref m) => m == n
 | _ => false
theorem isRef_iff {n : Nat} {x : Option MV} (h : isRef n x = true) : x = some (.ref n) := by
 unfold isRef at h
 split at h
 ·simp at h; subst h; rfl
 ·(injection h; done)
structure CallU (kl kb : Nat) (spec : List Str → List Str → Option (List Str × List Str × List Str)) (st : MSt) (q : (List Str × List Str) × (List Str × List Str × List Str)) : Prop where
 hσ : st.σ = [.list (q.1.1.map .str), .list (q.1.2.map .str)]
 r0 : isRef 0 (st.ρ kl) = true
 r1 : isRef 1 (st.ρ kb) = true
 hs : spec q.1.1 q.1.2 = some q.2
 l1 : q.2.1.length ≤ 1000
 l2 : q.2.2.1.length ≤ 1000
 l3 : q.2.2.2.length ≤ 1000
noncomputable def sCallU (kl kb ka : Nat) (spec : List Str → List Str → Option (List Str × List Str × List Str)) : MSt → Option (Out × MSt) := fun st => (ofRel (CallU kl kb spec st)).map fun q =>
 (.next, MSt.set ⟨st.ρ, [.list (q.2.2.1.map .str), .list (q.2.2.2.map .str)]⟩ ka (.tup [.lst (q.2.1.map .str), .ref 1]))
theorem sCallU_eq {kl kb ka : Nat} {spec : List Str → List Str → Option (List Str × List Str × List Str)} {st : MSt} {xs ys c a b : List Str} (h : CallU kl kb spec st ((xs, ys), (c, a, b))) :
  sCallU kl kb ka spec st = some (.next, MSt.set ⟨st.ρ, [.list (a.map .str), .list (b.map .str)]⟩ ka (.tup [.lst (c.map .str), .ref 1])) := by
 unfold sCallU
 rw [ofRel_eq h fun q g => ?_]
 ·rfl
 ·have e := g.hσ
  rw [h.hσ] at e
  injection e with e1 e
  injection e with e2 e
  have g1 : q.1 = (xs, ys) := Prod.ext (map_str_inj (MObj.list.inj e1)).symm (map_str_inj (MObj.list.inj e2)).symm
  have g2 := g.hs
  rw [g1, h.hs] at g2
  exact Prod.ext g1 (Option.some.inj g2).symm
section
variable {prog : Program} {w : World} {A : Around} {C : Cx} {fv : FV} {K : Frag}
theorem enterU {f : Addr} {fd : FuncData} {body : List Stmt} {vars : List (Str × Nat)} {n1 n2 : Str} {s₀ s₁ : Shared} {φ : List (Option Addr)} {st : MSt} {a1 a2 : Addr} {xs ys : List Str} (ok : FnOk K f fd body vars [n1, n2])
  (r : R prog w C fv φ st s₀.heap) (hσ : st.σ = [.list (xs.map .str), .list (ys.map .str)]) (h1 : φ[0]? = some (some a1)) (h2 : φ[1]? = some (some a2)) (hfn : C.h₀.objs.size = C.fn) (hcell : ∀ L, cellsFrom L fd.scope.names [] = [])
  (x : InCallC s₀ (callEnvC fd s₀.heap.objs.size f).locals (bindL (callEnvC fd s₀.heap.objs.size f).kindOf ([n1, n2].zip [.ref a1, .ref a2]) fun _ => none) (callEnvC fd s₀.heap.objs.size f).cells (bindC (callEnvC fd s₀.heap.objs.size f).kindOf ([n1, n2].zip [.ref a1, .ref a2]) fun _ => none) s₁) :
  R prog w ⟨C.h₀.push gap, s₀.heap.objs.size, fun _ => False, fun b => b = C.fn, s₀.heap⟩ (fnFV fd s₀.heap.objs.size f vars) [some a1, some a2] (startU xs ys) s₁.heap := by
 have hkeep := x.toInCall.keep
 have hns := x.toInCall.ns
 have hce : (callEnvC fd s₀.heap.objs.size f).cells = [] := hcell _
 have noc : ∀ {n : Str} {c : Addr}, (callEnvC fd s₀.heap.objs.size f).cells.lookup n = some c → False := fun h => by rw [hce] at h; (injection h; done)
 have hz : @Eq Nat (C.h₀.push gap).objs.size (C.h₀.objs.size + 1) := Heap.size_push ..
 obtain ⟨mf, nf⟩ := r.fr
 have hflt : @LT.lt Nat _ C.fn s₀.heap.objs.size := nf.lt
 have hfn : @Eq Nat C.h₀.objs.size C.fn := hfn
 have m1 : some a1 ∈ φ := List.mem_of_getElem? h1
 have m2 : some a2 ∈ φ := List.mem_of_getElem? h2
 have big : ∀ {a : Addr}, some a ∈ φ → @LE.le Nat _ (C.h₀.push gap).objs.size a ∧ @LT.lt Nat _ a s₀.heap.objs.size := fun {a} ha => by
  have g1 : @LE.le Nat _ C.h₀.objs.size a := r.new a ha
  have g2 : ¬ @Eq Nat a C.fn := fun e => r.fnOff (by rw [← show a = C.fn from e]; exact ha)
  obtain ⟨o, g3⟩ := r.live a ha
  exact ⟨by omega, Heap.lt_size g3⟩
 have cases2 : ∀ {P : Addr → Prop}, P a1 → P a2 → ∀ a, some a ∈ ([some a1, some a2] : List (Option Addr)) → P a := fun p1 p2 a ha => by
  simp only [List.mem_cons, Option.some.injEq, List.mem_nil_iff, or_false] at ha
  rcases ha with rfl | rfl
  ·exact p1
  ·exact p2
 have hst : ∀ (i : Nat) a, φ[i]? = some (some a) → ∀ zs : List Str, st.σ[i]? = some (.list (zs.map .str)) → ORel prog w s₁.heap (Cx.av ⟨C.h₀.push gap, s₀.heap.objs.size, fun _ => False, fun b => b = C.fn, s₀.heap⟩ [some a1, some a2]) [some a1, some a2] a (.list (zs.map .str)) := fun i a ha zs hi => by
  obtain ⟨items, n, g1, g2, g3⟩ := r.sto i a _ ha hi
  exact ⟨items, n, hkeep _ _ g1, g2.flat (flats_strs zs), g3⟩
 have hne : a1 ≠ a2 := fun e => by have := r.nodup 0 1 a1 h1 (e ▸ h2); (injection this; done)
 have fnv : ∀ {y : Str} {k : Nat}, (y, k) ∈ vars → fd.scope.names.lookup y = some .local := fun {y k} hp => by
  rcases ok.vk _ hp (s₀.heap.objs.size + 1) with hl | ⟨_, hs⟩
  ·exact hl
  ·rw [hcell] at hs; (injection hs; done)
 refine ⟨fun b o e => hkeep b o (r.base b o (get?_gap.mp e)), ⟨_, hns⟩, ?_, fun a ha => ha.elim, fun p hp => ?_, rfl, fun i a o e1 e2 => ?_, ?_, fun i j a e1 e2 => ?_, ?_, ⟨_, hns⟩, ?_, fun hm => ?_, fun hm => ?_, fun y c e => (noc e).elim, fun y z c e => (noc e).elim, fun y c e => (noc e).elim, fun y c e => (noc e).elim, fun b hb => ?_⟩
 ·show @LE.le Nat _ (C.h₀.push gap).objs.size s₀.heap.objs.size
  omega
 ·refine ⟨_, .inl ⟨fnv (y := p.1) (k := p.2) hp, _, hns, rfl⟩, ?_⟩
  show OVR _ _ _ ([MV.ref 0, MV.ref 1][p.2]?) _
  have val : ∀ (i : Nat) (a : Addr), ([n1, n2] : List Str)[i]? = some p.1 → ([Value.ref a1, Value.ref a2] : List Value)[i]? = some (.ref a) → bindL (callEnvC fd s₀.heap.objs.size f).kindOf ([n1, n2].zip [Value.ref a1, Value.ref a2]) (fun _ => none) p.1 = some (.ref a) := fun i a e1 e2 => by
   refine bindL_get (fnv (y := p.1) (k := p.2) hp) (by simpa using ok.nd) (.inl ?_)
   exact List.mem_of_getElem? (i := i) (List.getElem?_zip_eq_some.mpr ⟨e1, e2⟩)
  match hq : p.2 with
  | 0 => exact ⟨_, val 0 a1 (ok.slots p hp 0 hq (by simp)) rfl, vr_ref rfl⟩
  | 1 => exact ⟨_, val 1 a2 (ok.slots p hp 1 hq (by simp)) rfl, vr_ref rfl⟩
  | n + 2 => simp [OVR]
 ·match i with
  | 0 => cases e1; (injection e2 with e2; subst e2); exact hst 0 _ h1 xs (by rw [hσ]; rfl)
  | 1 => cases e1; (injection e2 with e2; subst e2); exact hst 1 _ h2 ys (by rw [hσ]; rfl)
  | n + 2 => simp at e1
 ·exact cases2 (let ⟨o, e⟩ := r.live a1 m1; ⟨o, hkeep _ _ e⟩) (let ⟨o, e⟩ := r.live a2 m2; ⟨o, hkeep _ _ e⟩)
 ·match i, j with
  | 0, 0 => rfl
  | 1, 1 => rfl
  | 0, 1 => simp at e1 e2; exact (hne (e1.trans e2.symm)).elim
  | 1, 0 => simp at e1 e2; exact (hne (e2.trans e1.symm)).elim
  | n + 2, _ => simp at e1
  | _, n + 2 => simp at e2
 ·exact cases2 (big m1).1 (big m2).1
 ·show @LE.le Nat _ (C.h₀.push gap).objs.size s₀.heap.objs.size
  omega
 ·exact cases2 (P := fun a => a ≠ s₀.heap.objs.size) (Nat.ne_of_lt (big m1).2) (Nat.ne_of_lt (big m2).2) _ hm rfl
 ·exact cases2 (P := fun a => a ≠ s₀.heap.objs.size) (Nat.ne_of_lt (big m1).2) (Nat.ne_of_lt (big m2).2) _ hm rfl
 ·have hb : b = C.fn := hb
  subst hb
  obtain ⟨o, es, ep, g1, g2, _⟩ := nf
  refine ⟨⟨o, hkeep _ _ g1, (fun ⟨i, n, hd⟩ => by rw [g2] at hd; (injection hd; done)), (fun vs hd => by rw [g2] at hd; (injection hd; done)), fun o' e => ?_⟩, ?_, ?_⟩
  ·have e : s₀.heap.get? C.fn = some o' := e
   rw [g1] at e; (injection e with e; subst e); exact ⟨o.slots, rfl⟩
  ·show @LT.lt Nat _ C.fn (C.h₀.push gap).objs.size
   omega
  ·cases q : (C.h₀.push gap).get? C.fn with
   | none => rfl
   | some o' =>
    have := Heap.lt_size (get?_gap.mp q)
    have : @LT.lt Nat _ C.fn C.h₀.objs.size := this
    omega
end
end
section
section
variable {prog : Program} {w : World} {A : Around} {C : Cx} {fv : FV} {K : Frag}
theorem sameBut_symm {a : Addr} {h h' : Heap} (x : Heap.SameBut a h h') : Heap.SameBut a h' h := ⟨x.1.symm, fun b hb => (x.2 b hb).symm⟩
theorem R.two {φ : List (Option Addr)} {st : MSt} {h h' : Heap} {a1 a2 : Addr} {x1 x2 y1 y2 : MObj} (r : R prog w C fv φ st h) (h1 : φ[0]? = some (some a1)) (h2 : φ[1]? = some (some a2)) (hσ : st.σ = [x1, x2])
  (hk : ∀ b o, h.get? b = some o → b ≠ a1 → b ≠ a2 → b ≠ C.fn → h'.get? b = some o) (hf : ∀ o, h.get? C.fn = some o → ∃ sl, h'.get? C.fn = some { o with slots := sl })
  (l1 : ∃ o, h'.get? a1 = some o) (l2 : ∃ o, h'.get? a2 = some o) (o1 : ∀ h'', h''.get? a1 = h'.get? a1 → ORel prog w h'' (C.av φ) φ a1 y1) (o2 : ORel prog w h' (C.av φ) φ a2 y2) : R prog w C fv φ { st with σ := [y1, y2] } h' := by
 have m1 : some a1 ∈ φ := List.mem_of_getElem? h1
 have m2 : some a2 ∈ φ := List.mem_of_getElem? h2
 have hne : a1 ≠ a2 := fun e => by have := r.nodup 0 1 a1 h1 (e ▸ h2); (injection this; done)
 refine cps fun G hG => ?_
 obtain ⟨v1, g1⟩ := r.live a1 m1
 obtain ⟨v2, g2⟩ := r.live a2 m2
 have f1 : v1.isFreed = false := (Heap.get?_some_iff.mp g1).2
 have f2 : v2.isFreed = false := (Heap.get?_some_iff.mp g2).2
 obtain ⟨w1, e1⟩ := l1
 obtain ⟨w2, e2⟩ := l2
 have sB := Heap.SameBut.update h' a2 (fun _ => v2)
 generalize hB : h'.update a2 (fun _ => v2) = B at sB
 have B1 : B.get? a1 = some w1 := (sB.2 a1 hne).trans e1
 have B2 : B.get? a2 = some v2 := by rw [← hB]; exact Heap.get?_update_self _ e2 f2
 have sA := Heap.SameBut.update B a1 (fun _ => v1)
 generalize hA : B.update a1 (fun _ => v1) = H at sA
 have A1 : H.get? a1 = some v1 := by rw [← hA]; exact Heap.get?_update_self _ B1 f1
 have A2 : H.get? a2 = some v2 := (sA.2 a2 (Ne.symm hne)).trans B2
 have bk : Book C (fun _ => False) h H := fun b o e => by
  by_cases c1 : b = a1
  ·subst c1; rw [g1] at e; (injection e with e; subst e); exact ⟨_, A1, .inl rfl⟩
  by_cases c2 : b = a2
  ·subst c2; rw [g2] at e; (injection e with e; subst e); exact ⟨_, A2, .inl rfl⟩
  have same : H.get? b = h'.get? b := (sA.2 b c1).trans (sB.2 b c2)
  by_cases c3 : b = C.fn
  ·subst c3
   obtain ⟨sl, q⟩ := hf o e
   exact ⟨_, same.trans q, .inr (.inl ⟨.inl rfl, sl, rfl⟩)⟩
  ·exact ⟨o, same.trans (hk b o e c1 c2 c3), .inl rfl⟩
 have rA := r.book bk fun _ z => z.elim
 have rB := rA.update h1 (sameBut_symm sA) ⟨_, B1⟩ (o1 B (sB.2 a1 hne))
 have rC := rB.update h2 (sameBut_symm sB) ⟨_, e2⟩ o2
 rw [hσ] at rC
 refine hG ?_; clear hG
 exact rC
theorem SS.callU {x y1 y2 z : Str} {n1 n2 : Str} {k1 k2 kz n : Nat} {np p1 p2 pz pos spos : Pos} {f : Addr} {fd : FuncData} {body : List Stmt} {vars : List (Str × Nat)} {m : MSt → Option (Out × MSt)}
  (cx : CtxX A C fv) (hA1 : A.frames = some [fv.env]) (hfn : C.h₀.objs.size = C.fn) (hA : AOk A (n + 1)) (hT : TopOk K C.h₀) (hW : ∀ a, ¬ C.W0 a) (he : EnvOk fv.env) (hx : fv.env.kindOf x = some .globalImplicit) (hg : nsIn K mainGlobals x = some (some (.ref f)))
  (ok : FnOk K f fd body vars [n1, n2]) (hvv : VarsOk vars = true) (hbind : ∀ vs : List Value, vs.length = 2 → bindArgs fd ⟨vs, []⟩ = pure ([n1, n2].zip vs)) (hcell : ∀ L, cellsFrom L fd.scope.names [] = []) (hnoc : ∀ n, fd.scope.names.lookup n ≠ some .cell)
  (hss : ∀ A C L, AOk A n → CtxX A C (fnFV fd L f vars) → TopOk K C.h₀ → EnvOk (callEnvC fd L f) → VarsOk vars = true → SS prog w A C (fnFV fd L f vars) (execs body (callEnvC fd L f)) m)
  (hm1 : (y1, k1) ∈ fv.vars) (hm2 : (y2, k2) ∈ fv.vars) (hm : (z, kz) ∈ fv.vars) (hv : VarsOk fv.vars = true) (hk : fv.env.scope.kind = .function) (hz : fv.env.kindOf z = some .local ∨ fv.env.kindOf z = some .cell)
  (hd1 : (y1 == ("__debug__" : Str)) = false := by decide) (hc1 : (y1 == ("__classdict__" : Str)) = false := by decide) (hd2 : (y2 == ("__debug__" : Str)) = false := by decide) (hc2 : (y2 == ("__classdict__" : Str)) = false := by decide)
  (hdb : (x == ("__debug__" : Str)) = false := by decide) (hse : backTo pos (starEach [.Name y1 p1, .Name y2 p2] fv.env) = [(false, eval (.Name y1 p1) fv.env), (false, eval (.Name y2 p2) fv.env)] := by rfl)
  (hsw : swapsWith (.Call (.Name x np) [.Name y1 p1, .Name y2 p2] [] pos) (some (.Name z pz)) spos.line fv.env = pure false := by rfl) :
  SS prog w A C fv (exec (.Assign [.Name z pz] (.Call (.Name x np) [.Name y1 p1, .Name y2 p2] [] pos) spos) fv.env) (sCallU k1 k2 kz (specU m)) := by
 have hl : fv.env.locals = C.fn := cx.parts.2.2.1
 have hkm : fv.env.scope.kind ≠ .module := cx.parts.1
 have hfr : fv.env.frame = some C.fn := cx.parts.2.1
 obtain ⟨base, hbase⟩ := cx.parts.2.2.2
 refine ⟨?_⟩
 intro φ st s o' st' Q r ev h
 refine cps fun G hG => ?_
 obtain ⟨⟨⟨xs, ys⟩, ⟨ms, xs', ys'⟩⟩, hq, ev⟩ := oM.mp ev
 obtain ⟨hσ, hr0, hr1, esp, hl1, hl2, hl3⟩ := ofRel_inv hq
 dsimp only at hσ esp hl1 hl2 hl3 ev
 have hrefs := And.intro hr0 hr1
 have hlens := And.intro hl1 (And.intro hl2 hl3)
 cases ev
 have e1 : eVar k1 st = some (.ref 0) := isRef_iff hrefs.1
 have e2 : eVar k2 st = some (.ref 1) := isRef_iff hrefs.2
 refine hG ?_; clear hG
 unfold specU at esp
 refine cps fun G hG => ?_
 split at esp
 case isFalse => cases esp
 simp only [oI] at esp
 obtain ⟨⟨oo, stU⟩, em, ep⟩ := esp
 obtain ⟨ho, hσU⟩ := pickU_inv ep
 simp only at ho hσU
 subst ho
 refine hG ?_; clear hG
 refine wpAny_Assign_Name ?_ hsw
 refine cps fun G hG => ?_
 obtain ⟨of, hof, hod⟩ := ok.look
 have hne : ∃ t rest, backTo pos (starEach [.Name y1 p1, .Name y2 p2] fv.env) = (false, t) :: rest := ⟨_, _, hse⟩
 have hs : SL prog w A C fv (spliced (backTo pos (starEach [.Name y1 p1, .Name y2 p2] fv.env))) (eCons (eVar k1) (eCons (eVar k2) eNil)) := by
  exact SL.cons (se_var hm1 hk hd1 hc1) (SL.cons (se_var hm2 hk hd2 hc2) sl_nil)
 have el : (eCons (eVar k1) (eCons (eVar k2) eNil)) st = some [.ref 0, .ref 1] := by simp [eCons, eNil, e1, e2]
 refine hG ?_; clear hG
 refine wpAny_Call_NameR (ev_fn hT he hx hg r (callWith_function (o := of) (fd := fd) (evalArgs_sl hs hne r el fun h1 t1 v1 kk1 r1 q1 => ⟨⟨r1.base _ _ (hT.k _ _ hof), hod⟩, ?_⟩)) hdb)
 refine cps fun G hG => ?_
 obtain ⟨ra, rb, rfl, qa, qb⟩ := vrs_two q1
 simp only [vR1, vR2, vR3, vR4, vR5, vR6, vR7, vR8] at qa qb
 obtain ⟨a1, ha1, rfl⟩ := qa
 obtain ⟨a2, ha2, rfl⟩ := qb
 have m1 : some a1 ∈ φ := List.mem_of_getElem? ha1
 have m2 : some a2 ∈ φ := List.mem_of_getElem? ha2
 have hT1 : TopOk K h1 := hT.stays r1.base
 have hroom : A.depth < recursionLimit := by have := hA.depth; omega
 obtain ⟨pp, loose, mean, mg, mb, Tp⟩ := hT1.top
 refine hG ?_; clear hG
 refine wpAny_call (codeAny_call_function hroom (hT1.k _ _ hof) hod ok.co ok.gen ok.body (codeRec_of hT1.k ok.code) ?_)
 rw [hbind _ rfl]
 refine wpAny_pure ?_
 rw [ok.clos]
 refine wpAny_newFunctionEnv_cells ok.kind (fun y hy => ok.nk y.1 ?_ _) fun env he' s' x => ?_
 ·have := (List.of_mem_zip hy).1; exact this
 subst he'
 refine ⟨Tp.nolimit.keeps x.toInCall.keep, codeAny_func ?_⟩
 have hkeep := x.toInCall.keep
 have r0 := enterU (prog := prog) (w := w) (s₀ := { s with heap := h1, toks := t1 }) (s₁ := s') ok r1 hσ ha1 ha2 hfn hcell x
 have hA' : AOk (A.deeper (callEnvC fd h1.objs.size f)) n := ⟨hA.handled, by have := hA.depth; show A.depth + 1 + n < _; omega, by have := hA.units; show A.units + 3 + 8 * n + 100 < _; omega⟩
 have hX : CtxX (A.deeper (callEnvC fd h1.objs.size f)) ⟨C.h₀.push gap, h1.objs.size, fun _ => False, fun b => b = C.fn, h1⟩ (fnFV fd h1.objs.size f vars) := by
  refine ⟨base, [fv.env], by show A.frames.map _ = _; rw [hA1]; rfl, by show fd.scope.kind ≠ _; rw [ok.kind]; decide, rfl, rfl, fun b o e => get?_gap.mpr (hbase b o e), fun e he => ?_⟩
  simp only [List.mem_singleton] at he
  subst he
  refine ⟨hkm, C.fn, hfr, ?_, rfl⟩
  cases q : base.get? C.fn with
  | none => rfl
  | some o =>
   have h5 : @LT.lt Nat _ C.fn C.h₀.objs.size := Heap.lt_size (hbase _ _ q)
   have h6 : @Eq Nat C.h₀.objs.size C.fn := hfn
   omega
 have hT0 : TopOk K (C.h₀.push gap) := hT.stays fun b o e => get?_gap.mpr e
 have hE : EnvOk (callEnvC fd h1.objs.size f) := ⟨ok.kind, ok.glob, ok.bins, fun n hn => (hnoc n hn).elim⟩
 obtain ⟨h1', tk', hs'⟩ := x.toInCall.same
 have hs'' : s' = { s with heap := s'.heap, toks := s'.toks } := by rw [hs']
 refine wpAny_mono ((hss _ ⟨C.h₀.push gap, h1.objs.size, fun _ => False, fun b => b = C.fn, h1⟩ h1.objs.size hA' hX hT0 hE hvv).run [some a1, some a2] (startU xs ys) s' _ stU _ r0 em fun φ' h' tk fl r' x' k' q' => ?_) (fun _ _ z => z) fun _ _ z => z.elim
 refine cps fun G hG => ?_
 obtain ⟨rv, rfl, qv⟩ := q'
 have g1 : φ'[0]? = some (some a1) := x'.grow 0 a1 rfl
 have g2 : φ'[1]? = some (some a2) := x'.grow 1 a2 rfl
 simp only [vR1, vR2, vR3, vR4, vR5, vR6, vR7, vR8, vRs1, vRs2] at qv
 obtain ⟨T, items, rfl, -, hTup, u1, r1', rfl, ⟨am, gm, rfl⟩, u2, r2', rfl, ⟨a2', g2', rfl⟩, rfl⟩ := qv
 refine hG ?_; clear hG
 rw [g2] at g2'; cases g2'
 obtain ⟨i0, n0, c0, d0, _⟩ := r'.sto 0 a1 _ g1 (by rw [hσU]; rfl)
 obtain ⟨i1, n1', c1, d1, _⟩ := r'.sto 1 a2 _ g2 (by rw [hσU]; rfl)
 obtain ⟨i2, n2', c2, d2, _⟩ := r'.sto 2 am _ gm (by rw [hσU]; rfl)
 have kept : ∀ b o, h1.get? b = some o → b ≠ a1 → b ≠ a2 → b ≠ C.fn → h'.get? b = some o := fun b o e n1 n2 n3 => by
  refine k' b o (hkeep b o e) (fun hm => ?_) (fun hb => ?_) (fun y c hc => ?_) n3
  ·simp only [List.mem_cons, Option.some.injEq, List.mem_nil_iff, or_false] at hm
   exact hm.elim n1 n2
  ·have : @LT.lt Nat _ b h1.objs.size := Heap.lt_size e
   have hb : b = h1.objs.size := hb
   exact absurd hb (Nat.ne_of_lt this)
  ·have : (callEnvC fd h1.objs.size f).cells = [] := hcell _
   have hc : (callEnvC fd h1.objs.size f).cells.lookup y = some c := hc
   rw [this] at hc; cases hc
 have kfn : ∀ o, h1.get? C.fn = some o → ∃ sl, h'.get? C.fn = some { o with slots := sl } := fun o e => by
  refine cps fun G hG => ?_
  obtain ⟨⟨o', q1, _, _, q4⟩, _⟩ := r'.hid C.fn rfl
  obtain ⟨sl, rfl⟩ := q4 o e
  refine hG ?_; clear hG
  exact ⟨sl, q1⟩
 have r2 : R prog w C fv φ { st with σ := [.list (xs'.map .str), .list (ys'.map .str)] } h' := by
  refine r1.two ha1 ha2 hσ kept kfn ⟨_, c0⟩ ⟨_, c1⟩ (fun h'' e => ⟨i0, n0, e.trans c0, d0.flat (flats_strs _), by have : xs'.length ≤ 1000 := hlens.2.1; rw [List.length_map]; omega⟩) ⟨i1, n1', c1, d1.flat (flats_strs _), by have : ys'.length ≤ 1000 := hlens.2.2; rw [List.length_map]; omega⟩
 have k2 : Eff C fv φ s.heap h' := by
  intro b o e q1 q2 q3 q4
  exact kept b o (kk1 b o e) (fun hb => q1 (hb ▸ m1)) (fun hb => q1 (hb ▸ m2)) (fun hb => q2 (hb.trans hl.symm))
 have noT : ∀ (i : Nat), φ[i]? ≠ some (some T) := fun i hi => by
  have hi2 : i < 2 := by
   have := (List.getElem?_eq_some_iff.mp hi).1
   rw [r1.len, hσ] at this
   simpa using this
  have bad : ∀ {its : List Value} {n : Nat}, h'.get? T = some (listObj its n) → False := fun e => by
   obtain ⟨oT, e1, e2, _⟩ := hTup
   rw [e] at e1; cases e1; simp at e2
  match i, hi2 with
  | 0, _ => rw [ha1] at hi; cases hi; exact bad c0
  | 1, _ => rw [ha2] at hi; cases hi; exact bad c1
 have noM : ∀ (i : Nat), φ[i]? ≠ some (some am) := fun i hi => by
  have hi2 : i < 2 := by
   have := (List.getElem?_eq_some_iff.mp hi).1
   rw [r1.len, hσ] at this
   simpa using this
  match i, hi2 with
  | 0, _ => rw [ha1] at hi; cases hi; have := r'.nodup 0 2 _ g1 gm; cases this
  | 1, _ => rw [ha2] at hi; cases hi; have := r'.nodup 1 2 _ g2 gm; cases this
 have notav : ∀ {b : Addr}, (∀ i : Nat, φ[i]? ≠ some (some b)) → ¬ C.av φ b := fun hb hav => by
  rcases hav with hav | hav
  ·exact hW _ hav
  ·obtain ⟨i, hi⟩ := List.getElem?_of_mem hav
   exact hb i hi
 have qz : VR h' (C.av φ) φ (.tup [.lst (ms.map .str), .ref 1]) (.ref T) := by
  simp only [vR1, vR2, vR3, vR4, vR5, vR6, vR7, vR8, vRs1, vRs2]
  exact ⟨T, _, rfl, notav noT, hTup, _, _, rfl, ⟨am, i2, rfl, notav noM, ⟨_, c2, rfl, _, rfl⟩, d2.flat (flats_strs _)⟩, _, _, rfl, ⟨a2, ha2, rfl⟩, rfl⟩
 have fin := (sa_store (prog := prog) (w := w) (A := A) (C := C) hm hv hk hz).run φ { st with σ := [.list (xs'.map .str), .list (ys'.map .str)] } { s with heap := h', toks := tk } _ (.ref T) _ (fun _ s'' => Q .next s'') r2 rfl qz fun h3 t3 r3 k3 => h φ h3 t3 _ r3 (Ext.refl _ _) (k2.trans (Ext.refl _ _) k3) rfl
 rw [hs'']
 exact fin
end
end
section
set_option backward.match.sparseCases false
noncomputable def noCellChk (names : List (Str × NameKind)) : Bool := names.all fun p => p.2 != .cell
theorem noCell_of {names : List (Str × NameKind)} (h : noCellChk names = true) (y : Str) : names.lookup y ≠ some .cell := by
 intro e
 have := List.all_eq_true.mp h _ (lookup_mem e)
 simp at this
section
variable {prog : Program} {w : World} {A : Around} {C : Cx} {fv : FV} {K : Frag}
noncomputable def eCall0 (spec : List MV → Option MV) (es : MSt → Option (List MV)) : MSt → Option MV := fun st => if st.σ.isEmpty then eCall spec es st else none
theorem SS.callX0 {x : Str} {target : Expr} {np pos spos : Pos} {args : List Expr} {f : Addr} {n : Nat} {es : MSt → Option (List MV)} {spec : List MV → Option MV} {o : Obj} {fd : FuncData} {b : MV → MSt → Option MSt}
  (cx : CtxX A C fv) (hA : AOk A n) (hT : TopOk K C.h₀) (hW : ∀ a, ¬ C.W0 a) (he : EnvOk fv.env) (hx : fv.env.kindOf x = some .globalImplicit) (hg : nsIn K mainGlobals x = some (some (.ref f))) (ho : K.lookup f = some o) (hd : o.data = .func fd)
  (hspec : ∀ vs v, spec vs = some v → PureX prog w K (fun _ => False) f n vs v)
  (hs : SL prog w A C fv (spliced (backTo pos (starEach args fv.env))) es) (hb : SA prog w A C fv (PySem.assign target fv.env) b)
  (hne : ∃ t rest, backTo pos (starEach args fv.env) = (false, t) :: rest := by exact ⟨_, _, rfl⟩) (hdb : (x == ("__debug__" : Str)) = false := by decide)
  (hsw : swapsWithSole [target] (.Call (.Name x np) args [] pos) spos.line fv.env = pure false := by rfl) (hw : swappedStores [target] (.Call (.Name x np) args [] pos) fv.env = pure none := by rfl) (ha : (assignEach [target] fv.env).map (·.2) = [PySem.assign target fv.env] := by rfl) :
  SS prog w A C fv (exec (.Assign [target] (.Call (.Name x np) args [] pos) spos) fv.env) (sAssign (eCall0 spec es) b) := by
 have hl : fv.env.locals = C.fn := cx.parts.2.2.1
 refine ⟨?_⟩
 intro φ st s o' st' Q r ev h
 simp only [sAssign, oI, oM, Prod.mk.injEq] at ev
 refine cps fun G hG => ?_
 obtain ⟨v, e1, st1, e2, rfl, rfl⟩ := ev
 refine hG ?_; clear hG
 unfold eCall0 at e1
 refine cps fun G hG => ?_
 split at e1
 case isFalse => (injection e1; done)
 rename_i hem
 have hφ : φ = [] := by
  have h1 : st.σ = [] := by simpa using hem
  have := r.len
  rw [h1] at this
  exact List.length_eq_zero_iff.mp this
 subst hφ
 simp only [eCall, oI] at e1
 obtain ⟨l, el, e1⟩ := e1
 split at e1
 case isFalse => (injection e1; done)
 rename_i hn
 refine hG ?_; clear hG
 refine wpAny_Assign_stores ?_ hsw hw
 refine wpAny_Call_NameR (ev_fn hT he hx hg r (callWith_function (o := o) (fd := fd) (evalArgs_sl hs hne r el fun h1 t1 v1 k1 r1 q1 => ⟨⟨r1.base _ _ (hT.k _ _ ho), hd⟩, ?_⟩)) hdb)
 refine cps fun G hG => ?_
 obtain ⟨base, outer, hfr, hff, hmem⟩ := cx.frames r1
 obtain ⟨base', outer', B⟩ := cx.ctxB.below r1
 have hoo : outer' = fv.env :: outer := by have := B.stack; rw [hfr] at this; (injection this with this; subst this); rfl
 subst hoo
 have hTn : TopOk K (hideAll h1 (framesOf (fv.env :: outer))) := hT.stays fun b ob e => hideAll_get _ (r1.base b ob e) fun hb => by
  rcases hmem b hb with rfl | hh
  ·have h6 : @LT.lt Nat _ C.fn C.h₀.objs.size := Heap.lt_size e
   have h7 : @LE.le Nat _ C.h₀.objs.size C.fn := r1.above
   omega
  ·have := (r1.hid b hh).2.2; exact (ng this e).elim
 have notav : ∀ b, ¬ C.av [] b := fun b hb => by
  rcases hb with hb | hb
  ·exact hW b hb
  ·simp at hb
 refine hG ?_; clear hG
 refine hspec l v e1 A base' (fv.env :: outer) { s with heap := h1, toks := t1 } v1 _ hA B (fun b hb => ?_) hTn (fun a ha => ha.elim) (VRs.mono (fun b o _ ho _ => ⟨ho, id⟩) (fun _ _ e => e) l q1) fun h2 t2 rv kx qv => ?_
 ·rcases hmem b hb with rfl | hh
  ·obtain ⟨m, ob, es', ep, g1, g2, _⟩ := r1.fr
   exact ⟨ob, g1, fun ⟨i, n, hd⟩ => by rw [g2] at hd; (injection hd; done)⟩
  ·obtain ⟨⟨ob, g1, g2, _⟩, _⟩ := r1.hid b hh
   exact ⟨ob, g1, g2⟩
 ·have bk : Book C (fun _ => False) h1 h2 := fun b ob e => by
   obtain ⟨g1, sl, g2⟩ := kx b ob e
   by_cases hb : b ∈ framesOf (fv.env :: outer)
   ·exact ⟨_, g2, .inr (.inl ⟨hmem b hb, sl, rfl⟩)⟩
   ·exact ⟨ob, g1 hb, .inl rfl⟩
  have r2 := r1.book bk fun _ z => z.elim
  have k2 : Eff C fv [] s.heap h2 := (Eff.of_stays k1).book bk (fun _ z => z.elim) hl
  have q2 : VR h2 (C.av []) [] v rv := VR.mono (fun b o _ ho _ => ⟨ho, notav b⟩) (fun _ _ e => e) v qv
  rw [ha]
  exact hb.run [] st _ v rv _ _ r2 e2 q2 fun h3 t3 r3 k3 => h [] h3 t3 _ r3 (Ext.refl _ _) (k2.trans (Ext.refl _ _) k3) rfl
theorem vrs_ints {h : Heap} {W : Addr → Prop} {φ : List (Option Addr)} : ∀ {vs : List Value} {ns : List Int}, IntsAre vs ns → VRs h W φ (ns.map .int) vs
 | _, _, .nil => by simp [vRs1, vRs2]
 | _, _, .cons x t r => by simp only [List.map_cons, vRs1, vRs2]; exact ⟨_, _, rfl, vr_int, vrs_ints r⟩
theorem finish {p : Program} {loose : List Str} {mean : ExcName → Option Value} {mg mb : Str → Option Value} {name : Str} {scope : Scope} {body : List Stmt} {fa : Addr} {cd : Value} {H : Heap} {s : Shared} {bm : Str → Option Value} {l : Addr} {vs : List Value} {ns : List Int} {Q : Flow → Shared → Prop} {E : Value → Shared → Prop} (vars : List (Str × Nat)) {n : Nat} {m : MSt → Option (Out × MSt)}
  (T : Top p loose mean mg mb H) (KX : K.In H) (F : Fr H H.objs.size s.heap bm) (hbm : bm "script" = some (.ref l)) (hl : H.IsList l vs.toArray) (hI : IntsAre vs ns)
  (hkind : scope.kind = .function) (hvars : (vars.all fun p => decide (scope.names.lookup p.1 = some .local) && (decide (p.2 ≠ 0) || decide (p.1 = "script"))) = true) (hv : VarsOk vars = true) (hnoc : ∀ y, scope.names.lookup y ≠ some .cell) (hn : n ≤ 20)
  (hss : ∀ A C L fa cd, AOk A n → A.frames = some [envOf name scope L fa cd] → C.h₀.objs.size = C.fn → CtxX A C ⟨envOf name scope L fa cd, vars⟩ → TopOk K C.h₀ → EnvOk (envOf name scope L fa cd) → VarsOk vars = true → (∀ a, ¬ C.W0 a) →
   SS prog w A C ⟨envOf name scope L fa cd, vars⟩ (execs body (envOf name scope L fa cd)) m)
  (hm : (m (start [.lst (ns.map .int)])).map (fun p => match p.1 with | .ret (.bool b) => b | _ => false) = some true)
  (hQ : ∀ h' tk, Stays H h' → Q (.ret (.bool true)) { s with heap := h', toks := tk }) : wpAny (model prog w) (callerA.deeper (envOf name scope H.objs.size fa cd)) (execs body (envOf name scope H.objs.size fa cd)) Q E s := by
 have hall := List.all_eq_true.mp hvars
 have r : R prog w ⟨H, H.objs.size, fun _ => False, fun _ => False, H⟩ ⟨envOf name scope H.objs.size fa cd, vars⟩ [] (start [.lst (ns.map .int)]) s.heap := by
  refine ⟨F.keep, ⟨_, F.ns⟩, Nat.le_refl _, fun a ha => ha.elim, fun p hp => ?_, rfl, (fun i a o e => by simp at e), (fun a ha => by simp at ha), (fun i j a e => by simp at e), (fun a ha => by simp at ha), ⟨_, F.ns⟩, Nat.le_refl _, (by simp), (by simp),
   (fun y c e => by (injection e; done)), (fun y z c e => by (injection e; done)), (fun y c e => by (injection e; done)), (fun y c e => by (injection e; done)), fun b hb => hb.elim⟩
  have hp' := hall p hp
  simp only [Bool.and_eq_true, Bool.or_eq_true, decide_eq_true_eq] at hp'
  refine ⟨_, .inl ⟨hp'.1, _, F.ns, rfl⟩, ?_⟩
  show OVR _ _ _ ([MV.lst (ns.map .int)][p.2]?) _
  match hq : p.2 with
  | 0 =>
   rcases hp'.2 with h0 | h0
   ·exact (h0 hq).elim
   ·refine ⟨.ref l, by rw [h0]; exact hbm, ?_⟩
    dsimp only [vR1, vR2, vR3, vR4, vR5, vR6, vR7, vR8]
    refine ⟨l, vs, rfl, (fun h => by rcases h with h | h; exact h; simp at h), isList_keeps F.keep hl, ?_⟩
    exact vrs_ints hI
  | k + 1 => simp [OVR]
 have hA : AOk (callerA.deeper (envOf name scope H.objs.size fa cd)) n := by
  refine ⟨rfl, ?_, ?_⟩
  ·have : callerA.depth + 1 + 20 < recursionLimit := by decide +kernel
   show callerA.depth + 1 + n < recursionLimit
   omega
  ·have : callerA.units + 3 + 8 * 20 + 100 < cLine := by decide +kernel
   show callerA.units + 3 + 8 * n + 100 < cLine
   omega
 have hX : CtxX (callerA.deeper (envOf name scope H.objs.size fa cd)) ⟨H, H.objs.size, fun _ => False, fun _ => False, H⟩ ⟨envOf name scope H.objs.size fa cd, vars⟩ :=
  ⟨H, [], rfl, by show scope.kind ≠ _; rw [hkind]; decide, rfl, rfl, fun _ _ e => e, fun e he => by simp at he⟩
 have hT : TopOk K H := ⟨KX, p, loose, mean, mg, mb, T⟩
 have hE : EnvOk (envOf name scope H.objs.size fa cd) := ⟨hkind, rfl, rfl, fun y hy => (hnoc y hy).elim⟩
 simp only [oM] at hm
 obtain ⟨⟨o, st'⟩, em, hm⟩ := hm
 refine wpAny_mono ((hss _ _ _ fa cd hA rfl rfl hX hT hE hv fun _ => id).run [] _ s o st' _ r em fun φ' h' tk f r' _ _ q => ?_) (fun _ _ z => z) fun _ _ z => z.elim
 cases o with
 | ret v =>
  obtain ⟨rv, rfl, qv⟩ := q
  cases v <;> simp at hm
  subst hm
  obtain rfl := vr_bool_inv qv
  exact hQ h' tk r'.base
 | next => simp at hm
 | brk => simp at hm
 | cont => simp at hm
end
end
section
section
variable {prog : Program} {w : World} {p : Params}
noncomputable def m_S_IMODE : MSt → Option (Out × MSt) := (sSeq (sRet (e2 andV (eVar 0) (eInt 4095)))
 sNil)
noncomputable def s_S_IMODE : List MV → Option MV := fun args => runFn (packN 1) m_S_IMODE args
noncomputable abbrev d_S_IMODE : Nat := 1
theorem pure_S_IMODE : ∀ args v, s_S_IMODE args = some v → Pure prog w (hK p) 148 d_S_IMODE args v := by
 refine pure_fn [("mode", 0)] ["mode"] rfl rfl rfl rfl rfl rfl rfl rfl rfl rfl (all1 rfl fun _ => rfl) fun A C L hA hB hT hE hv => ?_
 have hh := hA.handled
 have hu : A.units + 64 < cLine := by have := hA.units; omega
 exact (SS.cons (SS.ret (SE.bin op_and (se_var (.head _) rfl) se_int))
 ss_nil)
noncomputable def m_S_IFMT : MSt → Option (Out × MSt) := (sSeq (sRet (e2 andV (eVar 0) (eInt 61440)))
 sNil)
noncomputable def s_S_IFMT : List MV → Option MV := fun args => runFn (packN 1) m_S_IFMT args
noncomputable abbrev d_S_IFMT : Nat := 1
theorem pure_S_IFMT : ∀ args v, s_S_IFMT args = some v → Pure prog w (hK p) 155 d_S_IFMT args v := by
 refine pure_fn [("mode", 0)] ["mode"] rfl rfl rfl rfl rfl rfl rfl rfl rfl rfl (all1 rfl fun _ => rfl) fun A C L hA hB hT hE hv => ?_
 have hh := hA.handled
 have hu : A.units + 64 < cLine := by have := hA.units; omega
 exact (SS.cons (SS.ret (SE.bin op_and (se_var (.head _) rfl) se_int))
 ss_nil)
noncomputable def m_law_row : MSt → Option (Out × MSt) := (sSeq (sAssign (eSub (eStr "?pc?d?b?-?l?s???") (e2 modV (e2 divV (eVar 0) (eInt 4096)) (eInt 16))) (bName 1))
 (sSeq (sFor (iRange1 (eInt 3)) (bName 2) (sSeq (sAssign (e2 modV (e2 divV (eVar 0) (e2 powV (eInt 8) (e2 subV (eInt 2) (eVar 2)))) (eInt 8)) (bName 3))
 (sSeq (sAssign (e2 addV (e2 addV (eVar 1) (eIf (b2 gtV (eVar 3) (eInt 3)) (eStr "r") (eStr "-"))) (eIf (b2 gtV (e2 modV (eVar 3) (eInt 4)) (eInt 1)) (eStr "w") (eStr "-"))) (bName 1))
 (sSeq (sIf (b2 eqV (e2 modV (e2 divV (eVar 0) (e2 powV (eInt 2) (e2 subV (eInt 11) (eVar 2)))) (eInt 2)) (eInt 1)) (sSeq (sAssign (e2 addV (eVar 1) (eSub (eSub (eLst (eCons (eStr "Ss") (eCons (eStr "Ss") (eCons (eStr "Tt") eNil)))) (eVar 2)) (e2 modV (eVar 3) (eInt 2)))) (bName 1))
 sNil) (sSeq (sAssign (e2 addV (eVar 1) (eSub (eStr "-x") (e2 modV (eVar 3) (eInt 2)))) (bName 1))
 sNil))
 sNil))) sNil)
 (sSeq (sRet (eVar 1))
 sNil)))
noncomputable def s_law_row : List MV → Option MV := fun args => runFn (packN 1) m_law_row args
noncomputable abbrev d_law_row : Nat := 1
theorem pure_law_row : ∀ args v, s_law_row args = some v → Pure prog w (hK p) 231 d_law_row args v := by
 refine pure_fn [("mode", 0), ("row", 1), ("k", 2), ("figure", 3)] ["mode"] rfl rfl rfl rfl rfl rfl rfl rfl rfl rfl (all1 rfl fun _ => rfl) fun A C L hA hB hT hE hv => ?_
 have hh := hA.handled
 have hu : A.units + 64 < cLine := by have := hA.units; omega
 exact (SS.cons (SS.assign (SE.sub se_str (SE.bin op_mod (SE.bin op_div (se_var (.head _) rfl) se_int) se_int)) mt1 hv rfl (.inl rfl))
 (SS.cons (SS.for (SI.range1 hh hT hE rfl rfl se_int) (SA.weak (sa_name mt2 hv rfl (.inl rfl))) (SS.cons (SS.assign (SE.bin op_mod (SE.bin op_div (se_var (.head _) rfl) (SE.bin op_pow se_int (SE.bin op_sub se_int (se_var mt2 rfl)))) se_int) mt3 hv rfl (.inl rfl))
 (SS.cons (SS.assign (SE.bin op_add (SE.bin op_add (se_var mt1 rfl) (SE.ifexp (SB.cmp op_gt (se_var mt3 rfl) se_int) se_str se_str)) (SE.ifexp (SB.cmp op_gt (SE.bin op_mod (se_var mt3 rfl) se_int) se_int) se_str se_str)) mt1 hv rfl (.inl rfl))
 (SS.cons (SS.ifs (SB.cmp (op_eq hu) (SE.bin op_mod (SE.bin op_div (se_var (.head _) rfl) (SE.bin op_pow se_int (SE.bin op_sub se_int (se_var mt2 rfl)))) se_int) se_int) (SS.cons (SS.assign (SE.bin op_add (se_var mt1 rfl) (SE.sub (SE.sub (SE.list (SL.cons se_str (SL.cons se_str (SL.cons se_str sl_nil)))) (se_var mt2 rfl)) (SE.bin op_mod (se_var mt3 rfl) se_int))) mt1 hv rfl (.inl rfl))
 ss_nil) (SS.cons (SS.assign (SE.bin op_add (se_var mt1 rfl) (SE.sub se_str (SE.bin op_mod (se_var mt3 rfl) se_int))) mt1 hv rfl (.inl rfl))
 ss_nil))
 ss_nil))) ss_nil)
 (SS.cons (SS.ret (se_var mt1 rfl))
 ss_nil)))
end
end
section
section
variable {prog : Program} {w : World} {p : Params}
noncomputable def m_law_drawn : MSt → Option (Out × MSt) := (sSeq (sAssign (eLstOf (eComp 10 (iRange1 (eInt 11)) tTrue (eB (f1 sumV) (eCons (eSlice (eVar 0) (pSome (eVar 10)) pNone (pSome (eInt 11))) eNil)))) (bName 1))
 (sSeq (sNewList 2 (eCons (eInt 0) eNil))
 (sSeq (sNewList 3 (eCons (eInt 16877) eNil))
 (sSeq (sFor (iRange2 (eInt 1) (eInt 8)) (bName 4) (sSeq (sAppend 2 (e2 modV (e2 addV (eSub (eLst (eCons (eInt 0) (eCons (eInt 0) (eCons (eInt 0) (eCons (eInt 1) (eCons (eInt 1) (eCons (eInt 2) (eCons (eInt 3) (eCons (eInt 3) eNil))))))))) (eVar 4)) (eSub (eVar 1) (e2 subV (eVar 4) (eInt 1)))) (eVar 4)))
 (sSeq (sAppend 3 (e2 modV (e2 addV (eSub (eLst (eCons (eInt 0) (eCons (eInt 17896) (eCons (eInt 17407) (eCons (eInt 35273) (eCons (eInt 41471) (eCons (eInt 4516) (eCons (eInt 24576) (eCons (eInt 8438180) eNil))))))))) (eVar 4)) (e2 divV (eSub (eVar 1) (e2 subV (eVar 4) (eInt 1))) (eVar 4))) (e2 powV (eInt 2) (eInt 32))))
 sNil)) sNil)
 (sSeq (sNewList 5 eNil)
 (sSeq (sFor (iRange1 (eInt 4)) (bName 6) (sSeq (sAssign (eSub (eVar 1) (e2 addV (eInt 7) (eVar 6))) (bName 7))
 (sSeq (sAssign (e2 modV (e2 addV (eSub (eLst (eCons (eInt 6) (eCons (eInt 5) (eCons (eInt 3) (eCons (eInt 4) eNil))))) (eVar 6)) (eVar 7)) (eInt 8)) (bName 8))
 (sSeq (sAssign (e2 modV (e2 addV (eSub (eLst (eCons (eInt 4) (eCons (eInt 0) (eCons (eInt 7) (eCons (eInt 4) eNil))))) (eVar 6)) (e2 divV (eVar 7) (eInt 8))) (eInt 8)) (bName 9))
 (sSeq (sAppend 5 (eLst (eCons (eVar 8) (eCons (eVar 9) (eCons (e2 modV (e2 addV (eSub (eLst (eCons (eInt 2121) (eCons (eInt 49663) (eCons (eInt 65535) (eCons (eInt 12288) eNil))))) (eVar 6)) (e2 divV (eVar 7) (eInt 64))) (e2 powV (eInt 2) (eInt 32))) eNil)))))
 sNil)))) sNil)
 (sSeq (sRet (eTup (eCons (eVar 2) (eCons (eVar 3) (eCons (eVar 5) eNil)))))
 sNil)))))))
noncomputable def s_law_drawn : List MV → Option MV := fun args => runFn (packN 1) m_law_drawn args
noncomputable abbrev d_law_drawn : Nat := 1
theorem pure_law_drawn : ∀ args v, s_law_drawn args = some v → Pure prog w (hK p) 200 d_law_drawn args v := by
 refine pure_fn [("script", 0), ("told", 1), ("above", 2), ("modes", 3), ("k", 4), ("turns", 5), ("t", 6), ("rest", 7), ("one", 8), ("other", 9)] ["script"] rfl rfl rfl rfl rfl rfl rfl rfl rfl rfl (all1 rfl fun _ => rfl) fun A C L hA hB hT hE hv => ?_
 have hh := hA.handled
 have hu : A.units + 64 < cLine := by have := hA.units; omega
 exact (SS.cons (SS.acomp 10 [("script", 0)] hE rfl (SI.range1 hh hT hE rfl rfl se_int) (fun C2 W0 hE1 => st_nil) (fun C2 W0 hE1 => (SE.callB hT hE1 rfl rfl boot_sum (by decide) (bok_sum hh) (SL.cons (SE.slice (se_var mt1 rfl) (SP.some (se_var (.head _) rfl)) sp_none (SP.some se_int)) sl_nil))) mt1 hv rfl (.inl rfl) rfl)
 (SS.cons (SS.newList (SL.cons se_int sl_nil) mt2 hv rfl (.inl rfl))
 (SS.cons (SS.newList (SL.cons se_int sl_nil) mt3 hv rfl (.inl rfl))
 (SS.cons (SS.for (SI.range2 hh hT hE rfl rfl se_int se_int) (SA.weak (sa_name mt4 hv rfl (.inl rfl))) (SS.cons (SS.append (SE.bin op_mod (SE.bin op_add (SE.sub (SE.list (SL.cons se_int (SL.cons se_int (SL.cons se_int (SL.cons se_int (SL.cons se_int (SL.cons se_int (SL.cons se_int (SL.cons se_int sl_nil))))))))) (se_var mt4 rfl)) (SE.sub (se_var mt1 rfl) (SE.bin op_sub (se_var mt4 rfl) se_int))) (se_var mt4 rfl)) mt2 rfl)
 (SS.cons (SS.append (SE.bin op_mod (SE.bin op_add (SE.sub (SE.list (SL.cons se_int (SL.cons se_int (SL.cons se_int (SL.cons se_int (SL.cons se_int (SL.cons se_int (SL.cons se_int (SL.cons se_int sl_nil))))))))) (se_var mt4 rfl)) (SE.bin op_div (SE.sub (se_var mt1 rfl) (SE.bin op_sub (se_var mt4 rfl) se_int)) (se_var mt4 rfl))) (SE.bin op_pow se_int se_int)) mt3 rfl)
 ss_nil)) ss_nil)
 (SS.cons (SS.newList sl_nil mt5 hv rfl (.inl rfl))
 (SS.cons (SS.for (SI.range1 hh hT hE rfl rfl se_int) (SA.weak (sa_name mt6 hv rfl (.inl rfl))) (SS.cons (SS.assign (SE.sub (se_var mt1 rfl) (SE.bin op_add se_int (se_var mt6 rfl))) mt7 hv rfl (.inl rfl))
 (SS.cons (SS.assign (SE.bin op_mod (SE.bin op_add (SE.sub (SE.list (SL.cons se_int (SL.cons se_int (SL.cons se_int (SL.cons se_int sl_nil))))) (se_var mt6 rfl)) (se_var mt7 rfl)) se_int) mt8 hv rfl (.inl rfl))
 (SS.cons (SS.assign (SE.bin op_mod (SE.bin op_add (SE.sub (SE.list (SL.cons se_int (SL.cons se_int (SL.cons se_int (SL.cons se_int sl_nil))))) (se_var mt6 rfl)) (SE.bin op_div (se_var mt7 rfl) se_int)) se_int) mt9 hv rfl (.inl rfl))
 (SS.cons (SS.append (SE.list (SL.cons (se_var mt8 rfl) (SL.cons (se_var mt9 rfl) (SL.cons (SE.bin op_mod (SE.bin op_add (SE.sub (SE.list (SL.cons se_int (SL.cons se_int (SL.cons se_int (SL.cons se_int sl_nil))))) (se_var mt6 rfl)) (SE.bin op_div (se_var mt7 rfl) se_int)) (SE.bin op_pow se_int se_int)) sl_nil)))) mt5 rfl)
 ss_nil)))) ss_nil)
 (SS.cons (SS.ret (SE.tuple (SL.cons (se_var mt2 rfl) (SL.cons (se_var mt3 rfl) (SL.cons (se_var mt5 rfl) sl_nil)))))
 ss_nil)))))))
end
end
section
section
variable {prog : Program} {w : World} {p : Params}
noncomputable def m_law_ups : MSt → Option (Out × MSt) := (sSeq (sNewList 2 (eCons (eVar 0) eNil))
 (sSeq (sWhile (b2 gtV (eSub (eVar 2) (eNeg (eInt 1))) (eInt 0)) (sSeq (sAppend 2 (eSub (eVar 1) (eSub (eVar 2) (eNeg (eInt 1)))))
 sNil))
 (sSeq (sRet (eVar 2))
 sNil)))
noncomputable def s_law_ups : List MV → Option MV := fun args => runFn (packN 2) m_law_ups args
noncomputable abbrev d_law_ups : Nat := 1
theorem pure_law_ups : ∀ args v, s_law_ups args = some v → Pure prog w (hK p) 238 d_law_ups args v := by
 refine pure_fn [("place", 0), ("above", 1), ("ups", 2)] ["place", "above"] rfl rfl rfl rfl rfl rfl rfl rfl rfl rfl (all2 rfl fun _ _ => rfl) fun A C L hA hB hT hE hv => ?_
 have hh := hA.handled
 have hu : A.units + 64 < cLine := by have := hA.units; omega
 exact (SS.cons (SS.newList (SL.cons (se_var (.head _) rfl) sl_nil) mt2 hv rfl (.inl rfl))
 (SS.cons (SS.while (SB.cmp op_gt (SE.sub (se_var mt2 rfl) (SE.neg se_int)) se_int) (SS.cons (SS.append (SE.sub (se_var mt1 rfl) (SE.sub (se_var mt2 rfl) (SE.neg se_int))) mt2 rfl)
 ss_nil))
 (SS.cons (SS.ret (se_var mt2 rfl))
 ss_nil)))
noncomputable def m_law_text : MSt → Option (Out × MSt) := (sSeq (sIf (b2 eqV (eVar 0) (eInt 0)) (sSeq (sRet (eStr "/"))
 sNil) sNil)
 (sSeq (sRet (eM (f2 joinV) (eStr "") (eCons (eLstOf (eComp 2 (iSeq (eSlice (eSlice (eCall s_law_ups (eCons (eVar 0) (eCons (eVar 1) eNil))) pNone (pSome (eNeg (eInt 1))) pNone) pNone pNone (pSome (eNeg (eInt 1))))) tTrue (e2 addV (eStr "/") (eSub (eStr "abcdefg") (e2 subV (eVar 2) (eInt 1)))))) eNil)))
 sNil))
noncomputable def s_law_text : List MV → Option MV := fun args => runFn (packN 2) m_law_text args
noncomputable abbrev d_law_text : Nat := 2
theorem pure_law_text : ∀ args v, s_law_text args = some v → Pure prog w (hK p) 243 d_law_text args v := by
 refine pure_fn [("place", 0), ("above", 1)] ["place", "above"] rfl rfl rfl rfl rfl rfl rfl rfl rfl rfl (all2 rfl fun _ _ => rfl) fun A C L hA hB hT hE hv => ?_
 have hh := hA.handled
 have hu : A.units + 64 < cLine := by have := hA.units; omega
 exact (SS.cons (SS.ifs (SB.cmp (op_eq hu) (se_var (.head _) rfl) se_int) (SS.cons (SS.ret se_str)
 ss_nil) ss_nil)
 (SS.cons (SS.ret (SE.meth F.slot_str_join F.type_str_join mok_join se_str (SL.cons (SE.lcomp 2 [] hE rfl (SI.seq hh (SE.slice (SE.slice (SE.call (n := d_law_ups) (hA.le (by decide)) hB hT hE rfl rfl rfl rfl pure_law_ups (SL.cons (se_var (.head _) rfl) (SL.cons (se_var mt1 rfl) sl_nil))) sp_none (SP.some (SE.neg se_int)) sp_none) sp_none sp_none (SP.some (SE.neg se_int)))) (fun C2 W0 hE1 => st_nil) (fun C2 W0 hE1 => (SE.bin op_add se_str (SE.sub se_str (SE.bin op_sub (se_var (.head _) rfl) se_int))))) sl_nil)))
 ss_nil))
noncomputable def m_law_wanted : MSt → Option (Out × MSt) := (sSeq (sAssign (eLstOf (eComp 18 (iRange1 (eInt 8)) tTrue (eCall s_law_text (eCons (eVar 18) (eCons (eVar 0) eNil))))) (bName 3))
 (sSeq (sNewComp 4 (eComp 19 (iSeq (eVar 1)) tTrue (e2 modV (eVar 19) (eInt 65536))))
 (sSeq (sNewComp 5 (eComp 20 (iRange1 (eInt 8)) tTrue (e2 addV (e2 addV (eCall s_law_row (eCons (eSub (eVar 4) (eVar 20)) eNil)) (eStr " ")) (eSub (eVar 3) (eVar 20)))))
 (sSeq (sNewList 6 eNil)
 (sSeq (sFor (iSeq (eVar 2)) (bTup [(bName 7), (bName 8), (bName 9)]) (sSeq (sAssign (eCall s_law_ups (eCons (eVar 7) (eCons (eVar 0) eNil))) (bName 10))
 (sSeq (sAssign (eCall s_law_ups (eCons (eVar 8) (eCons (eVar 0) eNil))) (bName 11))
 (sSeq (sAssign (eB (f1 maxV) (eCons (eLstOf (eComp 21 (iSeq (eVar 10)) (b2 inV (eVar 21) (eVar 11)) (eVar 21))) eNil)) (bName 12))
 (sSeq (sAssign (e2 modV (eVar 9) (eInt 4096)) (bName 13))
 (sSeq (sAssign (eLstOf (eComp 22 (iRange1 (eInt 8)) (bAnd (b2 gtV (eVar 13) (eInt 0)) (bAnd (bOr (b2 eqV (eVar 22) (eVar 12)) (bOr (b2 neV (e2 inV (eVar 22) (eVar 10)) (e2 inV (eVar 22) (eVar 11))) bFalse)) bTrue)) (eVar 22))) (bName 14))
 (sSeq (sAssign (eB (f1 sortedV) (eCons (eVar 5) eNil)) (bName 15))
 (sSeq (sAssign (eB (f1 sortedV) (eCons (eLstOf (eComp 23 (iSeq (eVar 14)) tTrue (eSub (eVar 5) (eVar 23)))) eNil)) (bName 16))
 (sSeq (sFor (iSeq (eVar 14)) (bName 17) (sSeq (sSetItem (eVar 4) (eVar 17) (e2 xorV (eSub (eVar 4) (eVar 17)) (eVar 13)))
 (sSeq (sSetItem (eVar 5) (eVar 17) (e2 addV (e2 addV (eCall s_law_row (eCons (eSub (eVar 4) (eVar 17)) eNil)) (eStr " ")) (eSub (eVar 3) (eVar 17))))
 sNil)) sNil)
 (sSeq (sAppend 6 (eLst (eCons (eTup (eCons (eVar 16) (eCons (eB (f1 sortedV) (eCons (eLstOf (eComp 24 (iSeq (eVar 14)) tTrue (eSub (eVar 5) (eVar 24)))) eNil)) eNil))) (eCons (eVar 15) (eCons (eB (f1 sortedV) (eCons (eVar 5) eNil)) (eCons (eSub (eVar 3) (eVar 12)) eNil))))))
 sNil))))))))) sNil)
 (sSeq (sRet (eTup (eCons (eVar 6) (eCons (eVar 5) eNil))))
 sNil))))))
noncomputable def s_law_wanted : List MV → Option MV := fun args => runFn (packN 3) m_law_wanted args
noncomputable abbrev d_law_wanted : Nat := 3
theorem pure_law_wanted : ∀ args v, s_law_wanted args = some v → Pure prog w (hK p) 248 d_law_wanted args v := by
 refine pure_fn [("above", 0), ("modes", 1), ("turns", 2), ("texts", 3), ("now", 4), ("rows", 5), ("wanted", 6), ("one", 7), ("other", 8), ("number", 9), ("left", 10), ("right", 11), ("meet", 12), ("bits", 13), ("way", 14), ("before", 15), ("old", 16), ("k", 17)] ["above", "modes", "turns"] rfl rfl rfl rfl rfl rfl rfl rfl rfl rfl (all3 rfl fun _ _ _ => rfl) fun A C L hA hB hT hE hv => ?_
 have hh := hA.handled
 have hu : A.units + 64 < cLine := by have := hA.units; omega
 exact (SS.cons (SS.assign (SE.lcomp 18 [("above", 0)] hE rfl (SI.range1 hh hT hE rfl rfl se_int) (fun C2 W0 hE1 => st_nil) (fun C2 W0 hE1 => (SE.call (n := d_law_text) (hA.le (by decide)) hB hT hE1 rfl rfl rfl rfl pure_law_text (SL.cons (se_var (.head _) rfl) (SL.cons (se_var mt1 rfl) sl_nil))))) mt3 hv rfl (.inr rfl))
 (SS.cons (SS.ncomp 19 [] hE rfl (SI.seq hh (se_var mt1 rfl)) (fun C2 W0 hE1 => st_nil) (fun C2 W0 hE1 => (SE.bin op_mod (se_var (.head _) rfl) se_int)) mt4 hv rfl (.inr rfl) rfl)
 (SS.cons (SS.ncomp 20 [("texts", 3), ("now", 4)] hE rfl (SI.range1 hh hT hE rfl rfl se_int) (fun C2 W0 hE1 => st_nil) (fun C2 W0 hE1 => (SE.bin op_add (SE.bin op_add (SE.call (n := d_law_row) (hA.le (by decide)) hB hT hE1 rfl rfl rfl rfl pure_law_row (SL.cons (SE.sub (se_var mt2 rfl) (se_var (.head _) rfl)) sl_nil)) se_str) (SE.sub (se_var mt1 rfl) (se_var (.head _) rfl)))) mt5 hv rfl (.inr rfl) rfl)
 (SS.cons (SS.newList sl_nil mt6 hv rfl (.inl rfl))
 (SS.cons (SS.for (SI.seq hh (se_var mt2 rfl)) (SA.weak (sa_tuple hh ⟨(sa_name mt7 hv rfl (.inl rfl)), (sa_name mt8 hv rfl (.inl rfl)), (sa_name mt9 hv rfl (.inl rfl)), trivial⟩)) (SS.cons (SS.assign (SE.call (n := d_law_ups) (hA.le (by decide)) hB hT hE rfl rfl rfl rfl pure_law_ups (SL.cons (se_var mt7 rfl) (SL.cons (se_var (.head _) rfl) sl_nil))) mt10 hv rfl (.inr rfl))
 (SS.cons (SS.assign (SE.call (n := d_law_ups) (hA.le (by decide)) hB hT hE rfl rfl rfl rfl pure_law_ups (SL.cons (se_var mt8 rfl) (SL.cons (se_var (.head _) rfl) sl_nil))) mt11 hv rfl (.inr rfl))
 (SS.cons (SS.assign (SE.callB hT hE rfl rfl boot_max (by decide) (bok_max hh) (SL.cons (SE.lcomp 21 [("right", 11)] hE rfl (SI.seq hh (se_var mt10 rfl)) (fun C2 W0 hE1 => (SB.one (SB.cmp op_in (se_var (.head _) rfl) (se_var mt1 rfl)))) (fun C2 W0 hE1 => (se_var (.head _) rfl))) sl_nil)) mt12 hv rfl (.inr rfl))
 (SS.cons (SS.assign (SE.bin op_mod (se_var mt9 rfl) se_int) mt13 hv rfl (.inr rfl))
 (SS.cons (SS.acomp 22 [("left", 10), ("right", 11), ("meet", 12), ("bits", 13)] hE rfl (SI.range1 hh hT hE rfl rfl se_int) (fun C2 W0 hE1 => (SB.one (SB.and (SB.cmp op_gt (se_var mt4 rfl) se_int) (SB.and (SB.or (SB.cmp (op_eq hu) (se_var (.head _) rfl) (se_var mt3 rfl)) (SB.or (SB.cmp (op_ne hu) (SE.cmp op_in (se_var (.head _) rfl) (se_var mt1 rfl)) (SE.cmp op_in (se_var (.head _) rfl) (se_var mt2 rfl))) sb_or_nil)) sb_and_nil)))) (fun C2 W0 hE1 => (se_var (.head _) rfl)) mt14 hv rfl (.inl rfl) rfl)
 (SS.cons (SS.assign (SE.callB hT hE rfl rfl boot_sorted (by decide) bok_sorted (SL.cons (se_var mt5 rfl) sl_nil)) mt15 hv rfl (.inl rfl))
 (SS.cons (SS.assign (SE.callB hT hE rfl rfl boot_sorted (by decide) bok_sorted (SL.cons (SE.lcomp 23 [("rows", 5)] hE rfl (SI.seq hh (se_var mt14 rfl)) (fun C2 W0 hE1 => st_nil) (fun C2 W0 hE1 => (SE.sub (se_var mt1 rfl) (se_var (.head _) rfl)))) sl_nil)) mt16 hv rfl (.inl rfl))
 (SS.cons (SS.for (SI.seq hh (se_var mt14 rfl)) (SA.weak (sa_name mt17 hv rfl (.inl rfl))) (SS.cons (SS.setItem (SE.bin op_xor (SE.sub (se_var mt4 rfl) (se_var mt17 rfl)) (se_var mt13 rfl)) (se_var mt4 rfl) (se_var mt17 rfl))
 (SS.cons (SS.setItem (SE.bin op_add (SE.bin op_add (SE.call (n := d_law_row) (hA.le (by decide)) hB hT hE rfl rfl rfl rfl pure_law_row (SL.cons (SE.sub (se_var mt4 rfl) (se_var mt17 rfl)) sl_nil)) se_str) (SE.sub (se_var mt3 rfl) (se_var mt17 rfl))) (se_var mt5 rfl) (se_var mt17 rfl))
 ss_nil)) ss_nil)
 (SS.cons (SS.append (SE.list (SL.cons (SE.tuple (SL.cons (se_var mt16 rfl) (SL.cons (SE.callB hT hE rfl rfl boot_sorted (by decide) bok_sorted (SL.cons (SE.lcomp 24 [("rows", 5)] hE rfl (SI.seq hh (se_var mt14 rfl)) (fun C2 W0 hE1 => st_nil) (fun C2 W0 hE1 => (SE.sub (se_var mt1 rfl) (se_var (.head _) rfl)))) sl_nil)) sl_nil))) (SL.cons (se_var mt15 rfl) (SL.cons (SE.callB hT hE rfl rfl boot_sorted (by decide) bok_sorted (SL.cons (se_var mt5 rfl) sl_nil)) (SL.cons (SE.sub (se_var mt3 rfl) (se_var mt12 rfl)) sl_nil))))) mt6 rfl)
 ss_nil))))))))) ss_nil)
 (SS.cons (SS.ret (SE.tuple (SL.cons (se_var mt6 rfl) (SL.cons (se_var mt5 rfl) sl_nil))))
 ss_nil))))))
end
end
section
section
variable {prog : Program} {w : World} {p : Params}
noncomputable def tT (l : List (Int × Str)) : MV := .tup (l.map fun q => .tup [.int q.1, .str q.2])
noncomputable def t_filemode_table : MV := .tup [tT [(40960, "l"), (49152, "s"), (32768, "-"), (24576, "b"), (16384, "d"), (8192, "c"), (4096, "p")], tT [(256, "r")], tT [(128, "w")], tT [(2112, "s"), (2048, "S"), (64, "x")], tT [(32, "r")], tT [(16, "w")], tT [(1032, "s"), (1024, "S"), (8, "x")], tT [(4, "r")], tT [(2, "w")], tT [(513, "t"), (512, "T"), (1, "x")]]
noncomputable def m_filemode : MSt → Option (Out × MSt) := (sSeq (sNewList 1 eNil)
 (sSeq (sFor (iEnum (eK t_filemode_table)) (bTup [(bName 2), (bName 3)]) (sSeq (sFor (iSeq (eVar 3)) (bTup [(bName 4), (bName 5)]) (sSeq (sIf (b2 eqV (eVar 2) (eInt 0)) (sSeq (sIf (b2 eqV (eCall s_S_IFMT (eCons (eVar 0) eNil)) (eVar 4)) (sSeq (sAppend 1 (eVar 5))
 (sSeq (fun st => some (.brk, st))
 sNil)) sNil)
 sNil) (sSeq (sIf (b2 eqV (e2 andV (eVar 0) (eVar 4)) (eVar 4)) (sSeq (sAppend 1 (eVar 5))
 (sSeq (fun st => some (.brk, st))
 sNil)) sNil)
 sNil))
 sNil) (sSeq (sIf (b2 eqV (eVar 2) (eInt 0)) (sSeq (sAppend 1 (eStr "?"))
 sNil) (sSeq (sAppend 1 (eStr "-"))
 sNil))
 sNil))
 sNil) sNil)
 (sSeq (sRet (eM (f2 joinV) (eStr "") (eCons (eVar 1) eNil)))
 sNil)))
noncomputable def s_filemode : List MV → Option MV := fun args => (runFn (packN 1) m_filemode args).filter flatV
noncomputable abbrev d_filemode : Nat := 2
theorem pure_filemode : ∀ args v, s_filemode args = some v → Pure prog w (hK p) 195 d_filemode args v := by
 refine pure_fn0 [("mode", 0), ("perm", 1), ("index", 2), ("table", 3), ("bit", 4), ("char", 5)] ["mode"] rfl rfl rfl rfl rfl rfl rfl rfl rfl rfl (all1 rfl fun _ => rfl) fun A C L hA hB hT hE hv hW => ?_
 have hh := hA.handled
 have hu : A.units + 64 < cLine := by have := hA.units; omega
 exact (SS.cons (SS.newList sl_nil mt1 hv rfl (.inl rfl))
 (SS.cons (SS.for (SI.enum hh hT hE rfl rfl (se_glob hT hE hW rfl rfl rfl)) (saw_tuple hh ⟨(sa_name mt2 hv rfl (.inl rfl)), (sa_name mt3 hv rfl (.inl rfl)), trivial⟩) (SS.cons (SS.for (SI.seq hh (se_var mt3 rfl)) (SA.weak (sa_tuple hh ⟨(sa_name mt4 hv rfl (.inl rfl)), (sa_name mt5 hv rfl (.inl rfl)), trivial⟩)) (SS.cons (SS.ifs (SB.cmp (op_eq hu) (se_var mt2 rfl) se_int) (SS.cons (SS.ifs (SB.cmp (op_eq hu) (SE.call (n := d_S_IFMT) (hA.le (by decide)) hB hT hE rfl rfl rfl rfl pure_S_IFMT (SL.cons (se_var (.head _) rfl) sl_nil)) (se_var mt4 rfl)) (SS.cons (SS.append (se_var mt5 rfl) mt1 rfl)
 (SS.cons ss_break
 ss_nil)) ss_nil)
 ss_nil) (SS.cons (SS.ifs (SB.cmp (op_eq hu) (SE.bin op_and (se_var (.head _) rfl) (se_var mt4 rfl)) (se_var mt4 rfl)) (SS.cons (SS.append (se_var mt5 rfl) mt1 rfl)
 (SS.cons ss_break
 ss_nil)) ss_nil)
 ss_nil))
 ss_nil) (SS.cons (SS.ifs (SB.cmp (op_eq hu) (se_var mt2 rfl) se_int) (SS.cons (SS.append se_str mt1 rfl)
 ss_nil) (SS.cons (SS.append se_str mt1 rfl)
 ss_nil))
 ss_nil))
 ss_nil) ss_nil)
 (SS.cons (SS.ret (SE.meth F.slot_str_join F.type_str_join mok_join se_str (SL.cons (se_var mt1 rfl) sl_nil)))
 ss_nil)))
end
end
section
section
variable {prog : Program} {w : World} {p : Params}
noncomputable def m_fspath : MSt → Option (Out × MSt) := (sSeq (sAssign (eType (eVar 0)) (bName 1))
 (sSeq (sIf (bE (eB (f2 issubV) (eCons (eVar 1) (eCons (eTup (eCons (eCls "str") (eCons (eCls "bytes") eNil))) eNil)))) (sSeq (sRet (eVar 0))
 sNil) sNil)
 sDead))
noncomputable def s_fspath : List MV → Option MV := fun args => runFn (packN 1) m_fspath args
noncomputable abbrev d_fspath : Nat := 1
theorem pure_fspath : ∀ args v, s_fspath args = some v → Pure prog w (hK p) 108 d_fspath args v := by
 refine pure_fn [("path", 0), ("kind", 1), ("hook", 2), ("given", 3)] ["path"] rfl rfl rfl rfl rfl rfl rfl rfl rfl rfl (all1 rfl fun _ => rfl) fun A C L hA hB hT hE hv => ?_
 have hh := hA.handled
 have hu : A.units + 64 < cLine := by have := hA.units; omega
 exact (SS.cons (SS.assign (SE.type hT hE rfl rfl (se_var (.head _) rfl)) mt1 hv rfl (.inl rfl))
 (SS.cons (SS.ifs (SB.plain (SE.callB hT hE rfl rfl PyProof.Rows.Boot.«issubclass» (by decide) bok_issub (SL.cons (se_var mt1 rfl) (SL.cons (SE.tuple (SL.cons (se_cls hT hE rfl rfl boot_str (by decide)) (SL.cons (se_cls hT hE rfl rfl boot_bytes (by decide)) sl_nil))) sl_nil)))) (SS.cons (SS.ret (se_var (.head _) rfl))
 ss_nil) ss_nil)
 ss_dead))
noncomputable def m_get_sep : MSt → Option (Out × MSt) := (sSeq (sIf (bE (eB (f2 isinstV) (eCons (eVar 0) (eCons (eCls "bytes") eNil)))) sDead (sSeq (sRet (eStr "/"))
 sNil))
 sNil)
noncomputable def s_get_sep : List MV → Option MV := fun args => runFn (packN 1) m_get_sep args
noncomputable abbrev d_get_sep : Nat := 1
theorem pure_get_sep : ∀ args v, s_get_sep args = some v → Pure prog w (hK p) 122 d_get_sep args v := by
 refine pure_fn [("path", 0)] ["path"] rfl rfl rfl rfl rfl rfl rfl rfl rfl rfl (all1 rfl fun _ => rfl) fun A C L hA hB hT hE hv => ?_
 have hh := hA.handled
 have hu : A.units + 64 < cLine := by have := hA.units; omega
 exact (SS.cons (SS.ifs (SB.plain (SE.callB hT hE rfl rfl boot_isinstance (by decide) bok_isinst (SL.cons (se_var (.head _) rfl) (SL.cons (se_cls hT hE rfl rfl boot_bytes (by decide)) sl_nil)))) ss_dead (SS.cons (SS.ret se_str)
 ss_nil))
 ss_nil)
noncomputable def m_join : MSt → Option (Out × MSt) := (sSeq (sAssign (eCall s_fspath (eCons (eVar 0) eNil)) (bName 0))
 (sSeq (sAssign (eCall s_get_sep (eCons (eVar 0) eNil)) (bName 2))
 (sSeq (sAssign (eVar 0) (bName 3))
 (sSeq (sSeq (sFor (iSeq (eVar 1)) (bName 4) (sSeq (sAssign (eCall s_fspath (eCons (eVar 4) eNil)) (bName 4))
 (sSeq (sIf (bOr (bE (eM (startsV) (eVar 4) (eCons (eVar 2) eNil))) (bOr (bNot (bE (eVar 3))) bFalse)) (sSeq (sAssign (eVar 4) (bName 3))
 sNil) (sSeq (sIf (bE (eM (endsV) (eVar 3) (eCons (eVar 2) eNil))) (sSeq (sAug 3 addV (eVar 4))
 sNil) (sSeq (sAug 3 addV (e2 addV (eVar 2) (eVar 4)))
 sNil))
 sNil))
 sNil)) sNil)
 sNil)
 (sSeq (sRet (eVar 3))
 sNil)))))
noncomputable def s_join : List MV → Option MV := fun args => runFn packStar m_join args
noncomputable abbrev d_join : Nat := 2
theorem pure_join : ∀ args v, s_join args = some v → Pure prog w (hK p) 129 d_join args v := by
 refine pure_star [("a", 0), ("p", 1), ("sep", 2), ("path", 3), ("b", 4)] "a" "p" rfl rfl rfl rfl rfl rfl rfl rfl rfl rfl (fun _ _ => rfl) fun A C L hA hB hT hE hv => ?_
 have hh := hA.handled
 have hu : A.units + 64 < cLine := by have := hA.units; omega
 exact (SS.cons (SS.assign (SE.call (n := d_fspath) (hA.le (by decide)) hB hT hE rfl rfl rfl rfl pure_fspath (SL.cons (se_var (.head _) rfl) sl_nil)) (.head _) hv rfl (.inl rfl))
 (SS.cons (SS.assign (SE.call (n := d_get_sep) (hA.le (by decide)) hB hT hE rfl rfl rfl rfl pure_get_sep (SL.cons (se_var (.head _) rfl) sl_nil)) mt2 hv rfl (.inl rfl))
 (SS.cons (SS.assign (se_var (.head _) rfl) mt3 hv rfl (.inl rfl))
 (SS.cons (SS.tryOk (SS.cons (SS.for (SI.seq hh (se_var mt1 rfl)) (SA.weak (sa_name mt4 hv rfl (.inl rfl))) (SS.cons (SS.assign (SE.call (n := d_fspath) (hA.le (by decide)) hB hT hE rfl rfl rfl rfl pure_fspath (SL.cons (se_var mt4 rfl) sl_nil)) mt4 hv rfl (.inl rfl))
 (SS.cons (SS.ifs (SB.or (SB.plain (SE.meth F.slot_str_startswith F.type_str_startswith mok_startswith (se_var mt4 rfl) (SL.cons (se_var mt2 rfl) sl_nil))) (SB.or (SB.not (SB.plain (se_var mt3 rfl))) sb_or_nil)) (SS.cons (SS.assign (se_var mt4 rfl) mt3 hv rfl (.inl rfl))
 ss_nil) (SS.cons (SS.ifs (SB.plain (SE.meth F.slot_str_endswith F.type_str_endswith mok_endswith (se_var mt3 rfl) (SL.cons (se_var mt2 rfl) sl_nil))) (SS.cons (SS.aug op_iadd (se_var mt4 rfl) mt3 hv rfl (.inl rfl))
 ss_nil) (SS.cons (SS.aug op_iadd (SE.bin op_add (se_var mt2 rfl) (se_var mt4 rfl)) mt3 hv rfl (.inl rfl))
 ss_nil))
 ss_nil))
 ss_nil)) ss_nil)
 ss_nil))
 (SS.cons (SS.ret (se_var mt3 rfl))
 ss_nil)))))
noncomputable def m_dirname : MSt → Option (Out × MSt) := (sSeq (sAssign (eCall s_fspath (eCons (eVar 0) eNil)) (bName 0))
 (sSeq (sAssign (eCall s_get_sep (eCons (eVar 0) eNil)) (bName 1))
 (sSeq (sAssign (e2 addV (eM (rfindV) (eVar 0) (eCons (eVar 1) eNil)) (eInt 1)) (bName 2))
 (sSeq (sAssign (eSlice (eVar 0) pNone (pSome (eVar 2)) pNone) (bName 3))
 (sSeq (sIf (bAnd (bE (eVar 3)) (bAnd (b2 neV (eVar 3) (e2 mulV (eVar 1) (eB (f1 lenV) (eCons (eVar 3) eNil)))) bTrue)) (sSeq (sAssign (eM (rstripV) (eVar 3) (eCons (eVar 1) eNil)) (bName 3))
 sNil) sNil)
 (sSeq (sRet (eVar 3))
 sNil))))))
noncomputable def s_dirname : List MV → Option MV := fun args => runFn (packN 1) m_dirname args
noncomputable abbrev d_dirname : Nat := 2
theorem pure_dirname : ∀ args v, s_dirname args = some v → Pure prog w (hK p) 136 d_dirname args v := by
 refine pure_fn [("p", 0), ("sep", 1), ("i", 2), ("head", 3)] ["p"] rfl rfl rfl rfl rfl rfl rfl rfl rfl rfl (all1 rfl fun _ => rfl) fun A C L hA hB hT hE hv => ?_
 have hh := hA.handled
 have hu : A.units + 64 < cLine := by have := hA.units; omega
 exact (SS.cons (SS.assign (SE.call (n := d_fspath) (hA.le (by decide)) hB hT hE rfl rfl rfl rfl pure_fspath (SL.cons (se_var (.head _) rfl) sl_nil)) (.head _) hv rfl (.inl rfl))
 (SS.cons (SS.assign (SE.call (n := d_get_sep) (hA.le (by decide)) hB hT hE rfl rfl rfl rfl pure_get_sep (SL.cons (se_var (.head _) rfl) sl_nil)) mt1 hv rfl (.inl rfl))
 (SS.cons (SS.assign (SE.bin op_add (SE.meth F.slot_str_rfind F.type_str_rfind mok_rfind (se_var (.head _) rfl) (SL.cons (se_var mt1 rfl) sl_nil)) se_int) mt2 hv rfl (.inl rfl))
 (SS.cons (SS.assign (SE.slice (se_var (.head _) rfl) sp_none (SP.some (se_var mt2 rfl)) sp_none) mt3 hv rfl (.inl rfl))
 (SS.cons (SS.ifs (SB.and (SB.plain (se_var mt3 rfl)) (SB.and (SB.cmp (op_ne hu) (se_var mt3 rfl) (SE.bin op_mul (se_var mt1 rfl) (SE.callB hT hE rfl rfl boot_len (by decide) bok_len (SL.cons (se_var mt3 rfl) sl_nil)))) sb_and_nil)) (SS.cons (SS.assign (SE.meth F.slot_str_rstrip F.type_str_rstrip mok_rstrip (se_var mt3 rfl) (SL.cons (se_var mt1 rfl) sl_nil)) mt3 hv rfl (.inl rfl))
 ss_nil) ss_nil)
 (SS.cons (SS.ret (se_var mt3 rfl))
 ss_nil))))))
noncomputable def m_law_paths : MSt → Option (Out × MSt) := (sSeq (sNewList 1 (eCons (eStr "/") eNil))
 (sSeq (sFor (iRange2 (eInt 1) (eInt 8)) (bName 2) (sSeq (sAppend 1 (eCall s_join (eCons (eSub (eVar 1) (eSub (eVar 0) (eVar 2))) (eCons (eSub (eStr "abcdefg") (e2 subV (eVar 2) (eInt 1))) eNil))))
 sNil) sNil)
 (sSeq (sRet (eVar 1))
 sNil)))
noncomputable def s_law_paths : List MV → Option MV := fun args => runFn (packN 1) m_law_paths args
noncomputable abbrev d_law_paths : Nat := 3
theorem pure_law_paths : ∀ args v, s_law_paths args = some v → Pure prog w (hK p) 207 d_law_paths args v := by
 refine pure_fn [("above", 0), ("paths", 1), ("k", 2)] ["above"] rfl rfl rfl rfl rfl rfl rfl rfl rfl rfl (all1 rfl fun _ => rfl) fun A C L hA hB hT hE hv => ?_
 have hh := hA.handled
 have hu : A.units + 64 < cLine := by have := hA.units; omega
 exact (SS.cons (SS.newList (SL.cons se_str sl_nil) mt1 hv rfl (.inl rfl))
 (SS.cons (SS.for (SI.range2 hh hT hE rfl rfl se_int se_int) (SA.weak (sa_name mt2 hv rfl (.inl rfl))) (SS.cons (SS.append (SE.call (n := d_join) (hA.le (by decide)) hB hT hE rfl rfl rfl rfl pure_join (SL.cons (SE.sub (se_var mt1 rfl) (SE.sub (se_var (.head _) rfl) (se_var mt2 rfl))) (SL.cons (SE.sub se_str (SE.bin op_sub (se_var mt2 rfl) se_int)) sl_nil))) mt1 rfl)
 ss_nil) ss_nil)
 (SS.cons (SS.ret (se_var mt1 rfl))
 ss_nil)))
end
end
section
section
variable {prog : Program} {w : World} {p : Params}
noncomputable def m_commonpath : MSt → Option (Out × MSt) := (sSeq (sAssign (eTupMap s_fspath (eVar 0)) (bName 0))
 (sSeq (sIf (bNot (bL (eVar 0))) sDead sNil)
 (sSeq (sIf (bE (eB (f2 isinstV) (eCons (eSub (eVar 0) (eInt 0)) (eCons (eCls "bytes") eNil)))) sDead (sSeq (sAssign (eStr "/") (bName 1))
 (sSeq (sAssign (eStr ".") (bName 2))
 sNil)))
 (sSeq (sSeq (sAssign (eLstOf (eComp 11 (iSeq (eVar 0)) tTrue (eM (f2 splitV) (eVar 11) (eCons (eVar 1) eNil)))) (bName 3))
 (sSeq (sSeq (sSetOne 4 12 (iSeq (eVar 0)) (eM (startsV) (eVar 12) (eCons (eVar 1) eNil)))
 sNil)
 (sSeq (sAssign (eLstOf (eComp 13 (iSeq (eVar 3)) tTrue (eLstOf (eComp 14 (iSeq (eVar 13)) (bAnd (bE (eVar 14)) (bAnd (b2 neV (eVar 14) (eVar 2)) bTrue)) (eVar 14))))) (bName 3))
 (sSeq (sAssign (eB (f1 (minSsV true)) (eCons (eVar 3) eNil)) (bName 5))
 (sSeq (sAssign (eB (f1 (minSsV false)) (eCons (eVar 3) eNil)) (bName 6))
 (sSeq (sAssign (eVar 5) (bName 7))
 (sSeq (sFor (iEnum (eVar 5)) (bTup [(bName 8), (bName 9)]) (sSeq (sIf (b2 neV (eVar 9) (eSub (eVar 6) (eVar 8))) (sSeq (sAssign (eSlice (eVar 5) pNone (pSome (eVar 8)) pNone) (bName 7))
 (sSeq (fun st => some (.brk, st))
 sNil)) sNil)
 sNil) sNil)
 (sSeq (sAssign (eIf (bE (eVar 4)) (eVar 1) (eSlice (eVar 1) pNone (pSome (eInt 0)) pNone)) (bName 10))
 (sSeq (sRet (e2 addV (eVar 10) (eM (f2 joinV) (eVar 1) (eCons (eVar 7) eNil))))
 sNil)))))))))
 sNil))))
noncomputable def s_commonpath : List MV → Option MV := fun args => runFn (packN 1) m_commonpath args
noncomputable abbrev d_commonpath : Nat := 3
theorem pure_commonpath : ∀ args v, s_commonpath args = some v → Pure prog w (hK p) 141 d_commonpath args v := by
 refine pure_fn [("paths", 0), ("sep", 1), ("curdir", 2), ("split_paths", 3), ("isabs", 4), ("s1", 5), ("s2", 6), ("common", 7), ("i", 8), ("c", 9), ("prefix", 10)] ["paths"] rfl rfl rfl rfl rfl rfl rfl rfl rfl rfl (all1 rfl fun _ => rfl) fun A C L hA hB hT hE hv => ?_
 have hh := hA.handled
 have hu : A.units + 64 < cLine := by have := hA.units; omega
 exact (SS.cons (SS.assign (SE.tupMap (n := d_fspath) (hA.le (by decide)) hB hT hE rfl rfl rfl rfl rfl rfl pure_fspath (se_var (.head _) rfl)) (.head _) hv rfl (.inl rfl))
 (SS.cons (SS.ifs (SB.not (SB.seq (se_var (.head _) rfl))) ss_dead ss_nil)
 (SS.cons (SS.ifs (SB.plain (SE.callB hT hE rfl rfl boot_isinstance (by decide) bok_isinst (SL.cons (SE.sub (se_var (.head _) rfl) se_int) (SL.cons (se_cls hT hE rfl rfl boot_bytes (by decide)) sl_nil)))) ss_dead (SS.cons (SS.assign se_str mt1 hv rfl (.inr rfl))
 (SS.cons (SS.assign se_str mt2 hv rfl (.inr rfl))
 ss_nil)))
 (SS.cons (SS.tryOk (SS.cons (SS.acomp 11 [("sep", 1)] hE rfl (SI.seq hh (se_var (.head _) rfl)) (fun C2 W0 hE1 => st_nil) (fun C2 W0 hE1 => (SE.meth F.slot_str_split F.type_str_split mok_split (se_var (.head _) rfl) (SL.cons (se_var mt1 rfl) sl_nil))) mt3 hv rfl (.inl rfl) rfl)
 (SS.cons (SS.tryOk (SS.cons (SS.setOne 12 [("sep", 1)] hh hE rfl (SI.seq hh (se_var (.head _) rfl)) (fun C2 W0 hE1 => (SE.meth F.slot_str_startswith F.type_str_startswith mok_startswith (se_var (.head _) rfl) (SL.cons (se_var mt1 rfl) sl_nil))) mt4 hv rfl (.inl rfl))
 ss_nil))
 (SS.cons (SS.acomp 13 [("curdir", 2)] hE rfl (SI.seq hh (se_var mt3 rfl)) (fun C2 W0 hE1 => st_nil) (fun C2 W0 hE1 => (SE.lcomp 14 [("curdir", 2)] hE1 rfl (SI.seq hh (se_var (.head _) rfl)) (fun C2 W0 hE2 => (SB.one (SB.and (SB.plain (se_var (.head _) rfl)) (SB.and (SB.cmp (op_ne hu) (se_var (.head _) rfl) (se_var mt1 rfl)) sb_and_nil)))) (fun C2 W0 hE2 => (se_var (.head _) rfl)))) mt3 hv rfl (.inl rfl) rfl)
 (SS.cons (SS.assign (SE.callB hT hE rfl rfl boot_min (by decide) (bok_minSs hh hu) (SL.cons (se_var mt3 rfl) sl_nil)) mt5 hv rfl (.inl rfl))
 (SS.cons (SS.assign (SE.callB hT hE rfl rfl boot_max (by decide) (bok_maxSs hh hu) (SL.cons (se_var mt3 rfl) sl_nil)) mt6 hv rfl (.inl rfl))
 (SS.cons (SS.assign (se_var mt5 rfl) mt7 hv rfl (.inl rfl))
 (SS.cons (SS.for (SI.enum hh hT hE rfl rfl (se_var mt5 rfl)) (saw_tuple hh ⟨(sa_name mt8 hv rfl (.inl rfl)), (sa_name mt9 hv rfl (.inl rfl)), trivial⟩) (SS.cons (SS.ifs (SB.cmp (op_ne hu) (se_var mt9 rfl) (SE.sub (se_var mt6 rfl) (se_var mt8 rfl))) (SS.cons (SS.assign (SE.slice (se_var mt5 rfl) sp_none (SP.some (se_var mt8 rfl)) sp_none) mt7 hv rfl (.inl rfl))
 (SS.cons ss_break
 ss_nil)) ss_nil)
 ss_nil) ss_nil)
 (SS.cons (SS.assign (SE.ifexp (SB.plain (se_var mt4 rfl)) (se_var mt1 rfl) (SE.slice (se_var mt1 rfl) sp_none (SP.some se_int) sp_none)) mt10 hv rfl (.inl rfl))
 (SS.cons (SS.ret (SE.bin op_add (se_var mt10 rfl) (SE.meth F.slot_str_join F.type_str_join mok_join (se_var mt1 rfl) (SL.cons (se_var mt7 rfl) sl_nil))))
 ss_nil))))))))))
 ss_nil))))
end
end
section
section
variable {prog : Program} {w : World} {p : Params}
noncomputable def m_law_way : MSt → Option (Out × MSt) := (sSeq (sAssign (eCall s_commonpath (eCons (eLst (eCons (eVar 0) (eCons (eVar 1) eNil))) eNil)) (bName 2))
 (sSeq (sNewList 3 (eCons (eVar 2) eNil))
 (sSeq (sFor (iSeq (eLst (eCons (eVar 0) (eCons (eVar 1) eNil)))) (bName 4) (sSeq (sAssign (eVar 4) (bName 5))
 (sSeq (sFor (iRange1 (eInt 8)) (bName 6) (sSeq (sIf (b2 eqV (eVar 5) (eVar 2)) (sSeq (fun st => some (.brk, st))
 sNil) sNil)
 (sSeq (sAppend 3 (eVar 5))
 (sSeq (sAssign (eCall s_dirname (eCons (eVar 5) eNil)) (bName 5))
 sNil))) sNil)
 sNil)) sNil)
 (sSeq (sRet (eVar 3))
 sNil))))
noncomputable def s_law_way : List MV → Option MV := fun args => runFn (packN 2) m_law_way args
noncomputable abbrev d_law_way : Nat := 4
theorem pure_law_way : ∀ args v, s_law_way args = some v → Pure prog w (hK p) 214 d_law_way args v := by
 refine pure_fn [("one", 0), ("other", 1), ("top", 2), ("way", 3), ("end", 4), ("place", 5), ("step", 6)] ["one", "other"] rfl rfl rfl rfl rfl rfl rfl rfl rfl rfl (all2 rfl fun _ _ => rfl) fun A C L hA hB hT hE hv => ?_
 have hh := hA.handled
 have hu : A.units + 64 < cLine := by have := hA.units; omega
 exact (SS.cons (SS.assign (SE.call (n := d_commonpath) (hA.le (by decide)) hB hT hE rfl rfl rfl rfl pure_commonpath (SL.cons (SE.list (SL.cons (se_var (.head _) rfl) (SL.cons (se_var mt1 rfl) sl_nil))) sl_nil)) mt2 hv rfl (.inl rfl))
 (SS.cons (SS.newList (SL.cons (se_var mt2 rfl) sl_nil) mt3 hv rfl (.inl rfl))
 (SS.cons (SS.for (SI.seq hh (SE.list (SL.cons (se_var (.head _) rfl) (SL.cons (se_var mt1 rfl) sl_nil)))) (SA.weak (sa_name mt4 hv rfl (.inl rfl))) (SS.cons (SS.assign (se_var mt4 rfl) mt5 hv rfl (.inl rfl))
 (SS.cons (SS.for (SI.range1 hh hT hE rfl rfl se_int) (SA.weak (sa_name mt6 hv rfl (.inl rfl))) (SS.cons (SS.ifs (SB.cmp (op_eq hu) (se_var mt5 rfl) (se_var mt2 rfl)) (SS.cons ss_break
 ss_nil) ss_nil)
 (SS.cons (SS.append (se_var mt5 rfl) mt3 rfl)
 (SS.cons (SS.assign (SE.call (n := d_dirname) (hA.le (by decide)) hB hT hE rfl rfl rfl rfl pure_dirname (SL.cons (se_var mt5 rfl) sl_nil)) mt5 hv rfl (.inl rfl))
 ss_nil))) ss_nil)
 ss_nil)) ss_nil)
 (SS.cons (SS.ret (se_var mt3 rfl))
 ss_nil))))
noncomputable def m_law_marked : MSt → Option (Out × MSt) := (sSeq (sNewDict 3 11 (iSeq (eVar 0)) (eVar 11) (eInt 0))
 (sSeq (sFor (iSeq (eVar 2)) (bTup [(bName 4), (bName 5), (bName 6)]) (sSeq (sAssign (eCall s_S_IMODE (eCons (eVar 6) eNil)) (bName 7))
 (sSeq (sAssign (eCall s_commonpath (eCons (eLst (eCons (eSub (eVar 0) (eVar 5)) (eCons (eSub (eVar 0) (eVar 4)) eNil))) eNil)) (bName 8))
 (sSeq (sNewList 9 (eCons (eSub (eVar 0) (eVar 4)) (eCons (eSub (eVar 0) (eVar 5)) (eCons (eVar 8) eNil))))
 (sSeq (sIf (b2 neV (eVar 8) (eStr "/")) (sSeq (sAppend 9 (eCall s_dirname (eCons (eVar 8) eNil)))
 sNil) sNil)
 (sSeq (sForRef 9 (bName 10) (sSeq (sSetItem (eVar 3) (eVar 10) (e2 xorV (eSub (eVar 3) (eVar 10)) (eVar 7)))
 sNil))
 sNil))))) sNil)
 (sSeq (sFor (iSeq (eSlice (eSlice (eB (f1 sortedV) (eCons (eVar 0) eNil)) (pSome (eInt 1)) pNone pNone) pNone pNone (pSome (eNeg (eInt 1))))) (bName 10) (sSeq (sSetItem (eVar 3) (eCall s_dirname (eCons (eVar 10) eNil)) (e2 xorV (eSub (eVar 3) (eCall s_dirname (eCons (eVar 10) eNil))) (eSub (eVar 3) (eVar 10))))
 sNil) sNil)
 (sSeq (sRet (eLstOf (eComp 12 (iRange1 (eInt 8)) tTrue (e2 addV (e2 addV (eCall s_filemode (eCons (e2 xorV (eSub (eVar 1) (eVar 12)) (eSub (eVar 3) (eSub (eVar 0) (eVar 12)))) eNil)) (eStr " ")) (eSub (eVar 0) (eVar 12))))))
 sNil))))
noncomputable def s_law_marked : List MV → Option MV := fun args => runFn (packN 3) m_law_marked args
noncomputable abbrev d_law_marked : Nat := 4
theorem pure_law_marked : ∀ args v, s_law_marked args = some v → Pure prog w (hK p) 224 d_law_marked args v := by
 refine pure_fn [("paths", 0), ("modes", 1), ("turns", 2), ("marks", 3), ("one", 4), ("other", 5), ("number", 6), ("bits", 7), ("top", 8), ("places", 9), ("place", 10)] ["paths", "modes", "turns"] rfl rfl rfl rfl rfl rfl rfl rfl rfl rfl (all3 rfl fun _ _ _ => rfl) fun A C L hA hB hT hE hv => ?_
 have hh := hA.handled
 have hu : A.units + 64 < cLine := by have := hA.units; omega
 exact (SS.cons (SS.ndict 11 [] hE rfl (SI.seq hh (se_var (.head _) rfl)) (fun C2 W0 hE1 => (se_var (.head _) rfl)) (fun C2 W0 hE1 => se_int) mt3 hv rfl (.inr rfl) rfl)
 (SS.cons (SS.for (SI.seq hh (se_var mt2 rfl)) (SA.weak (sa_tuple hh ⟨(sa_name mt4 hv rfl (.inl rfl)), (sa_name mt5 hv rfl (.inl rfl)), (sa_name mt6 hv rfl (.inl rfl)), trivial⟩)) (SS.cons (SS.assign (SE.call (n := d_S_IMODE) (hA.le (by decide)) hB hT hE rfl rfl rfl rfl pure_S_IMODE (SL.cons (se_var mt6 rfl) sl_nil)) mt7 hv rfl (.inl rfl))
 (SS.cons (SS.assign (SE.call (n := d_commonpath) (hA.le (by decide)) hB hT hE rfl rfl rfl rfl pure_commonpath (SL.cons (SE.list (SL.cons (SE.sub (se_var (.head _) rfl) (se_var mt5 rfl)) (SL.cons (SE.sub (se_var (.head _) rfl) (se_var mt4 rfl)) sl_nil))) sl_nil)) mt8 hv rfl (.inl rfl))
 (SS.cons (SS.newList (SL.cons (SE.sub (se_var (.head _) rfl) (se_var mt4 rfl)) (SL.cons (SE.sub (se_var (.head _) rfl) (se_var mt5 rfl)) (SL.cons (se_var mt8 rfl) sl_nil))) mt9 hv rfl (.inl rfl))
 (SS.cons (SS.ifs (SB.cmp (op_ne hu) (se_var mt8 rfl) se_str) (SS.cons (SS.append (SE.call (n := d_dirname) (hA.le (by decide)) hB hT hE rfl rfl rfl rfl pure_dirname (SL.cons (se_var mt8 rfl) sl_nil)) mt9 rfl)
 ss_nil) ss_nil)
 (SS.cons (SS.forRef hh mt9 rfl (sa_name mt10 hv rfl (.inl rfl)) (SS.cons (SS.setItem (SE.bin op_xor (SE.sub (se_var mt3 rfl) (se_var mt10 rfl)) (se_var mt7 rfl)) (se_var mt3 rfl) (se_var mt10 rfl))
 ss_nil))
 ss_nil))))) ss_nil)
 (SS.cons (SS.for (SI.seq hh (SE.slice (SE.slice (SE.callB hT hE rfl rfl boot_sorted (by decide) bok_sorted (SL.cons (se_var (.head _) rfl) sl_nil)) (SP.some se_int) sp_none sp_none) sp_none sp_none (SP.some (SE.neg se_int)))) (SA.weak (sa_name mt10 hv rfl (.inl rfl))) (SS.cons (SS.setItem (SE.bin op_xor (SE.sub (se_var mt3 rfl) (SE.call (n := d_dirname) (hA.le (by decide)) hB hT hE rfl rfl rfl rfl pure_dirname (SL.cons (se_var mt10 rfl) sl_nil))) (SE.sub (se_var mt3 rfl) (se_var mt10 rfl))) (se_var mt3 rfl) (SE.call (n := d_dirname) (hA.le (by decide)) hB hT hE rfl rfl rfl rfl pure_dirname (SL.cons (se_var mt10 rfl) sl_nil)))
 ss_nil) ss_nil)
 (SS.cons (SS.ret (SE.lcomp 12 [("paths", 0), ("modes", 1), ("marks", 3)] hE rfl (SI.range1 hh hT hE rfl rfl se_int) (fun C2 W0 hE1 => st_nil) (fun C2 W0 hE1 => (SE.bin op_add (SE.bin op_add (SE.call (n := d_filemode) (hA.le (by decide)) hB hT hE1 rfl rfl rfl rfl pure_filemode (SL.cons (SE.bin op_xor (SE.sub (se_var mt2 rfl) (se_var (.head _) rfl)) (SE.sub (se_var mt3 rfl) (SE.sub (se_var mt1 rfl) (se_var (.head _) rfl)))) sl_nil)) se_str) (SE.sub (se_var mt1 rfl) (se_var (.head _) rfl))))))
 ss_nil))))
end
end
section
section
variable {prog : Program} {w : World} {p : Params}
noncomputable def m_sorted_list_difference : MSt → Option (Out × MSt) := (sSeq (sAssign2 (eInt 0) (bName 2) (bName 3))
 (sSeq (sNewList 4 eNil)
 (sSeq (sNewList 5 eNil)
 (sSeq (sWhile (bE (eBool true)) (sSeq (xTryEx (xSeq (xAssign (xSub (eVar 0) (eVar 2)) 6)
 (xSeq (xAssign (xSub (eVar 1) (eVar 3)) 7)
 (xSeq (xIf (b2 ltV (eVar 6) (eVar 7)) (xSeq (xS (sAppend 4 (eVar 6)))
 (xSeq (xS (sAug 2 addV (eInt 1)))
 (xSeq (xWhile (xB2 eqV (xSub (eVar 0) (eVar 2)) (eVar 6)) (xSeq (xS (sAug 2 addV (eInt 1)))
 (xS sNil)))
 (xS sNil)))) (xSeq (xIf (b2 gtV (eVar 6) (eVar 7)) (xSeq (xS (sAppend 5 (eVar 7)))
 (xSeq (xS (sAug 3 addV (eInt 1)))
 (xSeq (xWhile (xB2 eqV (xSub (eVar 1) (eVar 3)) (eVar 7)) (xSeq (xS (sAug 3 addV (eInt 1)))
 (xS sNil)))
 (xS sNil)))) (xSeq (xS (sAug 2 addV (eInt 1)))
 (xSeq (xTryFin (xSeq (xWhile (xB2 eqV (xSub (eVar 0) (eVar 2)) (eVar 6)) (xSeq (xS (sAug 2 addV (eInt 1)))
 (xS sNil)))
 (xS sNil))
 (xSeq (xS (sAug 3 addV (eInt 1)))
 (xSeq (xWhile (xB2 eqV (xSub (eVar 1) (eVar 3)) (eVar 7)) (xSeq (xS (sAug 3 addV (eInt 1)))
 (xS sNil)))
 (xS sNil))))
 (xS sNil))))
 (xS sNil)))
 (xS sNil))))
 (sSeq (sExtend 4 (eSlice (eVar 0) (pSome (eVar 2)) pNone pNone))
 (sSeq (sExtend 5 (eSlice (eVar 1) (pSome (eVar 3)) pNone pNone))
 (sSeq (fun st => some (.brk, st))
 sNil))))
 sNil))
 (sSeq (sRet (eTup (eCons (eVar 4) (eCons (eVar 5) eNil))))
 sNil)))))
noncomputable def s_sorted_list_difference : List MV → Option MV := fun args => runFn (packN 2) m_sorted_list_difference args
noncomputable abbrev d_sorted_list_difference : Nat := 1
theorem pureX_sorted_list_difference (W0 : Addr → Prop) : ∀ args v, s_sorted_list_difference args = some v → PureX prog w (hK p) W0 28 d_sorted_list_difference args v := by
 refine pureX_fn [("expected", 0), ("actual", 1), ("i", 2), ("j", 3), ("missing", 4), ("unexpected", 5), ("e", 6), ("a", 7)] ["expected", "actual"] rfl rfl rfl rfl rfl rfl rfl rfl rfl rfl (all2 rfl fun _ _ => rfl) W0 fun A C L hw hA cx hT hE hv => ?_
 have hB := cx.ctxB
 have hh := hA.handled
 have hu : A.units + 64 < cLine := by have := hA.units; omega
 skip
 exact (SS.cons (SS.assign2 se_int (sa_name mt2 hv rfl (.inl rfl)) (sa_name mt3 hv rfl (.inl rfl)))
 (SS.cons (SS.newList sl_nil mt4 hv rfl (.inl rfl))
 (SS.cons (SS.newList sl_nil mt5 hv rfl (.inl rfl))
 (SS.cons (SS.while (SB.plain se_bool) (SS.cons (SS.tryExcept (P := False) cx hT hE rfl rfl PyProof.Rows.Boot.«IndexError» (by decide) F.isExc_IndexError F.notTuple_IndexError F.self_IndexError hh (SX.cons (SX.assign (SEX.sub (fun z => z.elim) (se_var (.head _) rfl) (se_var mt2 rfl)) mt6 hv rfl (.inl rfl))
 (SX.cons (SX.assign (SEX.sub (fun z => z.elim) (se_var mt1 rfl) (se_var mt3 rfl)) mt7 hv rfl (.inl rfl))
 (SX.cons (SX.ifs (SB.cmp op_lt (se_var mt6 rfl) (se_var mt7 rfl)) (SX.cons (SX.of (SS.append (se_var mt6 rfl) mt4 rfl))
 (SX.cons (SX.of (SS.aug op_iadd se_int mt2 hv rfl (.inl rfl)))
 (SX.cons (SX.while cx (SBX.cmp (op_eq hu) (SEX.sub (fun z => z.elim) (se_var (.head _) rfl) (se_var mt2 rfl)) (se_var mt6 rfl)) (SX.cons (SX.of (SS.aug op_iadd se_int mt2 hv rfl (.inl rfl)))
 (SX.of ss_nil)))
 (SX.of ss_nil)))) (SX.cons (SX.ifs (SB.cmp op_gt (se_var mt6 rfl) (se_var mt7 rfl)) (SX.cons (SX.of (SS.append (se_var mt7 rfl) mt5 rfl))
 (SX.cons (SX.of (SS.aug op_iadd se_int mt3 hv rfl (.inl rfl)))
 (SX.cons (SX.while cx (SBX.cmp (op_eq hu) (SEX.sub (fun z => z.elim) (se_var mt1 rfl) (se_var mt3 rfl)) (se_var mt7 rfl)) (SX.cons (SX.of (SS.aug op_iadd se_int mt3 hv rfl (.inl rfl)))
 (SX.of ss_nil)))
 (SX.of ss_nil)))) (SX.cons (SX.of (SS.aug op_iadd se_int mt2 hv rfl (.inl rfl)))
 (SX.cons (SX.tryFin cx hh (SX.cons (SX.while cx (SBX.cmp (op_eq hu) (SEX.sub (fun _ => hh) (se_var (.head _) rfl) (se_var mt2 rfl)) (se_var mt6 rfl)) (SX.cons (SX.of (SS.aug op_iadd se_int mt2 hv rfl (.inl rfl)))
 (SX.of ss_nil)))
 (SX.of ss_nil))
 (fun v => (SX.cons (SX.of (SS.aug op_iadd se_int mt3 hv rfl (.inl rfl)))
 (SX.cons (SX.while (cx.mark v) (SBX.cmp (op_eq hu) (SEX.sub (fun z => z.elim) (se_var mt1 rfl) (se_var mt3 rfl)) (se_var mt7 rfl)) (SX.cons (SX.of (SS.aug op_iadd se_int mt3 hv rfl (.inl rfl)))
 (SX.of ss_nil)))
 (SX.of ss_nil)))))
 (SX.of ss_nil))))
 (SX.of ss_nil)))
 (SX.of ss_nil)))) (fun e => (SS.cons (SS.extend (SE.slice (se_var (.head _) rfl) (SP.some (se_var mt2 rfl)) sp_none sp_none) mt4 rfl)
 (SS.cons (SS.extend (SE.slice (se_var mt1 rfl) (SP.some (se_var mt3 rfl)) sp_none sp_none) mt5 rfl)
 (SS.cons ss_break
 ss_nil)))))
 ss_nil))
 (SS.cons (SS.ret (SE.tuple (SL.cons (se_var mt4 rfl) (SL.cons (se_var mt5 rfl) sl_nil))))
 ss_nil)))))
end
end
section
section
variable {prog : Program} {w : World} {p : Params}
noncomputable def m_law_walked : MSt → Option (Out × MSt) := (sSeq (sNewDict 3 14 (iRange1 (eInt 8)) (eSub (eVar 0) (eVar 14)) (eSub (eVar 1) (eVar 14)))
 (sSeq (sNewDict 4 15 (iSeq (eVar 0)) (eVar 15) (e2 addV (e2 addV (eCall s_filemode (eCons (eSub (eVar 3) (eVar 15)) eNil)) (eStr " ")) (eVar 15)))
 (sSeq (sNewList 5 eNil)
 (sSeq (sFor (iSeq (eVar 2)) (bTup [(bName 6), (bName 7), (bName 8)]) (sSeq (sAssign (eB (f1 sortedV) (eCons (eLstOf (eComp 16 (iSeq (eVar 0)) tTrue (eSub (eVar 4) (eVar 16)))) eNil)) (bName 9))
 (sSeq (sAssign (eCall s_law_way (eCons (eSub (eVar 0) (eVar 6)) (eCons (eSub (eVar 0) (eVar 7)) eNil))) (bName 10))
 (sSeq (sFor (iSeq (eVar 10)) (bName 11) (sSeq (sSetItem (eVar 3) (eVar 11) (e2 addV (eCall s_S_IFMT (eCons (eSub (eVar 3) (eVar 11)) eNil)) (e2 xorV (eCall s_S_IMODE (eCons (eSub (eVar 3) (eVar 11)) eNil)) (eCall s_S_IMODE (eCons (eVar 8) eNil)))))
 (sSeq (sSetItem (eVar 4) (eVar 11) (e2 addV (e2 addV (eCall s_filemode (eCons (eSub (eVar 3) (eVar 11)) eNil)) (eStr " ")) (eVar 11)))
 sNil)) sNil)
 (sSeq (sAssign (eB (f1 sortedV) (eCons (eLstOf (eComp 17 (iSeq (eVar 0)) tTrue (eSub (eVar 4) (eVar 17)))) eNil)) (bName 12))
 (sSeq (sAssign (eCall s_sorted_list_difference (eCons (eVar 9) (eCons (eVar 12) eNil))) (bName 13))
 (sSeq (sAppend 5 (eLst (eCons (eVar 13) (eCons (eVar 9) (eCons (eVar 12) (eCons (eSub (eVar 10) (eInt 0)) eNil))))))
 sNil)))))) sNil)
 (sSeq (sRet (eTup (eCons (eVar 5) (eCons (eLstOf (eComp 18 (iSeq (eVar 0)) tTrue (eSub (eVar 4) (eVar 18)))) eNil))))
 sNil)))))
noncomputable def s_law_walked : List MV → Option MV := fun args => runFn (packN 3) m_law_walked args
noncomputable abbrev d_law_walked : Nat := 5
theorem pureX_law_walked (W0 : Addr → Prop) (hW0 : ∀ a, ¬ W0 a) : ∀ args v, s_law_walked args = some v → PureX prog w (hK p) W0 219 d_law_walked args v := by
 refine pureX_fn [("paths", 0), ("modes", 1), ("turns", 2), ("now", 3), ("rows", 4), ("told", 5), ("one", 6), ("other", 7), ("number", 8), ("before", 9), ("way", 10), ("place", 11), ("after", 12), ("answer", 13)] ["paths", "modes", "turns"] rfl rfl rfl rfl rfl rfl rfl rfl rfl rfl (all3 rfl fun _ _ _ => rfl) W0 fun A C L hw hA cx hT hE hv => ?_
 have hB := cx.ctxB
 have hh := hA.handled
 have hu : A.units + 64 < cLine := by have := hA.units; omega
 have hW : ∀ a, ¬ C.W0 a := fun a => hw ▸ hW0 a
 exact (SS.cons (SS.ndict 14 [("paths", 0), ("modes", 1)] hE rfl (SI.range1 hh hT hE rfl rfl se_int) (fun C2 W0 hE1 => (SE.sub (se_var mt1 rfl) (se_var (.head _) rfl))) (fun C2 W0 hE1 => (SE.sub (se_var mt2 rfl) (se_var (.head _) rfl))) mt3 hv rfl (.inr rfl) rfl)
 (SS.cons (SS.ndict 15 [("now", 3)] hE rfl (SI.seq hh (se_var (.head _) rfl)) (fun C2 W0 hE1 => (se_var (.head _) rfl)) (fun C2 W0 hE1 => (SE.bin op_add (SE.bin op_add (SE.call (n := d_filemode) (hA.le (by decide)) hB hT hE1 rfl rfl rfl rfl pure_filemode (SL.cons (SE.sub (se_var mt1 rfl) (se_var (.head _) rfl)) sl_nil)) se_str) (se_var (.head _) rfl))) mt4 hv rfl (.inr rfl) rfl)
 (SS.cons (SS.newList sl_nil mt5 hv rfl (.inl rfl))
 (SS.cons (SS.for (SI.seq hh (se_var mt2 rfl)) (SA.weak (sa_tuple hh ⟨(sa_name mt6 hv rfl (.inl rfl)), (sa_name mt7 hv rfl (.inl rfl)), (sa_name mt8 hv rfl (.inl rfl)), trivial⟩)) (SS.cons (SS.assign (SE.callB hT hE rfl rfl boot_sorted (by decide) bok_sorted (SL.cons (SE.lcomp 16 [("rows", 4)] hE rfl (SI.seq hh (se_var (.head _) rfl)) (fun C2 W0 hE1 => st_nil) (fun C2 W0 hE1 => (SE.sub (se_var mt1 rfl) (se_var (.head _) rfl)))) sl_nil)) mt9 hv rfl (.inl rfl))
 (SS.cons (SS.assign (SE.call (n := d_law_way) (hA.le (by decide)) hB hT hE rfl rfl rfl rfl pure_law_way (SL.cons (SE.sub (se_var (.head _) rfl) (se_var mt6 rfl)) (SL.cons (SE.sub (se_var (.head _) rfl) (se_var mt7 rfl)) sl_nil))) mt10 hv rfl (.inl rfl))
 (SS.cons (SS.for (SI.seq hh (se_var mt10 rfl)) (SA.weak (sa_name mt11 hv rfl (.inl rfl))) (SS.cons (SS.setItem (SE.bin op_add (SE.call (n := d_S_IFMT) (hA.le (by decide)) hB hT hE rfl rfl rfl rfl pure_S_IFMT (SL.cons (SE.sub (se_var mt3 rfl) (se_var mt11 rfl)) sl_nil)) (SE.bin op_xor (SE.call (n := d_S_IMODE) (hA.le (by decide)) hB hT hE rfl rfl rfl rfl pure_S_IMODE (SL.cons (SE.sub (se_var mt3 rfl) (se_var mt11 rfl)) sl_nil)) (SE.call (n := d_S_IMODE) (hA.le (by decide)) hB hT hE rfl rfl rfl rfl pure_S_IMODE (SL.cons (se_var mt8 rfl) sl_nil)))) (se_var mt3 rfl) (se_var mt11 rfl))
 (SS.cons (SS.setItem (SE.bin op_add (SE.bin op_add (SE.call (n := d_filemode) (hA.le (by decide)) hB hT hE rfl rfl rfl rfl pure_filemode (SL.cons (SE.sub (se_var mt3 rfl) (se_var mt11 rfl)) sl_nil)) se_str) (se_var mt11 rfl)) (se_var mt4 rfl) (se_var mt11 rfl))
 ss_nil)) ss_nil)
 (SS.cons (SS.assign (SE.callB hT hE rfl rfl boot_sorted (by decide) bok_sorted (SL.cons (SE.lcomp 17 [("rows", 4)] hE rfl (SI.seq hh (se_var (.head _) rfl)) (fun C2 W0 hE1 => st_nil) (fun C2 W0 hE1 => (SE.sub (se_var mt1 rfl) (se_var (.head _) rfl)))) sl_nil)) mt12 hv rfl (.inl rfl))
 (SS.cons (SS.callX (n := d_sorted_list_difference) cx (hA.le (by decide)) hT hW hE rfl rfl rfl rfl (fun W0 => pureX_sorted_list_difference W0) (SL.cons (se_var mt9 rfl) (SL.cons (se_var mt12 rfl) sl_nil)) mt13 hv rfl (.inl rfl))
 (SS.cons (SS.append (SE.list (SL.cons (se_var mt13 rfl) (SL.cons (se_var mt9 rfl) (SL.cons (se_var mt12 rfl) (SL.cons (SE.sub (se_var mt10 rfl) se_int) sl_nil))))) mt5 rfl)
 ss_nil)))))) ss_nil)
 (SS.cons (SS.ret (SE.tuple (SL.cons (se_var mt5 rfl) (SL.cons (SE.lcomp 18 [("rows", 4)] hE rfl (SI.seq hh (se_var (.head _) rfl)) (fun C2 W0 hE1 => st_nil) (fun C2 W0 hE1 => (SE.sub (se_var mt1 rfl) (se_var (.head _) rfl)))) sl_nil))))
 ss_nil)))))
end
end
section
section
variable {prog : Program} {w : World} {p : Params}
noncomputable def m_unorderable_list_difference : MSt → Option (Out × MSt) := (sSeq (sNewList 2 eNil)
 (sSeq (sWhile (bL (eVar 0)) (sSeq (sPop 3 0)
 (sSeq (xTryEx (xSeq (xRemove 1 3)
 (xS sNil))
 (sSeq (sAppend 2 (eVar 3))
 sNil))
 sNil)))
 (sSeq (sRet (eTup (eCons (eVar 2) (eCons (eVar 1) eNil))))
 sNil)))
noncomputable def s_unorderable_list_difference := specU m_unorderable_list_difference
noncomputable abbrev d_unorderable_list_difference : Nat := 1
theorem callU_unorderable_list_difference {A : Around} {C : Cx} {fv : FV} {y1 y2 z : Str} {k1 k2 kz : Nat} {np p1 p2 pz pos spos : Pos} (cx : CtxX A C fv) (hA1 : A.frames = some [fv.env]) (hfn : C.h₀.objs.size = C.fn) (hA : AOk A d_unorderable_list_difference) (hT : TopOk (hK p) C.h₀) (hW : ∀ a, ¬ C.W0 a) (he : EnvOk fv.env) (hx : fv.env.kindOf "unorderable_list_difference" = some .globalImplicit)
  (hm1 : (y1, k1) ∈ fv.vars) (hm2 : (y2, k2) ∈ fv.vars) (hm : (z, kz) ∈ fv.vars) (hv : VarsOk fv.vars = true) (hk : fv.env.scope.kind = .function) (hz : fv.env.kindOf z = some .local ∨ fv.env.kindOf z = some .cell)
  (hd1 : (y1 == ("__debug__" : Str)) = false := by decide) (hc1 : (y1 == ("__classdict__" : Str)) = false := by decide) (hd2 : (y2 == ("__debug__" : Str)) = false := by decide) (hc2 : (y2 == ("__classdict__" : Str)) = false := by decide)
  (hse : backTo pos (starEach [.Name y1 p1, .Name y2 p2] fv.env) = [(false, eval (.Name y1 p1) fv.env), (false, eval (.Name y2 p2) fv.env)] := by rfl)
  (hsw : swapsWith (.Call (.Name "unorderable_list_difference" np) [.Name y1 p1, .Name y2 p2] [] pos) (some (.Name z pz)) spos.line fv.env = pure false := by rfl) :
  SS prog w A C fv (exec (.Assign [.Name z pz] (.Call (.Name "unorderable_list_difference" np) [.Name y1 p1, .Name y2 p2] [] pos) spos) fv.env) (sCallU k1 k2 kz s_unorderable_list_difference) := by
 refine SS.callU (vars := [("expected", 0), ("actual", 1), ("missing", 2), ("item", 3)]) (n := 0) (f := 35) cx hA1 hfn hA hT hW he hx rfl (FnOk.of rfl rfl rfl rfl rfl rfl rfl rfl rfl rfl) rfl (all2 rfl fun _ _ => rfl) (fun _ => rfl) (fun y => noCell_of rfl y) (fun A C L hA cx hT hE hv => ?_) hm1 hm2 hm hv hk hz hd1 hc1 hd2 hc2 (by decide) hse hsw
 have hB := cx.ctxB
 have hh := hA.handled
 have hu : A.units + 64 < cLine := by have := hA.units; omega
 exact (SS.cons (SS.newList sl_nil mt2 hv rfl (.inl rfl))
 (SS.cons (SS.while (SB.seq (se_var (.head _) rfl)) (SS.cons (SS.pop (.head _) mt3 hv rfl (.inl rfl))
 (SS.cons (SS.tryExcept (P := False) cx hT hE rfl rfl PyProof.Rows.Boot.«ValueError» (by decide) F.isExc_ValueError F.notTuple_ValueError F.self_ValueError hh (SX.cons (SX.remove mt1 mt3 rfl (fun z => z.elim) hh)
 (SX.of ss_nil)) (fun e => (SS.cons (SS.append (se_var mt3 rfl) mt2 rfl)
 ss_nil)))
 ss_nil)))
 (SS.cons (SS.ret (SE.tuple (SL.cons (se_var mt2 rfl) (SL.cons (se_var mt1 rfl) sl_nil))))
 ss_nil)))
end
end
section
set_option backward.match.sparseCases false
section
variable {prog : Program} {w : World} {p : Params}
noncomputable def m_law : MSt → Option (Out × MSt) := (sSeq (sAssign (eCall s_law_drawn (eCons (eVar 0) eNil)) (bTup [(bName 1), (bName 2), (bName 3)]))
 (sSeq (sAssign (eCall s_law_paths (eCons (eVar 1) eNil)) (bName 4))
 (sSeq (sAssign (eCall0 s_law_walked (eCons (eVar 4) (eCons (eVar 2) (eCons (eVar 3) eNil)))) (bTup [(bName 5), (bName 6)]))
 (sSeq (sAssign (eCall s_law_wanted (eCons (eVar 1) (eCons (eVar 2) (eCons (eVar 3) eNil)))) (bTup [(bName 7), (bName 8)]))
 (sSeq (sIf (bOr (b2 neV (eVar 5) (eVar 7)) (bOr (b2 neV (eVar 6) (eVar 8)) bFalse)) (sSeq (sRet (eBool false))
 sNil) sNil)
 (sSeq (sNewFlat 9 (nAdd (eVar 6) (eLst (eCons (eStr "/") eNil))))
 (sSeq (sAssign (eCall s_law_marked (eCons (eVar 4) (eCons (eVar 2) (eCons (eVar 3) eNil)))) (bName 10))
 (sSeq (sNewFlat 11 (nSlice (eVar 10) pNone pNone (pSome (eNeg (eInt 1)))))
 (sSeq (sCallU 9 11 12 s_unorderable_list_difference)
 (sSeq (sRet (eAnd (e2 eqV (eVar 10) (eVar 8)) (eAnd (e2S eqR (eVar 12) (eTup (eCons (eLst (eCons (eStr "/") eNil)) (eCons (eLst eNil) eNil)))) (eAnd (e2S eqR (eVar 9) (eLst eNil)) (e2S isR (eSub (eVar 12) (eInt 1)) (eVar 11))))))
 sNil))))))))))
end
noncomputable def lawOk (ns : List Int) : Prop := (m_law (start [.lst (ns.map .int)])).map (fun p => match p.1 with | .ret (.bool b) => b | _ => false) = some true
theorem holds_of (hall : ∀ ns : List Int, ns.length ≤ 63 → lawOk ns) : PySem.Challenge.rw_pd0154_01.Holds := by
 w_on
 refine holds_law ws_ok fun said => ?_
 refine holds_open (q := view) (loose := [Str.ofString "_filemode_table"]) (Xt := fun s => xlAt view [] s && recOk [] s) (XP := XL view []) (Yf := hook.obs) (Ya := hook.val) (YP := hook.says) (N := 3456) k_left hook.of hook.keeps (fun s e => xl_of s (Bool.and_eq_true_iff.mp e).1) XL.keeps (by rfl) (by rfl) (by rfl) (fun s e => recFacts_of (Bool.and_eq_true_iff.mp e).2) (by rfl) (by assumption) (by decide +kernel) ⟨rfl, rfl, rfl, rfl, rfl, by decide +kernel⟩ ?hw ?hc
 case hw => w_witness2
 w_on
 w_strict (
  intro w s₀ s₁ mg mb G Y fa o pm cd doc dV kV ho hd hcd hD hmg hg args vals as hpre hlay hrd hwl hlo
  have KX := kIn_of Y
  refine Ground.open G ?_
  intro T B D TE TW
  try (refine guard_noD D (by decide +kernel) ?_; clear D)
  obtain ⟨_, _, M⟩ := bmod_of_top T
  have TA := at_of_top T
  try (obtain ⟨_, _, he, B0⟩ := based_of_top T rfl hmg ho hd; have he' : cd = _ := he; subst he'; clear he)
  clear hmg
  wrow_args hpre hlay hrd hwl hlo
  refine enter_call ?_
  w_top on
  try refine codeAny_mono ?_ (fun _ _ g => GoodW.toG g)
  have K0 := below_caller (Top.heap T)
  w_call any ho hd hcd hD T F
  clear hd TA
  k_drop
  refine finish [("script", 0), ("above", 1), ("modes", 2), ("turns", 3), ("paths", 4), ("told", 5), ("last", 6), ("wanted", 7), ("ends", 8), ("listing", 9), ("marked", 10), ("backward", 11), ("answer", 12)] (n := 5) (by assumption) (by assumption) (by assumption) (by rfl) (by assumption) (by assumption) (by rfl) (by rfl) (by rfl) (by exact fun y => noCell_of rfl y) (by decide) (fun A C L fa cd hA hA1 hfn cx hT hE hv hW => ?_) (hall _ (by omega)) (fun h' tk hst => ?_))
 ·have hB := cx.ctxB
  have hh := hA.handled
  have hu : A.units + 64 < cLine := by have := hA.units; omega
  exact (SS.cons (SS.assignS (SE.call (n := d_law_drawn) (hA.le (by decide)) hB hT hE rfl rfl rfl rfl pure_law_drawn (SL.cons (se_var (.head _) rfl) sl_nil)) (sa_tuple hh ⟨(sa_name mt1 hv rfl (.inl rfl)), (sa_name mt2 hv rfl (.inl rfl)), (sa_name mt3 hv rfl (.inl rfl)), trivial⟩))
 (SS.cons (SS.assign (SE.call (n := d_law_paths) (hA.le (by decide)) hB hT hE rfl rfl rfl rfl pure_law_paths (SL.cons (se_var mt1 rfl) sl_nil)) mt4 hv rfl (.inl rfl))
 (SS.cons (SS.callX0 (n := d_law_walked) cx (hA.le (by decide)) hT hW hE rfl rfl rfl rfl (pureX_law_walked _ (fun _ => id)) (SL.cons (se_var mt4 rfl) (SL.cons (se_var mt2 rfl) (SL.cons (se_var mt3 rfl) sl_nil))) (sa_tuple hh ⟨(sa_name mt5 hv rfl (.inl rfl)), (sa_name mt6 hv rfl (.inl rfl)), trivial⟩))
 (SS.cons (SS.assignS (SE.call (n := d_law_wanted) (hA.le (by decide)) hB hT hE rfl rfl rfl rfl pure_law_wanted (SL.cons (se_var mt1 rfl) (SL.cons (se_var mt2 rfl) (SL.cons (se_var mt3 rfl) sl_nil)))) (sa_tuple hh ⟨(sa_name mt7 hv rfl (.inl rfl)), (sa_name mt8 hv rfl (.inl rfl)), trivial⟩))
 (SS.cons (SS.ifs (SB.or (SB.cmp (op_ne hu) (se_var mt5 rfl) (se_var mt7 rfl)) (SB.or (SB.cmp (op_ne hu) (se_var mt6 rfl) (se_var mt8 rfl)) sb_or_nil)) (SS.cons (SS.ret se_bool)
 ss_nil) ss_nil)
 (SS.cons (SS.newFlat (SEN.add (se_var mt6 rfl) (SE.list (SL.cons se_str sl_nil))) mt9 hv rfl (.inl rfl))
 (SS.cons (SS.assign (SE.call (n := d_law_marked) (hA.le (by decide)) hB hT hE rfl rfl rfl rfl pure_law_marked (SL.cons (se_var mt4 rfl) (SL.cons (se_var mt2 rfl) (SL.cons (se_var mt3 rfl) sl_nil)))) mt10 hv rfl (.inl rfl))
 (SS.cons (SS.newFlat (SEN.slice (se_var mt10 rfl) sp_none sp_none (SP.some (SE.neg se_int))) mt11 hv rfl (.inl rfl))
 (SS.cons (callU_unorderable_list_difference cx hA1 hfn (hA.le (by decide)) hT hW hE rfl mt9 mt11 mt12 hv rfl (.inl rfl))
 (SS.cons (SS.ret (SE.and (SE.cmp (op_eq hu) (se_var mt10 rfl) (se_var mt8 rfl)) (SE.and (SE.cmpS (ops_eq hu) (se_var mt12 rfl) (SE.tuple (SL.cons (SE.list (SL.cons se_str sl_nil)) (SL.cons (SE.list sl_nil) sl_nil)))) (SE.and (SE.cmpS (ops_eq hu) (se_var mt9 rfl) (SE.list sl_nil)) (SE.andOne (SE.cmpS ops_is (SE.sub (se_var mt12 rfl) se_int) (se_var mt11 rfl)))))))
 ss_nil))))))))))
 ·exact ⟨.inl ⟨_, _, [], rfl, fun _ => rfl, ReadsW.bool true, (by wrow_post), fun _ => ⟨List.nodup_nil, fun _ hm => nomatch hm⟩⟩, hst, rfl, by assumption⟩
end
section
set_option backward.match.sparseCases false
noncomputable def subsFrom : Nat → Nat → List (List Nat)
 | 0, _ => [[]]
 | n + 1, k => let r := subsFrom n (k + 1); r ++ r.map (k :: ·)
noncomputable def subs : List (List Nat) := subsFrom 7 1
theorem mem_subsFrom : ∀ (n k : Nat) (S : List Nat), S.Pairwise (· < ·) → (∀ x ∈ S, k ≤ x ∧ x < k + n) → S ∈ subsFrom n k
 | 0, k, S, _, h => by
  cases S with
  | nil => simp [subsFrom]
  | cons x r => have := h x (by simp); omega
 | n + 1, k, S, hp, h => by
  simp only [subsFrom, List.mem_append, List.mem_map]
  cases S with
  | nil => exact .inl (mem_subsFrom n (k + 1) [] .nil (by simp))
  | cons x r =>
   obtain ⟨h1, h2⟩ := List.pairwise_cons.mp hp
   have hx := h x (by simp)
   by_cases e : x = k
   ·subst e
    exact .inr ⟨r, mem_subsFrom n (x + 1) r h2 (fun y hy => by have := h1 y hy; have := h y (by simp [hy]); omega), rfl⟩
   ·exact .inl (mem_subsFrom n (k + 1) (x :: r) hp (fun y hy => by
     rcases List.mem_cons.mp hy with rfl | hy
     ·omega
     ·have := h1 y hy; have := h y (by simp [hy]); omega))
structure Tr where
 ab : Nat → Nat
 P : Nat → List Nat
 h0 : ab 0 = 0
 hlt : ∀ k, 0 < k → k < 8 → ab k < k
 P0 : P 0 = []
 Pk : ∀ k, 0 < k → k < 8 → P k = P (ab k) ++ [k]
namespace Tr
variable (T : Tr)
theorem rise : ∀ (k : Nat), k < 8 → (T.P k).Pairwise (· < ·) ∧ ∀ x ∈ T.P k, 1 ≤ x ∧ x ≤ k := by
 intro k
 induction k using Nat.strongRecOn with
 | _ k ih =>
  intro hk
  by_cases h0 : k = 0
  ·subst h0; rw [T.P0]; simp
  ·have hl := T.hlt k (by omega) hk
   obtain ⟨h1, h2⟩ := ih (T.ab k) hl (by omega)
   rw [T.Pk k (by omega) hk]
   refine ⟨?_, ?_⟩
   ·rw [List.pairwise_append]
    exact ⟨h1, by simp, fun x hx y hy => by simp at hy; subst hy; have := h2 x hx; omega⟩
   ·intro x hx
    rcases List.mem_append.mp hx with hx | hx
    ·have := h2 x hx; omega
    ·simp at hx; omega
theorem mem_subs {k : Nat} (hk : k < 8) : T.P k ∈ subs := mem_subsFrom 7 1 _ (T.rise k hk).1 fun x hx => by have := (T.rise k hk).2 x hx; omega
theorem prefix_of_mem : ∀ (k : Nat), k < 8 → ∀ j ∈ T.P k, T.P j <+: T.P k := by
 intro k
 induction k using Nat.strongRecOn with
 | _ k ih =>
  intro hk j hj
  by_cases h0 : k = 0
  ·subst h0; rw [T.P0] at hj; cases hj
  ·have hl := T.hlt k (by omega) hk
   rw [T.Pk k (by omega) hk] at hj
   rcases List.mem_append.mp hj with hj | hj
   ·rw [T.Pk k (by omega) hk]
    exact (ih (T.ab k) hl (by omega) j hj).trans (List.prefix_append _ _)
   ·simp at hj; subst hj; exact List.prefix_refl _
theorem last {k : Nat} (h0 : 0 < k) (hk : k < 8) : (T.P k).getLast? = some k := by rw [T.Pk k h0 hk]; simp
theorem self_mem {k : Nat} (h0 : 0 < k) (hk : k < 8) : k ∈ T.P k := by rw [T.Pk k h0 hk]; simp
theorem ne_nil {k : Nat} (h0 : 0 < k) (hk : k < 8) : T.P k ≠ [] := by rw [T.Pk k h0 hk]; simp
theorem inj {i j : Nat} (hi : i < 8) (hj : j < 8) (h : T.P i = T.P j) : i = j := by
 by_cases h0 : i = 0
 ·by_cases h1 : j = 0
  ·omega
  ·subst h0; rw [T.P0] at h; exact absurd h.symm (T.ne_nil (by omega) hj)
 ·by_cases h1 : j = 0
  ·subst h1; rw [T.P0] at h; exact absurd h (T.ne_nil (by omega) hi)
  ·have e1 := T.last (by omega) hi
   have e2 := T.last (by omega) hj
   rw [h, e2] at e1; exact (Option.some.inj e1).symm
noncomputable def anc (k i : Nat) : Prop := k = 0 ∨ k ∈ T.P i
instance (k i : Nat) : Decidable (T.anc k i) := inferInstanceAs (Decidable (_ ∨ _))
theorem anc_self {k : Nat} (hk : k < 8) : T.anc k k := by
 by_cases h0 : k = 0
 ·exact .inl h0
 ·exact .inr (T.self_mem (by omega) hk)
theorem anc_le {k i : Nat} (hi : i < 8) (h : T.anc k i) : k ≤ i := by
 rcases h with h | h
 ·omega
 ·exact ((T.rise i hi).2 k h).2
theorem anc_ab {k i : Nat} (h0 : 0 < i) (hi : i < 8) : T.anc k i ↔ k = i ∨ T.anc k (T.ab i) := by
 unfold anc
 rw [T.Pk i h0 hi]
 simp only [List.mem_append, List.mem_singleton]
 constructor
 ·rintro (h | h | h)
  ·exact .inr (.inl h)
  ·exact .inr (.inr h)
  ·exact .inl h
 ·rintro (h | h | h)
  ·exact .inr (.inr h)
  ·exact .inl h
  ·exact .inr (.inl h)
theorem anc_zero {k : Nat} : T.anc k 0 ↔ k = 0 := by unfold anc; rw [T.P0]; simp
theorem anc_prefix {k i : Nat} (hi : i < 8) (h : T.anc k i) : T.P k <+: T.P i := by
 rcases h with rfl | h
 ·rw [T.P0]; exact List.nil_prefix
 ·exact T.prefix_of_mem i hi k h
theorem anc_of_prefix {k i : Nat} (hk : k < 8) (h : T.P k <+: T.P i) : T.anc k i := by
 by_cases h0 : k = 0
 ·exact .inl h0
 ·exact .inr (h.subset (T.self_mem (by omega) hk))
theorem anc_trans {a b c : Nat} (ha : a < 8) (hb : b < 8) (hc : c < 8) (h1 : T.anc a b) (h2 : T.anc b c) : T.anc a c :=
 T.anc_of_prefix ha ((T.anc_prefix hb h1).trans (T.anc_prefix hc h2))
theorem prefix_is : ∀ (i : Nat), i < 8 → ∀ L, L <+: T.P i → ∃ k, k < 8 ∧ L = T.P k := by
 intro i
 induction i using Nat.strongRecOn with
 | _ i ih =>
  intro hi L hL
  by_cases h0 : i = 0
  ·subst h0; rw [T.P0] at hL; exact ⟨0, by omega, by rw [T.P0]; exact List.prefix_nil.mp hL⟩
  ·have hl := T.hlt i (by omega) hi
   rw [T.Pk i (by omega) hi] at hL
   rcases List.prefix_concat_iff.mp hL with h | h
   ·exact ⟨i, hi, by rw [h, T.Pk i (by omega) hi]⟩
   ·exact ih (T.ab i) hl (by omega) L h
end Tr
noncomputable def lcp : List Nat → List Nat → List Nat
 | x :: xs, y :: ys => if x = y then x :: lcp xs ys else []
 | _, _ => []
theorem lcp_left : ∀ xs ys : List Nat, lcp xs ys <+: xs
 | [], _ => by simp [lcp]
 | _ :: _, [] => by simp [lcp]
 | x :: xs, y :: ys => by
  unfold lcp
  split
  ·exact (List.prefix_cons_inj x).mpr (lcp_left xs ys)
  ·exact List.nil_prefix
theorem lcp_comm : ∀ xs ys : List Nat, lcp xs ys = lcp ys xs
 | [], [] => rfl
 | [], _ :: _ => by simp [lcp]
 | _ :: _, [] => by simp [lcp]
 | x :: xs, y :: ys => by
  unfold lcp
  by_cases h : x = y
  ·subst h; simp [lcp_comm xs ys]
  ·rw [if_neg h, if_neg (Ne.symm h)]
theorem lcp_right (xs ys : List Nat) : lcp xs ys <+: ys := by rw [lcp_comm]; exact lcp_left ys xs
theorem lcp_max : ∀ (L xs ys : List Nat), L <+: xs → L <+: ys → L <+: lcp xs ys
 | [], _, _, _, _ => List.nil_prefix
 | a :: L, xs, ys, h1, h2 => by
  obtain ⟨t1, rfl⟩ := h1
  obtain ⟨t2, rfl⟩ := h2
  simp only [List.cons_append, lcp, if_true]
  exact (List.prefix_cons_inj a).mpr (lcp_max L _ _ (List.prefix_append _ _) (List.prefix_append _ _))
namespace Tr
variable (T : Tr)
theorem exists_meet {i j : Nat} (hi : i < 8) (_hj : j < 8) : ∃ m, m < 8 ∧ lcp (T.P i) (T.P j) = T.P m := T.prefix_is i hi _ (lcp_left _ _)
theorem anc_meet {i j m k : Nat} (hi : i < 8) (hj : j < 8) (hm : m < 8) (h : lcp (T.P i) (T.P j) = T.P m) (hk : k < 8) : T.anc k m ↔ T.anc k i ∧ T.anc k j := by
 constructor
 ·intro hh
  have h1 : T.anc m i := T.anc_of_prefix hm (h ▸ lcp_left _ _)
  have h2 : T.anc m j := T.anc_of_prefix hm (h ▸ lcp_right _ _)
  exact ⟨T.anc_trans hk hm hi hh h1, T.anc_trans hk hm hj hh h2⟩
 ·rintro ⟨h1, h2⟩
  exact T.anc_of_prefix hk (h ▸ lcp_max _ _ _ (T.anc_prefix hi h1) (T.anc_prefix hj h2))
end Tr
end
noncomputable abbrev slash : Str := ⟨#[47]⟩
theorem slash_eq : Str.ofString "/" = slash := by decide +kernel
noncomputable def pathL : List Nat → List Nat
 | [] => []
 | k :: r => 47 :: (96 + k) :: pathL r
noncomputable def path (S : List Nat) : Str := match S with
 | [] => slash
 | k :: r => ⟨(pathL (k :: r)).toArray⟩
noncomputable def letter (k : Nat) : Str := ⟨#[96 + k]⟩
theorem fspath_eq (x : Str) : s_fspath [.str x] = some (.str x) := by
 simp [s_fspath, m_fspath, runFn, packN, start, sSeq, sNil, sAssign, sAssign2, sRet, sIf, bName, bTup, bAll, eVar, eInt, eStr, eBool, eCons, eNil, eLst, eTup, eB, f1, f2, eM, eCall, eSub, subE, subI, subS, eIf, eNeg, e2, bE, b2, bAnd, bOr, bNot, bTrue, bFalse, truthV, asBool, MSt.set, sStr2, nRs1, nRs2, nR1, nR2, nR3, nR4, nR5, nR6, nR7, nR8, fZ1, fZ2, fZ3, fZ4, fZ5, fZ6, fZ7, fZ8, fZs1, fZs2, oS, oP, Option.bind_none, Option.map_none, eType, eCls, issubV, isClsStr, tupHead]
theorem get_sep_eq (x : Str) : s_get_sep [.str x] = some (.str slash) := by
 simp [s_get_sep, m_get_sep, runFn, packN, start, sSeq, sNil, sAssign, sAssign2, sRet, sIf, bName, bTup, bAll, eVar, eInt, eStr, eBool, eCons, eNil, eLst, eTup, eB, f1, f2, eM, eCall, eSub, subE, subI, subS, eIf, eNeg, e2, bE, b2, bAnd, bOr, bNot, bTrue, bFalse, truthV, asBool, MSt.set, sStr2, nRs1, nRs2, nR1, nR2, nR3, nR4, nR5, nR6, nR7, nR8, fZ1, fZ2, fZ3, fZ4, fZ5, fZ6, fZ7, fZ8, fZs1, fZs2, oS, oP, Option.bind_none, Option.map_none, isinstV, eCls, slash_eq]
noncomputable def dn (x : Str) : Str :=
 let h := Txt.slice x none (some (Txt.rfind x slash + 1))
 if h.length ≠ 0 ∧ h ≠ Txt.mul slash h.length then Txt.rstripChars h slash else h
theorem eqv_str (x y : Str) : PyData.eqv (.str x) (.str y) = decide (x = y) := by
 rw [PyData.eqv]; exact Bool.eq_iff_iff.mpr (by simp)
noncomputable abbrev sok (x : Str) : Prop := PyData.strOk x = true
theorem okD_str {x : Str} (h : sok x) : okD (.str x) = true := by simp [okD, nR1, nR2, nR3, nR4, nR5, nR6, nR7, nR8, tP1, tP2, tP3, tP4, tP5, tP6, tP7, tP8, SeqAt.shaped, PyData.canLay0, PyData.depth]; exact h
theorem okD_int (x : Int) : okD (.int x) = true := by simp [okD, nR1, nR2, nR3, nR4, nR5, nR6, nR7, nR8, tP1, tP2, tP3, tP4, tP5, tP6, tP7, tP8, SeqAt.shaped, PyData.canLay0, PyData.depth]
theorem neV_str {x y : Str} (hx : sok x) (hy : sok y) : neV (.str x) (.str y) = some (.bool (!decide (x = y))) := by
 simp only [neV, okD_str hx, okD_str hy, Bool.and_self, if_true, tP1, tP2, tP3, tP4, tP5, tP6, tP7, tP8, eqv_str]
theorem eqV_str {x y : Str} (hx : sok x) (hy : sok y) : eqV (.str x) (.str y) = some (.bool (decide (x = y))) := by
 simp only [eqV, okD_str hx, okD_str hy, Bool.and_self, if_true, tP1, tP2, tP3, tP4, tP5, tP6, tP7, tP8, eqv_str]
theorem eqv_int (x y : Int) : PyData.eqv (.int x) (.int y) = decide (x = y) := by
 rw [PyData.eqv]; exact Bool.eq_iff_iff.mpr (by simp)
theorem eqV_int (x y : Int) : eqV (.int x) (.int y) = some (.bool (decide (x = y))) := by
 simp only [eqV, okD_int, Bool.and_self, if_true, tP1, tP2, tP3, tP4, tP5, tP6, tP7, tP8, eqv_int]
theorem dirname_eq (x : Str) (hx : x.length ≤ 100) (hh : (Txt.slice x none (some (Txt.rfind x slash + 1))).length ≤ 100)
  (k1 : sok (Txt.slice x none (some (Txt.rfind x slash + 1)))) (k2 : sok (Txt.mul slash (Txt.slice x none (some (Txt.rfind x slash + 1))).length)) : s_dirname [.str x] = some (.str (dn x)) := by
 have h1 : x.length ≤ 100000 := by omega
 have h2 : (Txt.slice x none (some (Txt.rfind x slash + 1))).length ≤ 100000 := by omega
 have h3 : (Txt.slice x none (some (Txt.rfind x slash + 1))).length ≤ 1000 := by omega
 have h4 : slash.length ≤ 100 := by decide
 have h5 : ((Txt.slice x none (some (Txt.rfind x slash + 1))).length : Int) ≤ 1000 := by omega
 have e : s_dirname [.str x] = some (.str (if (Txt.slice x none (some (Txt.rfind x slash + 1))).length ≠ 0 ∧ (Txt.slice x none (some (Txt.rfind x slash + 1))) ≠ Txt.mul slash (Txt.slice x none (some (Txt.rfind x slash + 1))).length then Txt.rstripChars (Txt.slice x none (some (Txt.rfind x slash + 1))) slash else (Txt.slice x none (some (Txt.rfind x slash + 1))))) := by
  by_cases c1 : (Txt.slice x none (some (Txt.rfind x slash + 1))).length = 0
  ·simp [s_dirname, m_dirname, runFn, packN, start, sSeq, sNil, sAssign, sAssign2, sRet, sIf, bName, bTup, bAll, eVar, eInt, eStr, eBool, eCons, eNil, eLst, eTup, eB, f1, f2, eM, eCall, eSub, subE, subI, subS, eIf, eNeg, e2, bE, b2, bAnd, bOr, bNot, bTrue, bFalse, truthV, asBool, MSt.set, sStr2, nRs1, nRs2, nR1, nR2, nR3, nR4, nR5, nR6, nR7, nR8, fZ1, fZ2, fZ3, fZ4, fZ5, fZ6, fZ7, fZ8, fZs1, fZs2, oS, oP, Option.bind_none, Option.map_none, fspath_eq, get_sep_eq, addV, rfindV, eSlice, pNone, pSome, asInt, sliceE, h1, h2, h3, c1]
  ·by_cases c2 : (Txt.slice x none (some (Txt.rfind x slash + 1))) = Txt.mul slash (Txt.slice x none (some (Txt.rfind x slash + 1))).length
   ·simp [s_dirname, m_dirname, runFn, packN, start, sSeq, sNil, sAssign, sAssign2, sRet, sIf, bName, bTup, bAll, eVar, eInt, eStr, eBool, eCons, eNil, eLst, eTup, eB, f1, f2, eM, eCall, eSub, subE, subI, subS, eIf, eNeg, e2, bE, b2, bAnd, bOr, bNot, bTrue, bFalse, truthV, asBool, MSt.set, sStr2, nRs1, nRs2, nR1, nR2, nR3, nR4, nR5, nR6, nR7, nR8, fZ1, fZ2, fZ3, fZ4, fZ5, fZ6, fZ7, fZ8, fZs1, fZs2, oS, oP, Option.bind_none, Option.map_none, fspath_eq, get_sep_eq, addV, rfindV, eSlice, pNone, pSome, asInt, sliceE, h1, h2, h3, h4, h5, c1, c2.symm, neV_str k1 k1, lenV, mulV, rstripV]
   ·simp [s_dirname, m_dirname, runFn, packN, start, sSeq, sNil, sAssign, sAssign2, sRet, sIf, bName, bTup, bAll, eVar, eInt, eStr, eBool, eCons, eNil, eLst, eTup, eB, f1, f2, eM, eCall, eSub, subE, subI, subS, eIf, eNeg, e2, bE, b2, bAnd, bOr, bNot, bTrue, bFalse, truthV, asBool, MSt.set, sStr2, nRs1, nRs2, nR1, nR2, nR3, nR4, nR5, nR6, nR7, nR8, fZ1, fZ2, fZ3, fZ4, fZ5, fZ6, fZ7, fZ8, fZs1, fZs2, oS, oP, Option.bind_none, Option.map_none, fspath_eq, get_sep_eq, addV, rfindV, eSlice, pNone, pSome, asInt, sliceE, h1, h2, h3, h4, h5, c1, c2, neV_str k1 k2, lenV, mulV, rstripV]
 exact e
theorem path_rf : (subs.all fun S => decide (Txt.rfind (path S) slash = 2 * ((S.length - 1 : Nat) : Int))) = true := by decide +kernel
theorem path_dn : (subs.all fun S => decide ((path S).length ≤ 100) && decide ((Txt.slice (path S) none (some (2 * ((S.length - 1 : Nat) : Int) + 1))).length ≤ 100) &&
 decide ((if (Txt.slice (path S) none (some (2 * ((S.length - 1 : Nat) : Int) + 1))).length ≠ 0 ∧ Txt.slice (path S) none (some (2 * ((S.length - 1 : Nat) : Int) + 1)) ≠ Txt.mul slash (Txt.slice (path S) none (some (2 * ((S.length - 1 : Nat) : Int) + 1))).length then Txt.rstripChars (Txt.slice (path S) none (some (2 * ((S.length - 1 : Nat) : Int) + 1))) slash else Txt.slice (path S) none (some (2 * ((S.length - 1 : Nat) : Int) + 1))) = path S.dropLast) &&
 PyData.strOk (Txt.slice (path S) none (some (2 * ((S.length - 1 : Nat) : Int) + 1))) && PyData.strOk (Txt.mul slash (Txt.slice (path S) none (some (2 * ((S.length - 1 : Nat) : Int) + 1))).length) && PyData.strOk (path S)) = true := by decide +kernel
theorem path_len {S : List Nat} (hS : S ∈ subs) : (path S).length ≤ 100 := by
 have h := List.all_eq_true.mp path_dn S hS
 simp only [Bool.and_eq_true, decide_eq_true_eq] at h
 exact h.1.1.1.1.1
theorem path_sok {S : List Nat} (hS : S ∈ subs) : sok (path S) := by
 have h := List.all_eq_true.mp path_dn S hS
 simp only [Bool.and_eq_true, decide_eq_true_eq] at h
 exact h.2
theorem dirname_path {S : List Nat} (hS : S ∈ subs) : s_dirname [.str (path S)] = some (.str (path S.dropLast)) := by
 have h := List.all_eq_true.mp path_dn S hS
 have hr := List.all_eq_true.mp path_rf S hS
 simp only [Bool.and_eq_true, decide_eq_true_eq] at h hr
 rw [← hr] at h
 rw [dirname_eq _ h.1.1.1.1.1 h.1.1.1.1.2 h.1.1.2 h.1.2]
 exact congrArg (fun z => some (MV.str z)) h.1.1.1.2
theorem join_eq {a b : Str} (ha : a.length ≤ 100) (hb : b.length ≤ 100) (h0 : a.length ≠ 0) (hs : Txt.startswith b slash = false) : s_join [.str a, .str b] = some (.str (if Txt.endswith a slash = true then a ++ b else a ++ (slash ++ b))) := by
 have h1 : a.length ≤ 100000 := by omega
 have h2 : a.length + b.length ≤ 100000 := by omega
 have h3 : slash.length = 1 := by decide
 have h4 : 1 + b.length ≤ 100000 := by omega
 have h5 : (slash ++ b).length = 1 + b.length := by
  show (slash.cps ++ b.cps).size = _
  rw [Array.size_append]; rfl
 have h6 : a.length + (1 + b.length) ≤ 100000 := by omega
 by_cases c : Txt.endswith a slash = true
 ·simp [s_join, m_join, packStar, sFor, mfor_n, mfor_c, iSeq, runFn, packN, start, sSeq, sNil, sAssign, sAssign2, sRet, sIf, bName, bTup, bAll, eVar, eInt, eStr, eBool, eCons, eNil, eLst, eTup, eB, f1, f2, eM, eCall, eSub, subE, subI, subS, eIf, eNeg, e2, bE, b2, bAnd, bOr, bNot, bTrue, bFalse, truthV, asBool, MSt.set, sStr2, nRs1, nRs2, nR1, nR2, nR3, nR4, nR5, nR6, nR7, nR8, fZ1, fZ2, fZ3, fZ4, fZ5, fZ6, fZ7, fZ8, fZs1, fZs2, oS, oP, Option.bind_none, Option.map_none, fspath_eq, get_sep_eq, addV, startsV, endsV, hs, c, h0, h1, h2, sAug]
 ·simp [s_join, m_join, packStar, sFor, mfor_n, mfor_c, iSeq, runFn, packN, start, sSeq, sNil, sAssign, sAssign2, sRet, sIf, bName, bTup, bAll, eVar, eInt, eStr, eBool, eCons, eNil, eLst, eTup, eB, f1, f2, eM, eCall, eSub, subE, subI, subS, eIf, eNeg, e2, bE, b2, bAnd, bOr, bNot, bTrue, bFalse, truthV, asBool, MSt.set, sStr2, nRs1, nRs2, nR1, nR2, nR3, nR4, nR5, nR6, nR7, nR8, fZ1, fZ2, fZ3, fZ4, fZ5, fZ6, fZ7, fZ8, fZs1, fZs2, oS, oP, Option.bind_none, Option.map_none, fspath_eq, get_sep_eq, addV, startsV, endsV, hs, c, h0, h1, h2, h3, h4, h5, h6, sAug]
theorem letter_st : ((List.range 8).all fun k => !Txt.startswith (letter k) slash && decide ((letter k).length ≤ 100)) = true := by decide +kernel
theorem path_end : (subs.all fun S => (Txt.endswith (path S) slash == decide (S = [])) && decide ((path S).length ≠ 0)) = true := by decide +kernel
theorem pathL_append : ∀ (S : List Nat) (k : Nat), pathL (S ++ [k]) = pathL S ++ [47, 96 + k]
 | [], k => rfl
 | x :: S, k => by simp [pathL, pathL_append S k]
theorem path_cons {S : List Nat} (h : S ≠ []) : path S = ⟨(pathL S).toArray⟩ := by
 cases S with
 | nil => exact absurd rfl h
 | cons x r => rfl
theorem join_path {S : List Nat} (hS : S ∈ subs) {k : Nat} (hk : k < 8) : s_join [.str (path S), .str (letter k)] = some (.str (path (S ++ [k]))) := by
 have h1 := List.all_eq_true.mp letter_st k (List.mem_range.mpr hk)
 have h2 := List.all_eq_true.mp path_end S hS
 simp only [Bool.and_eq_true, Bool.not_eq_true', decide_eq_true_eq, beq_iff_eq] at h1 h2
 rw [join_eq (path_len hS) h1.2 h2.2 h1.1, h2.1]
 by_cases h : S = []
 ·subst h; rfl
 ·rw [if_neg (by simpa using h), path_cons h, path_cons (S := S ++ [k]) (by simp), pathL_append]
  refine congrArg (fun z => some (MV.str z)) (str_ext ?_)
  show ((pathL S).toArray ++ (slash.cps ++ (letter k).cps)).toList = _
  simp [letter]
theorem path_split : (subs.all fun S => decide (splitParts (path S) slash = Str.empty :: (if S = [] then [Str.empty] else S.map letter)) && !((decide ((path S).length < slash.length) || decide (Builtin.Str.strKind (path S) < Builtin.Str.strKind slash))) &&
 !(Builtin.Str.occurrences (path S) slash 0 (path S).length ((path S).length + 1)).isEmpty && Txt.startswith (path S) slash) = true := by decide +kernel
noncomputable def parts (S : List Nat) : List Str := Str.empty :: (if S = [] then [Str.empty] else S.map letter)
theorem subs_len : (subs.all fun S => decide (S.length ≤ 7)) = true := by decide +kernel
theorem split_path {S : List Nat} (hS : S ∈ subs) (st : MSt) : splitV st (.str (path S)) (.str slash) = some (.lst ((parts S).map .str)) := by
 have h := List.all_eq_true.mp path_split S hS
 have hl := List.all_eq_true.mp subs_len S hS
 simp only [Bool.and_eq_true, Bool.not_eq_true', decide_eq_true_eq] at h hl
 have hlen := path_len hS
 have h2 : (splitParts (path S) slash).length ≤ 100000 := by
  rw [h.1.1.1]
  split <;> simp <;> omega
 unfold splitV
 dsimp only
 rw [if_pos ⟨by decide, by omega, h.1.1.2, h.1.2, h2⟩, h.1.1.1]; rfl
theorem starts_path {S : List Nat} (hS : S ∈ subs) : Txt.startswith (path S) slash = true := by
 have h := List.all_eq_true.mp path_split S hS
 simp only [Bool.and_eq_true, Bool.not_eq_true', decide_eq_true_eq] at h
 exact h.2
theorem join_parts : (subs.all fun S => JoinOk slash (S.map letter) && decide (slash ++ Txt.join slash (S.map letter) = path S)) = true := by decide +kernel
section
set_option backward.match.sparseCases false
theorem letter_inj {a b : Nat} (h : letter a = letter b) : a = b := by
 have h1 : (letter a).cps.toList = (letter b).cps.toList := by rw [h]
 simp [letter] at h1
 exact h1
noncomputable def lcpS : List Str → List Str → List Str
 | x :: xs, y :: ys => if x = y then x :: lcpS xs ys else []
 | _, _ => []
theorem lcpS_map : ∀ xs ys : List Nat, lcpS (xs.map letter) (ys.map letter) = (lcp xs ys).map letter
 | [], _ => by simp [lcpS, lcp]
 | _ :: _, [] => by simp [lcpS, lcp]
 | x :: xs, y :: ys => by
  simp only [List.map_cons, lcpS, lcp]
  by_cases h : x = y
  ·subst h; simp [lcpS_map xs ys]
  ·rw [if_neg h, if_neg (fun e => h (letter_inj e))]; rfl
theorem lcpS_comm : ∀ xs ys : List Str, lcpS xs ys = lcpS ys xs
 | [], [] => rfl
 | [], _ :: _ => by simp [lcpS]
 | _ :: _, [] => by simp [lcpS]
 | x :: xs, y :: ys => by
  unfold lcpS
  by_cases h : x = y
  ·subst h; simp [lcpS_comm xs ys]
  ·rw [if_neg h, if_neg (Ne.symm h)]
theorem lcpS_self : ∀ xs : List Str, lcpS xs xs = xs
 | [] => by simp [lcpS]
 | x :: xs => by simp [lcpS, lcpS_self xs]
theorem ltSs_tri : ∀ xs ys : List Str, ltSs xs ys = false → ltSs ys xs = false → xs = ys
 | [], [], _, _ => rfl
 | [], _ :: _, h, _ => by simp [lS1, lS2, lS3, lS4] at h
 | _ :: _, [], _, h => by simp [lS1, lS2, lS3, lS4] at h
 | x :: xs, y :: ys, h1, h2 => by
  simp only [lS1, lS2, lS3, lS4] at h1 h2
  by_cases h : x = y
  ·subst h; simp only [if_true] at h1 h2; rw [ltSs_tri xs ys h1 h2]
  ·rw [if_neg h] at h1
   rw [if_neg (Ne.symm h)] at h2
   simp only [decide_eq_false_iff_not] at h1 h2
   exact absurd (sLt_tri h1 h2) h
theorem ltSs_asymm : ∀ xs ys : List Str, ltSs xs ys = true → ltSs ys xs = false
 | [], [], h => by simp [lS1, lS2, lS3, lS4] at h
 | [], _ :: _, _ => by simp [lS1, lS2, lS3, lS4]
 | _ :: _, [], h => by simp [lS1, lS2, lS3, lS4] at h
 | x :: xs, y :: ys, h => by
  simp only [lS1, lS2, lS3, lS4] at h ⊢
  by_cases e : x = y
  ·subst e; simp only [if_true] at h ⊢; exact ltSs_asymm xs ys h
  ·rw [if_neg e] at h
   rw [if_neg (Ne.symm e)]
   simp only [decide_eq_true_eq, decide_eq_false_iff_not] at h ⊢
   exact sLt_asymm h
theorem minMax (xs ys : List Str) : ∃ s1 s2, (if ordSs true ys xs then ys else xs) = s1 ∧ (if ordSs false ys xs then ys else xs) = s2 ∧ ltSs s2 s1 = false ∧ lcpS s1 s2 = lcpS xs ys ∧ (s1 = xs ∨ s1 = ys) ∧ (s2 = xs ∨ s2 = ys) := by
 refine ⟨_, _, rfl, rfl, ?_⟩
 simp only [ordSs, if_true, Bool.false_eq_true, if_false]
 cases h1 : ltSs ys xs with
 | true =>
  have h2 := ltSs_asymm _ _ h1
  rw [h2]
  simp [h2, lcpS_comm ys xs]
 | false =>
  cases h2 : ltSs xs ys with
  | true => simp [h1]
  | false =>
   have e := ltSs_tri _ _ h2 h1
   subst e
   simp [h1]
theorem pickIdx_run {α : Type} (l : List α) (a : Nat) : ∀ n, pickIdx l ((List.range n).map (a + ·)) = (l.drop a).take n
 | 0 => by simp [pickIdx]
 | n + 1 => by
  have ih := pickIdx_run l a n
  unfold pickIdx at ih ⊢
  rw [List.range_succ, List.map_append, List.filterMap_append, ih, List.take_add_one]
  congr 1
  simp only [List.map_cons, List.map_nil, List.getElem?_drop]
  cases h : l[a + n]? with
  | none => simp [h]
  | some x => simp [h]
theorem sliceV_plain {α : Type} (l : List α) (lo hi : Option Int) : sliceV l lo hi none = (l.drop (lo.elim 0 (clipAt l.length))).take (hi.elim l.length (clipAt l.length) - lo.elim 0 (clipAt l.length)) := by
 unfold sliceV
 rw [sliceBounds_plain]
 dsimp only
 rw [sliceRange_one, pickIdx_run]
theorem clipAt_nat (n b : Nat) : clipAt n (b : Int) = min b n := by
 unfold clipAt
 rw [if_neg (by omega)]
 omega
theorem sliceV_take {α : Type} (l : List α) (b : Nat) : sliceV l none (some (b : Int)) none = l.take b := by
 rw [sliceV_plain]
 (dsimp only [Option.elim, clipAt_nat, List.drop_zero, Nat.sub_zero]; simp only [Option.elim, clipAt_nat, List.drop_zero, Nat.sub_zero])
 rw [← List.take_eq_take_min]
theorem sliceV_drop {α : Type} (l : List α) (a : Nat) : sliceV l (some (a : Int)) none none = l.drop a := by
 rw [sliceV_plain]
 simp only [Option.elim, clipAt_nat]
 by_cases h : a ≤ l.length
 ·rw [Nat.min_eq_left h, List.take_of_length_le (by simp)]
 ·rw [Nat.min_eq_right (by omega)]
  simp [List.drop_of_length_le (show l.length ≤ a by omega)]
theorem sliceV_butLast {α : Type} (l : List α) : sliceV l none (some (-1)) none = l.dropLast := by
 rw [sliceV_plain]
 have h : clipAt l.length (-1) = l.length - 1 := by unfold clipAt; rw [if_pos (by omega)]; omega
 simp only [Option.elim, h, List.drop_zero, Nat.sub_zero]
 rw [List.dropLast_eq_take]
theorem sliceV_rev {α : Type} (l : List α) : sliceV l none none (some (-1)) = l.reverse := by
 have h1 : sliceBounds none none (some (-1)) l.length = ((l.length : Int) - 1, -1, -1) := rfl
 have h2 : sliceRange ((l.length : Int) - 1) (-1) (-1) = (List.range l.length).reverse := by
  have hc : (if (-1 : Int) > 0 then (if ((l.length : Int) - 1) < -1 then (-1 - ((l.length : Int) - 1) + -1 - 1) / -1 else 0) else (if ((l.length : Int) - 1) > -1 then (((l.length : Int) - 1) - -1 - -1 - 1) / (- -1) else 0)).toNat = l.length := by
   rw [if_neg (by omega)]
   by_cases h0 : l.length = 0
   ·rw [h0]; rfl
   ·rw [if_pos (by omega), show (- -1 : Int) = 1 from rfl, Int.ediv_one]; omega
  show (List.range ((if (-1 : Int) > 0 then _ else _ : Int).toNat)).map _ = _
  rw [hc]
  apply List.ext_getElem
  ·simp
  ·intro k h1 h2
   simp only [List.length_map, List.length_range] at h1
   simp only [List.getElem_map, List.getElem_range, List.getElem_reverse, List.length_range]
   omega
 unfold sliceV
 rw [h1]
 dsimp only
 rw [h2]
 unfold pickIdx
 rw [List.filterMap_reverse]
 have := pickIdx_run l 0 l.length
 simp only [Nat.zero_add, List.map_id', List.drop_zero, List.take_length, pickIdx] at this
 rw [this]
noncomputable def enumF : Nat → List MV → List MV
 | _, [] => []
 | i, x :: r => .tup [.int i, x] :: enumF (i + 1) r
theorem enumF_get : ∀ (r : List MV) (i k : Nat), (enumF i r)[k]? = (r[k]?).map fun x => MV.tup [.int ((i + k : Nat) : Int), x]
 | [], i, k => by simp [enumF]
 | x :: r, i, 0 => by simp [enumF]
 | x :: r, i, k + 1 => by
  simp only [enumF, lY]
  rw [enumF_get r (i + 1) k]
  congr 2
  funext y
  congr 4
  omega
theorem enumL_eq (xs : List MV) : enumL xs = enumF 0 xs := by
 apply List.ext_getElem?
 intro k
 rw [enumF_get, enumL, List.getElem?_zipWith]
 cases h : xs[k]? with
 | none => cases (List.range xs.length)[k]? <;> rfl
 | some x =>
  have hk : k < xs.length := (List.getElem?_eq_some_iff.mp h).1
  rw [List.getElem?_range hk]
  simp
noncomputable def comBody : MSt → Option (Out × MSt) := (sSeq (sIf (b2 neV (eVar 9) (eSub (eVar 6) (eVar 8))) (sSeq (sAssign (eSlice (eVar 5) pNone (pSome (eVar 8)) pNone) (bName 7))
 (sSeq (fun st => some (.brk, st))
 sNil)) sNil)
 sNil)
theorem com_loop (s1 s2 : List Str) (h1 : ∀ x ∈ s1, sok x) (h2 : ∀ x ∈ s2, sok x) (l1 : s1.length ≤ 1000) : ∀ (r q p : List Str) (st : MSt), s1 = p ++ r → s2 = p ++ q → ltSs q r = false → st.ρ 5 = some (.lst (s1.map .str)) → st.ρ 6 = some (.lst (s2.map .str)) → st.ρ 7 = some (.lst (s1.map .str)) →
  ∃ st', mfor (bTup [(bName 8), (bName 9)]) comBody sNil (enumF p.length (r.map .str)) st = some (.next, st') ∧ st'.ρ 7 = some (.lst ((p ++ lcpS r q).map .str)) ∧ st'.σ = st.σ ∧ ∀ k, k ≤ 4 → st'.ρ k = st.ρ k
 | [], q, p, st, u1, u2, hl, a5, a6, a7 => by
  refine ⟨st, rfl, ?_, rfl, fun _ _ => rfl⟩
  rw [a7, u1]; simp [lcpS]
 | x :: r, [], p, st, u1, u2, hl, a5, a6, a7 => by simp [lS1, lS2, lS3, lS4] at hl
 | x :: r, y :: q, p, st, u1, u2, hl, a5, a6, a7 => by
  have hx : sok x := h1 x (by rw [u1]; simp)
  have hy : sok y := h2 y (by rw [u2]; simp)
  have hlen : p.length < s1.length := by rw [u1]; simp
  have hpk : pickAt (s2.map .str) (p.length : Int) = some (.str y) := by
   unfold pickAt
   rw [if_pos (by omega), if_pos (by omega), u2]; simp
  have hsl : sliceE st (.lst (s1.map .str)) none (some (p.length : Int)) none = some (.lst (p.map .str)) := by
   unfold sliceE
   (dsimp only [listOf, oS, sliceV_take]; simp only [listOf, oS, sliceV_take])
   rw [if_pos ⟨by simp, by simp; omega⟩, u1]
   simp
  by_cases hxy : x = y
  ·subst hxy
   have hl' : ltSs q r = false := by simpa [lS1, lS2, lS3, lS4] using hl
   obtain ⟨st', g1, g2, g3, g4⟩ := com_loop s1 s2 h1 h2 l1 r q (p ++ [x]) (MSt.set (MSt.set st 8 (.int p.length)) 9 (.str x)) (by rw [u1]; simp) (by rw [u2]; simp) hl' (by simpa [MSt.set] using a5) (by simpa [MSt.set] using a6) (by simpa [MSt.set] using a7)
   refine ⟨st', ?_, by simpa [lcpS] using g2, g3, fun k hk => by rw [g4 k hk]; simp [MSt.set]; rw [if_neg (by omega), if_neg (by omega)]⟩
   simp only [List.map_cons, enumF, mfor_n, mfor_c]
   have hb : comBody (MSt.set (MSt.set st 8 (.int p.length)) 9 (.str x)) = some (.next, MSt.set (MSt.set st 8 (.int p.length)) 9 (.str x)) := by
    simp [comBody, runFn, packN, start, sSeq, sNil, sAssign, sAssign2, sRet, sIf, bName, bTup, bAll, eVar, eInt, eStr, eBool, eCons, eNil, eLst, eTup, eB, f1, f2, eM, eCall, eSub, subE, subI, subS, eIf, eNeg, e2, bE, b2, bAnd, bOr, bNot, bTrue, bFalse, truthV, asBool, MSt.set, sStr2, nRs1, nRs2, nR1, nR2, nR3, nR4, nR5, nR6, nR7, nR8, fZ1, fZ2, fZ3, fZ4, fZ5, fZ6, fZ7, fZ8, fZs1, fZs2, oS, oP, Option.bind_none, Option.map_none, a6, hpk, neV_str hx hy]
   simp [bTup, bAll, bName, hb]
   simpa using g1
  ·have hb : comBody (MSt.set (MSt.set st 8 (.int p.length)) 9 (.str x)) = some (.brk, MSt.set (MSt.set (MSt.set st 8 (.int p.length)) 9 (.str x)) 7 (.lst (p.map .str))) := by
    have hsl' := hsl
    simp [comBody, runFn, packN, start, sSeq, sNil, sAssign, sAssign2, sRet, sIf, bName, bTup, bAll, eVar, eInt, eStr, eBool, eCons, eNil, eLst, eTup, eB, f1, f2, eM, eCall, eSub, subE, subI, subS, eIf, eNeg, e2, bE, b2, bAnd, bOr, bNot, bTrue, bFalse, truthV, asBool, MSt.set, sStr2, nRs1, nRs2, nR1, nR2, nR3, nR4, nR5, nR6, nR7, nR8, fZ1, fZ2, fZ3, fZ4, fZ5, fZ6, fZ7, fZ8, fZs1, fZs2, oS, oP, Option.bind_none, Option.map_none, a6, a5, hpk, neV_str hx hy, hxy, eSlice, pNone, pSome, asInt]
    simp [sliceE, listOf] at hsl' ⊢
    simp [hsl']
   refine ⟨MSt.set (MSt.set (MSt.set st 8 (.int p.length)) 9 (.str x)) 7 (.lst (p.map .str)), ?_, by simp [MSt.set, lcpS, hxy], rfl, fun k hk => by simp [MSt.set]; rw [if_neg (by omega), if_neg (by omega), if_neg (by omega)]⟩
   simp only [List.map_cons, enumF, mfor_n, mfor_c]
   simp [bTup, bAll, bName, hb]
end
theorem sSeq_eq {a b : MSt → Option (Out × MSt)} {st st1 : MSt} (h : a st = some (.next, st1)) : sSeq a b st = b st1 := by simp [sSeq, h]
theorem sSeq_stop {a b : MSt → Option (Out × MSt)} {st st1 : MSt} {v : MV} (h : a st = some (.ret v, st1)) : sSeq a b st = some (.ret v, st1) := by simp [sSeq, h]
noncomputable def good (x : Str) : Bool := decide (x.length ≠ 0) && decide (x ≠ ⟨#[46]⟩)
theorem dot_eq : Str.ofString "." = ⟨#[46]⟩ := by decide +kernel
theorem filt (st : MSt) (h2 : st.ρ 2 = some (.str ⟨#[46]⟩)) : ∀ l : List Str, (∀ x ∈ l, sok x ∧ x.length ≤ 100) → mcomp 14 (bAnd (bE (eVar 14)) (bAnd (b2 neV (eVar 14) (eVar 2)) bTrue)) (eVar 14) st (l.map .str) = some ((l.filter good).map .str)
 | [], _ => rfl
 | x :: l, h => by
  obtain ⟨k1, k2⟩ := h x (by simp)
  have k3 : x.length ≤ 100000 := by omega
  have ih := filt st h2 l (fun y hy => h y (by simp [hy]))
  have k4 : sok ⟨#[46]⟩ := by decide +kernel
  by_cases c1 : x.length = 0
  ·simp [mcomp_n, mcomp_c, sSeq, sNil, sAssign, sAssign2, sRet, sIf, bName, bTup, bAll, eVar, eInt, eStr, eBool, eCons, eNil, eLst, eTup, eB, f1, f2, eM, eCall, eSub, subE, subI, subS, eIf, eNeg, e2, bE, b2, bAnd, bOr, bNot, bTrue, bFalse, truthV, asBool, MSt.set, sStr2, nRs1, nRs2, nR1, nR2, nR3, nR4, nR5, nR6, nR7, nR8, oS, oP, k3, c1, good, List.filter_cons] at ih ⊢
   exact ih
  ·by_cases c2 : x = ⟨#[46]⟩
   ·subst c2
    simpa [mcomp, sSeq, sNil, sAssign, sAssign2, sRet, sIf, bName, bTup, bAll, eVar, eInt, eStr, eBool, eCons, eNil, eLst, eTup, eB, f1, f2, eM, eCall, eSub, subE, eIf, eNeg, e2, bE, b2, bAnd, bOr, bNot, bTrue, bFalse, truthV, asBool, MSt.set, sStr2, nRs1, nRs2, nR1, nR2, nR3, nR4, nR5, nR6, nR7, nR8, oS, oP, k3, c1, h2, neV_str k4 k4, good, List.filter_cons] using ih
   ·simp [mcomp_n, mcomp_c, sSeq, sNil, sAssign, sAssign2, sRet, sIf, bName, bTup, bAll, eVar, eInt, eStr, eBool, eCons, eNil, eLst, eTup, eB, f1, f2, eM, eCall, eSub, subE, subI, subS, eIf, eNeg, e2, bE, b2, bAnd, bOr, bNot, bTrue, bFalse, truthV, asBool, MSt.set, sStr2, nRs1, nRs2, nR1, nR2, nR3, nR4, nR5, nR6, nR7, nR8, oS, oP, k3, c1, h2, neV_str k1 k4, c2, good, List.filter_cons] at ih ⊢
    rw [ih]
theorem letters_good : ((List.range 8).all fun k => good (letter k) && PyData.strOk (letter k) && decide ((letter k).length ≤ 100)) = true := by decide +kernel
theorem parts_good {S : List Nat} (hS : ∀ x ∈ S, x < 8) : (parts S).filter good = S.map letter ∧ ∀ x ∈ parts S, sok x ∧ x.length ≤ 100 := by
 have hg : ∀ k, k < 8 → good (letter k) = true ∧ sok (letter k) ∧ (letter k).length ≤ 100 := fun k hk => by
  have := List.all_eq_true.mp letters_good k (List.mem_range.mpr hk)
  simp only [Bool.and_eq_true, decide_eq_true_eq] at this
  exact ⟨this.1.1, this.1.2, this.2⟩
 have he : good Str.empty = false := by decide
 have hs : sok Str.empty ∧ Str.empty.length ≤ 100 := ⟨by decide +kernel, by decide +kernel⟩
 unfold parts
 by_cases h : S = []
 ·subst h; simp [he]; exact hs
 ·rw [if_neg h, List.filter_cons, if_neg (by simp [he])]
  refine ⟨?_, ?_⟩
  ·rw [List.filter_eq_self.mpr]
   intro x hx
   obtain ⟨k, hk, rfl⟩ := List.mem_map.mp hx
   exact (hg k (hS k hk)).1
  ·intro x hx
   rcases List.mem_cons.mp hx with rfl | hx
   ·exact hs
   ·obtain ⟨k, hk, rfl⟩ := List.mem_map.mp hx
    exact (hg k (hS k hk)).2
theorem subs_lt : (subs.all fun S => S.all fun x => decide (x < 8)) = true := by decide +kernel
theorem subs_lt8 {S : List Nat} (hS : S ∈ subs) : ∀ x ∈ S, x < 8 := fun x hx => by
 have := List.all_eq_true.mp (List.all_eq_true.mp subs_lt S hS) x hx
 simpa using this
theorem subs_len7 {S : List Nat} (hS : S ∈ subs) : S.length ≤ 7 := by
 have := List.all_eq_true.mp subs_len S hS
 simpa using this
theorem noRefs_strs : ∀ l : List Str, noRefs (l.map .str) = true
 | [] => rfl
 | x :: l => by simp [nRs1, nRs2, nR1, nR2, nR3, nR4, nR5, nR6, nR7, nR8, noRefs_strs l]
theorem commonpath_path {S S' : List Nat} (hS : S ∈ subs) (hS' : S' ∈ subs) (hL : lcp S S' ∈ subs) : s_commonpath [.lst [.str (path S), .str (path S')]] = some (.str (path (lcp S S'))) := by
 refine cps fun G hG => ?_
 obtain ⟨p1, p2⟩ := parts_good (subs_lt8 hS)
 obtain ⟨p3, p4⟩ := parts_good (subs_lt8 hS')
 obtain ⟨LA, hLA⟩ : ∃ LA, LA = S.map letter := ⟨_, rfl⟩
 obtain ⟨LB, hLB⟩ : ∃ LB, LB = S'.map letter := ⟨_, rfl⟩
 rw [← hLA] at p1
 rw [← hLB] at p3
 have st1 : sAssign (eTupMap s_fspath (eVar 0)) (bName 0) (start [.lst [.str (path S), .str (path S')]]) = some (.next, MSt.set (start [.lst [.str (path S), .str (path S')]]) 0 (.tup [.str (path S), .str (path S')])) := by
  simp [sAssign, eTupMap, eVar, start, mF1, mF2, fspath_eq, flatV, nR1, nR2, nR3, nR4, nR5, nR6, nR7, nR8, bName]
 generalize h0 : MSt.set (start [.lst [.str (path S), .str (path S')]]) 0 (.tup [.str (path S), .str (path S')]) = a0 at st1
 have r0 : a0.ρ 0 = some (.tup [.str (path S), .str (path S')]) := by rw [← h0]; rfl
 have st2 : (sIf (bNot (bL (eVar 0))) sDead sNil) a0 = some (.next, a0) := by simp [sIf, bNot, bL, eVar, r0, truthL, sNil]
 have st3 : (sIf (bE (eB (f2 isinstV) (eCons (eSub (eVar 0) (eInt 0)) (eCons (eCls "bytes") eNil)))) sDead (sSeq (sAssign (eStr "/") (bName 1)) (sSeq (sAssign (eStr ".") (bName 2)) sNil))) a0 = some (.next, MSt.set (MSt.set a0 1 (.str slash)) 2 (.str ⟨#[46]⟩)) := by
  simp [sSeq, sNil, sAssign, sAssign2, sRet, sIf, bName, bTup, bAll, eVar, eInt, eStr, eBool, eCons, eNil, eLst, eTup, eB, f1, f2, eM, eCall, eSub, subE, subI, subS, eIf, eNeg, e2, bE, b2, bAnd, bOr, bNot, bTrue, bFalse, truthV, asBool, MSt.set, sStr2, nRs1, nRs2, nR1, nR2, nR3, nR4, nR5, nR6, nR7, nR8, oS, oP, isinstV, eCls, r0, pickAt, slash_eq, dot_eq]
 generalize h3 : MSt.set (MSt.set a0 1 (.str slash)) 2 (.str ⟨#[46]⟩) = a3 at st3
 have r3 : a3.ρ 0 = some (.tup [.str (path S), .str (path S')]) ∧ a3.ρ 1 = some (.str slash) ∧ a3.ρ 2 = some (.str ⟨#[46]⟩) := by rw [← h3]; exact ⟨r0, rfl, rfl⟩
 have st4 : (sAssign (eLstOf (eComp 11 (iSeq (eVar 0)) tTrue (eM (f2 splitV) (eVar 11) (eCons (eVar 1) eNil)))) (bName 3)) a3 = some (.next, MSt.set a3 3 (.lst [.lst ((parts S).map .str), .lst ((parts S').map .str)])) := by
  simp [sSeq, sNil, sAssign, sAssign2, sRet, sIf, bName, bTup, bAll, eVar, eInt, eStr, eBool, eCons, eNil, eLst, eTup, eB, f1, f2, eM, eCall, eSub, subE, subI, subS, eIf, eNeg, e2, bE, b2, bAnd, bOr, bNot, bTrue, bFalse, truthV, asBool, MSt.set, sStr2, nRs1, nRs2, nR1, nR2, nR3, nR4, nR5, nR6, nR7, nR8, oS, oP, eLstOf, eComp, iSeq, r3, mcomp_n, mcomp_c, tTrue, split_path hS, split_path hS']
 generalize h4 : MSt.set a3 3 (.lst [.lst ((parts S).map .str), .lst ((parts S').map .str)]) = a4 at st4
 have r4 : a4.ρ 0 = some (.tup [.str (path S), .str (path S')]) ∧ a4.ρ 1 = some (.str slash) ∧ a4.ρ 2 = some (.str ⟨#[46]⟩) ∧ a4.ρ 3 = some (.lst [.lst ((parts S).map .str), .lst ((parts S').map .str)]) := by rw [← h4]; exact ⟨r3.1, r3.2.1, r3.2.2, rfl⟩
 have st5 : (sSeq (sSetOne 4 12 (iSeq (eVar 0)) (eM (startsV) (eVar 12) (eCons (eVar 1) eNil))) sNil) a4 = some (.next, MSt.set a4 4 (.bool true)) := by
  simp [sSeq, sNil, sAssign, sAssign2, sRet, sIf, bName, bTup, bAll, eVar, eInt, eStr, eBool, eCons, eNil, eLst, eTup, eB, f1, f2, eM, eCall, eSub, subE, subI, subS, eIf, eNeg, e2, bE, b2, bAnd, bOr, bNot, bTrue, bFalse, truthV, asBool, MSt.set, sStr2, nRs1, nRs2, nR1, nR2, nR3, nR4, nR5, nR6, nR7, nR8, oS, oP, sSetOne, iSeq, r4, isTrueV, startsV, starts_path hS, starts_path hS']
 generalize h5 : MSt.set a4 4 (.bool true) = a5 at st5
 have r5 : a5.ρ 0 = some (.tup [.str (path S), .str (path S')]) ∧ a5.ρ 1 = some (.str slash) ∧ a5.ρ 2 = some (.str ⟨#[46]⟩) ∧ a5.ρ 3 = some (.lst [.lst ((parts S).map .str), .lst ((parts S').map .str)]) ∧ a5.ρ 4 = some (.bool true) := by rw [← h5]; exact ⟨r4.1, r4.2.1, r4.2.2.1, r4.2.2.2, rfl⟩
 have st6 : (sAssign (eLstOf (eComp 13 (iSeq (eVar 3)) tTrue (eLstOf (eComp 14 (iSeq (eVar 13)) (bAnd (bE (eVar 14)) (bAnd (b2 neV (eVar 14) (eVar 2)) bTrue)) (eVar 14))))) (bName 3)) a5 = some (.next, MSt.set a5 3 (.lst [.lst (LA.map .str), .lst (LB.map .str)])) := by
  have l1 : (parts S).length ≤ 100000 := by have := subs_len7 hS; unfold parts; split <;> simp <;> omega
  have l2 : (parts S').length ≤ 100000 := by have := subs_len7 hS'; unfold parts; split <;> simp <;> omega
  have q1 := filt (MSt.set a5 13 (.lst ((parts S).map .str))) (by simp [MSt.set, r5]) (parts S) p2
  have q2 := filt (MSt.set a5 13 (.lst ((parts S').map .str))) (by simp [MSt.set, r5]) (parts S') p4
  rw [p1] at q1
  rw [p3] at q2
  have w1 : eLstOf (eComp 14 (iSeq (eVar 13)) (bAnd (bE (eVar 14)) (bAnd (b2 neV (eVar 14) (eVar 2)) bTrue)) (eVar 14)) (MSt.set a5 13 (.lst ((parts S).map .str))) = some (.lst (LA.map .str)) := by
   simp only [eLstOf, eComp, iSeq]
   simp only [eVar, show (MSt.set a5 13 (.lst ((parts S).map .str))).ρ 13 = some (.lst ((parts S).map .str)) from rfl, oS, noRefs_strs, if_true, List.length_map, l1] at q1 ⊢
   rw [q1]; rfl
  have w2 : eLstOf (eComp 14 (iSeq (eVar 13)) (bAnd (bE (eVar 14)) (bAnd (b2 neV (eVar 14) (eVar 2)) bTrue)) (eVar 14)) (MSt.set a5 13 (.lst ((parts S').map .str))) = some (.lst (LB.map .str)) := by
   simp only [eLstOf, eComp, iSeq]
   simp only [eVar, show (MSt.set a5 13 (.lst ((parts S').map .str))).ρ 13 = some (.lst ((parts S').map .str)) from rfl, oS, noRefs_strs, if_true, List.length_map, l2] at q2 ⊢
   rw [q2]; rfl
  have w3 : iSeq (eVar 3) a5 = some [.lst ((parts S).map .str), .lst ((parts S').map .str)] := by
   simp [iSeq, eVar, r5, nRs1, nRs2, nR1, nR2, nR3, nR4, nR5, nR6, nR7, nR8, noRefs_strs]
  generalize eLstOf (eComp 14 (iSeq (eVar 13)) (bAnd (bE (eVar 14)) (bAnd (b2 neV (eVar 14) (eVar 2)) bTrue)) (eVar 14)) = X at w1 w2 ⊢
  simp [sAssign, eLstOf, eComp, w3, mcomp_n, mcomp_c, tTrue, w1, w2, bName]
 generalize h6 : MSt.set a5 3 (.lst [.lst (LA.map .str), .lst (LB.map .str)]) = a6 at st6
 have r6 : a6.ρ 1 = some (.str slash) ∧ a6.ρ 3 = some (.lst [.lst (LA.map .str), .lst (LB.map .str)]) ∧ a6.ρ 4 = some (.bool true) := by rw [← h6]; exact ⟨r5.2.1, rfl, r5.2.2.2.2⟩
 obtain ⟨s1, s2, m1, m2, m3, m4, m5, m6⟩ := minMax LA LB
 have st7 : (sAssign (eB (f1 (minSsV true)) (eCons (eVar 3) eNil)) (bName 5)) a6 = some (.next, MSt.set a6 5 (.lst (s1.map .str))) := by
  have : minSsV true a6 (.lst [.lst (LA.map .str), .lst (LB.map .str)]) = some (.lst (s1.map .str)) := by
   simp only [minSsV, asLst, listOf, oS, strs_map]
   rw [← m1]; split <;> rfl
  simp [sSeq, sNil, sAssign, sAssign2, sRet, sIf, bName, bTup, bAll, eVar, eInt, eStr, eBool, eCons, eNil, eLst, eTup, eB, f1, f2, eM, eCall, eSub, subE, subI, subS, eIf, eNeg, e2, bE, b2, bAnd, bOr, bNot, bTrue, bFalse, truthV, asBool, MSt.set, sStr2, nRs1, nRs2, nR1, nR2, nR3, nR4, nR5, nR6, nR7, nR8, oS, oP, r6, this]
 generalize h7 : MSt.set a6 5 (.lst (s1.map .str)) = a7 at st7
 have r7 : a7.ρ 1 = some (.str slash) ∧ a7.ρ 3 = some (.lst [.lst (LA.map .str), .lst (LB.map .str)]) ∧ a7.ρ 4 = some (.bool true) ∧ a7.ρ 5 = some (.lst (s1.map .str)) := by rw [← h7]; exact ⟨r6.1, r6.2.1, r6.2.2, rfl⟩
 have st8 : (sAssign (eB (f1 (minSsV false)) (eCons (eVar 3) eNil)) (bName 6)) a7 = some (.next, MSt.set a7 6 (.lst (s2.map .str))) := by
  have : minSsV false a7 (.lst [.lst (LA.map .str), .lst (LB.map .str)]) = some (.lst (s2.map .str)) := by
   simp only [minSsV, asLst, listOf, oS, strs_map]
   rw [← m2]; split <;> rfl
  simp [sSeq, sNil, sAssign, sAssign2, sRet, sIf, bName, bTup, bAll, eVar, eInt, eStr, eBool, eCons, eNil, eLst, eTup, eB, f1, f2, eM, eCall, eSub, subE, subI, subS, eIf, eNeg, e2, bE, b2, bAnd, bOr, bNot, bTrue, bFalse, truthV, asBool, MSt.set, sStr2, nRs1, nRs2, nR1, nR2, nR3, nR4, nR5, nR6, nR7, nR8, oS, oP, r7, this]
 generalize h8 : MSt.set a7 6 (.lst (s2.map .str)) = a8 at st8
 have r8 : a8.ρ 1 = some (.str slash) ∧ a8.ρ 4 = some (.bool true) ∧ a8.ρ 5 = some (.lst (s1.map .str)) ∧ a8.ρ 6 = some (.lst (s2.map .str)) := by rw [← h8]; exact ⟨r7.1, r7.2.2.1, r7.2.2.2, rfl⟩
 have st9 : (sAssign (eVar 5) (bName 7)) a8 = some (.next, MSt.set a8 7 (.lst (s1.map .str))) := by simp [sSeq, sNil, sAssign, sAssign2, sRet, sIf, bName, bTup, bAll, eVar, eInt, eStr, eBool, eCons, eNil, eLst, eTup, eB, f1, f2, eM, eCall, eSub, subE, subI, subS, eIf, eNeg, e2, bE, b2, bAnd, bOr, bNot, bTrue, bFalse, truthV, asBool, MSt.set, sStr2, nRs1, nRs2, nR1, nR2, nR3, nR4, nR5, nR6, nR7, nR8, oS, oP, r8]
 generalize h9 : MSt.set a8 7 (.lst (s1.map .str)) = a9 at st9
 have r9 : a9.ρ 1 = some (.str slash) ∧ a9.ρ 4 = some (.bool true) ∧ a9.ρ 5 = some (.lst (s1.map .str)) ∧ a9.ρ 6 = some (.lst (s2.map .str)) ∧ a9.ρ 7 = some (.lst (s1.map .str)) := by rw [← h9]; exact ⟨r8.1, r8.2.1, r8.2.2.1, r8.2.2.2, rfl⟩
 have oks : ∀ R : List Nat, R ∈ subs → ∀ x ∈ R.map letter, sok x := fun R hR x hx => by
  obtain ⟨k, hk, rfl⟩ := List.mem_map.mp hx
  exact ((parts_good (subs_lt8 hR)).2 (letter k) (by unfold parts; rw [if_neg (List.ne_nil_of_mem hk)]; simp; exact .inr ⟨k, hk, rfl⟩)).1
 have okAB : ∀ s : List Str, (s = LA ∨ s = LB) → (∀ x ∈ s, sok x) ∧ s.length ≤ 1000 := fun s hs => by
  rcases hs with e | e
  ·rw [e, hLA]; exact ⟨oks S hS, by have := subs_len7 hS; simp; omega⟩
  ·rw [e, hLB]; exact ⟨oks S' hS', by have := subs_len7 hS'; simp; omega⟩
 have ok1 := (okAB s1 m5).1
 have ok2 := (okAB s2 m6).1
 have len1 := (okAB s1 m5).2
 obtain ⟨a10, l1, l2, l3, l4⟩ := com_loop s1 s2 ok1 ok2 len1 s1 s2 [] a9 rfl rfl m3 r9.2.2.1 r9.2.2.2.1 r9.2.2.2.2
 have st10 : (sFor (iEnum (eVar 5)) (bTup [(bName 8), (bName 9)]) comBody sNil) a9 = some (.next, a10) := by
  simp only [sFor, iEnum, iSeq, eVar, r9, oS, noRefs_strs, if_true, oP, enumL_eq]
  exact l1
 have r10 : a10.ρ 1 = some (.str slash) ∧ a10.ρ 4 = some (.bool true) ∧ a10.ρ 7 = some (.lst (((lcp S S').map letter).map .str)) := by
  refine ⟨by rw [l4 1 (by omega)]; exact r9.1, by rw [l4 4 (by omega)]; exact r9.2.1, ?_⟩
  rw [l2, List.nil_append, m4, hLA, hLB, lcpS_map]
 have st11 : (sAssign (eIf (bE (eVar 4)) (eVar 1) (eSlice (eVar 1) pNone (pSome (eInt 0)) pNone)) (bName 10)) a10 = some (.next, MSt.set a10 10 (.str slash)) := by
  simp [sSeq, sNil, sAssign, sAssign2, sRet, sIf, bName, bTup, bAll, eVar, eInt, eStr, eBool, eCons, eNil, eLst, eTup, eB, f1, f2, eM, eCall, eSub, subE, subI, subS, eIf, eNeg, e2, bE, b2, bAnd, bOr, bNot, bTrue, bFalse, truthV, asBool, MSt.set, sStr2, nRs1, nRs2, nR1, nR2, nR3, nR4, nR5, nR6, nR7, nR8, oS, oP, r10]
 have jp := List.all_eq_true.mp join_parts _ hL
 simp only [Bool.and_eq_true, decide_eq_true_eq] at jp
 have jl : slash.length + (Txt.join slash ((lcp S S').map letter)).length ≤ 100000 := by
  have h1 := path_len hL
  rw [← jp.2] at h1
  have h2 : (slash ++ Txt.join slash ((lcp S S').map letter)).length = slash.length + (Txt.join slash ((lcp S S').map letter)).length := by
   show (slash.cps ++ _).size = _
   rw [Array.size_append]; rfl
  omega
 have st12 : (sSeq (sRet (e2 addV (eVar 10) (eM (f2 joinV) (eVar 1) (eCons (eVar 7) eNil)))) sNil) (MSt.set a10 10 (.str slash)) = some (.ret (.str (path (lcp S S'))), MSt.set a10 10 (.str slash)) := by
  simp only [sSeq, sNil, sAssign, sAssign2, sRet, sIf, bName, bTup, bAll, eVar, eInt, eStr, eBool, eCons, eNil, eLst, eTup, eB, f1, f2, eM, eCall, eSub, subE, subI, subS, eIf, eNeg, e2, bE, b2, bAnd, bOr, bNot, bTrue, bFalse, truthV, asBool, MSt.set, sStr2, nRs1, nRs2, nR1, nR2, nR3, nR4, nR5, nR6, nR7, nR8, oS, oP, r10, joinV, listOf, strs_map, jp.1, if_true, addV, jl, jp.2, reduceIte, Nat.reduceEqDiff, oP]
 refine hG ?_; clear hG
 unfold comBody at st10
 unfold s_commonpath runFn m_commonpath
 rw [show packN 1 [MV.lst [.str (path S), .str (path S')]] = some [MV.lst [.str (path S), .str (path S')]] from rfl]
 simp only [oS]
 rw [sSeq_eq st1, sSeq_eq st2, sSeq_eq st3, sSeq_stop (v := .str (path (lcp S S'))) (st1 := MSt.set a10 10 (.str slash)) (by rw [sSeq_eq st4, sSeq_eq st5, sSeq_eq st6, sSeq_eq st7, sSeq_eq st8, sSeq_eq st9, sSeq_eq st10, sSeq_eq st11]; exact st12)]
 simp [fZ1, fZ2, fZ3, fZ4, fZ5, fZ6, fZ7, fZ8]
noncomputable abbrev natI (n : Nat) : MV := .int (n : Int)
noncomputable abbrev pathI (S : List Nat) : MV := .str (path S)
theorem pickAt_nat {l : List MV} {n : Nat} (h : n < 100000) : pickAt l (n : Int) = l[n]? := by
 unfold pickAt
 rw [if_pos (by omega), if_pos (by omega)]; simp
theorem pickAt_last {l : List MV} {x : MV} : pickAt (l ++ [x]) (-1) = some x := by
 unfold pickAt
 rw [if_neg (by omega), if_pos ⟨by simp; omega, by omega⟩]
 have : (-1 + ((l ++ [x]).length : Int)).toNat = l.length := by simp; omega
 rw [this]; simp
theorem mfor_inv {b : MV → MSt → Option MSt} {body : MSt → Option (Out × MSt)} (I : Nat → MSt → Prop) : ∀ (xs : List MV) (i : Nat) (st : MSt),
  (∀ k x st, xs[k]? = some x → I (i + k) st → ∃ st1 st2, b x st = some st1 ∧ body st1 = some (.next, st2) ∧ I (i + k + 1) st2) → I i st → ∃ st', mfor b body sNil xs st = some (.next, st') ∧ I (i + xs.length) st'
 | [], i, st, _, h => ⟨st, rfl, h⟩
 | x :: xs, i, st, hs, h => by
  refine cps fun G hG => ?_
  obtain ⟨st1, st2, g1, g2, g3⟩ := hs 0 x st rfl h
  obtain ⟨st', g4, g5⟩ := mfor_inv I xs (i + 1) st2 (fun k y st hy hI => by
   have := hs (k + 1) y st (by simpa using hy) (by rwa [show i + (k + 1) = i + 1 + k by omega])
   rwa [show i + (k + 1) + 1 = i + 1 + k + 1 by omega] at this) g3
  refine hG ?_; clear hG
  refine ⟨st', ?_, by rw [show i + (x :: xs).length = i + 1 + xs.length by simp; omega]; exact g5⟩
  simp only [mfor_n, mfor_c, g1, oS, g2, g4]
structure Hangs (T : Tr) (A : List Nat) : Prop where
 len : A.length = 8
 get : ∀ k, k < 8 → A[k]? = some (T.ab k)
theorem rangeL_get {a b : Int} {i : Nat} {x : MV} (h : (rangeL a b)[i]? = some x) : x = .int (a + i) ∧ i < (b - a).toNat := by
 unfold rangeL at h
 rw [List.getElem?_map] at h
 cases hr : (List.range (b - a).toNat)[i]? with
 | none => rw [hr] at h; (injection h; done)
 | some j =>
  rw [hr] at h
  have hi : i < (b - a).toNat := by have := (List.getElem?_eq_some_iff.mp hr).1; simpa using this
  rw [List.getElem?_range hi] at hr
  (injection hr with hr; subst hr); (injection h with h; subst h)
  exact ⟨rfl, hi⟩
theorem abc_letter : ((List.range 7).all fun i => (Txt.charAt (Str.ofString "abcdefg") (i : Int)).isSome && decide (Txt.item (Str.ofString "abcdefg") (i : Int) = letter (i + 1))) = true := by decide +kernel
theorem abc_sub {st : MSt} {i : Nat} (hi : i < 7) : subE st (.str (Str.ofString "abcdefg")) (.int (i : Int)) = some (.str (letter (i + 1))) := by
 have h := List.all_eq_true.mp abc_letter i (List.mem_range.mpr hi)
 simp only [Bool.and_eq_true, decide_eq_true_eq] at h
 simp only [subE, subI, subS]
 rw [if_pos ⟨by omega, by omega, h.1⟩, h.2]
theorem law_paths_eq {T : Tr} {A : List Nat} (hA : Hangs T A) : s_law_paths [.lst (A.map natI)] = some (.lst ((List.range 8).map fun k => pathI (T.P k))) := by
 let st0 : MSt := MSt.set ⟨(start [.lst (A.map natI)]).ρ, [.list [.str slash]]⟩ 1 (.ref 0)
 have s1 : sNewList 1 (eCons (eStr "/") eNil) (start [.lst (A.map natI)]) = some (.next, st0) := by
  simp [sNewList, eCons, eStr, eNil, slash_eq, start, st0]
 obtain ⟨st', g1, g2⟩ := mfor_inv (b := bName 2) (body := (sSeq (sAppend 1 (eCall s_join (eCons (eSub (eVar 1) (eSub (eVar 0) (eVar 2))) (eCons (eSub (eStr "abcdefg") (e2 subV (eVar 2) (eInt 1))) eNil)))) sNil))
  (fun i st => st.ρ 0 = some (.lst (A.map natI)) ∧ st.ρ 1 = some (.ref 0) ∧ st.σ = [.list ((List.range (i + 1)).map fun k => pathI (T.P k))]) (rangeL 1 8) 0 st0
  (fun k x st hx hI => by
   simp only [Nat.zero_add] at hI ⊢
   obtain ⟨rfl, hk⟩ := rangeL_get hx
   have hk : k < 7 := by simpa using hk
   obtain ⟨i1, i2, i3⟩ := hI
   have e : (1 + (k : Int)) = ((k + 1 : Nat) : Int) := by push_cast; omega
   refine ⟨MSt.set st 2 (.int ((k + 1 : Nat) : Int)), { MSt.set st 2 (.int ((k + 1 : Nat) : Int)) with σ := [.list ((List.range (k + 1 + 1)).map fun k => pathI (T.P k))] }, by rw [e]; rfl, ?_, i1, i2, rfl⟩
   have hl : T.ab (k + 1) < k + 1 := T.hlt (k + 1) (by omega) (by omega)
   have p1 : pickAt (A.map natI) ((k + 1 : Nat) : Int) = some (natI (T.ab (k + 1))) := by
    rw [pickAt_nat (by omega), List.getElem?_map, hA.get (k + 1) (by omega)]; rfl
   have p2 : pickAt ((List.range (k + 1)).map fun k => pathI (T.P k)) ((T.ab (k + 1) : Nat) : Int) = some (pathI (T.P (T.ab (k + 1)))) := by
    rw [pickAt_nat (by omega), List.getElem?_map, List.getElem?_range hl]; rfl
   have p3 : ((k + 1 : Nat) : Int) - 1 = (k : Int) := by omega
   have p4 : s_join [.str (path (T.P (T.ab (k + 1)))), .str (letter (k + 1))] = some (.str (path (T.P (k + 1)))) := by
    rw [join_path (T.mem_subs (by omega)) (by omega), ← T.Pk (k + 1) (by omega) (by omega)]
   have q : (eCall s_join (eCons (eSub (eVar 1) (eSub (eVar 0) (eVar 2))) (eCons (eSub (eStr "abcdefg") (e2 subV (eVar 2) (eInt 1))) eNil))) (MSt.set st 2 (.int ((k + 1 : Nat) : Int))) = some (.str (path (T.P (k + 1)))) := by
    have v0 : eVar 0 (MSt.set st 2 (.int ((k + 1 : Nat) : Int))) = some (.lst (A.map natI)) := i1
    have v1 : eVar 1 (MSt.set st 2 (.int ((k + 1 : Nat) : Int))) = some (.ref 0) := i2
    have v2 : eVar 2 (MSt.set st 2 (.int ((k + 1 : Nat) : Int))) = some (.int ((k + 1 : Nat) : Int)) := rfl
    have w1 : subE (MSt.set st 2 (.int ((k + 1 : Nat) : Int))) (.lst (A.map natI)) (.int ((k + 1 : Nat) : Int)) = some (natI (T.ab (k + 1))) := p1
    have w2 : subE (MSt.set st 2 (.int ((k + 1 : Nat) : Int))) (.ref 0) (natI (T.ab (k + 1))) = some (pathI (T.P (T.ab (k + 1)))) := by
     (dsimp only [subE, subI, subS, listOf, MSt.set, oS]; simp only [subE, subI, subS, listOf, MSt.set, i3, lZ, oS]); exact p2
    (dsimp only [eCall, eCons, eSub, oS, eStr, Mine.e2, eInt, subV, intOp, oP, p3, abc_sub hk, eNil, nRs1, nRs2, nR1, nR2, nR3, nR4, nR5, nR6, nR7, nR8]; simp only [eCall, eCons, eSub, v0, v1, v2, oS, w1, w2, eStr, Mine.e2, eInt, subV, intOp, oP, p3, abc_sub hk, eNil, nRs1, nRs2, nR1, nR2, nR3, nR4, nR5, nR6, nR7, nR8, Bool.and_self, if_true])
    exact p4
   have v1 : eVar 1 (MSt.set st 2 (.int ((k + 1 : Nat) : Int))) = some (.ref 0) := i2
   have hσ : (MSt.set st 2 (.int ((k + 1 : Nat) : Int))).σ = [.list ((List.range (k + 1)).map fun k => pathI (T.P k))] := i3
   (dsimp only [sSeq, sAppend, oS, q, show k + 1 < 1000 by omega, sNil, List.set_cons_zero]; simp only [sSeq, sAppend, v1, oS, q, hσ, lZ, List.length_map, List.length_range, show k + 1 < 1000 by omega, if_true, sNil, List.set_cons_zero])
   rw [List.range_succ (n := k + 1), List.map_append]; rfl) ⟨rfl, rfl, by simp [st0, MSt.set, T.P0, path]⟩
 have s2 : sFor (iRange2 (eInt 1) (eInt 8)) (bName 2) (sSeq (sAppend 1 (eCall s_join (eCons (eSub (eVar 1) (eSub (eVar 0) (eVar 2))) (eCons (eSub (eStr "abcdefg") (e2 subV (eVar 2) (eInt 1))) eNil)))) sNil) sNil st0 = some (.next, st') := by
  simp only [sFor, iRange2, eInt, oS, asInt]
  rw [if_pos (by omega)]
  exact g1
 obtain ⟨_, g3, g4⟩ := g2
 unfold s_law_paths runFn m_law_paths
 rw [show packN 1 [MV.lst (A.map natI)] = some [MV.lst (A.map natI)] from rfl]
 simp only [oS]
 rw [sSeq_eq s1, sSeq_eq s2]
 have hn : noRefs ((List.range 8).map fun k => pathI (T.P k)) = true := by rfl
 have g4' : st'.σ = [.list ((List.range 8).map fun k => pathI (T.P k))] := g4
 (dsimp only [sSeq, sRet, eVar, oP, oS, fZ1, fZ2, fZ3, fZ4, fZ5, fZ6, fZ7, fZ8]; simp only [sSeq, sRet, eVar, g3, oP, oS, fZ1, fZ2, fZ3, fZ4, fZ5, fZ6, fZ7, fZ8, g4', lZ, hn, if_true])
noncomputable def Tr.ups (T : Tr) (k : Nat) : List Nat := (0 :: T.P k).reverse
theorem Tr.ups_zero (T : Tr) : T.ups 0 = [0] := by simp [Tr.ups, T.P0]
theorem Tr.ups_succ (T : Tr) {k : Nat} (h0 : 0 < k) (hk : k < 8) : T.ups k = k :: T.ups (T.ab k) := by
 simp [Tr.ups, T.Pk k h0 hk]
theorem Tr.mem_ups (T : Tr) {x k : Nat} : x ∈ T.ups k ↔ T.anc x k := by
 simp only [Tr.ups, List.mem_reverse, List.mem_cons, Tr.anc]
noncomputable def upsBody : MSt → Option (Out × MSt) := sSeq (sAppend 2 (eSub (eVar 1) (eSub (eVar 2) (eNeg (eInt 1))))) sNil
noncomputable def upsTest : MSt → Option Bool := b2 gtV (eSub (eVar 2) (eNeg (eInt 1))) (eInt 0)
theorem ups_loop {T : Tr} {A : List Nat} (hA : Hangs T A) : ∀ (j : Nat), j < 8 → ∀ (n : Nat), j < n → ∀ (L : List MV) (st : MSt), L.length + j < 900 → st.ρ 1 = some (.lst (A.map natI)) → st.ρ 2 = some (.ref 0) → st.σ = [.list (L ++ [natI j])] →
  ∃ st', mwhile upsTest upsBody n st = some (.next, st') ∧ st'.ρ 2 = some (.ref 0) ∧ st'.σ = [.list (L ++ (T.ups j).map natI)] := by
 intro j
 induction j using Nat.strongRecOn with
 | _ j ih =>
  intro hj n hn L st hL r1 r2 hσ
  obtain ⟨n, rfl⟩ : ∃ m, n = m + 1 := ⟨n - 1, by omega⟩
  have v2 : eVar 2 st = some (.ref 0) := r2
  have v1 : eVar 1 st = some (.lst (A.map natI)) := r1
  have last : eSub (eVar 2) (eNeg (eInt 1)) st = some (natI j) := by
   (dsimp only [eSub, oS, eNeg, eInt, asInt, oP, subE, subI, subS, listOf, pickAt_last]; simp only [eSub, v2, oS, eNeg, eInt, asInt, oP, subE, subI, subS, listOf, hσ, lZ, pickAt_last])
  have tst : upsTest st = some (decide (0 < j)) := by
   (dsimp only [upsTest, Mine.e2, last, oS, eInt, gtV, asBool]; simp only [upsTest, b2, Mine.e2, last, oS, eInt, gtV, asBool])
   simp
  by_cases h0 : j = 0
  ·subst h0
   refine ⟨st, ?_, r2, by rw [hσ, T.ups_zero]; rfl⟩
   simp [mwhile_n, mwhile_c, tst]
  ·have hlt := T.hlt j (by omega) hj
   have up : eSub (eVar 1) (eSub (eVar 2) (eNeg (eInt 1))) st = some (natI (T.ab j)) := by
    rw [show eSub (eVar 1) (eSub (eVar 2) (eNeg (eInt 1))) st = ((eVar 1 st).bind fun x => (eSub (eVar 2) (eNeg (eInt 1)) st).bind fun y => subE st x y) from rfl, v1, last]
    simp only [oS, subE, subI, subS]
    rw [pickAt_nat (by omega), List.getElem?_map, hA.get j hj]; rfl
   have bd : upsBody st = some (.next, { st with σ := [.list (L ++ [natI j] ++ [natI (T.ab j)])] }) := by
    (dsimp only [upsBody, sSeq, sAppend, oS, up, sNil]; simp only [upsBody, sSeq, sAppend, v2, oS, up, hσ, lZ, sNil])
    rw [if_pos (by simp; omega)]
    rfl
   obtain ⟨st', g1, g2, g3⟩ := ih (T.ab j) hlt (by omega) n (by omega) (L ++ [natI j]) { st with σ := [.list (L ++ [natI j] ++ [natI (T.ab j)])] } (by simp; omega) r1 r2 rfl
   refine ⟨st', ?_, g2, by rw [g3, T.ups_succ (by omega) hj]; simp⟩
   (dsimp only [mwhile_n, mwhile_c, tst, oS, show 0 < j by omega, decide_true, bd]; simp only [mwhile_n, mwhile_c, tst, oS, decide_eq_true_eq, show 0 < j by omega, if_true, decide_true, bd])
   exact g1
theorem noRefs_nats : ∀ l : List Nat, noRefs (l.map natI) = true
 | [] => rfl
 | x :: l => by simp [nRs1, nRs2, nR1, nR2, nR3, nR4, nR5, nR6, nR7, nR8, noRefs_nats l]
theorem law_ups_eq {T : Tr} {A : List Nat} (hA : Hangs T A) {k : Nat} (hk : k < 8) : s_law_ups [natI k, .lst (A.map natI)] = some (.lst ((T.ups k).map natI)) := by
 let st0 : MSt := MSt.set ⟨(start [natI k, .lst (A.map natI)]).ρ, [.list [natI k]]⟩ 2 (.ref 0)
 have s1 : sNewList 2 (eCons (eVar 0) eNil) (start [natI k, .lst (A.map natI)]) = some (.next, st0) := by
  simp [sNewList, eCons, eVar, eNil, start, st0]
 obtain ⟨st', g1, g2, g3⟩ := ups_loop hA k hk 100 (by omega) [] st0 (by simp; omega) rfl rfl rfl
 have s2 : sWhile upsTest upsBody st0 = some (.next, st') := g1
 unfold upsTest upsBody at s2
 unfold s_law_ups runFn m_law_ups
 rw [show packN 2 [natI k, MV.lst (A.map natI)] = some [natI k, MV.lst (A.map natI)] from rfl]
 simp only [oS]
 rw [sSeq_eq s1, sSeq_eq s2]
 have hn : noRefs ((T.ups k).map natI) = true := noRefs_nats _
 rw [List.nil_append] at g3
 simp only [sSeq, sRet, eVar, g2, oP, oS, fZ1, fZ2, fZ3, fZ4, fZ5, fZ6, fZ7, fZ8, g3, lZ, hn, if_true]
theorem text_parts : (subs.all fun S => JoinOk Str.empty (S.map fun k => slash ++ letter k) && (decide (S = []) || decide (Txt.join Str.empty (S.map fun k => slash ++ letter k) = path S))) = true := by decide +kernel
theorem law_text_eq {T : Tr} {A : List Nat} (hA : Hangs T A) {k : Nat} (hk : k < 8) : s_law_text [natI k, .lst (A.map natI)] = some (pathI (T.P k)) := by
 by_cases h0 : k = 0
 ·subst h0
  simp [s_law_text, m_law_text, runFn, packN, start, sSeq, sNil, sAssign, sAssign2, sRet, sIf, bName, bTup, bAll, eVar, eInt, eStr, eBool, eCons, eNil, eLst, eTup, eB, f1, f2, eM, eCall, eSub, subE, subI, subS, eIf, eNeg, e2, bE, b2, bAnd, bOr, bNot, bTrue, bFalse, truthV, asBool, MSt.set, sStr2, nRs1, nRs2, nR1, nR2, nR3, nR4, nR5, nR6, nR7, nR8, fZ1, fZ2, fZ3, fZ4, fZ5, fZ6, fZ7, fZ8, fZs1, fZs2, oS, oP, Option.bind_none, Option.map_none, eqV_int, T.P0, path, slash_eq]
 ·have s1 : sIf (b2 eqV (eVar 0) (eInt 0)) (sSeq (sRet (eStr "/")) sNil) sNil (start [natI k, .lst (A.map natI)]) = some (.next, start [natI k, .lst (A.map natI)]) := by
   have : ¬ ((k : Int) = 0) := by omega
   simp [sSeq, sNil, sAssign, sAssign2, sRet, sIf, bName, bTup, bAll, eVar, eInt, eStr, eBool, eCons, eNil, eLst, eTup, eB, f1, f2, eM, eCall, eSub, subE, subI, subS, eIf, eNeg, e2, bE, b2, bAnd, bOr, bNot, bTrue, bFalse, truthV, asBool, MSt.set, sStr2, nRs1, nRs2, nR1, nR2, nR3, nR4, nR5, nR6, nR7, nR8, oS, oP, start, eqV_int, this, h0]
  have hP : ∀ x ∈ T.P k, 1 ≤ x ∧ x < 8 := fun x hx => by have := (T.rise k hk).2 x hx; omega
  have w1 : eSlice (eSlice (eCall s_law_ups (eCons (eVar 0) (eCons (eVar 1) eNil))) pNone (pSome (eNeg (eInt 1))) pNone) pNone pNone (pSome (eNeg (eInt 1))) (start [natI k, .lst (A.map natI)]) = some (.lst ((T.P k).map natI)) := by
   have hn : noRefs [natI k, .lst (A.map natI)] = true := by simp [nRs1, nRs2, nR1, nR2, nR3, nR4, nR5, nR6, nR7, nR8, noRefs_nats]
   have hl := subs_len7 (T.mem_subs hk)
   have hc : eCall s_law_ups (eCons (eVar 0) (eCons (eVar 1) eNil)) (start [natI k, .lst (A.map natI)]) = some (.lst ((T.ups k).map natI)) := by
    simp only [eCall, eCons, eNil, eVar, start, lZ, lY, oS, hn, if_true]
    exact law_ups_eq hA hk
   have c1 : ((T.ups k).map natI).length ≤ 100000 := by simp [Tr.ups]; omega
   have c2 : ((T.P k).reverse.map natI).length ≤ 100000 := by simp; omega
   have hd : ((T.ups k).map natI).dropLast = (T.P k).reverse.map natI := by simp [Tr.ups]
   simp only [eSlice, hc, oS, pNone, pSome, eNeg, eInt, asInt, oP, sliceE, listOf]
   rw [if_pos ⟨by simp, c1⟩]
   simp only [oS, sliceV_butLast, hd, listOf]
   rw [if_pos ⟨by simp, c2⟩, sliceV_rev]; simp
  have w2 : ∀ (S : List Nat) (st : MSt), (∀ x ∈ S, 1 ≤ x ∧ x < 8) → mcomp 2 tTrue (e2 addV (eStr "/") (eSub (eStr "abcdefg") (e2 subV (eVar 2) (eInt 1)))) st (S.map natI) = some ((S.map fun k => slash ++ letter k).map .str) := by
   intro S st hS
   induction S with
   | nil => rfl
   | cons x S ih =>
    have hx := hS x (by simp)
    have ih := ih fun y hy => hS y (by simp [hy])
    have e1 : (x : Int) - 1 = ((x - 1 : Nat) : Int) := by omega
    have e3 := abc_sub (st := MSt.set st 2 (natI x)) (i := x - 1) (by omega)
    rw [show x - 1 + 1 = x by omega] at e3
    have e4 : (eSub (eStr "abcdefg") (e2 subV (eVar 2) (eInt 1))) (MSt.set st 2 (natI x)) = some (.str (letter x)) := by
     have v2 : eVar 2 (MSt.set st 2 (natI x)) = some (natI x) := rfl
     simp only [eSub, eStr, oS, Mine.e2, v2, eInt, subV, intOp, oP, e1, e3]
    have e5 : addV (.str slash) (.str (letter x)) = some (.str (slash ++ letter x)) := by
     have : slash.length + (letter x).length ≤ 100000 := by show 1 + 1 ≤ 100000; omega
     simp only [addV, this, if_true]
    simp only [List.map_cons, mcomp_n, mcomp_c, tTrue, oS, if_true, Mine.e2, eStr, slash_eq, e5] at ih e4 ⊢
    simp only [e4, oS, e5, ih, oP]
  have tp := List.all_eq_true.mp text_parts _ (T.mem_subs hk)
  simp only [Bool.and_eq_true, Bool.or_eq_true, decide_eq_true_eq] at tp
  have tp2 := tp.2.resolve_left (T.ne_nil (by omega) hk)
  have hl := subs_len7 (T.mem_subs hk)
  have he : Str.ofString "" = Str.empty := by decide +kernel
  have s2 : sSeq (sRet (eM (f2 joinV) (eStr "") (eCons (eLstOf (eComp 2 (iSeq (eSlice (eSlice (eCall s_law_ups (eCons (eVar 0) (eCons (eVar 1) eNil))) pNone (pSome (eNeg (eInt 1))) pNone) pNone pNone (pSome (eNeg (eInt 1))))) tTrue (e2 addV (eStr "/") (eSub (eStr "abcdefg") (e2 subV (eVar 2) (eInt 1)))))) eNil))) sNil (start [natI k, .lst (A.map natI)]) = some (.ret (pathI (T.P k)), start [natI k, .lst (A.map natI)]) := by
   have w3 := w2 (T.P k) (start [natI k, .lst (A.map natI)]) hP
   have c : ((T.P k).map natI).length ≤ 100000 := by simp; omega
   have q1 : iSeq (eSlice (eSlice (eCall s_law_ups (eCons (eVar 0) (eCons (eVar 1) eNil))) pNone (pSome (eNeg (eInt 1))) pNone) pNone pNone (pSome (eNeg (eInt 1)))) (start [natI k, .lst (A.map natI)]) = some ((T.P k).map natI) := by
    simp only [iSeq, w1, oS, noRefs_nats, if_true]
   simp only [sSeq, sRet, eM, eStr, oS, eCons, eLstOf, eComp, q1, c, if_true, w3, oP, eNil, f2, joinV, listOf, strs_map, he, tp.1, tp2]
  unfold s_law_text runFn m_law_text
  rw [show packN 2 [natI k, MV.lst (A.map natI)] = some [natI k, MV.lst (A.map natI)] from rfl]
  simp only [oS]
  rw [sSeq_eq s1, s2]
  simp [fZ1, fZ2, fZ3, fZ4, fZ5, fZ6, fZ7, fZ8]
theorem pathL_inj : ∀ {S S' : List Nat}, pathL S = pathL S' → S = S'
 | [], [], _ => rfl
 | [], _ :: _, h => by simp [pathL] at h
 | _ :: _, [], h => by simp [pathL] at h
 | x :: S, y :: S', h => by
  simp only [pathL, List.cons.injEq, true_and] at h
  obtain ⟨h1, h2⟩ := h
  have : x = y := by omega
  subst this
  rw [pathL_inj h2]
theorem path_list (S : List Nat) : (path S).cps.toList = if S = [] then [47] else pathL S := by
 cases S with
 | nil => rfl
 | cons x r => simp [path]
theorem path_inj {S S' : List Nat} (h : path S = path S') : S = S' := by
 have h1 : (path S).cps.toList = (path S').cps.toList := by rw [h]
 rw [path_list, path_list] at h1
 by_cases a : S = [] <;> by_cases b : S' = []
 ·rw [a, b]
 ·rw [if_pos a, if_neg b] at h1
  cases S' with
  | nil => exact absurd rfl b
  | cons x r => simp [pathL] at h1
 ·rw [if_neg a, if_pos b] at h1
  cases S with
  | nil => exact absurd rfl a
  | cons x r => simp [pathL] at h1
 ·rw [if_neg a, if_neg b] at h1
  exact pathL_inj h1
noncomputable def Tr.belowF (T : Tr) (m : Nat) : Nat → Nat → List Nat
 | 0, _ => []
 | f + 1, k => if k = m then [] else k :: T.belowF m f (T.ab k)
theorem Tr.ab_lt (T : Tr) {k : Nat} (hk : k < 8) : T.ab k < 8 := by
 by_cases h : k = 0
 ·subst h; rw [T.h0]; omega
 ·have := T.hlt k (by omega) hk; omega
theorem Tr.belowF_lt (T : Tr) (m : Nat) : ∀ (f k : Nat), k < 8 → ∀ x ∈ T.belowF m f k, x < 8
 | 0, _, _, x, h => by simp [Tr.belowF] at h
 | f + 1, k, hk, x, h => by
  unfold Tr.belowF at h
  split at h
  ·cases h
  ·rcases List.mem_cons.mp h with rfl | h
   ·exact hk
   ·exact T.belowF_lt m f (T.ab k) (T.ab_lt hk) x h
theorem Tr.dropLast (T : Tr) {k : Nat} (hk : k < 8) : (T.P k).dropLast = T.P (T.ab k) := by
 by_cases h : k = 0
 ·subst h; rw [T.h0, T.P0]; rfl
 ·rw [T.Pk k (by omega) hk]; simp
theorem Tr.dir (T : Tr) {k : Nat} (hk : k < 8) : s_dirname [.str (path (T.P k))] = some (.str (path (T.P (T.ab k)))) := by
 rw [dirname_path (T.mem_subs hk), T.dropLast hk]
noncomputable def wayBody : MSt → Option (Out × MSt) := sSeq (sIf (b2 eqV (eVar 5) (eVar 2)) (sSeq (fun st => some (.brk, st)) sNil) sNil)
 (sSeq (sAppend 3 (eVar 5)) (sSeq (sAssign (eCall s_dirname (eCons (eVar 5) eNil)) (bName 5)) sNil))
theorem way_inner {T : Tr} {m : Nat} (hm : m < 8) : ∀ (xs : List MV) (k : Nat), k < 8 → ∀ (W : List MV) (st : MSt), W.length + xs.length < 900 → st.ρ 5 = some (pathI (T.P k)) → st.ρ 2 = some (pathI (T.P m)) → st.ρ 3 = some (.ref 0) → st.σ = [.list W] →
  ∃ st', mfor (bName 6) wayBody sNil xs st = some (.next, st') ∧ st'.ρ 2 = some (pathI (T.P m)) ∧ st'.ρ 3 = some (.ref 0) ∧ st'.σ = [.list (W ++ (T.belowF m xs.length k).map fun k => pathI (T.P k))] ∧ st'.ρ 0 = st.ρ 0 ∧ st'.ρ 1 = st.ρ 1
 | [], k, hk, W, st, hW, r5, r2, r3, hσ => ⟨st, rfl, r2, r3, by rw [hσ]; simp [Tr.belowF], rfl, rfl⟩
 | x :: xs, k, hk, W, st, hW, r5, r2, r3, hσ => by
  have ok1 := path_sok (T.mem_subs hk)
  have ok2 := path_sok (T.mem_subs hm)
  have v5 : eVar 5 (MSt.set st 6 x) = some (pathI (T.P k)) := r5
  have v2 : eVar 2 (MSt.set st 6 x) = some (pathI (T.P m)) := r2
  have v3 : eVar 3 (MSt.set st 6 x) = some (.ref 0) := r3
  have tst : b2 eqV (eVar 5) (eVar 2) (MSt.set st 6 x) = some (decide (path (T.P k) = path (T.P m))) := by
   simp only [b2, Mine.e2, v5, v2, oS, eqV_str ok1 ok2, asBool]
  by_cases h : k = m
  ·subst h
   refine ⟨MSt.set st 6 x, ?_, r2, r3, by rw [show (MSt.set st 6 x).σ = st.σ from rfl, hσ]; simp [Tr.belowF], rfl, rfl⟩
   have hb : wayBody (MSt.set st 6 x) = some (.brk, MSt.set st 6 x) := by
    simp [wayBody, sSeq, sIf, tst]
   simp only [mfor_n, mfor_c, bName, oS, hb]
  ·have hne : path (T.P k) ≠ path (T.P m) := fun e => h (T.inj hk hm (path_inj e))
   have hc : eCall s_dirname (eCons (eVar 5) eNil) { MSt.set st 6 x with σ := [.list (W ++ [pathI (T.P k)])] } = some (pathI (T.P (T.ab k))) := by
    have v5' : eVar 5 { MSt.set st 6 x with σ := [.list (W ++ [pathI (T.P k)])] } = some (pathI (T.P k)) := r5
    simp only [eCall, eCons, eNil, v5', oS, nRs1, nRs2, nR1, nR2, nR3, nR4, nR5, nR6, nR7, nR8, Bool.and_self, if_true]
    exact T.dir hk
   have ha : sAppend 3 (eVar 5) (MSt.set st 6 x) = some (.next, { MSt.set st 6 x with σ := [.list (W ++ [pathI (T.P k)])] }) := by
    have hσ' : (MSt.set st 6 x).σ = [.list W] := hσ
    simp only [sAppend, v3, v5, oS, hσ', lZ, List.set_cons_zero]
    rw [if_pos (by simp at hW; omega)]
   have hb : wayBody (MSt.set st 6 x) = some (.next, MSt.set { MSt.set st 6 x with σ := [.list (W ++ [pathI (T.P k)])] } 5 (pathI (T.P (T.ab k)))) := by
    unfold wayBody
    rw [sSeq_eq (st1 := MSt.set st 6 x) (by simp [sIf, tst, hne, sNil]), sSeq_eq ha]
    simp only [sSeq, sAssign, hc, oS, bName, oP, sNil]
   obtain ⟨st', g1, g2, g3, g4, g5, g6⟩ := way_inner hm xs (T.ab k) (T.ab_lt hk) (W ++ [pathI (T.P k)]) (MSt.set { MSt.set st 6 x with σ := [.list (W ++ [pathI (T.P k)])] } 5 (pathI (T.P (T.ab k)))) (by simp at hW ⊢; omega) rfl r2 r3 rfl
   refine ⟨st', ?_, g2, g3, by rw [g4]; simp [Tr.belowF, h], g5, g6⟩
   simp only [mfor_n, mfor_c, bName, oS, hb]
   exact g1
noncomputable def Tr.way (T : Tr) (m i j : Nat) : List Nat := m :: (T.belowF m 8 i ++ T.belowF m 8 j)
theorem law_way_eq (T : Tr) {i j m : Nat} (hi : i < 8) (hj : j < 8) (hm : m < 8) (h : lcp (T.P i) (T.P j) = T.P m) :
  s_law_way [pathI (T.P i), pathI (T.P j)] = some (.lst ((T.way m i j).map fun k => pathI (T.P k))) := by
 let st0 : MSt := start [pathI (T.P i), pathI (T.P j)]
 have hcom : s_commonpath [.lst [.str (path (T.P i)), .str (path (T.P j))]] = some (pathI (T.P m)) := by
  rw [commonpath_path (T.mem_subs hi) (T.mem_subs hj) (by rw [h]; exact T.mem_subs hm), h]
 have s1 : sAssign (eCall s_commonpath (eCons (eLst (eCons (eVar 0) (eCons (eVar 1) eNil))) eNil)) (bName 2) st0 = some (.next, MSt.set st0 2 (pathI (T.P m))) := by
  simp [sSeq, sNil, sAssign, sAssign2, sRet, sIf, bName, bTup, bAll, eVar, eInt, eStr, eBool, eCons, eNil, eLst, eTup, eB, f1, f2, eM, eCall, eSub, subE, subI, subS, eIf, eNeg, e2, bE, b2, bAnd, bOr, bNot, bTrue, bFalse, truthV, asBool, MSt.set, sStr2, nRs1, nRs2, nR1, nR2, nR3, nR4, nR5, nR6, nR7, nR8, oS, oP, st0, start]
  rw [hcom]; rfl
 let st1 : MSt := MSt.set ⟨(MSt.set st0 2 (pathI (T.P m))).ρ, [.list [pathI (T.P m)]]⟩ 3 (.ref 0)
 have s2 : sNewList 3 (eCons (eVar 2) eNil) (MSt.set st0 2 (pathI (T.P m))) = some (.next, st1) := by
  have v2 : eVar 2 (MSt.set st0 2 (pathI (T.P m))) = some (pathI (T.P m)) := rfl
  simp [sNewList, eCons, eNil, v2]
  rfl
 let st2 : MSt := MSt.set (MSt.set st1 4 (pathI (T.P i))) 5 (pathI (T.P i))
 obtain ⟨st3, a1, a2, a3, a4, a5, a6⟩ := way_inner (T := T) hm (rangeL 0 8) i hi [pathI (T.P m)] st2 (by rw [List.length_singleton, show (rangeL 0 8).length = 8 by decide]; omega) rfl rfl rfl rfl
 let st4 : MSt := MSt.set (MSt.set st3 4 (pathI (T.P j))) 5 (pathI (T.P j))
 have hlen : (rangeL 0 8).length = 8 := by decide
 refine cps fun G hG => ?_
 obtain ⟨st5, c1, c2, c3, c4, c5, c6⟩ := way_inner (T := T) hm (rangeL 0 8) j hj ([pathI (T.P m)] ++ (T.belowF m (rangeL 0 8).length i).map fun k => pathI (T.P k)) st4 (by
  rw [hlen]
  have : ∀ f k, (T.belowF m f k).length ≤ f := fun f => by
   induction f with
   | zero => intro k; simp [Tr.belowF]
   | succ f ih => intro k; unfold Tr.belowF; split <;> simp; exact ih _
  have := this 8 i
  simp; omega) rfl a2 a3 a4
 have inner : ∀ st, sFor (iRange1 (eInt 8)) (bName 6) wayBody sNil st = mfor (bName 6) wayBody sNil (rangeL 0 8) st := fun st => by
  simp only [sFor, iRange1, eInt, oS, asInt]
  rw [if_pos (by omega)]; rfl
 have s3 : sFor (iSeq (eLst (eCons (eVar 0) (eCons (eVar 1) eNil)))) (bName 4) (sSeq (sAssign (eVar 4) (bName 5)) (sSeq (sFor (iRange1 (eInt 8)) (bName 6) wayBody sNil) sNil)) sNil st1 = some (.next, st5) := by
  have v0 : eVar 0 st1 = some (pathI (T.P i)) := rfl
  have v1 : eVar 1 st1 = some (pathI (T.P j)) := rfl
  have hl : iSeq (eLst (eCons (eVar 0) (eCons (eVar 1) eNil))) st1 = some [pathI (T.P i), pathI (T.P j)] := by
   simp [iSeq, eLst, eCons, eNil, v0, v1, nRs1, nRs2, nR1, nR2, nR3, nR4, nR5, nR6, nR7, nR8]
  have b1 : (sSeq (sAssign (eVar 4) (bName 5)) (sSeq (sFor (iRange1 (eInt 8)) (bName 6) wayBody sNil) sNil)) (MSt.set st1 4 (pathI (T.P i))) = some (.next, st3) := by
   rw [sSeq_eq (st1 := st2) rfl, sSeq_eq (by rw [inner]; exact a1)]; rfl
  have b3 : (sSeq (sAssign (eVar 4) (bName 5)) (sSeq (sFor (iRange1 (eInt 8)) (bName 6) wayBody sNil) sNil)) (MSt.set st3 4 (pathI (T.P j))) = some (.next, st5) := by
   rw [sSeq_eq (st1 := st4) rfl, sSeq_eq (by rw [inner]; exact c1)]; rfl
  simp only [sFor, hl, oS, mfor_n, mfor_c, bName] at b1 b3 ⊢
  simp only [b1, b3, oS]
  rfl
 refine hG ?_; clear hG
 unfold wayBody at s3
 unfold s_law_way runFn m_law_way
 rw [show packN 2 [pathI (T.P i), pathI (T.P j)] = some [pathI (T.P i), pathI (T.P j)] from rfl]
 simp only [oS]
 rw [sSeq_eq s1, sSeq_eq s2, sSeq_eq s3]
 have hn : ∀ l : List Nat, noRefs (l.map fun k => pathI (T.P k)) = true := fun l => by
  induction l with
  | nil => rfl
  | cons x l ih => simp [nRs1, nRs2, nR1, nR2, nR3, nR4, nR5, nR6, nR7, nR8, ih]
 have c4' : st5.σ = [.list ((T.way m i j).map fun k => pathI (T.P k))] := by
  rw [c4, hlen]; simp [Tr.way]
 simp only [sSeq, sRet, eVar, c3, oP, oS, fZ1, fZ2, fZ3, fZ4, fZ5, fZ6, fZ7, fZ8, c4', lZ, hn, if_true]
theorem bitAnd_nat (a b : Nat) : Builtin.bitAnd (a : Int) (b : Int) = ((a &&& b : Nat) : Int) := by
 unfold Builtin.bitAnd
 rw [decide_eq_true (Int.natCast_nonneg a), decide_eq_true (Int.natCast_nonneg b)]
 rfl
theorem xor_add_and (a b : Nat) : (a ^^^ b) + (a &&& b) = a ||| b := by
 have h := nat_or_add_and (a ^^^ b) (a &&& b)
 have h1 : (a ^^^ b) ||| (a &&& b) = a ||| b := Nat.eq_of_testBit_eq fun i => by
  rw [Nat.testBit_or, Nat.testBit_xor, Nat.testBit_and, Nat.testBit_or]
  cases a.testBit i <;> cases b.testBit i <;> rfl
 have h2 : (a ^^^ b) &&& (a &&& b) = 0 := Nat.eq_of_testBit_eq fun i => by
  rw [Nat.testBit_and, Nat.testBit_xor, Nat.testBit_and, Nat.zero_testBit]
  cases a.testBit i <;> cases b.testBit i <;> rfl
 rw [h1, h2] at h
 exact h.symm
theorem bitXor_nat (a b : Nat) : Builtin.bitXor (a : Int) (b : Int) = ((a ^^^ b : Nat) : Int) := by
 have h1 := nat_or_add_and a b
 have h2 := xor_add_and a b
 unfold Builtin.bitXor
 rw [bitOr_and, bitAnd_nat]
 omega
noncomputable def tb (n i : Nat) : Bool := decide (n / 2 ^ i % 2 = 1)
theorem tb_testBit (n i : Nat) : tb n i = n.testBit i := by rw [Nat.testBit_eq_decide_div_mod_eq]; rfl
theorem and_pow (m i : Nat) : decide (m &&& 2 ^ i = 2 ^ i) = tb m i := by
 rw [tb_testBit]
 cases h : m.testBit i with
 | true =>
  rw [decide_eq_true_eq]
  apply Nat.eq_of_testBit_eq
  intro j
  rw [Nat.testBit_and, Nat.testBit_two_pow]
  by_cases hj : i = j
  ·subst hj; simp [h]
  ·simp [hj]
 | false =>
  rw [decide_eq_false_iff_not]
  intro e
  have := congrArg (fun z => Nat.testBit z i) e
  simp [Nat.testBit_and, Nat.testBit_two_pow, h] at this
theorem and_two (m i j : Nat) (hij : i ≠ j) : decide (m &&& (2 ^ i ||| 2 ^ j) = (2 ^ i ||| 2 ^ j)) = (tb m i && tb m j) := by
 rw [tb_testBit, tb_testBit]
 cases h1 : m.testBit i with
 | false =>
  rw [Bool.false_and, decide_eq_false_iff_not]
  intro e
  have := congrArg (fun z => Nat.testBit z i) e
  simp [Nat.testBit_and, Nat.testBit_or, Nat.testBit_two_pow, h1] at this
 | true =>
  cases h2 : m.testBit j with
  | false =>
   rw [Bool.and_false, decide_eq_false_iff_not]
   intro e
   have := congrArg (fun z => Nat.testBit z j) e
   simp [Nat.testBit_and, Nat.testBit_or, Nat.testBit_two_pow, h2] at this
  | true =>
   rw [Bool.and_true, decide_eq_true_eq]
   apply Nat.eq_of_testBit_eq
   intro k
   rw [Nat.testBit_and, Nat.testBit_or, Nat.testBit_two_pow, Nat.testBit_two_pow]
   by_cases c1 : i = k
   ·subst c1; simp [h1]
   ·by_cases c2 : j = k
    ·subst c2; simp [h2]
    ·simp [c1, c2]
theorem and_fmt (m : Nat) : m &&& 61440 = m / 4096 % 16 * 4096 := by
 apply Nat.eq_of_testBit_eq
 intro i
 rw [show (61440 : Nat) = (2 ^ 4 - 1) * 2 ^ 12 by decide, show (4096 : Nat) = 2 ^ 12 by decide, show (16 : Nat) = 2 ^ 4 by decide]
 rw [Nat.testBit_and, Nat.testBit_mul_two_pow, Nat.testBit_mul_two_pow, Nat.testBit_two_pow_sub_one, Nat.testBit_mod_two_pow, Nat.testBit_div_two_pow]
 by_cases h : 12 ≤ i
 ·rw [show i - 12 + 12 = i by omega]
  simp [h, Bool.and_comm]
 ·simp [h]
theorem and_mode (m : Nat) : m &&& 4095 = m % 4096 := by
 have := Nat.and_two_pow_sub_one_eq_mod m 12
 simpa using this
noncomputable def typC (t : Nat) : Nat := if t = 10 then 108 else if t = 12 then 115 else if t = 8 then 45 else if t = 6 then 98 else if t = 4 then 100 else if t = 2 then 99 else if t = 1 then 112 else 63
noncomputable def chX (S s : Nat) (x sp : Bool) : Nat := if sp then (if x then s else S) else (if x then 120 else 45)
noncomputable def rowL (n : Nat) : List Nat := [typC (n / 4096 % 16), if tb n 8 then 114 else 45, if tb n 7 then 119 else 45, chX 83 115 (tb n 6) (tb n 11), if tb n 5 then 114 else 45, if tb n 4 then 119 else 45, chX 83 115 (tb n 3) (tb n 10),
 if tb n 2 then 114 else 45, if tb n 1 then 119 else 45, chX 84 116 (tb n 0) (tb n 9)]
noncomputable def rowS (n : Nat) : Str := ⟨(rowL n).toArray⟩
theorem tb_mod {n i : Nat} (hi : i < 16) : tb (n % 65536) i = tb n i := by
 rw [tb_testBit, tb_testBit, show (65536 : Nat) = 2 ^ 16 by decide, Nat.testBit_mod_two_pow]
 simp [hi]
theorem rowS_mod (n : Nat) : rowS (n % 65536) = rowS n := by
 unfold rowS rowL
 rw [tb_mod (by omega), tb_mod (by omega), tb_mod (by omega), tb_mod (by omega), tb_mod (by omega), tb_mod (by omega), tb_mod (by omega), tb_mod (by omega), tb_mod (by omega), tb_mod (by omega), tb_mod (by omega), tb_mod (by omega), show n % 65536 / 4096 % 16 = n / 4096 % 16 from (congrArg (· % 16) (Nat.mod_mul_right_div_self n 4096 16)).trans (Nat.mod_mod _ _)]
noncomputable def tables : List (List (Int × Str)) := [[(40960, "l"), (49152, "s"), (32768, "-"), (24576, "b"), (16384, "d"), (8192, "c"), (4096, "p")], [(256, "r")], [(128, "w")], [(2112, "s"), (2048, "S"), (64, "x")], [(32, "r")], [(16, "w")], [(1032, "s"), (1024, "S"), (8, "x")], [(4, "r")], [(2, "w")], [(513, "t"), (512, "T"), (1, "x")]]
theorem table_eq : t_filemode_table = .tup (tables.map tT) := rfl
theorem ifmt_eq (m : Nat) : s_S_IFMT [natI m] = some (.int (Builtin.bitAnd m 61440)) := by
 simp [s_S_IFMT, m_S_IFMT, runFn, packN, start, sSeq, sNil, sAssign, sAssign2, sRet, sIf, bName, bTup, bAll, eVar, eInt, eStr, eBool, eCons, eNil, eLst, eTup, eB, f1, f2, eM, eCall, eSub, subE, subI, subS, eIf, eNeg, e2, bE, b2, bAnd, bOr, bNot, bTrue, bFalse, truthV, asBool, MSt.set, sStr2, nRs1, nRs2, nR1, nR2, nR3, nR4, nR5, nR6, nR7, nR8, fZ1, fZ2, fZ3, fZ4, fZ5, fZ6, fZ7, fZ8, fZs1, fZs2, oS, oP, Option.bind_none, Option.map_none, andV, intOp]
theorem imode_eq (m : Nat) : s_S_IMODE [natI m] = some (.int (Builtin.bitAnd m 4095)) := by
 simp [s_S_IMODE, m_S_IMODE, runFn, packN, start, sSeq, sNil, sAssign, sAssign2, sRet, sIf, bName, bTup, bAll, eVar, eInt, eStr, eBool, eCons, eNil, eLst, eTup, eB, f1, f2, eM, eCall, eSub, subE, subI, subS, eIf, eNeg, e2, bE, b2, bAnd, bOr, bNot, bTrue, bFalse, truthV, asBool, MSt.set, sStr2, nRs1, nRs2, nR1, nR2, nR3, nR4, nR5, nR6, nR7, nR8, fZ1, fZ2, fZ3, fZ4, fZ5, fZ6, fZ7, fZ8, fZs1, fZs2, oS, oP, Option.bind_none, Option.map_none, andV, intOp]
noncomputable def fits (idx : Nat) (m : Nat) (bit : Int) : Bool := if idx = 0 then decide (Builtin.bitAnd m 61440 = bit) else decide (Builtin.bitAnd m bit = bit)
noncomputable def pick (idx m : Nat) : List (Int × Str) → Str
 | [] => if idx = 0 then "?" else "-"
 | e :: r => if fits idx m e.1 then e.2 else pick idx m r
noncomputable def fmBody : MSt → Option (Out × MSt) := sSeq (sIf (b2 eqV (eVar 2) (eInt 0)) (sSeq (sIf (b2 eqV (eCall s_S_IFMT (eCons (eVar 0) eNil)) (eVar 4)) (sSeq (sAppend 1 (eVar 5))
 (sSeq (fun st => some (.brk, st))
 sNil)) sNil)
 sNil) (sSeq (sIf (b2 eqV (e2 andV (eVar 0) (eVar 4)) (eVar 4)) (sSeq (sAppend 1 (eVar 5))
 (sSeq (fun st => some (.brk, st))
 sNil)) sNil)
 sNil))
 sNil
noncomputable def fmElse : MSt → Option (Out × MSt) := sSeq (sIf (b2 eqV (eVar 2) (eInt 0)) (sSeq (sAppend 1 (eStr "?"))
 sNil) (sSeq (sAppend 1 (eStr "-"))
 sNil))
 sNil
theorem append_eq {k : Nat} {e : MSt → Option MV} {st : MSt} {L : List MV} {v : MV} (h1 : st.ρ k = some (.ref 0)) (h2 : e st = some v) (h3 : st.σ = [.list L]) (h4 : L.length < 1000) : sAppend k e st = some (.next, { st with σ := [.list (L ++ [v])] }) := by
 simp only [sAppend, eVar, h1, oS, h2, h3, lZ, h4, if_true, List.set_cons_zero]
theorem fm_inner {m idx : Nat} : ∀ (ents : List (Int × Str)) (L : List MV) (st : MSt), L.length < 900 → st.ρ 0 = some (natI m) → st.ρ 1 = some (.ref 0) → st.ρ 2 = some (natI idx) → st.σ = [.list L] →
  ∃ st', mfor (bTup [(bName 4), (bName 5)]) fmBody fmElse (ents.map fun q => .tup [.int q.1, .str q.2]) st = some (.next, st') ∧ st'.ρ 0 = some (natI m) ∧ st'.ρ 1 = some (.ref 0) ∧ st'.σ = [.list (L ++ [.str (pick idx m ents)])]
 | [], L, st, hL, r0, r1, r2, hσ => by
  have tst : b2 eqV (eVar 2) (eInt 0) st = some (decide (idx = 0)) := by
   simp only [b2, Mine.e2, eVar, r2, oS, eInt, eqV_int, asBool]
   congr 1; exact decide_eq_decide.mpr (by omega)
  refine ⟨{ st with σ := [.list (L ++ [.str (pick idx m [])])] }, ?_, r0, r1, rfl⟩
  simp only [List.map_nil, mfor_n, mfor_c, fmElse, sSeq, sIf, tst, oS, pick]
  by_cases h : idx = 0
  ·simp only [h, decide_true, if_true]
   rw [append_eq (v := .str "?") r1 rfl hσ (by omega)]; simp [sNil]
  ·simp only [h, decide_false, Bool.false_eq_true, if_false]
   rw [append_eq (v := .str "-") r1 rfl hσ (by omega)]; simp [sNil]
 | e :: r, L, st, hL, r0, r1, r2, hσ => by
  have s1 : bTup [(bName 4), (bName 5)] (.tup [.int e.1, .str e.2]) st = some (MSt.set (MSt.set st 4 (.int e.1)) 5 (.str e.2)) := rfl
  generalize hst : MSt.set (MSt.set st 4 (.int e.1)) 5 (.str e.2) = st1 at s1
  have q0 : st1.ρ 0 = some (natI m) := by rw [← hst]; exact r0
  have q1 : st1.ρ 1 = some (.ref 0) := by rw [← hst]; exact r1
  have q2 : st1.ρ 2 = some (natI idx) := by rw [← hst]; exact r2
  have q4 : st1.ρ 4 = some (.int e.1) := by rw [← hst]; rfl
  have q5 : st1.ρ 5 = some (.str e.2) := by rw [← hst]; rfl
  have qσ : st1.σ = [.list L] := by rw [← hst]; exact hσ
  have tst : b2 eqV (eVar 2) (eInt 0) st1 = some (decide (idx = 0)) := by
   simp only [b2, Mine.e2, eVar, q2, oS, eInt, eqV_int, asBool]
   congr 1; exact decide_eq_decide.mpr (by omega)
  have t1 : b2 eqV (eCall s_S_IFMT (eCons (eVar 0) eNil)) (eVar 4) st1 = some (decide (Builtin.bitAnd m 61440 = e.1)) := by
   simp only [b2, Mine.e2, eCall, eCons, eNil, eVar, q0, q4, oS, nRs1, nRs2, nR1, nR2, nR3, nR4, nR5, nR6, nR7, nR8, Bool.and_self, if_true, ifmt_eq, eqV_int, asBool]
  have t2 : b2 eqV (e2 andV (eVar 0) (eVar 4)) (eVar 4) st1 = some (decide (Builtin.bitAnd m e.1 = e.1)) := by
   simp only [b2, Mine.e2, eVar, q0, q4, oS, andV, intOp, oP, eqV_int, asBool]
  have ap := append_eq (e := eVar 5) q1 q5 qσ (by omega)
  have hb : fmBody st1 = if fits idx m e.1 then some (.brk, { st1 with σ := [.list (L ++ [.str e.2])] }) else some (.next, st1) := by
   unfold fmBody fits
   simp only [sSeq, sIf, tst, oS]
   by_cases h : idx = 0
   ·simp only [h, decide_true, if_true, t1, oS]
    cases decide (Builtin.bitAnd m 61440 = e.1) <;> simp [ap, sNil]
   ·simp only [h, decide_false, Bool.false_eq_true, if_false, t2, oS]
    cases decide (Builtin.bitAnd m e.1 = e.1) <;> simp [ap, sNil]
  by_cases hf : fits idx m e.1 = true
  ·refine ⟨{ st1 with σ := [.list (L ++ [.str e.2])] }, ?_, q0, q1, by simp [pick, hf]⟩
   simp only [List.map_cons, mfor_n, mfor_c, s1, oS, hb, hf, if_true]
  ·obtain ⟨st', g1, g2, g3, g4⟩ := fm_inner r L st1 hL q0 q1 q2 qσ
   refine ⟨st', ?_, g2, g3, by rw [g4]; simp [pick, hf]⟩
   simp only [List.map_cons, mfor_n, mfor_c, s1, oS, hb, hf, if_false]
   exact g1
noncomputable def single (c : Nat) : Str := ⟨#[c]⟩
theorem glue_singles : ∀ (l : List Nat) (acc : Array Nat), (l.map single).foldl (fun acc p => acc ++ Str.empty.cps ++ p.cps) acc = acc ++ l.toArray
 | [], acc => by simp
 | c :: l, acc => by
  simp only [List.map_cons, List.foldl_cons]
  rw [glue_singles l]
  apply Array.toList_inj.mp
  simp [single, Str.empty]
theorem join_singles (c : Nat) (l : List Nat) : Txt.join Str.empty ((c :: l).map single) = ⟨(c :: l).toArray⟩ := by
 show Builtin.Str.glued Str.empty ((c :: l).map single) = _
 unfold Builtin.Str.glued
 simp only [List.map_cons, List.drop_one, List.tail_cons, List.headD_cons]
 rw [glue_singles]
 congr 1
 apply Array.toList_inj.mp
 simp [single]
theorem len_singles : ∀ (l : List Nat) (n : Nat), ((l.map single).foldl (fun a p => a + p.length + Str.empty.length) n) = n + l.length
 | [], n => by simp
 | c :: l, n => by
  simp only [List.map_cons, List.foldl_cons]
  rw [len_singles l]
  have h1 : (single c).length = 1 := rfl
  have h2 : Str.empty.length = 0 := rfl
  simp only [h1, h2, List.length_cons]
  omega
theorem joinOk_singles (l : List Nat) (h : l.length ≤ 100) : JoinOk Str.empty (l.map single) = true := by
 unfold JoinOk
 rw [List.foldl_toArray, len_singles]
 have : 0 + l.length ≤ sizeLine := le_sizeLine (by omega)
 simp only [Bool.not_eq_true']
 unfold Builtin.Str.tooLong
 simpa using this
theorem emp_eq : Str.ofString "" = Str.empty := by decide +kernel
theorem chars_eq : [Str.ofString "l", Str.ofString "s", Str.ofString "-", Str.ofString "b", Str.ofString "d", Str.ofString "c", Str.ofString "p", Str.ofString "r", Str.ofString "w", Str.ofString "S", Str.ofString "x", Str.ofString "t", Str.ofString "T", Str.ofString "?"] = [108, 115, 45, 98, 100, 99, 112, 114, 119, 83, 120, 116, 84, 63].map single := by decide +kernel
theorem pick_type (m : Nat) : pick 0 m [(40960, "l"), (49152, "s"), (32768, "-"), (24576, "b"), (16384, "d"), (8192, "c"), (4096, "p")] = single (typC (m / 4096 % 16)) := by
 have h := chars_eq
 simp only [List.map_cons, List.map_nil, List.cons.injEq, and_true] at h
 refine cps fun G hG => ?_
 obtain ⟨c1, c2, c3, c4, c5, c6, c7, c8, c9, c10, c11, c12, c13, c14⟩ := h
 have hb : Builtin.bitAnd (m : Int) 61440 = ((m / 4096 % 16 * 4096 : Nat) : Int) := by
  have := bitAnd_nat m 61440
  rw [and_fmt] at this
  exact this
 have ht : m / 4096 % 16 < 16 := Nat.mod_lt _ (by omega)
 refine hG ?_; clear hG
 generalize m / 4096 % 16 = t at hb ht ⊢
 have f : ∀ k : Nat, fits 0 m ((k * 4096 : Nat) : Int) = decide (t = k) := fun k => by
  simp only [fits, if_true, hb]
  exact decide_eq_decide.mpr (by omega)
 have f10 := f 10; have f12 := f 12; have f8 := f 8; have f6 := f 6; have f4 := f 4; have f2 := f 2; have f1 := f 1
 simp only [Nat.reduceMul, Int.cast_ofNat_Int] at f10 f12 f8 f6 f4 f2 f1
 simp only [pick, f10, f12, f8, f6, f4, f2, f1, if_true, c1, c2, c3, c4, c5, c6, c7, c14, decide_eq_true_eq]
 unfold typC
 repeat (split; · rfl)
 rfl
theorem pick_one (m idx i : Nat) (h0 : idx ≠ 0) (c : Str) (code : Nat) (hc : c = single code) : pick idx m [(((2 ^ i : Nat) : Int), c)] = single (if tb m i then code else 45) := by
 have h := chars_eq
 simp only [List.map_cons, List.map_nil, List.cons.injEq, and_true] at h
 refine cps fun G hG => ?_
 obtain ⟨c1, c2, c3, c4, c5, c6, c7, c8, c9, c10, c11, c12, c13, c14⟩ := h
 have f : fits idx m ((2 ^ i : Nat) : Int) = tb m i := by
  unfold fits
  rw [if_neg h0, bitAnd_nat, ← and_pow]
  exact decide_eq_decide.mpr (by omega)
 refine hG ?_; clear hG
 simp only [pick, f, h0, if_false, hc, c3]
 cases tb m i <;> rfl
theorem pick_three (m idx i j : Nat) (h0 : idx ≠ 0) (hij : i ≠ j) (a b c : Str) (x y z : Nat) (ha : a = single x) (hb : b = single y) (hc : c = single z) (hz : z = 120) :
  pick idx m [(((2 ^ i ||| 2 ^ j : Nat) : Int), a), (((2 ^ j : Nat) : Int), b), (((2 ^ i : Nat) : Int), c)] = single (chX y x (tb m i) (tb m j)) := by
 have h := chars_eq
 simp only [List.map_cons, List.map_nil, List.cons.injEq, and_true] at h
 refine cps fun G hG => ?_
 obtain ⟨c1, c2, c3, c4, c5, c6, c7, c8, c9, c10, c11, c12, c13, c14⟩ := h
 have f1 : fits idx m ((2 ^ i : Nat) : Int) = tb m i := by
  unfold fits
  rw [if_neg h0, bitAnd_nat, ← and_pow]
  exact decide_eq_decide.mpr (by omega)
 have f2 : fits idx m ((2 ^ j : Nat) : Int) = tb m j := by
  unfold fits
  rw [if_neg h0, bitAnd_nat, ← and_pow]
  exact decide_eq_decide.mpr (by omega)
 have f3 : fits idx m ((2 ^ i ||| 2 ^ j : Nat) : Int) = (tb m i && tb m j) := by
  unfold fits
  rw [if_neg h0, bitAnd_nat, ← and_two m i j hij]
  exact decide_eq_decide.mpr (by omega)
 refine hG ?_; clear hG
 simp only [pick, f1, f2, f3, h0, if_false, ha, hb, hc, c3, hz, chX]
 cases tb m i <;> cases tb m j <;> rfl
noncomputable def pickT (m t : Nat) : Str := pick t m (tables.getD t [])
theorem picks_eq (m : Nat) : ((List.range 10).map fun t => pickT m t) = (rowL m).map single := by
 have h := chars_eq
 simp only [List.map_cons, List.map_nil, List.cons.injEq, and_true] at h
 refine cps fun G hG => ?_
 obtain ⟨c1, c2, c3, c4, c5, c6, c7, c8, c9, c10, c11, c12, c13, c14⟩ := h
 have p1 := pick_one m 1 8 (by omega) "r" 114 c8
 have p2 := pick_one m 2 7 (by omega) "w" 119 c9
 have p3 := pick_three m 3 6 11 (by omega) (by omega) "s" "S" "x" 115 83 120 c2 c10 c11 rfl
 have p4 := pick_one m 4 5 (by omega) "r" 114 c8
 have p5 := pick_one m 5 4 (by omega) "w" 119 c9
 have p6 := pick_three m 6 3 10 (by omega) (by omega) "s" "S" "x" 115 83 120 c2 c10 c11 rfl
 have p7 := pick_one m 7 2 (by omega) "r" 114 c8
 have p8 := pick_one m 8 1 (by omega) "w" 119 c9
 have p9 := pick_three m 9 0 9 (by omega) (by omega) "t" "T" "x" 116 84 120 c12 c13 c11 rfl
 have p0 := pick_type m
 refine hG ?_; clear hG
 show [pickT m 0, pickT m 1, pickT m 2, pickT m 3, pickT m 4, pickT m 5, pickT m 6, pickT m 7, pickT m 8, pickT m 9] = _
 simp only [rowL, List.map_cons, List.map_nil]
 rw [← p0, ← p1, ← p2, ← p3, ← p4, ← p5, ← p6, ← p7, ← p8, ← p9]
 rfl
theorem filemode_eq (m : Nat) : s_filemode [natI m] = some (.str (rowS m)) := by
 let st0 : MSt := MSt.set ⟨(start [natI m]).ρ, [.list []]⟩ 1 (.ref 0)
 have s1 : sNewList 1 eNil (start [natI m]) = some (.next, st0) := by simp [sNewList, eNil, start, st0]
 obtain ⟨st', g1, g2⟩ := mfor_inv (b := bTup [(bName 2), (bName 3)]) (body := sSeq (sFor (iSeq (eVar 3)) (bTup [(bName 4), (bName 5)]) fmBody fmElse) sNil)
  (fun i st => st.ρ 0 = some (natI m) ∧ st.ρ 1 = some (.ref 0) ∧ st.σ = [.list ((List.range i).map fun t => .str (pickT m t))]) (enumL (tables.map tT)) 0 st0
  (fun k x st hx hI => by
   simp only [Nat.zero_add] at hI ⊢
   obtain ⟨y, hy, rfl⟩ := enumL_get hx
   rw [List.getElem?_map] at hy
   have hk : k < 10 := by
    cases h : tables[k]? with
    | none => rw [h] at hy; (injection hy; done)
    | some z => exact (List.getElem?_eq_some_iff.mp h).1
   have hz : tables[k]? = some (tables.getD k []) := by
    rw [List.getD_eq_getElem?_getD]
    cases h : tables[k]? with
    | none => have : tables.length ≤ k := List.getElem?_eq_none_iff.mp h; have : tables.length = 10 := rfl; omega
    | some z => rfl
   rw [hz] at hy
   (injection hy with hy; subst hy)
   obtain ⟨i1, i2, i3⟩ := hI
   obtain ⟨st2, a1, a2, a3, a4⟩ := fm_inner (m := m) (idx := k) (tables.getD k []) ((List.range k).map fun t => .str (pickT m t)) (MSt.set (MSt.set st 2 (natI k)) 3 (tT (tables.getD k []))) (by simp; omega) i1 i2 rfl i3
   refine ⟨MSt.set (MSt.set st 2 (natI k)) 3 (tT (tables.getD k [])), st2, rfl, ?_, a2, a3, ?_⟩
   ·have hnr : ∀ l : List (Int × Str), noRefs (l.map fun q => MV.tup [.int q.1, .str q.2]) = true := fun l => by
     induction l with
     | nil => rfl
     | cons x l ih => simp [nRs1, nRs2, nR1, nR2, nR3, nR4, nR5, nR6, nR7, nR8, ih]
    have v3 : iSeq (eVar 3) (MSt.set (MSt.set st 2 (natI k)) 3 (tT (tables.getD k []))) = some ((tables.getD k []).map fun q => .tup [.int q.1, .str q.2]) := by
     have e : iSeq (eVar 3) (MSt.set (MSt.set st 2 (natI k)) 3 (tT (tables.getD k []))) = if noRefs ((tables.getD k []).map fun q => MV.tup [.int q.1, .str q.2]) then some ((tables.getD k []).map fun q => MV.tup [.int q.1, .str q.2]) else none := rfl
     rw [e, hnr, if_pos rfl]
    rw [sSeq_eq (st1 := st2) (by simp only [sFor, v3, oS]; exact a1)]
    rfl
   ·rw [a4, List.range_succ, List.map_append]; rfl) ⟨rfl, rfl, rfl⟩
 have hlen : (enumL (tables.map tT)).length = 10 := by rw [enumL_length]; rfl
 obtain ⟨g3, g4, g5⟩ := g2
 rw [hlen, Nat.zero_add] at g5
 have hp := picks_eq m
 have g5' : st'.σ = [.list (((rowL m).map single).map .str)] := by
  rw [g5, ← hp, List.map_map]; rfl
 have hnr : noRefs (tables.map tT) = true := by decide
 have s2 : sFor (iEnum (eK t_filemode_table)) (bTup [(bName 2), (bName 3)]) (sSeq (sFor (iSeq (eVar 3)) (bTup [(bName 4), (bName 5)]) fmBody fmElse) sNil) sNil st0 = some (.next, st') := by
  simp only [sFor, iEnum, iSeq, eK, oS, table_eq, hnr, if_true, oP] at g1 ⊢
  exact g1
 have hj : Txt.join Str.empty ((rowL m).map single) = rowS m := join_singles _ _
 have hjo : JoinOk Str.empty ((rowL m).map single) = true := joinOk_singles _ (by show 10 ≤ 100; omega)
 have s3 : sSeq (sRet (eM (f2 joinV) (eStr "") (eCons (eVar 1) eNil))) sNil st' = some (.ret (.str (rowS m)), st') := by
  have v1 : eVar 1 st' = some (.ref 0) := g4
  (dsimp only [sSeq, sRet, eM, eStr, oS, eCons, eNil, f2, joinV, listOf, strs_map, emp_eq, oP]; simp only [sSeq, sRet, eM, eStr, oS, eCons, v1, eNil, f2, joinV, listOf, g5', lZ, strs_map, emp_eq, hjo, if_true, hj, oP])
 unfold fmBody fmElse at s2
 unfold s_filemode runFn m_filemode
 rw [show packN 1 [natI m] = some [natI m] from rfl]
 simp only [oS]
 rw [sSeq_eq s1, sSeq_eq s2, s3]
 rfl
theorem fdiv_nat (a b : Nat) : (a : Int).fdiv (b : Int) = ((a / b : Nat) : Int) := by
 rw [Int.fdiv_eq_ediv_of_nonneg _ (by omega)]; rfl
theorem fmod_nat (a b : Nat) : (a : Int).fmod (b : Int) = ((a % b : Nat) : Int) := by
 rw [Int.fmod_eq_emod_of_nonneg _ (by omega)]; rfl
theorem divV_nat (a b : Nat) (h0 : b ≠ 0) (h1 : b < 1073741824) : divV (natI a) (natI b) = some (natI (a / b)) := by
 simp only [divV, intOp]
 rw [if_pos ⟨by omega, by omega⟩, fdiv_nat]; rfl
theorem modV_nat (a b : Nat) (h0 : b ≠ 0) : modV (natI a) (natI b) = some (natI (a % b)) := by
 simp only [modV, intOp]
 rw [if_pos (by omega), fmod_nat]; rfl
theorem gtV_nat (a b : Nat) : gtV (natI a) (natI b) = some (.bool (decide (b < a))) := by
 simp only [gtV]; congr 2; exact decide_eq_decide.mpr (by omega)
theorem eqV_nat (a b : Nat) : eqV (natI a) (natI b) = some (.bool (decide (a = b))) := by
 rw [eqV_int]; congr 2; exact decide_eq_decide.mpr (by omega)
theorem addV_str {x y : Str} (h : x.length + y.length ≤ 100000) : addV (.str x) (.str y) = some (.str (x ++ y)) := by
 simp only [addV, h, if_true]
theorem len_app (x y : Str) : (x ++ y).length = x.length + y.length := by
 show (x.cps ++ y.cps).size = _
 rw [Array.size_append]; rfl
theorem pieces : ((List.range 3).all fun k => (List.range 2).all fun b =>
  decide (Txt.item ([Str.ofString "Ss", Str.ofString "Ss", Str.ofString "Tt"].getD k Str.empty) (b : Int) = single (if k < 2 then (if b = 1 then 115 else 83) else (if b = 1 then 116 else 84))) && (Txt.charAt ([Str.ofString "Ss", Str.ofString "Ss", Str.ofString "Tt"].getD k Str.empty) (b : Int)).isSome &&
  decide (Txt.item (Str.ofString "-x") (b : Int) = single (if b = 1 then 120 else 45)) && (Txt.charAt (Str.ofString "-x") (b : Int)).isSome) = true := by decide +kernel
noncomputable def rwBody : MSt → Option (Out × MSt) := (sSeq (sAssign (e2 modV (e2 divV (eVar 0) (e2 powV (eInt 8) (e2 subV (eInt 2) (eVar 2)))) (eInt 8)) (bName 3))
 (sSeq (sAssign (e2 addV (e2 addV (eVar 1) (eIf (b2 gtV (eVar 3) (eInt 3)) (eStr "r") (eStr "-"))) (eIf (b2 gtV (e2 modV (eVar 3) (eInt 4)) (eInt 1)) (eStr "w") (eStr "-"))) (bName 1))
 (sSeq (sIf (b2 eqV (e2 modV (e2 divV (eVar 0) (e2 powV (eInt 2) (e2 subV (eInt 11) (eVar 2)))) (eInt 2)) (eInt 1)) (sSeq (sAssign (e2 addV (eVar 1) (eSub (eSub (eLst (eCons (eStr "Ss") (eCons (eStr "Ss") (eCons (eStr "Tt") eNil)))) (eVar 2)) (e2 modV (eVar 3) (eInt 2)))) (bName 1))
 sNil) (sSeq (sAssign (e2 addV (eVar 1) (eSub (eStr "-x") (e2 modV (eVar 3) (eInt 2)))) (bName 1))
 sNil))
 sNil)))
theorem pk3 {P : Nat → Prop} (h0 : P 0) (h1 : P 1) (h2 : P 2) : ∀ {k : Nat}, k < 3 → P k
 | 0, _ => h0
 | 1, _ => h1
 | 2, _ => h2
theorem lt8 {P : Nat → Prop} (h : ∀ y, y < 8 → P y) (x : Nat) : P (x % 8) := h _ (Nat.mod_lt _ (by decide))
theorem fig_r (x : Nat) : decide (3 < x % 8) = decide (x / 4 % 2 = 1) := by
 rw [← Nat.mod_mul_right_div_self x 4 2]
 exact lt8 (P := fun y => decide (3 < y) = decide (y / 4 = 1)) (by decide) x
theorem fig_w (x : Nat) : decide (1 < x % 8 % 4) = decide (x / 2 % 2 = 1) := by
 rw [← Nat.mod_mul_right_div_self x 2 2, ← Nat.mod_mul_right_mod x 4 2]
 exact lt8 (P := fun y => decide (1 < y % 4) = decide (y % 4 / 2 = 1)) (by decide) x
theorem fig_x (x : Nat) : decide (x % 8 % 2 = 1) = decide (x % 2 = 1) := by rw [show x % 8 % 2 = x % 2 from Nat.mod_mul_right_mod x 2 4]
theorem len_le {a b c : Nat} (h : a ≤ b) (k : Nat) (hb : b + k ≤ c) : a + k ≤ c := Nat.le_trans (Nat.add_le_add_right h k) hb
theorem row_step {n k : Nat} (hk : k < 3) {x : Str} (hx : x.length ≤ 1000) {st : MSt} (r0 : st.ρ 0 = some (natI n)) (r1 : st.ρ 1 = some (.str x)) (r2 : st.ρ 2 = some (natI k)) :
  ∃ st', rwBody st = some (.next, st') ∧ st'.ρ 0 = some (natI n) ∧ st'.ρ 1 = some (.str ((x ++ single (if tb n (8 - 3 * k) then 114 else 45) ++ single (if tb n (7 - 3 * k) then 119 else 45)) ++ single (if k < 2 then chX 83 115 (tb n (6 - 3 * k)) (tb n (11 - k)) else chX 84 116 (tb n (6 - 3 * k)) (tb n (11 - k))))) := by
 have h := chars_eq
 simp only [List.map_cons, List.map_nil, List.cons.injEq, and_true] at h
 refine cps fun G hG => ?_
 obtain ⟨c1, c2, c3, c4, c5, c6, c7, c8, c9, c10, c11, c12, c13, c14⟩ := h
 obtain ⟨fig, hfig⟩ : ∃ fig, fig = n / 2 ^ (6 - 3 * k) % 8 := ⟨_, rfl⟩
 have p8 : powV (.int 8) (.int (2 - (k : Int))) = some (natI (2 ^ (6 - 3 * k))) := by
  exact pk3 (P := fun k => powV (.int 8) (.int (2 - (k : Int))) = some (natI (2 ^ (6 - 3 * k)))) rfl rfl rfl hk
 have p2 : powV (.int 2) (.int (11 - (k : Int))) = some (natI (2 ^ (11 - k))) := by
  exact pk3 (P := fun k => powV (.int 2) (.int (11 - (k : Int))) = some (natI (2 ^ (11 - k)))) rfl rfl rfl hk
 have d8 : 2 ^ (6 - 3 * k) ≠ 0 ∧ 2 ^ (6 - 3 * k) < 1073741824 := by
  exact pk3 (P := fun k => 2 ^ (6 - 3 * k) ≠ 0 ∧ 2 ^ (6 - 3 * k) < 1073741824) (by decide) (by decide) (by decide) hk
 have d2 : 2 ^ (11 - k) ≠ 0 ∧ 2 ^ (11 - k) < 1073741824 := by
  exact pk3 (P := fun k => 2 ^ (11 - k) ≠ 0 ∧ 2 ^ (11 - k) < 1073741824) (by decide) (by decide) (by decide) hk
 have v2 : eVar 2 st = some (natI k) := r2
 have v0 : eVar 0 st = some (natI n) := r0
 have m8 := modV_nat (n / 2 ^ (6 - 3 * k)) 8 (by decide)
 have q1 : sAssign (e2 modV (e2 divV (eVar 0) (e2 powV (eInt 8) (e2 subV (eInt 2) (eVar 2)))) (eInt 8)) (bName 3) st = some (.next, MSt.set st 3 (natI fig)) := by
  rw [hfig]
  (dsimp only [sAssign, Mine.e2, oS, eInt, subV, intOp, oP, p8, divV_nat _ _ d8.1 d8.2, bName]; simp only [sAssign, Mine.e2, v0, v2, oS, eInt, subV, intOp, oP, p8, divV_nat _ _ d8.1 d8.2, bName])
  exact congrArg (fun z => z.bind fun v => Option.map (fun st' => (Out.next, st')) (some (st.set 3 v))) m8
 have fr : decide (3 < fig) = tb n (8 - 3 * k) := by
  rw [hfig]; unfold tb
  rw [fig_r, Nat.div_div_eq_div_mul, show 2 ^ (6 - 3 * k) * 4 = 2 ^ (8 - 3 * k) from pk3 (P := fun k => 2 ^ (6 - 3 * k) * 4 = 2 ^ (8 - 3 * k)) rfl rfl rfl hk]
 have fw : decide (1 < fig % 4) = tb n (7 - 3 * k) := by
  rw [hfig]; unfold tb
  rw [fig_w, Nat.div_div_eq_div_mul, show 2 ^ (6 - 3 * k) * 2 = 2 ^ (7 - 3 * k) from pk3 (P := fun k => 2 ^ (6 - 3 * k) * 2 = 2 ^ (7 - 3 * k)) rfl rfl rfl hk]
 have fx : decide (fig % 2 = 1) = tb n (6 - 3 * k) := by
  rw [hfig]; exact fig_x _
 generalize hs1 : MSt.set st 3 (natI fig) = st1 at q1
 have a0 : eVar 0 st1 = some (natI n) := by rw [← hs1]; exact r0
 have a1 : eVar 1 st1 = some (.str x) := by rw [← hs1]; exact r1
 have a2 : eVar 2 st1 = some (natI k) := by rw [← hs1]; exact r2
 have a3 : eVar 3 st1 = some (natI fig) := by rw [← hs1]; rfl
 have ls : ∀ c, (single c).length = 1 := fun _ => rfl
 have e1 : eIf (b2 gtV (eVar 3) (eInt 3)) (eStr "r") (eStr "-") st1 = some (.str (single (if tb n (8 - 3 * k) then 114 else 45))) := by
  have : gtV (natI fig) (.int 3) = some (.bool (tb n (8 - 3 * k))) := by rw [← fr]; exact gtV_nat fig 3
  (dsimp only [eIf, Mine.e2, oS, eInt, asBool, eStr]; simp only [eIf, b2, Mine.e2, a3, oS, eInt, this, asBool, eStr, c8, c3])
  cases tb n (8 - 3 * k) <;> rfl
 have e3 : eIf (b2 gtV (e2 modV (eVar 3) (eInt 4)) (eInt 1)) (eStr "w") (eStr "-") st1 = some (.str (single (if tb n (7 - 3 * k) then 119 else 45))) := by
  have h4 : modV (natI fig) (.int 4) = some (natI (fig % 4)) := modV_nat fig 4 (by decide)
  have : gtV (natI (fig % 4)) (.int 1) = some (.bool (tb n (7 - 3 * k))) := by rw [← fw]; exact gtV_nat (fig % 4) 1
  (dsimp only [eIf, Mine.e2, oS, eInt, asBool, eStr]; simp only [eIf, b2, Mine.e2, a3, oS, eInt, h4, this, asBool, eStr, c9, c3])
  cases tb n (7 - 3 * k) <;> rfl
 obtain ⟨y, hy⟩ : ∃ y, y = x ++ single (if tb n (8 - 3 * k) then 114 else 45) ++ single (if tb n (7 - 3 * k) then 119 else 45) := ⟨_, rfl⟩
 have ly : y.length = x.length + 2 := by rw [hy, len_app, len_app, ls, ls]
 have q2 : sAssign (e2 addV (e2 addV (eVar 1) (eIf (b2 gtV (eVar 3) (eInt 3)) (eStr "r") (eStr "-"))) (eIf (b2 gtV (e2 modV (eVar 3) (eInt 4)) (eInt 1)) (eStr "w") (eStr "-"))) (bName 1) st1 = some (.next, MSt.set st1 1 (.str y)) := by
  have w1 := addV_str (x := x) (y := single (if tb n (8 - 3 * k) then 114 else 45)) (len_le hx 1 (by decide))
  have w2 := addV_str (x := x ++ single (if tb n (8 - 3 * k) then 114 else 45)) (y := single (if tb n (7 - 3 * k) then 119 else 45)) (by rw [len_app]; exact len_le (len_le hx 1 (Nat.le_refl 1001)) 1 (by decide))
  rw [← hy] at w2
  unfold sAssign
  rw [show e2 addV (e2 addV (eVar 1) (eIf (b2 gtV (eVar 3) (eInt 3)) (eStr "r") (eStr "-"))) (eIf (b2 gtV (e2 modV (eVar 3) (eInt 4)) (eInt 1)) (eStr "w") (eStr "-")) st1 = (((eVar 1 st1).bind fun a => (eIf (b2 gtV (eVar 3) (eInt 3)) (eStr "r") (eStr "-") st1).bind fun b => addV a b).bind fun a => (eIf (b2 gtV (e2 modV (eVar 3) (eInt 4)) (eInt 1)) (eStr "w") (eStr "-") st1).bind fun b => addV a b) from rfl, a1, e1, e3]
  (dsimp only [oS, bName, oP]; simp only [oS, w1, w2, bName, oP])
 generalize hs2 : MSt.set st1 1 (.str y) = st2 at q2
 have b0 : eVar 0 st2 = some (natI n) := by rw [← hs2]; exact a0
 have b1 : eVar 1 st2 = some (.str y) := by rw [← hs2]; rfl
 have b2' : eVar 2 st2 = some (natI k) := by rw [← hs2]; exact a2
 have b3 : eVar 3 st2 = some (natI fig) := by rw [← hs2]; exact a3
 have tst : b2 eqV (e2 modV (e2 divV (eVar 0) (e2 powV (eInt 2) (e2 subV (eInt 11) (eVar 2)))) (eInt 2)) (eInt 1) st2 = some (tb n (11 - k)) := by
  have h4 : modV (natI (n / 2 ^ (11 - k))) (.int 2) = some (natI (n / 2 ^ (11 - k) % 2)) := modV_nat _ 2 (by decide)
  have h5 : eqV (natI (n / 2 ^ (11 - k) % 2)) (.int 1) = some (.bool (tb n (11 - k))) := eqV_nat _ 1
  (dsimp only [Mine.b2, Mine.e2, oS, eInt, subV, intOp, oP, p2, divV_nat _ _ d2.1 d2.2, asBool]; simp only [Mine.b2, Mine.e2, b0, b2', oS, eInt, subV, intOp, oP, p2, divV_nat _ _ d2.1 d2.2, h4, h5, asBool])
 have pc := List.all_eq_true.mp (List.all_eq_true.mp pieces k (List.mem_range.mpr hk)) (fig % 2) (List.mem_range.mpr (Nat.mod_lt _ (by decide)))
 simp only [Bool.and_eq_true, decide_eq_true_eq] at pc
 obtain ⟨⟨⟨pc1, pc2⟩, pc3⟩, pc4⟩ := pc
 have h2 : modV (natI fig) (.int 2) = some (natI (fig % 2)) := modV_nat fig 2 (by decide)
 have bnd : 0 ≤ ((fig % 2 : Nat) : Int) ∧ ((fig % 2 : Nat) : Int) < 100000 := ⟨Int.natCast_nonneg _, Int.ofNat_lt.mpr (Nat.lt_of_lt_of_le (Nat.mod_lt _ (by decide)) (by decide))⟩
 have sx : eSub (eStr "-x") (e2 modV (eVar 3) (eInt 2)) st2 = some (.str (single (if tb n (6 - 3 * k) then 120 else 45))) := by
  (dsimp only [eSub, eStr, oS, Mine.e2, eInt, subE, subI, subS]; simp only [eSub, eStr, oS, Mine.e2, b3, eInt, h2, subE, subI, subS])
  rw [if_pos ⟨bnd.1, bnd.2, pc4⟩, pc3, ← fx]
  simp only [decide_eq_true_eq]
 have ss : eSub (eSub (eLst (eCons (eStr "Ss") (eCons (eStr "Ss") (eCons (eStr "Tt") eNil)))) (eVar 2)) (e2 modV (eVar 3) (eInt 2)) st2 = some (.str (single (if k < 2 then (if tb n (6 - 3 * k) then 115 else 83) else (if tb n (6 - 3 * k) then 116 else 84)))) := by
  have hp : pickAt [MV.str (Str.ofString "Ss"), .str (Str.ofString "Ss"), .str (Str.ofString "Tt")] (k : Int) = some (.str ([Str.ofString "Ss", Str.ofString "Ss", Str.ofString "Tt"].getD k Str.empty)) := by
   exact pk3 (P := fun k => pickAt [MV.str (Str.ofString "Ss"), .str (Str.ofString "Ss"), .str (Str.ofString "Tt")] (k : Int) = some (.str ([Str.ofString "Ss", Str.ofString "Ss", Str.ofString "Tt"].getD k Str.empty))) rfl rfl rfl hk
  have hl : eSub (eLst (eCons (eStr "Ss") (eCons (eStr "Ss") (eCons (eStr "Tt") eNil)))) (eVar 2) st2 = some (.str ([Str.ofString "Ss", Str.ofString "Ss", Str.ofString "Tt"].getD k Str.empty)) := by
   have hll : eLst (eCons (eStr "Ss") (eCons (eStr "Ss") (eCons (eStr "Tt") eNil))) st2 = some (.lst [MV.str (Str.ofString "Ss"), .str (Str.ofString "Ss"), .str (Str.ofString "Tt")]) := rfl
   rw [show eSub (eLst (eCons (eStr "Ss") (eCons (eStr "Ss") (eCons (eStr "Tt") eNil)))) (eVar 2) st2 = ((eLst (eCons (eStr "Ss") (eCons (eStr "Ss") (eCons (eStr "Tt") eNil))) st2).bind fun x => (eVar 2 st2).bind fun y => subE st2 x y) from rfl, hll, b2']
   (dsimp only [oS, subE, subI, subS]; simp only [oS, subE, subI, subS, hp])
  rw [show eSub (eSub (eLst (eCons (eStr "Ss") (eCons (eStr "Ss") (eCons (eStr "Tt") eNil)))) (eVar 2)) (e2 modV (eVar 3) (eInt 2)) st2 = ((eSub (eLst (eCons (eStr "Ss") (eCons (eStr "Ss") (eCons (eStr "Tt") eNil)))) (eVar 2) st2).bind fun x => (e2 modV (eVar 3) (eInt 2) st2).bind fun y => subE st2 x y) from rfl, hl]
  (dsimp only [oS, Mine.e2, eInt, subE, subI, subS]; simp only [oS, Mine.e2, b3, eInt, h2, subE, subI, subS])
  rw [if_pos ⟨bnd.1, bnd.2, pc2⟩, pc1, ← fx]
  simp only [decide_eq_true_eq]
 obtain ⟨X, hX⟩ : ∃ X, X = (if k < 2 then chX 83 115 (tb n (6 - 3 * k)) (tb n (11 - k)) else chX 84 116 (tb n (6 - 3 * k)) (tb n (11 - k))) := ⟨_, rfl⟩
 have q3 : sIf (b2 eqV (e2 modV (e2 divV (eVar 0) (e2 powV (eInt 2) (e2 subV (eInt 11) (eVar 2)))) (eInt 2)) (eInt 1)) (sSeq (sAssign (e2 addV (eVar 1) (eSub (eSub (eLst (eCons (eStr "Ss") (eCons (eStr "Ss") (eCons (eStr "Tt") eNil)))) (eVar 2)) (e2 modV (eVar 3) (eInt 2)))) (bName 1)) sNil)
   (sSeq (sAssign (e2 addV (eVar 1) (eSub (eStr "-x") (e2 modV (eVar 3) (eInt 2)))) (bName 1)) sNil) st2 = some (.next, MSt.set st2 1 (.str (y ++ single X))) := by
  unfold sIf
  rw [tst]
  simp only [oS]
  cases hsp : tb n (11 - k) with
  | true =>
   simp only [if_true]
   have hXe : (if k < 2 then (if tb n (6 - 3 * k) then 115 else 83) else (if tb n (6 - 3 * k) then 116 else 84)) = X := by rw [hX, hsp]; (dsimp only [chX]; simp only [chX, if_true])
   have w := addV_str (x := y) (y := single X) (by rw [ly]; exact len_le (len_le hx 2 (Nat.le_refl 1002)) 1 (by decide))
   rw [hXe] at ss
   have w' : sAssign (e2 addV (eVar 1) (eSub (eSub (eLst (eCons (eStr "Ss") (eCons (eStr "Ss") (eCons (eStr "Tt") eNil)))) (eVar 2)) (e2 modV (eVar 3) (eInt 2)))) (bName 1) st2 = some (.next, MSt.set st2 1 (.str (y ++ single X))) := by
    unfold sAssign
    rw [show e2 addV (eVar 1) (eSub (eSub (eLst (eCons (eStr "Ss") (eCons (eStr "Ss") (eCons (eStr "Tt") eNil)))) (eVar 2)) (e2 modV (eVar 3) (eInt 2))) st2 = ((eVar 1 st2).bind fun a => (eSub (eSub (eLst (eCons (eStr "Ss") (eCons (eStr "Ss") (eCons (eStr "Tt") eNil)))) (eVar 2)) (e2 modV (eVar 3) (eInt 2)) st2).bind fun b => addV a b) from rfl, b1, ss]
    (dsimp only [oS, w, bName, oP]; simp only [oS, w, bName, oP])
   rw [sSeq_eq w']; rfl
  | false =>
   simp only [Bool.false_eq_true, if_false]
   have hXe : (if tb n (6 - 3 * k) then 120 else 45) = X := by rw [hX, hsp]; simp [chX]
   have w := addV_str (x := y) (y := single X) (by rw [ly]; exact len_le (len_le hx 2 (Nat.le_refl 1002)) 1 (by decide))
   rw [hXe] at sx
   have w' : sAssign (e2 addV (eVar 1) (eSub (eStr "-x") (e2 modV (eVar 3) (eInt 2)))) (bName 1) st2 = some (.next, MSt.set st2 1 (.str (y ++ single X))) := by
    unfold sAssign
    rw [show e2 addV (eVar 1) (eSub (eStr "-x") (e2 modV (eVar 3) (eInt 2))) st2 = ((eVar 1 st2).bind fun a => (eSub (eStr "-x") (e2 modV (eVar 3) (eInt 2)) st2).bind fun b => addV a b) from rfl, b1, sx]
    (dsimp only [oS, w, bName, oP]; simp only [oS, w, bName, oP])
   rw [sSeq_eq w']; rfl
 refine hG ?_; clear hG
 refine ⟨MSt.set st2 1 (.str (y ++ single X)), ?_, b0, by rw [← hX, ← hy]; rfl⟩
 unfold rwBody
 rw [sSeq_eq q1, sSeq_eq q2, sSeq_eq q3]
 rfl
theorem typ_table : ((List.range 16).all fun t => decide (Txt.item (Str.ofString "?pc?d?b?-?l?s???") (t : Int) = single (typC t)) && (Txt.charAt (Str.ofString "?pc?d?b?-?l?s???") (t : Int)).isSome) = true := by decide +kernel
theorem law_row_eq (n : Nat) : s_law_row [natI n] = some (.str (rowS n)) := by
 have ht := List.all_eq_true.mp typ_table (n / 4096 % 16) (List.mem_range.mpr (Nat.mod_lt _ (by omega)))
 simp only [Bool.and_eq_true, decide_eq_true_eq] at ht
 let st0 : MSt := MSt.set (start [natI n]) 1 (.str (single (typC (n / 4096 % 16))))
 have h1 : divV (natI n) (.int 4096) = some (natI (n / 4096)) := divV_nat n 4096 (by omega) (by omega)
 have h2 : modV (natI (n / 4096)) (.int 16) = some (natI (n / 4096 % 16)) := modV_nat _ 16 (by omega)
 have s1 : sAssign (eSub (eStr "?pc?d?b?-?l?s???") (e2 modV (e2 divV (eVar 0) (eInt 4096)) (eInt 16))) (bName 1) (start [natI n]) = some (.next, st0) := by
  have v0 : eVar 0 (start [natI n]) = some (natI n) := rfl
  have hlt : n / 4096 % 16 < 16 := Nat.mod_lt _ (by omega)
  (dsimp only [sAssign, eSub, eStr, oS, Mine.e2, eInt, subE, subI, subS]; simp only [sAssign, eSub, eStr, oS, Mine.e2, v0, eInt, h1, h2, subE, subI, subS])
  rw [if_pos ⟨by omega, by omega, ht.2⟩, ht.1]; rfl
 have ls : ∀ c, (single c).length = 1 := fun _ => rfl
 obtain ⟨st1, a1, a2, a3⟩ := row_step (n := n) (k := 0) (by omega) (x := single (typC (n / 4096 % 16))) (by rw [ls]; omega) (st := MSt.set st0 2 (natI 0)) rfl rfl rfl
 obtain ⟨st2, b1, c2, b3⟩ := row_step (n := n) (k := 1) (by omega) (st := MSt.set st1 2 (natI 1)) (by rw [len_app, len_app, len_app, ls, ls, ls, ls]; omega) a2 a3 rfl
 obtain ⟨st3, c1, d2, c3⟩ := row_step (n := n) (k := 2) (by omega) (st := MSt.set st2 2 (natI 2)) (by simp only [len_app, ls]; omega) c2 b3 rfl
 have s2 : sFor (iRange1 (eInt 3)) (bName 2) rwBody sNil st0 = some (.next, st3) := by
  simp only [sFor, iRange1, eInt, oS, asInt]
  rw [if_pos (by omega), oS, show rangeL 0 3 = [natI 0, natI 1, natI 2] from rfl]
  (dsimp only [mfor_n, mfor_c, bName, oS, sNil]; simp only [mfor_n, mfor_c, bName, oS, a1, b1, c1, sNil])
 unfold rwBody at s2
 unfold s_law_row runFn m_law_row
 rw [show packN 1 [natI n] = some [natI n] from rfl]
 simp only [oS]
 rw [sSeq_eq s1, sSeq_eq s2]
 have v1 : eVar 1 st3 = some (.str (rowS n)) := by
  show st3.ρ 1 = _
  rw [c3]
  refine congrArg (fun z => some (MV.str z)) (str_ext ?_)
  simp [single, rowS, rowL]
  rfl
 (dsimp only [sSeq, sRet, oP, oS]; simp only [sSeq, sRet, v1, oP, oS])
 rfl
theorem xSeq_eq {a b : MSt → Option (Option Out × MSt)} {st st1 : MSt} (h : a st = some (some .next, st1)) : xSeq a b st = b st1 := by simp [xSeq, h]
theorem xSeq_stop {a b : MSt → Option (Option Out × MSt)} {st st1 : MSt} (h : a st = some (none, st1)) : xSeq a b st = some (none, st1) := by simp [xSeq, h]
theorem xSeq_end {a : MSt → Option (Option Out × MSt)} {st st1 : MSt} {o : Option Out} (h : a st = some (o, st1)) (ho : o = none ∨ o = some .next) : xSeq a (xS sNil) st = some (o, st1) := by
 rcases ho with rfl | rfl
 ·exact xSeq_stop h
 ·rw [xSeq_eq h]; rfl
theorem xIf_true {c : MSt → Option Bool} {a b : MSt → Option (Option Out × MSt)} {st : MSt} (h : c st = some true) : xIf c a b st = a st := by simp [xIf, h]
theorem xIf_false {c : MSt → Option Bool} {a b : MSt → Option (Option Out × MSt)} {st : MSt} (h : c st = some false) : xIf c a b st = b st := by simp [xIf, h]
theorem two_ways (p : Prop) [Decidable p] : (if p then (none : Option Out) else some .next) = none ∨ (if p then (none : Option Out) else some .next) = some .next := by by_cases h : p <;> simp [h]
noncomputable def diffL (re : List Str) : List Str → List Str × List Str :=
 List.rec (motive := fun _ => List Str → List Str × List Str) (fun ra => ([], ra))
  (fun x re D ra => List.rec (motive := fun _ => List Str × List Str) (x :: re, []) (fun y ra ih => if sLt x y then (x :: (D (y :: ra)).1, (D (y :: ra)).2) else if sLt y x then (ih.1, y :: ih.2) else D ra) ra) re
theorem diffL_nil (ra : List Str) : diffL [] ra = ([], ra) := rfl
theorem diffL_nil2 (re : List Str) : diffL re [] = (re, []) := by cases re <;> rfl
theorem diffL_cons (x y : Str) (re ra : List Str) : diffL (x :: re) (y :: ra) = if sLt x y then (x :: (diffL re (y :: ra)).1, (diffL re (y :: ra)).2) else if sLt y x then ((diffL (x :: re) ra).1, y :: (diffL (x :: re) ra).2) else diffL re ra := rfl
structure SL2 (E A pe re pa ra M U : List Str) (st : MSt) : Prop where
 hE : E = pe ++ re
 hA : A = pa ++ ra
 lE : E.length ≤ 50
 lA : A.length ≤ 50
 r0 : st.ρ 0 = some (.lst (E.map .str))
 r1 : st.ρ 1 = some (.lst (A.map .str))
 r2 : st.ρ 2 = some (natI pe.length)
 r3 : st.ρ 3 = some (natI pa.length)
 r4 : st.ρ 4 = some (.ref 0)
 r5 : st.ρ 5 = some (.ref 1)
 hσ : st.σ = [.list (M.map .str), .list (U.map .str)]
 lM : M.length ≤ pe.length
 lU : U.length ≤ pa.length
noncomputable def sldH : MSt → Option (Out × MSt) := sSeq (sExtend 4 (eSlice (eVar 0) (pSome (eVar 2)) pNone pNone)) (sSeq (sExtend 5 (eSlice (eVar 1) (pSome (eVar 3)) pNone pNone)) (sSeq (fun st => some (.brk, st)) sNil))
theorem sld_slice {kl ki : Nat} {E pe re : List Str} {st : MSt} (hE : E = pe ++ re) (lE : E.length ≤ 50) (r0 : st.ρ kl = some (.lst (E.map .str))) (r2 : st.ρ ki = some (natI pe.length)) : eSlice (eVar kl) (pSome (eVar ki)) pNone pNone st = some (.lst (re.map .str)) := by
 (dsimp only [eSlice, eVar, r0, oS, pSome, r2, asInt, oP, pNone, sliceE, listOf, sliceV_drop]; simp only [eSlice, eVar, r0, oS, pSome, r2, asInt, oP, pNone, sliceE, listOf, sliceV_drop])
 rw [if_pos ⟨by simp, by simp; omega⟩, hE]
 simp
theorem sld_handler {E A pe re pa ra M U : List Str} {st : MSt} (h : SL2 E A pe re pa ra M U st) : ∃ st', sldH st = some (.brk, st') ∧ st'.ρ 4 = some (.ref 0) ∧ st'.ρ 5 = some (.ref 1) ∧ st'.σ = [.list ((M ++ re).map .str), .list ((U ++ ra).map .str)] := by
 have le : pe.length + re.length ≤ 50 := by have := h.lE; rw [h.hE] at this; simpa using this
 have la : pa.length + ra.length ≤ 50 := by have := h.lA; rw [h.hA] at this; simpa using this
 have e1 : sExtend 4 (eSlice (eVar 0) (pSome (eVar 2)) pNone pNone) st = some (.next, { st with σ := [.list ((M ++ re).map .str), .list (U.map .str)] }) := by
  have v4 : eVar 4 st = some (.ref 0) := h.r4
  (dsimp only [sExtend, oS, sld_slice h.hE h.lE h.r0 h.r2]; simp only [sExtend, v4, oS, sld_slice h.hE h.lE h.r0 h.r2, h.hσ, lZ])
  rw [if_pos (by have := h.lM; simp; omega)]
  simp
 have e2 : sExtend 5 (eSlice (eVar 1) (pSome (eVar 3)) pNone pNone) { st with σ := [.list ((M ++ re).map .str), .list (U.map .str)] } = some (.next, { st with σ := [.list ((M ++ re).map .str), .list ((U ++ ra).map .str)] }) := by
  have v5 : eVar 5 { st with σ := [.list ((M ++ re).map .str), .list (U.map .str)] } = some (.ref 1) := h.r5
  have sl := sld_slice (st := { st with σ := [.list ((M ++ re).map .str), .list (U.map .str)] }) (kl := 1) (ki := 3) h.hA h.lA h.r1 h.r3
  (dsimp only [sExtend, oS, sl]; simp only [sExtend, v5, oS, sl, lY, lZ])
  rw [if_pos (by have := h.lU; simp; omega)]
  simp
 refine ⟨{ st with σ := [.list ((M ++ re).map .str), .list ((U ++ ra).map .str)] }, ?_, h.r4, h.r5, rfl⟩
 unfold sldH
 rw [sSeq_eq e1, sSeq_eq e2]
 rfl
theorem sld_sub {kl ki : Nat} {E : List Str} {i : Nat} {st : MSt} (hi : i < 1000) (r0 : st.ρ kl = some (.lst (E.map .str))) (r2 : st.ρ ki = some (natI i)) : xSub (eVar kl) (eVar ki) st = some ((E[i]?).map .str) := by
 simp only [xSub, eVar, r0, r2, oS, listOf]
 rw [if_pos (by omega)]
 simp
theorem sld_skip {kl ki ke : Nat} {E : List Str} {i : Nat} {x : Str} {B : MSt → Option (Option Out × MSt)} {st : MSt} (hi : i < 1000) (r0 : st.ρ kl = some (.lst (E.map .str))) (r2 : st.ρ ki = some (natI i)) (r6 : st.ρ ke = some (.str x)) (hx : sok x) (hE : ∀ z ∈ E, sok z) (hne : ∀ z, E[i]? = some z → z ≠ x) :
  xWhile (xB2 eqV (xSub (eVar kl) (eVar ki)) (eVar ke)) B st = some (if E[i]? = none then none else some .next, st) := by
 have hs := sld_sub hi r0 r2
 unfold xWhile xmwhile xB2
 rw [hs]
 simp only [oS]
 cases h : E[i]? with
 | none => simp
 | some z =>
  have hz : sok z := hE z (List.mem_of_getElem? h)
  have v6 : eVar ke st = some (.str x) := r6
  simp [v6, eqV_str hz hx, asBool, hne z h]
noncomputable def sldX : MSt → Option (Option Out × MSt) := (xSeq (xAssign (xSub (eVar 0) (eVar 2)) 6)
 (xSeq (xAssign (xSub (eVar 1) (eVar 3)) 7)
 (xSeq (xIf (b2 ltV (eVar 6) (eVar 7)) (xSeq (xS (sAppend 4 (eVar 6)))
 (xSeq (xS (sAug 2 addV (eInt 1)))
 (xSeq (xWhile (xB2 eqV (xSub (eVar 0) (eVar 2)) (eVar 6)) (xSeq (xS (sAug 2 addV (eInt 1)))
 (xS sNil)))
 (xS sNil)))) (xSeq (xIf (b2 gtV (eVar 6) (eVar 7)) (xSeq (xS (sAppend 5 (eVar 7)))
 (xSeq (xS (sAug 3 addV (eInt 1)))
 (xSeq (xWhile (xB2 eqV (xSub (eVar 1) (eVar 3)) (eVar 7)) (xSeq (xS (sAug 3 addV (eInt 1)))
 (xS sNil)))
 (xS sNil)))) (xSeq (xS (sAug 2 addV (eInt 1)))
 (xSeq (xTryFin (xSeq (xWhile (xB2 eqV (xSub (eVar 0) (eVar 2)) (eVar 6)) (xSeq (xS (sAug 2 addV (eInt 1)))
 (xS sNil)))
 (xS sNil))
 (xSeq (xS (sAug 3 addV (eInt 1)))
 (xSeq (xWhile (xB2 eqV (xSub (eVar 1) (eVar 3)) (eVar 7)) (xSeq (xS (sAug 3 addV (eInt 1)))
 (xS sNil)))
 (xS sNil))))
 (xS sNil))))
 (xS sNil)))
 (xS sNil))))
noncomputable def sldBody : MSt → Option (Out × MSt) := sSeq (xTryEx sldX sldH) sNil
theorem aug_nat {k n : Nat} {st : MSt} (h : st.ρ k = some (natI n)) : sAug k addV (eInt 1) st = some (.next, st.set k (natI (n + 1))) := by
 simp only [sAug, eVar, h, oS, eInt, addV, oP]
 rfl
theorem sld_turn {E A pe re pa ra M U : List Str} {x y : Str} {st : MSt} (h : SL2 E A pe (x :: re) pa (y :: ra) M U st) (sE : E.Pairwise sLt) (sA : A.Pairwise sLt) (oE : ∀ z ∈ E, sok z) (oA : ∀ z ∈ A, sok z) :
  ∃ o st' pe' re' pa' ra' M' U', sldX st = some (o, st') ∧ SL2 E A pe' re' pa' ra' M' U' st' ∧ (o = none → re' = [] ∨ ra' = []) ∧ (o = none ∨ o = some .next) ∧
   ((sLt x y ∧ re' = re ∧ ra' = y :: ra ∧ M' = M ++ [x] ∧ U' = U) ∨ (¬ sLt x y ∧ sLt y x ∧ re' = x :: re ∧ ra' = ra ∧ M' = M ∧ U' = U ++ [y]) ∨ (¬ sLt x y ∧ ¬ sLt y x ∧ re' = re ∧ ra' = ra ∧ M' = M ∧ U' = U)) := by
 have le : pe.length + (re.length + 1) ≤ 50 := by have := h.lE; rw [h.hE] at this; simpa using this
 have la : pa.length + (ra.length + 1) ≤ 50 := by have := h.lA; rw [h.hA] at this; simpa using this
 have hx : sok x := oE x (by rw [h.hE]; simp)
 have hy : sok y := oA y (by rw [h.hA]; simp)
 have i1 : E[pe.length]? = some x := by rw [h.hE]; simp
 have i2 : A[pa.length]? = some y := by rw [h.hA]; simp
 have n1 : E[pe.length + 1]? = re[0]? := by rw [h.hE, List.getElem?_append_right (by omega), show pe.length + 1 - pe.length = 1 by omega, lY]
 have n2 : A[pa.length + 1]? = ra[0]? := by rw [h.hA, List.getElem?_append_right (by omega), show pa.length + 1 - pa.length = 1 by omega, lY]
 have d1 : ∀ z, E[pe.length + 1]? = some z → z ≠ x := fun z hz e => by
  rw [n1] at hz
  have hm : z ∈ re := List.mem_of_getElem? hz
  rw [h.hE] at sE
  have := (List.pairwise_cons.mp (List.pairwise_append.mp sE).2.1).1 z hm
  rw [e] at this; exact sLt_irrefl _ this
 have d2 : ∀ z, A[pa.length + 1]? = some z → z ≠ y := fun z hz e => by
  rw [n2] at hz
  have hm : z ∈ ra := List.mem_of_getElem? hz
  rw [h.hA] at sA
  have := (List.pairwise_cons.mp (List.pairwise_append.mp sA).2.1).1 z hm
  rw [e] at this; exact sLt_irrefl _ this
 have q1 : xAssign (xSub (eVar 0) (eVar 2)) 6 st = some (some .next, st.set 6 (.str x)) := by simp [xAssign, sld_sub (show pe.length < 1000 by omega) h.r0 h.r2, i1]
 have q2 : xAssign (xSub (eVar 1) (eVar 3)) 7 (st.set 6 (.str x)) = some (some .next, (st.set 6 (.str x)).set 7 (.str y)) := by
  simp [xAssign, sld_sub (st := st.set 6 (.str x)) (kl := 1) (ki := 3) (E := A) (show pa.length < 1000 by omega) h.r1 h.r3, i2]
 obtain ⟨st2, hst2⟩ : ∃ s, s = (st.set 6 (.str x)).set 7 (.str y) := ⟨_, rfl⟩
 rw [← hst2] at q2
 have h2 : SL2 E A pe (x :: re) pa (y :: ra) M U st2 := by rw [hst2]; exact ⟨h.hE, h.hA, h.lE, h.lA, h.r0, h.r1, h.r2, h.r3, h.r4, h.r5, h.hσ, h.lM, h.lU⟩
 have w6 : st2.ρ 6 = some (.str x) := by rw [hst2]; rfl
 have w7 : st2.ρ 7 = some (.str y) := by rw [hst2]; rfl
 have t1 : b2 ltV (eVar 6) (eVar 7) st2 = some (decide (sLt x y)) := by simp only [b2, Mine.e2, eVar, w6, w7, oS, ltV, asBool]
 have t2 : b2 gtV (eVar 6) (eVar 7) st2 = some (decide (sLt y x)) := by simp only [b2, Mine.e2, eVar, w6, w7, oS, gtV, asBool]
 unfold sldX
 rw [xSeq_eq q1, xSeq_eq q2]
 by_cases c : sLt x y
 ·-- the lesser is expected's
  have a1 : xS (sAppend 4 (eVar 6)) st2 = some (some .next, { st2 with σ := [.list ((M ++ [x]).map .str), .list (U.map .str)] }) := by
   have v4 : eVar 4 st2 = some (.ref 0) := h2.r4
   have v6 : eVar 6 st2 = some (.str x) := w6
   simp only [xS, sAppend, v4, v6, oS, h2.hσ, lZ]
   rw [if_pos (by have := h.lM; simp; omega)]; simp
  have a2 : xS (sAug 2 addV (eInt 1)) { st2 with σ := [.list ((M ++ [x]).map .str), .list (U.map .str)] } = some (some .next, MSt.set { st2 with σ := [.list ((M ++ [x]).map .str), .list (U.map .str)] } 2 (natI (pe.length + 1))) := by
   simp only [xS, aug_nat (st := { st2 with σ := [.list ((M ++ [x]).map .str), .list (U.map .str)] }) (k := 2) h2.r2, oP]
  obtain ⟨st4, hst4⟩ : ∃ s, s = MSt.set { st2 with σ := [.list ((M ++ [x]).map .str), .list (U.map .str)] } 2 (natI (pe.length + 1)) := ⟨_, rfl⟩
  rw [← hst4] at a2
  have h4 : SL2 E A (pe ++ [x]) re pa (y :: ra) (M ++ [x]) U st4 := by
   rw [hst4]
   exact ⟨by rw [h.hE]; simp, h.hA, h.lE, h.lA, h2.r0, h2.r1, by rw [List.length_append]; rfl, h2.r3, h2.r4, h2.r5, rfl, by have := h.lM; simp; omega, h.lU⟩
  have w64 : st4.ρ 6 = some (.str x) := by rw [hst4]; exact w6
  have a3 := sld_skip (kl := 0) (ki := 2) (ke := 6) (E := E) (i := pe.length + 1) (x := x) (B := xSeq (xS (sAug 2 addV (eInt 1))) (xS sNil)) (st := st4) (by omega) h4.r0 (by have := h4.r2; rw [List.length_append] at this; exact this) w64 hx oE d1
  refine ⟨if E[pe.length + 1]? = none then none else some .next, st4, pe ++ [x], re, pa, y :: ra, M ++ [x], U, ?_, h4, fun ho => ?_, ?_, .inl ⟨c, rfl, rfl, rfl, rfl⟩⟩
  ·refine xSeq_end ?_ (two_ways _)
   rw [xIf_true (by rw [t1, decide_eq_true c]), xSeq_eq a1, xSeq_eq a2]
   exact xSeq_end a3 (two_ways _)
  ·by_cases e : E[pe.length + 1]? = none
   ·rw [n1] at e
    left
    cases re with
    | nil => rfl
    | cons _ _ => (injection e; done)
   ·exact (ng ho (if_neg e)).elim
  ·by_cases e : E[pe.length + 1]? = none
   ·left; rw [if_pos e]
   ·right; rw [if_neg e]
 ·by_cases d : sLt y x
  ·have a1 : xS (sAppend 5 (eVar 7)) st2 = some (some .next, { st2 with σ := [.list (M.map .str), .list ((U ++ [y]).map .str)] }) := by
    have v5 : eVar 5 st2 = some (.ref 1) := h2.r5
    have v7 : eVar 7 st2 = some (.str y) := w7
    simp only [xS, sAppend, v5, v7, oS, h2.hσ, lY, lZ]
    rw [if_pos (by have := h.lU; simp; omega)]; simp
   have a2 : xS (sAug 3 addV (eInt 1)) { st2 with σ := [.list (M.map .str), .list ((U ++ [y]).map .str)] } = some (some .next, MSt.set { st2 with σ := [.list (M.map .str), .list ((U ++ [y]).map .str)] } 3 (natI (pa.length + 1))) := by
    simp only [xS, aug_nat (st := { st2 with σ := [.list (M.map .str), .list ((U ++ [y]).map .str)] }) (k := 3) h2.r3, oP]
   obtain ⟨st4, hst4⟩ : ∃ s, s = MSt.set { st2 with σ := [.list (M.map .str), .list ((U ++ [y]).map .str)] } 3 (natI (pa.length + 1)) := ⟨_, rfl⟩
   rw [← hst4] at a2
   have h4 : SL2 E A pe (x :: re) (pa ++ [y]) ra M (U ++ [y]) st4 := by
    rw [hst4]
    exact ⟨h.hE, by rw [h.hA]; simp, h.lE, h.lA, h2.r0, h2.r1, h2.r2, by rw [List.length_append]; rfl, h2.r4, h2.r5, rfl, h.lM, by have := h.lU; simp; omega⟩
   have w74 : st4.ρ 7 = some (.str y) := by rw [hst4]; exact w7
   have a3 := sld_skip (kl := 1) (ki := 3) (ke := 7) (E := A) (i := pa.length + 1) (x := y) (B := xSeq (xS (sAug 3 addV (eInt 1))) (xS sNil)) (st := st4) (by omega) h4.r1 (by have := h4.r3; rw [List.length_append] at this; exact this) w74 hy oA d2
   refine ⟨if A[pa.length + 1]? = none then none else some .next, st4, pe, x :: re, pa ++ [y], ra, M, U ++ [y], ?_, h4, fun ho => ?_, two_ways _, .inr (.inl ⟨c, d, rfl, rfl, rfl, rfl⟩)⟩
   ·refine xSeq_end ?_ (two_ways _)
    rw [xIf_false (by rw [t1, decide_eq_false c])]
    refine xSeq_end ?_ (two_ways _)
    rw [xIf_true (by rw [t2, decide_eq_true d]), xSeq_eq a1, xSeq_eq a2]
    exact xSeq_end a3 (two_ways _)
   ·by_cases e : A[pa.length + 1]? = none
    ·rw [n2] at e
     right
     cases ra with
     | nil => rfl
     | cons _ _ => (injection e; done)
    ·exact (ng ho (if_neg e)).elim
  ·have a2 : xS (sAug 2 addV (eInt 1)) st2 = some (some .next, MSt.set st2 2 (natI (pe.length + 1))) := by
    simp only [xS, aug_nat (k := 2) h2.r2, oP]
   obtain ⟨st3, hst3⟩ : ∃ s, s = MSt.set st2 2 (natI (pe.length + 1)) := ⟨_, rfl⟩
   rw [← hst3] at a2
   have a4 : xS (sAug 3 addV (eInt 1)) st3 = some (some .next, MSt.set st3 3 (natI (pa.length + 1))) := by
    simp only [xS, aug_nat (st := st3) (k := 3) (n := pa.length) (by rw [hst3]; exact h2.r3), oP]
   obtain ⟨st4, hst4⟩ : ∃ s, s = MSt.set st3 3 (natI (pa.length + 1)) := ⟨_, rfl⟩
   rw [← hst4] at a4
   have r03 : st3.ρ 0 = some (.lst (E.map .str)) := by rw [hst3]; exact h2.r0
   have h4 : SL2 E A (pe ++ [x]) re (pa ++ [y]) ra M U st4 := by
    rw [hst4, hst3]
    exact ⟨by rw [h.hE]; simp, by rw [h.hA]; simp, h.lE, h.lA, h2.r0, h2.r1, by rw [List.length_append]; rfl, by rw [List.length_append]; rfl, h2.r4, h2.r5, h2.hσ, by have := h.lM; simp; omega, by have := h.lU; simp; omega⟩
   have w63 : st3.ρ 6 = some (.str x) := by rw [hst3]; exact w6
   have w74 : st4.ρ 7 = some (.str y) := by rw [hst4, hst3]; exact w7
   have a3 := sld_skip (kl := 0) (ki := 2) (ke := 6) (E := E) (i := pe.length + 1) (x := x) (B := xSeq (xS (sAug 2 addV (eInt 1))) (xS sNil)) (st := st3) (by omega) r03 (by rw [hst3]; rfl) w63 hx oE d1
   have a5 := sld_skip (kl := 1) (ki := 3) (ke := 7) (E := A) (i := pa.length + 1) (x := y) (B := xSeq (xS (sAug 3 addV (eInt 1))) (xS sNil)) (st := st4) (by omega) h4.r1 (by have := h4.r3; rw [List.length_append] at this; exact this) w74 hy oA d2
   have fin : xSeq (xS (sAug 3 addV (eInt 1))) (xSeq (xWhile (xB2 eqV (xSub (eVar 1) (eVar 3)) (eVar 7)) (xSeq (xS (sAug 3 addV (eInt 1))) (xS sNil))) (xS sNil)) st3 = some (if A[pa.length + 1]? = none then none else some .next, st4) := by
    rw [xSeq_eq a4]
    exact xSeq_end a5 (two_ways _)
   have tf : xTryFin (xSeq (xWhile (xB2 eqV (xSub (eVar 0) (eVar 2)) (eVar 6)) (xSeq (xS (sAug 2 addV (eInt 1))) (xS sNil))) (xS sNil)) (xSeq (xS (sAug 3 addV (eInt 1))) (xSeq (xWhile (xB2 eqV (xSub (eVar 1) (eVar 3)) (eVar 7)) (xSeq (xS (sAug 3 addV (eInt 1))) (xS sNil))) (xS sNil))) st3 = some (if E[pe.length + 1]? = none ∨ A[pa.length + 1]? = none then none else some .next, st4) := by
    unfold xTryFin
    rw [xSeq_end a3 (two_ways _)]
    by_cases g1 : E[pe.length + 1]? = none <;> by_cases g2 : A[pa.length + 1]? = none <;> simp [g1, g2, fin]
   refine ⟨if E[pe.length + 1]? = none ∨ A[pa.length + 1]? = none then none else some .next, st4, pe ++ [x], re, pa ++ [y], ra, M, U, ?_, h4, fun ho => ?_, two_ways _, .inr (.inr ⟨c, d, rfl, rfl, rfl, rfl⟩)⟩
   ·refine xSeq_end ?_ (two_ways _)
    rw [xIf_false (by rw [t1, decide_eq_false c])]
    refine xSeq_end ?_ (two_ways _)
    rw [xIf_false (by rw [t2, decide_eq_false d]), xSeq_eq a2]
    exact xSeq_end tf (two_ways _)
   ·by_cases e : E[pe.length + 1]? = none ∨ A[pa.length + 1]? = none
    ·rcases e with e | e
     ·rw [n1] at e
      left
      cases re with
      | nil => rfl
      | cons _ _ => (injection e; done)
     ·rw [n2] at e
      right
      cases ra with
      | nil => rfl
      | cons _ _ => (injection e; done)
    ·exact (ng ho (if_neg e)).elim
theorem sld_loop {E A : List Str} (sE : E.Pairwise sLt) (sA : A.Pairwise sLt) (oE : ∀ z ∈ E, sok z) (oA : ∀ z ∈ A, sok z) : ∀ (n : Nat) (pe re pa ra M U : List Str) (st : MSt), re.length + ra.length < n → SL2 E A pe re pa ra M U st →
  ∃ st', mwhile (bE (eBool true)) sldBody n st = some (.next, st') ∧ st'.ρ 4 = some (.ref 0) ∧ st'.ρ 5 = some (.ref 1) ∧ st'.σ = [.list ((M ++ (diffL re ra).1).map .str), .list ((U ++ (diffL re ra).2).map .str)] := by
 intro n
 induction n with
 | zero => intro pe re pa ra M U st hn; omega
 | succ n ih =>
  intro pe re pa ra M U st hn h
  have tst : bE (eBool true) st = some true := rfl
  have stop : ∀ (st1 : MSt) (pe' re' pa' ra' M' U' : List Str), SL2 E A pe' re' pa' ra' M' U' st1 → sldX st = some (none, st1) → ∃ st', mwhile (bE (eBool true)) sldBody (n + 1) st = some (.next, st') ∧ st'.ρ 4 = some (.ref 0) ∧ st'.ρ 5 = some (.ref 1) ∧ st'.σ = [.list ((M' ++ re').map .str), .list ((U' ++ ra').map .str)] := by
   intro st1 pe' re' pa' ra' M' U' h1 hX
   obtain ⟨st', g1, g2, g3, g4⟩ := sld_handler h1
   refine ⟨st', ?_, g2, g3, g4⟩
   simp [mwhile_n, mwhile_c, tst, sldBody, sSeq, xTryEx, hX, g1]
  cases re with
  | nil =>
   have hX : sldX st = some (none, st) := by
    unfold sldX
    have : E[pe.length]? = none := by rw [h.hE]; simp
    refine xSeq_stop ?_
    have hl : pe.length < 1000 := by have := h.lE; rw [h.hE] at this; simp at this; omega
    simp [xAssign, sld_sub hl h.r0 h.r2, this]
   obtain ⟨st', g1, g2, g3, g4⟩ := stop st _ _ _ _ _ _ h hX
   exact ⟨st', g1, g2, g3, by rw [g4, diffL_nil]⟩
  | cons x re =>
   cases ra with
   | nil =>
    have hl : pe.length < 1000 := by have := h.lE; rw [h.hE] at this; simp at this; omega
    have hl2 : pa.length < 1000 := by have := h.lA; rw [h.hA] at this; simp at this; omega
    have e1 : E[pe.length]? = some x := by rw [h.hE]; simp
    have e2 : A[pa.length]? = none := by rw [h.hA]; simp
    have hX : sldX st = some (none, st.set 6 (.str x)) := by
     unfold sldX
     rw [xSeq_eq (st1 := st.set 6 (.str x)) (by simp [xAssign, sld_sub hl h.r0 h.r2, e1])]
     refine xSeq_stop ?_
     simp [xAssign, sld_sub (st := st.set 6 (.str x)) (kl := 1) (ki := 3) (E := A) hl2 h.r1 h.r3, e2]
    obtain ⟨st', g1, g2, g3, g4⟩ := stop _ _ _ _ _ _ _ (⟨h.hE, h.hA, h.lE, h.lA, h.r0, h.r1, h.r2, h.r3, h.r4, h.r5, h.hσ, h.lM, h.lU⟩ : SL2 E A pe (x :: re) pa [] M U (st.set 6 (.str x))) hX
    exact ⟨st', g1, g2, g3, by rw [g4, diffL_nil2]⟩
   | cons y ra =>
    obtain ⟨o, st1, pe', re', pa', ra', M', U', hX, h1, ho, ho2, hc⟩ := sld_turn h sE sA oE oA
    have fin : (M' ++ (diffL re' ra').1 = M ++ (diffL (x :: re) (y :: ra)).1) ∧ (U' ++ (diffL re' ra').2 = U ++ (diffL (x :: re) (y :: ra)).2) ∧ re'.length + ra'.length < n := by
     rw [diffL_cons]
     rcases hc with ⟨c, rfl, rfl, rfl, rfl⟩ | ⟨c, d, rfl, rfl, rfl, rfl⟩ | ⟨c, d, rfl, rfl, rfl, rfl⟩
     ·rw [if_pos c]; simp at hn ⊢; omega
     ·rw [if_neg c, if_pos d]; simp at hn ⊢; omega
     ·rw [if_neg c, if_neg d]; simp at hn ⊢; omega
    rcases ho2 with rfl | rfl
    ·obtain ⟨st', g1, g2, g3, g4⟩ := stop st1 _ _ _ _ _ _ h1 hX
     refine ⟨st', g1, g2, g3, ?_⟩
     rw [g4, ← fin.1, ← fin.2.1]
     rcases ho rfl with e | e
     ·subst e; rfl
     ·subst e; rw [diffL_nil2]
    ·obtain ⟨st', g1, g2, g3, g4⟩ := ih pe' re' pa' ra' M' U' st1 fin.2.2 h1
     refine ⟨st', ?_, g2, g3, by rw [g4, fin.1, fin.2.1]⟩
     simp [mwhile_n, mwhile_c, tst, sldBody, sSeq, xTryEx, hX, sNil]
     exact g1
theorem filter_congr' {l : List Str} {p q : Str → Bool} (h : ∀ x ∈ l, p x = q x) : l.filter p = l.filter q := List.filter_congr h
theorem diffL_filter : ∀ (n : Nat) (E A : List Str), E.length + A.length ≤ n → E.Pairwise sLt → A.Pairwise sLt → diffL E A = (E.filter (fun z => !A.contains z), A.filter (fun z => !E.contains z)) := by
 intro n
 induction n with
 | zero =>
  intro E A hn _ _
  have : E = [] := List.length_eq_zero_iff.mp (by omega)
  have : A = [] := List.length_eq_zero_iff.mp (by omega)
  subst_vars
  rfl
 | succ n ih =>
  intro E A hn sE sA
  cases E with
  | nil => simp [diffL_nil]; exact (List.filter_eq_self.mpr (by simp)).symm
  | cons x re =>
   cases A with
   | nil => simp [diffL_nil2]; exact (List.filter_eq_self.mpr (by simp)).symm
   | cons y ra =>
    obtain ⟨e1, e2⟩ := List.pairwise_cons.mp sE
    obtain ⟨a1, a2⟩ := List.pairwise_cons.mp sA
    rw [diffL_cons]
    by_cases c : sLt x y
    ·rw [if_pos c, ih re (y :: ra) (by simp at hn ⊢; omega) e2 sA]
     have hx : x ∉ y :: ra := fun hm => by
      rcases List.mem_cons.mp hm with h | h
      ·subst h; exact sLt_irrefl _ c
      ·exact sLt_asymm c (by have := a1 x h; exact this)
     have hx' : (y :: ra).contains x = false := by simpa using hx
     refine Prod.ext ?_ ?_
     ·dsimp only
      rw [List.filter_cons_of_pos (by rw [hx']; rfl)]
     dsimp only
     refine filter_congr' fun z hz => ?_
     have : z ≠ x := fun e => hx (e ▸ hz)
     simp [this]
    ·rw [if_neg c]
     by_cases d : sLt y x
     ·rw [if_pos d, ih (x :: re) ra (by simp at hn ⊢; omega) sE a2]
      have hy : y ∉ x :: re := fun hm => by
       rcases List.mem_cons.mp hm with h | h
       ·subst h; exact sLt_irrefl _ d
       ·exact sLt_asymm d (by have := e1 y h; exact this)
      have hy' : (x :: re).contains y = false := by simpa using hy
      refine Prod.ext ?_ ?_
      rotate_left
      ·dsimp only
       rw [List.filter_cons_of_pos (by rw [hy']; rfl)]
      dsimp only
      refine filter_congr' fun z hz => ?_
      have : z ≠ y := fun e => hy (e ▸ hz)
      simp [this]
     ·have hxy := sLt_tri c d
      subst hxy
      rw [if_neg d, ih re ra (by simp at hn ⊢; omega) e2 a2]
      have hx1 : ∀ z ∈ re, z ≠ x := fun z hz e => by have := e1 z hz; rw [e] at this; exact sLt_irrefl _ this
      have hx2 : ∀ z ∈ ra, z ≠ x := fun z hz e => by have := a1 z hz; rw [e] at this; exact sLt_irrefl _ this
      refine Prod.ext ?_ ?_
      ·dsimp only
       rw [List.filter_cons_of_neg (by simp)]
       exact filter_congr' fun z hz => by simp [hx1 z hz]
      ·dsimp only
       rw [List.filter_cons_of_neg (by simp)]
       exact filter_congr' fun z hz => by simp [hx2 z hz]
theorem sld_eq {E A : List Str} (sE : E.Pairwise sLt) (sA : A.Pairwise sLt) (oE : ∀ z ∈ E, sok z) (oA : ∀ z ∈ A, sok z) (lE : E.length ≤ 40) (lA : A.length ≤ 40) :
  s_sorted_list_difference [.lst (E.map .str), .lst (A.map .str)] = some (.tup [.lst ((E.filter (fun z => !A.contains z)).map .str), .lst ((A.filter (fun z => !E.contains z)).map .str)]) := by
 refine cps fun G hG => ?_
 obtain ⟨s0, hs0⟩ : ∃ s, s = start [.lst (E.map .str), .lst (A.map .str)] := ⟨_, rfl⟩
 have s1 : sAssign2 (eInt 0) (bName 2) (bName 3) s0 = some (.next, (s0.set 2 (.int 0)).set 3 (.int 0)) := rfl
 have s2 : sNewList 4 eNil ((s0.set 2 (.int 0)).set 3 (.int 0)) = some (.next, MSt.set ⟨((s0.set 2 (.int 0)).set 3 (.int 0)).ρ, [.list []]⟩ 4 (.ref 0)) := by
  simp [sNewList, eNil, MSt.set, hs0, start]
 have s3 : sNewList 5 eNil (MSt.set ⟨((s0.set 2 (.int 0)).set 3 (.int 0)).ρ, [.list []]⟩ 4 (.ref 0)) = some (.next, MSt.set ⟨(MSt.set ⟨((s0.set 2 (.int 0)).set 3 (.int 0)).ρ, [.list []]⟩ 4 (.ref 0)).ρ, [.list [], .list []]⟩ 5 (.ref 1)) := by
  simp [sNewList, eNil, MSt.set]
 obtain ⟨st1, hst1⟩ : ∃ s, s = MSt.set ⟨(MSt.set ⟨((s0.set 2 (.int 0)).set 3 (.int 0)).ρ, [.list []]⟩ 4 (.ref 0)).ρ, [.list [], .list []]⟩ 5 (.ref 1) := ⟨_, rfl⟩
 rw [← hst1] at s3
 have h : SL2 E A [] E [] A [] [] st1 := by
  rw [hst1, hs0]
  exact ⟨rfl, rfl, by omega, by omega, rfl, rfl, rfl, rfl, rfl, rfl, rfl, by simp, by simp⟩
 obtain ⟨st', g1, g2, g3, g4⟩ := sld_loop sE sA oE oA 100 [] E [] A [] [] st1 (by omega) h
 have s4 : sWhile (bE (eBool true)) sldBody st1 = some (.next, st') := g1
 rw [diffL_filter _ E A (Nat.le_refl _) sE sA] at g4
 refine hG ?_; clear hG
 unfold sldBody sldX sldH at s4
 unfold s_sorted_list_difference runFn m_sorted_list_difference
 rw [show packN 2 [MV.lst (E.map .str), .lst (A.map .str)] = some [MV.lst (E.map .str), .lst (A.map .str)] from rfl]
 simp only [oS]
 rw [← hs0, sSeq_eq s1, sSeq_eq s2, sSeq_eq s3, sSeq_eq s4]
 have v4 : eVar 4 st' = some (.ref 0) := g2
 have v5 : eVar 5 st' = some (.ref 1) := g3
 simp only [sSeq, sRet, eTup, eCons, eNil, v4, v5, oS, List.length_cons, List.length_nil, Nat.reduceAdd, Nat.reduceLeDiff, if_true, oP, fZ1, fZ2, fZ3, fZ4, fZ5, fZ6, fZ7, fZ8, fZs1, fZs2, g4, lZ, lY, noRefs_strs, List.nil_append]
section
noncomputable def spc : Str := single 32
theorem spc_eq : Str.ofString " " = spc := by decide +kernel
noncomputable def rowOf (T : Tr) (m k : Nat) : Str := (rowS m ++ spc) ++ path (T.P k)
theorem rowOf_list (T : Tr) (m k : Nat) : (rowOf T m k).cps.toList = rowL m ++ (32 :: (path (T.P k)).cps.toList) := by
 show ((((rowL m).toArray ++ #[32]) ++ (path (T.P k)).cps)).toList = _
 simp
theorem rowL_len (m : Nat) : (rowL m).length = 10 := rfl
theorem rowOf_inj {T : Tr} {a b k l : Nat} (hk : k < 8) (hl : l < 8) (h : rowOf T a k = rowOf T b l) : rowL a = rowL b ∧ k = l := by
 have e : (rowOf T a k).cps.toList = (rowOf T b l).cps.toList := by rw [h]
 rw [rowOf_list, rowOf_list] at e
 obtain ⟨e1, e2⟩ := List.append_inj e (by rw [rowL_len, rowL_len])
 simp only [List.cons.injEq, true_and] at e2
 exact ⟨e1, T.inj hk hl (path_inj (str_ext e2))⟩
theorem rowOf_congr {T : Tr} {a b k : Nat} (h : rowL a = rowL b) : rowOf T a k = rowOf T b k := by unfold rowOf rowS; rw [h]
theorem chX_inj {S s : Nat} (h : (S = 83 ∧ s = 115) ∨ (S = 84 ∧ s = 116)) {x sp y sq : Bool} (e : chX S s x sp = chX S s y sq) : x = y ∧ sp = sq := by
 rcases h with ⟨rfl, rfl⟩ | ⟨rfl, rfl⟩ <;> revert e <;> cases x <;> cases sp <;> cases y <;> cases sq <;> decide
theorem ite_inj {a b : Bool} {c : Nat} (hc : c ≠ 45) (e : (if a then c else 45) = if b then c else 45) : a = b := by
 cases a <;> cases b <;> simp_all
theorem lt12 : ∀ i, i < 12 → i = 0 ∨ i = 1 ∨ i = 2 ∨ i = 3 ∨ i = 4 ∨ i = 5 ∨ i = 6 ∨ i = 7 ∨ i = 8 ∨ i = 9 ∨ i = 10 ∨ i = 11 := by decide
theorem rowL_low {a b : Nat} (h : rowL a = rowL b) : a % 4096 = b % 4096 := by
 unfold rowL at h
 simp only [List.cons.injEq, and_true] at h
 refine cps fun G hG => ?_
 obtain ⟨_, h8, h7, h6, h5, h4, h3, h2, h1, h0⟩ := h
 have g8 := ite_inj (by decide) h8
 have g7 := ite_inj (by decide) h7
 have g5 := ite_inj (by decide) h5
 have g4 := ite_inj (by decide) h4
 have g2 := ite_inj (by decide) h2
 have g1 := ite_inj (by decide) h1
 have g6 := chX_inj (.inl ⟨rfl, rfl⟩) h6
 have g3 := chX_inj (.inl ⟨rfl, rfl⟩) h3
 have g0 := chX_inj (.inr ⟨rfl, rfl⟩) h0
 refine hG ?_; clear hG
 apply Nat.eq_of_testBit_eq
 intro i
 rw [show (4096 : Nat) = 2 ^ 12 by decide, Nat.testBit_mod_two_pow, Nat.testBit_mod_two_pow, ← tb_testBit, ← tb_testBit]
 by_cases hi : i < 12
 ·rcases lt12 i hi with rfl | rfl | rfl | rfl | rfl | rfl | rfl | rfl | rfl | rfl | rfl | rfl
  ·rw [g0.1]
  ·rw [g1]
  ·rw [g2]
  ·rw [g3.1]
  ·rw [g4]
  ·rw [g5]
  ·rw [g6.1]
  ·rw [g7]
  ·rw [g8]
  ·rw [g0.2]
  ·rw [g3.2]
  ·rw [g6.2]
 ·simp [hi]
theorem rowL_mod (n : Nat) : rowL (n % 65536) = rowL n := by
 have h := rowS_mod n
 have e : (rowS (n % 65536)).cps.toList = (rowS n).cps.toList := by rw [h]
 exact e
theorem xor_low (a b : Nat) (hb : b < 4096) : a ^^^ b = a / 4096 * 4096 + ((a % 4096) ^^^ b) := by
 have h1 : (a ^^^ b) % 2 ^ 12 = (a % 2 ^ 12) ^^^ (b % 2 ^ 12) := Nat.xor_mod_two_pow
 have h2 : (a ^^^ b) / 2 ^ 12 = a / 2 ^ 12 := by
  apply Nat.eq_of_testBit_eq
  intro i
  rw [Nat.testBit_div_two_pow, Nat.testBit_xor, Nat.testBit_div_two_pow]
  have : b.testBit (i + 12) = false := Nat.testBit_lt_two_pow (Nat.lt_of_lt_of_le hb (by rw [show (4096 : Nat) = 2 ^ 12 by decide]; exact Nat.pow_le_pow_right (by omega) (by omega)))
  rw [this]; simp
 have h3 := Nat.div_add_mod (a ^^^ b) (2 ^ 12)
 rw [h1, h2, Nat.mod_eq_of_lt (a := b) (by simpa using hb)] at h3
 rw [← h3, Nat.mul_comm]
theorem turned (m q : Nat) : (m &&& 61440) + ((m &&& 4095) ^^^ (q &&& 4095)) = (m % 65536) ^^^ (q % 4096) := by
 rw [and_fmt, and_mode, and_mode, xor_low (m % 65536) (q % 4096) (Nat.mod_lt _ (by omega))]
 have h1 : m % 65536 / 4096 = m / 4096 % 16 := Nat.mod_mul_right_div_self m 4096 16
 have h2 : m % 65536 % 4096 = m % 4096 := Nat.mod_mul_right_mod m 4096 16
 rw [h1, h2]
theorem xor_zero_low {a b : Nat} (hb : b < 4096) (h : (a ^^^ b) % 4096 = a % 4096) : b = 0 := by
 have h1 : (a ^^^ b) % 2 ^ 12 = (a % 2 ^ 12) ^^^ (b % 2 ^ 12) := Nat.xor_mod_two_pow
 simp only [Nat.reducePow] at h1
 rw [h, Nat.mod_eq_of_lt hb] at h1
 have h2 : (a % 4096) ^^^ (a % 4096) = (a % 4096) ^^^ ((a % 4096) ^^^ b) := by rw [← h1]
 rw [Nat.xor_self, ← Nat.xor_assoc, Nat.xor_self, Nat.zero_xor] at h2
 exact h2.symm
namespace Tr
variable (T : Tr)
noncomputable def meet (i j : Nat) : Nat := ((lcp (T.P i) (T.P j)).getLast?).getD 0
theorem meet_spec {i j : Nat} (hi : i < 8) (hj : j < 8) : T.meet i j < 8 ∧ lcp (T.P i) (T.P j) = T.P (T.meet i j) := by
 obtain ⟨m, hm, h⟩ := T.exists_meet hi hj
 have : T.meet i j = m := by
  unfold meet
  rw [h]
  by_cases h0 : m = 0
  ·subst h0; rw [T.P0]; rfl
  ·rw [T.last (by omega) hm]; rfl
 rw [this]
 exact ⟨hm, h⟩
noncomputable def on (i j k : Nat) : Bool := decide (k = T.meet i j) || (decide (T.anc k i) != decide (T.anc k j))
theorem mem_below {m : Nat} (hm : m < 8) : ∀ (f k : Nat), k < 8 → k < f → T.anc m k → ∀ x, x ∈ T.belowF m f k ↔ (x < 8 ∧ T.anc x k ∧ ¬ T.anc x m)
 | 0, k, _, hf, _, x => by omega
 | f + 1, k, hk, hf, ha, x => by
  unfold belowF
  by_cases h : k = m
  ·subst h
   simp
  ·have h0 : k ≠ 0 := fun e => by
    subst e
    exact h (T.anc_zero.mp ha).symm
   have hab := T.hlt k (by omega) hk
   have ha' : T.anc m (T.ab k) := ((T.anc_ab (by omega) hk).mp ha).resolve_left (fun e => h e.symm)
   rw [if_neg h, List.mem_cons, mem_below hm f (T.ab k) (by omega) (by omega) ha', T.anc_ab (by omega) hk (k := x)]
   constructor
   ·rintro (rfl | ⟨h1, h2, h3⟩)
    ·exact ⟨hk, .inl rfl, fun e => by have := T.anc_le hm e; have := T.anc_le hk ha; omega⟩
    ·exact ⟨h1, .inr h2, h3⟩
   ·rintro ⟨h1, h2 | h2, h3⟩
    ·exact .inl h2
    ·exact .inr ⟨h1, h2, h3⟩
theorem below_nodup {m : Nat} (hm : m < 8) : ∀ (f k : Nat), k < 8 → k < f → T.anc m k → (T.belowF m f k).Nodup
 | 0, k, _, hf, _ => by omega
 | f + 1, k, hk, hf, ha => by
  unfold belowF
  by_cases h : k = m
  ·rw [if_pos h]; simp
  ·rw [if_neg h]
   have h0 : k ≠ 0 := fun e => by
    subst e
    exact h (T.anc_zero.mp ha).symm
   have hab := T.hlt k (by omega) hk
   have ha' : T.anc m (T.ab k) := ((T.anc_ab (by omega) hk).mp ha).resolve_left (fun e => h e.symm)
   refine List.nodup_cons.mpr ⟨fun hx => ?_, below_nodup hm f (T.ab k) (by omega) (by omega) ha'⟩
   have h1 := ((T.mem_below hm f (T.ab k) (by omega) (by omega) ha' k).mp hx).2.1
   have := T.anc_le (by omega) h1
   omega
theorem mem_way {i j : Nat} (hi : i < 8) (hj : j < 8) (x : Nat) : x ∈ T.way (T.meet i j) i j ↔ x < 8 ∧ T.on i j x = true := by
 obtain ⟨hm, hp⟩ := T.meet_spec hi hj
 have hA := fun k (hk : k < 8) => T.anc_meet (k := k) hi hj hm hp hk
 obtain ⟨mi, mj⟩ := (hA _ hm).mp (T.anc_self hm)
 unfold way on
 rw [List.mem_cons, List.mem_append, T.mem_below hm 8 i hi (by omega) mi, T.mem_below hm 8 j hj (by omega) mj]
 simp only [Bool.or_eq_true, decide_eq_true_eq, bne_iff_ne, ne_eq, decide_eq_decide]
 constructor
 ·rintro (rfl | ⟨h1, h2, h3⟩ | ⟨h1, h2, h3⟩)
  ·exact ⟨hm, .inl rfl⟩
  ·exact ⟨h1, .inr (fun e => h3 ((hA x h1).mpr ⟨h2, e.mp h2⟩))⟩
  ·exact ⟨h1, .inr (fun e => h3 ((hA x h1).mpr ⟨e.mpr h2, h2⟩))⟩
 ·rintro ⟨h1, rfl | h2⟩
  ·exact .inl rfl
  ·by_cases hi' : T.anc x i
   ·exact .inr (.inl ⟨h1, hi', fun e => h2 ⟨fun _ => ((hA x h1).mp e).2, fun _ => hi'⟩⟩)
   ·by_cases hj' : T.anc x j
    ·exact .inr (.inr ⟨h1, hj', fun e => hi' ((hA x h1).mp e).1⟩)
    ·exact absurd ⟨fun e => absurd e hi', fun e => absurd e hj'⟩ h2
theorem way_nodup {i j : Nat} (hi : i < 8) (hj : j < 8) : (T.way (T.meet i j) i j).Nodup := by
 obtain ⟨hm, hp⟩ := T.meet_spec hi hj
 have hA := fun k (hk : k < 8) => T.anc_meet (k := k) hi hj hm hp hk
 obtain ⟨mi, mj⟩ := (hA _ hm).mp (T.anc_self hm)
 unfold way
 refine List.nodup_cons.mpr ⟨fun h => ?_, List.nodup_append.mpr ⟨T.below_nodup hm 8 i hi (by omega) mi, T.below_nodup hm 8 j hj (by omega) mj, fun a ha b hb e => ?_⟩⟩
 ·rw [List.mem_append, T.mem_below hm 8 i hi (by omega) mi, T.mem_below hm 8 j hj (by omega) mj] at h
  rcases h with h | h <;> exact h.2.2 (T.anc_self hm)
 ·subst e
  rw [T.mem_below hm 8 i hi (by omega) mi] at ha
  rw [T.mem_below hm 8 j hj (by omega) mj] at hb
  exact ha.2.2 ((hA a ha.1).mpr ⟨ha.2.1, hb.2.1⟩)
theorem meet_zero {i j : Nat} (hi : i < 8) (hj : j < 8) : T.on i j (T.meet i j) = true := by simp [on]
end Tr
end
noncomputable def rowsOf (T : Tr) (N : Nat → Nat) : List Str := (List.range 8).map fun k => rowOf T (N k) k
noncomputable def strsM (l : List Str) : MV := .lst (l.map .str)
noncomputable abbrev Turn : Type := Nat × Nat × Nat
noncomputable def turnN (T : Tr) (t : Turn) (N : Nat → Nat) : Nat → Nat := fun k => if T.on t.1 t.2.1 k = true then (N k % 65536) ^^^ (t.2.2 % 4096) else N k
noncomputable def touched (T : Tr) (t : Turn) : List Nat := (List.range 8).filter fun k => decide (0 < t.2.2 % 4096) && T.on t.1 t.2.1 k
noncomputable def entry (T : Tr) (t : Turn) (N : Nat → Nat) : MV := .lst [.tup [strsM (sortS ((touched T t).map fun k => rowOf T (N k) k)), strsM (sortS ((touched T t).map fun k => rowOf T (turnN T t N k) k))], strsM (sortS (rowsOf T N)), strsM (sortS (rowsOf T (turnN T t N))), pathI (T.P (T.meet t.1 t.2.1))]
theorem mem_rows {T : Tr} {N : Nat → Nat} {k m : Nat} (hk : k < 8) : rowOf T m k ∈ rowsOf T N ↔ rowL (N k) = rowL m := by
 unfold rowsOf
 rw [List.mem_map]
 constructor
 ·rintro ⟨l, hl, h⟩
  obtain ⟨h1, h2⟩ := rowOf_inj (List.mem_range.mp hl) hk h
  subst h2
  exact h1
 ·intro h
  exact ⟨k, List.mem_range.mpr hk, rowOf_congr h⟩
theorem gone {T : Tr} {N N' : Nat → Nat} {p : Nat → Bool} (h : ∀ k, k < 8 → (p k = true ↔ rowL (N' k) ≠ rowL (N k))) :
  (sortS (rowsOf T N)).filter (fun z => !(sortS (rowsOf T N')).contains z) = sortS (((List.range 8).filter p).map fun k => rowOf T (N k) k) := by
 refine rise_unique ?_ ((sortS_rise _).sublist List.filter_sublist) (sortS_rise _)
 refine ((sortS_perm _).filter _).trans (List.Perm.trans ?_ (sortS_perm _).symm)
 rw [show (rowsOf T N) = (List.range 8).map fun k => rowOf T (N k) k from rfl, List.filter_map]
 refine List.Perm.of_eq (congrArg _ (List.filter_congr fun k hk => ?_))
 have hk := List.mem_range.mp hk
 rw [Bool.eq_iff_iff, h k hk, ne_eq, ← mem_rows (T := T) hk (N := N') (m := N k)]
 show (!(sortS (rowsOf T N')).contains (rowOf T (N k) k)) = true ↔ _
 rw [Bool.not_eq_true', ← Bool.not_eq_true, List.contains_iff_mem, (sortS_perm _).mem_iff]
theorem rows_nodup (T : Tr) (N : Nat → Nat) : (rowsOf T N).Nodup := by
 unfold rowsOf
 rw [List.nodup_iff_pairwise_ne, List.pairwise_map]
 refine List.Pairwise.imp_of_mem (R := fun a b => a ≠ b) (fun {a b} ha hb hne e => ?_) (List.nodup_range (n := 8))
 exact hne (rowOf_inj (List.mem_range.mp ha) (List.mem_range.mp hb) e).2
theorem strict_of {l : List Str} (h : l.Nodup) : (sortS l).Pairwise sLt := by
 have h1 := (sortS_perm l).nodup_iff.mpr h
 have h2 := sortS_rise l
 refine (h1.and h2).imp fun {a b} hab => ?_
 by_cases c : sLt a b
 ·exact c
 ·exact absurd (sLt_tri c hab.2) hab.1
theorem sok_app {x y : Str} (hx : sok x) (hy : sok y) : sok (x ++ y) := by
 unfold sok PyData.strOk at *
 show (x.cps ++ y.cps).all _ = true
 rw [Array.all_append, hx, hy]; rfl
theorem typC_lt (t : Nat) : typC t < 200 := by unfold typC; (repeat' split) <;> omega
theorem chX_lt {S s : Nat} (h1 : S < 200) (h2 : s < 200) (x sp : Bool) : chX S s x sp < 200 := by
 unfold chX; cases x <;> cases sp <;> simp <;> omega
theorem rowS_sok (m : Nat) : sok (rowS m) := by
 unfold sok PyData.strOk
 show (rowL m).toArray.all _ = true
 rw [List.all_toArray]
 have hi : ∀ (b : Bool) (c : Nat), c < 200 → (if b then c else 45) < 200 := fun b c h => by cases b <;> simp <;> omega
 have := typC_lt (m / 4096 % 16)
 (dsimp only [rowL, List.all_cons, List.all_nil]; simp only [rowL, List.all_cons, List.all_nil, Bool.and_true, Bool.and_eq_true, decide_eq_true_eq])
 refine ⟨?_, ?_, ?_, ?_, ?_, ?_, ?_, ?_, ?_, ?_⟩
 ·omega
 all_goals first
  | exact Nat.lt_trans (hi _ _ (by omega)) (by omega)
  | exact Nat.lt_trans (chX_lt (by omega) (by omega) _ _) (by omega)
theorem spc_sok : sok spc := by decide +kernel
theorem row_sok {T : Tr} {m k : Nat} (hk : k < 8) : sok (rowOf T m k) := sok_app (sok_app (rowS_sok m) spc_sok) (path_sok (T.mem_subs hk))
theorem rows_sok {T : Tr} {N : Nat → Nat} : ∀ z ∈ sortS (rowsOf T N), sok z := fun z hz => by
 rw [(sortS_perm _).mem_iff] at hz
 unfold rowsOf at hz
 rw [List.mem_map] at hz
 obtain ⟨k, hk, rfl⟩ := hz
 exact row_sok (List.mem_range.mp hk)
theorem rows_len {T : Tr} {N : Nat → Nat} : (sortS (rowsOf T N)).length = 8 := by rw [(sortS_perm _).length_eq]; simp [rowsOf]
theorem turn_row {T : Tr} {t : Turn} {N : Nat → Nat} {k : Nat} : (decide (0 < t.2.2 % 4096) && T.on t.1 t.2.1 k) = true ↔ rowL (turnN T t N k) ≠ rowL (N k) := by
 unfold turnN
 by_cases h : T.on t.1 t.2.1 k = true
 ·rw [if_pos h, h, Bool.and_true, decide_eq_true_eq]
  by_cases hz : t.2.2 % 4096 = 0
  ·rw [hz, Nat.xor_zero, rowL_mod]
   simp
  ·refine ⟨fun _ e => hz ?_, fun _ => Nat.pos_of_ne_zero hz⟩
   have := rowL_low e
   have e2' : N k % 4096 = N k % 65536 % 4096 := (Nat.mod_mul_right_mod (N k) 4096 16).symm
   rw [e2'] at this
   exact xor_zero_low (Nat.mod_lt _ (by omega)) this
 ·rw [if_neg h]
  simp [h]
theorem answer_eq (T : Tr) (t : Turn) (N : Nat → Nat) :
  s_sorted_list_difference [strsM (sortS (rowsOf T N)), strsM (sortS (rowsOf T (turnN T t N)))] = some (.tup [strsM (sortS ((touched T t).map fun k => rowOf T (N k) k)), strsM (sortS ((touched T t).map fun k => rowOf T (turnN T t N k) k))]) := by
 unfold strsM
 rw [sld_eq (strict_of (rows_nodup T N)) (strict_of (rows_nodup T _)) rows_sok rows_sok (by rw [rows_len]; omega) (by rw [rows_len]; omega)]
 unfold touched
 rw [gone (T := T) (N := N) (N' := turnN T t N) fun k _ => turn_row, gone (T := T) (N := turnN T t N) (N' := N) (p := fun k => decide (0 < t.2.2 % 4096) && T.on t.1 t.2.1 k) fun k _ => (turn_row (N := N)).trans ⟨fun h e => h e.symm, fun h e => h e.symm⟩]
theorem rows_congr {T : Tr} {N V : Nat → Nat} (h : ∀ k, k < 8 → rowL (N k) = rowL (V k)) : rowsOf T N = rowsOf T V := by
 unfold rowsOf
 refine List.map_congr_left fun k hk => rowOf_congr (h k (List.mem_range.mp hk))
noncomputable def paths8 (T : Tr) : List MV := (List.range 8).map fun k => pathI (T.P k)
noncomputable def turnsV (U : List Turn) : List MV := U.map fun t => .lst [natI t.1, natI t.2.1, natI t.2.2]
theorem mcomp_map {α : Type} {kx : Nat} {e : MSt → Option MV} {st : MSt} {f g : α → MV} : ∀ {L : List α}, (∀ k ∈ L, e (st.set kx (f k)) = some (g k)) → mcomp kx tTrue e st (L.map f) = some (L.map g)
 | [], _ => rfl
 | x :: L, h => by
  have h1 := h x (by simp)
  have h2 := mcomp_map (L := L) fun k hk => h k (by simp [hk])
  simp [mcomp_n, mcomp_c, tTrue, h1, h2]
theorem noRefs_map {α : Type} {f : α → MV} : ∀ {L : List α}, (∀ k ∈ L, noRef (f k) = true) → noRefs (L.map f) = true
 | [], _ => rfl
 | x :: L, h => by
  have h1 := h x (by simp)
  have h2 := noRefs_map (L := L) fun k hk => h k (by simp [hk])
  simp [nRs1, nRs2, h1, h2]
theorem strsOf_strs : ∀ l : List Str, strsOf (l.map .str) = some l
 | [] => rfl
 | x :: l => by simp [sO0, sO1, sO2, sO3, sO4, sO5, sO6, sO7, sO8, strsOf_strs l]
theorem paths8_noRefs (T : Tr) : noRefs (paths8 T) = true := noRefs_map fun _ _ => rfl
theorem turnsV_noRefs (U : List Turn) : noRefs (turnsV U) = true := noRefs_map fun _ _ => rfl
structure WK (T : Tr) (N : Nat → Nat) (b : Nat) (told : List MV) (st : MSt) : Prop where
 r0 : st.ρ 0 = some (.lst (paths8 T))
 r3 : st.ρ 3 = some (.ref 0)
 r4 : st.ρ 4 = some (.ref 1)
 r5 : st.ρ 5 = some (.ref 2)
 hσ : ∃ f n g m, st.σ = [.dict f n, .dict g m, .list told] ∧ n ≤ b ∧ m ≤ b ∧ (∀ k, k < 8 → f (path (T.P k)) = some (natI (N k))) ∧ (∀ k, k < 8 → g (path (T.P k)) = some (.str (rowOf T (N k) k)))
noncomputable def wkInner : MSt → Option (Out × MSt) := (sSeq (sSetItem (eVar 3) (eVar 11) (e2 addV (eCall s_S_IFMT (eCons (eSub (eVar 3) (eVar 11)) eNil)) (e2 xorV (eCall s_S_IMODE (eCons (eSub (eVar 3) (eVar 11)) eNil)) (eCall s_S_IMODE (eCons (eVar 8) eNil)))))
 (sSeq (sSetItem (eVar 4) (eVar 11) (e2 addV (e2 addV (eCall s_filemode (eCons (eSub (eVar 3) (eVar 11)) eNil)) (eStr " ")) (eVar 11)))
 sNil))
noncomputable def turn1 (q n : Nat) : Nat := (n % 65536) ^^^ (q % 4096)
theorem path_ne {T : Tr} {k x : Nat} (hk : k < 8) (hx : x < 8) : path (T.P k) = path (T.P x) ↔ k = x := ⟨fun e => T.inj hk hx (path_inj e), fun e => by rw [e]⟩
theorem row_join {T : Tr} {m x : Nat} (hx : x < 8) : ((addV (.str (rowS m)) (.str spc)).bind fun a => addV a (pathI (T.P x))) = some (.str (rowOf T m x)) := by
 have l1 : (rowS m).length = 10 := rfl
 have l2 : spc.length = 1 := rfl
 have l3 := path_len (T.mem_subs hx)
 rw [addV_str (by rw [l1, l2]; omega)]
 simp only [oS]
 rw [addV_str (by rw [len_app, l1, l2]; omega)]
 rfl
theorem wk_one {T : Tr} {N : Nat → Nat} {b q x : Nat} {told : List MV} {st : MSt} (h : WK T N b told st) (hx : x < 8) (hb : b < 900) (r11 : st.ρ 11 = some (pathI (T.P x))) (r8 : st.ρ 8 = some (natI q)) :
  ∃ st', wkInner st = some (.next, st') ∧ WK T (fun k => if k = x then turn1 q (N k) else N k) (b + 1) told st' ∧ st'.ρ = st.ρ := by
 refine cps fun G hG => ?_
 obtain ⟨f, n, g, m, hσ, hn, hm, hf, hg⟩ := h.hσ
 have v3 : eVar 3 st = some (.ref 0) := h.r3
 have v11 : eVar 11 st = some (pathI (T.P x)) := r11
 have v8 : eVar 8 st = some (natI q) := r8
 have n1 : eSub (eVar 3) (eVar 11) st = some (natI (N x)) := by
  simp only [eSub, v3, v11, oS, subE, subI, subS, dictOf', hσ, lZ]
  exact hf x hx
 have e1 : e2 addV (eCall s_S_IFMT (eCons (eSub (eVar 3) (eVar 11)) eNil)) (e2 xorV (eCall s_S_IMODE (eCons (eSub (eVar 3) (eVar 11)) eNil)) (eCall s_S_IMODE (eCons (eVar 8) eNil))) st = some (natI (turn1 q (N x))) := by
  have c1 : eCall s_S_IFMT (eCons (eSub (eVar 3) (eVar 11)) eNil) st = some (natI (N x &&& 61440)) := by
   simp only [eCall, eCons, n1, eNil, oS, nRs1, nRs2, nR1, nR2, nR3, nR4, nR5, nR6, nR7, nR8, Bool.and_self, if_true, ifmt_eq]
   rw [show (61440 : Int) = ((61440 : Nat) : Int) from rfl, bitAnd_nat]
  have c2 : eCall s_S_IMODE (eCons (eSub (eVar 3) (eVar 11)) eNil) st = some (natI (N x &&& 4095)) := by
   simp only [eCall, eCons, n1, eNil, oS, nRs1, nRs2, nR1, nR2, nR3, nR4, nR5, nR6, nR7, nR8, Bool.and_self, if_true, imode_eq]
   rw [show (4095 : Int) = ((4095 : Nat) : Int) from rfl, bitAnd_nat]
  have c3 : eCall s_S_IMODE (eCons (eVar 8) eNil) st = some (natI (q &&& 4095)) := by
   simp only [eCall, eCons, v8, eNil, oS, nRs1, nRs2, nR1, nR2, nR3, nR4, nR5, nR6, nR7, nR8, Bool.and_self, if_true, imode_eq]
   rw [show (4095 : Int) = ((4095 : Nat) : Int) from rfl, bitAnd_nat]
  rw [show ∀ a c d : MSt → Option MV, e2 addV a (e2 xorV c d) st = ((a st).bind fun u => (((c st).bind fun v => (d st).bind fun w => xorV v w)).bind fun z => addV u z) from fun _ _ _ => rfl, c1, c2, c3]
  simp only [oS, xorV, intOp, bitXor_nat, addV]
  refine congrArg (fun z => some (MV.int z)) ?_
  rw [← Int.natCast_add, turned]
  rfl
 let f' : Str → Option MV := fun y => if y = path (T.P x) then some (natI (turn1 q (N x))) else f y
 let st1 : MSt := { st with σ := [.dict f' (n + 1), .dict g m, .list told] }
 have s1 : sSetItem (eVar 3) (eVar 11) (e2 addV (eCall s_S_IFMT (eCons (eSub (eVar 3) (eVar 11)) eNil)) (e2 xorV (eCall s_S_IMODE (eCons (eSub (eVar 3) (eVar 11)) eNil)) (eCall s_S_IMODE (eCons (eVar 8) eNil)))) st = some (.next, st1) := by
  simp only [sSetItem, e1, v3, v11, oS, hσ, lZ, setObj]
  rw [if_pos (by omega)]
  rfl
 have w3 : eVar 3 st1 = some (.ref 0) := h.r3
 have w4 : eVar 4 st1 = some (.ref 1) := h.r4
 have w11 : eVar 11 st1 = some (pathI (T.P x)) := r11
 have n2 : eSub (eVar 3) (eVar 11) st1 = some (natI (turn1 q (N x))) := by
  simp only [eSub, w3, w11, oS, subE, subI, subS, dictOf', st1, lZ, f', if_true]
 have e3 : e2 addV (e2 addV (eCall s_filemode (eCons (eSub (eVar 3) (eVar 11)) eNil)) (eStr " ")) (eVar 11) st1 = some (.str (rowOf T (turn1 q (N x)) x)) := by
  have c1 : eCall s_filemode (eCons (eSub (eVar 3) (eVar 11)) eNil) st1 = some (.str (rowS (turn1 q (N x)))) := by
   simp only [eCall, eCons, n2, eNil, oS, nRs1, nRs2, nR1, nR2, nR3, nR4, nR5, nR6, nR7, nR8, Bool.and_self, if_true, filemode_eq]
  rw [show ∀ a c d : MSt → Option MV, e2 addV (e2 addV a c) d st1 = ((((a st1).bind fun v => (c st1).bind fun w => addV v w)).bind fun z => (d st1).bind fun u => addV z u) from fun _ _ _ => rfl, c1, w11]
  simp only [eStr, spc_eq, oS]
  exact row_join hx
 let g' : Str → Option MV := fun y => if y = path (T.P x) then some (.str (rowOf T (turn1 q (N x)) x)) else g y
 let st2 : MSt := { st with σ := [.dict f' (n + 1), .dict g' (m + 1), .list told] }
 have s2 : sSetItem (eVar 4) (eVar 11) (e2 addV (e2 addV (eCall s_filemode (eCons (eSub (eVar 3) (eVar 11)) eNil)) (eStr " ")) (eVar 11)) st1 = some (.next, st2) := by
  simp only [sSetItem, e3, w4, w11, oS, st1, lY, lZ, setObj]
  rw [if_pos (by omega)]
  rfl
 refine hG ?_; clear hG
 refine ⟨st2, by unfold wkInner; rw [sSeq_eq s1, sSeq_eq s2]; rfl, ⟨h.r0, h.r3, h.r4, h.r5, f', n + 1, g', m + 1, rfl, by omega, by omega, fun k hk => ?_, fun k hk => ?_⟩, rfl⟩
 ·by_cases e : k = x
  ·subst e; simp only [f', if_true]
  ·simp only [f', path_ne hk hx, e, if_false]; exact hf k hk
 ·by_cases e : k = x
  ·subst e; simp only [g', if_true]
  ·simp only [g', path_ne hk hx, e, if_false]; exact hg k hk
theorem WK.cong {T : Tr} {N V : Nat → Nat} {b : Nat} {told : List MV} {st : MSt} (h : WK T N b told st) (e : ∀ k, k < 8 → N k = V k) : WK T V b told st := by
 refine cps fun G hG => ?_
 obtain ⟨f, n, g, m, hσ, hn, hm, hf, hg⟩ := h.hσ
 refine hG ?_; clear hG
 exact ⟨h.r0, h.r3, h.r4, h.r5, f, n, g, m, hσ, hn, hm, fun k hk => by rw [← e k hk]; exact hf k hk, fun k hk => by rw [← e k hk]; exact hg k hk⟩
theorem WK.set {T : Tr} {N : Nat → Nat} {b : Nat} {told : List MV} {st : MSt} (h : WK T N b told st) {k : Nat} (v : MV) (hk : 5 < k) : WK T N b told (st.set k v) := by
 refine ⟨?_, ?_, ?_, ?_, h.hσ⟩
 ·show (if 0 = k then some v else st.ρ 0) = _; rw [if_neg (by omega)]; exact h.r0
 ·show (if 3 = k then some v else st.ρ 3) = _; rw [if_neg (by omega)]; exact h.r3
 ·show (if 4 = k then some v else st.ρ 4) = _; rw [if_neg (by omega)]; exact h.r4
 ·show (if 5 = k then some v else st.ρ 5) = _; rw [if_neg (by omega)]; exact h.r5
theorem wk_loop {T : Tr} {q : Nat} {told : List MV} : ∀ (L : List Nat) (N : Nat → Nat) (b : Nat) (st : MSt), WK T N b told st → (∀ x ∈ L, x < 8) → L.Nodup → b + L.length < 900 → st.ρ 8 = some (natI q) →
  ∃ st', mfor (bName 11) wkInner sNil (L.map fun k => pathI (T.P k)) st = some (.next, st') ∧ WK T (fun k => if k ∈ L then turn1 q (N k) else N k) (b + L.length) told st' ∧ ∀ j, j ≠ 11 → st'.ρ j = st.ρ j
 | [], N, b, st, h, _, _, _, _ => ⟨st, rfl, h.cong fun k _ => by simp, fun _ _ => rfl⟩
 | x :: L, N, b, st, h, h8, hd, hb, r8 => by
  refine cps fun G hG => ?_
  obtain ⟨hd1, hd2⟩ := List.nodup_cons.mp hd
  simp only [List.length_cons] at hb
  obtain ⟨st1, a1, a2, a3⟩ := wk_one (q := q) (x := x) (h.set (k := 11) (pathI (T.P x)) (by omega)) (h8 x (by simp)) (by omega) rfl r8
  obtain ⟨st', c1, c2, c3⟩ := wk_loop L _ (b + 1) st1 a2 (fun y hy => h8 y (by simp [hy])) hd2 (by omega) (by rw [a3]; exact r8)
  refine hG ?_; clear hG
  refine ⟨st', ?_, ?_, fun j hj => ?_⟩
  ·simp only [List.map_cons, mfor_n, mfor_c, bName, oS, a1]
   exact c1
  ·rw [show b + (x :: L).length = b + 1 + L.length by simp; omega]
   refine c2.cong fun k hk => ?_
   by_cases e : k = x
   ·subst e; simp [hd1]
   ·simp [e]
  ·rw [c3 j hj, a3]; show (if j = 11 then _ else _) = _; rw [if_neg hj]
noncomputable def wkBody : MSt → Option (Out × MSt) := (sSeq (sAssign (eB (f1 sortedV) (eCons (eLstOf (eComp 16 (iSeq (eVar 0)) tTrue (eSub (eVar 4) (eVar 16)))) eNil)) (bName 9))
 (sSeq (sAssign (eCall s_law_way (eCons (eSub (eVar 0) (eVar 6)) (eCons (eSub (eVar 0) (eVar 7)) eNil))) (bName 10))
 (sSeq (sFor (iSeq (eVar 10)) (bName 11) wkInner sNil)
 (sSeq (sAssign (eB (f1 sortedV) (eCons (eLstOf (eComp 17 (iSeq (eVar 0)) tTrue (eSub (eVar 4) (eVar 17)))) eNil)) (bName 12))
 (sSeq (sAssign (eCall s_sorted_list_difference (eCons (eVar 9) (eCons (eVar 12) eNil))) (bName 13))
 (sSeq (sAppend 5 (eLst (eCons (eVar 13) (eCons (eVar 9) (eCons (eVar 12) (eCons (eSub (eVar 10) (eInt 0)) eNil))))))
 sNil))))))
theorem wk_rows {T : Tr} {N : Nat → Nat} {b : Nat} {told : List MV} {st : MSt} (h : WK T N b told st) (kx : Nat) (hk : 5 < kx) : eLstOf (eComp kx (iSeq (eVar 0)) tTrue (eSub (eVar 4) (eVar kx))) st = some (strsM (rowsOf T N)) := by
 have v0 : eVar 0 st = some (.lst (paths8 T)) := h.r0
 have hm : mcomp kx tTrue (eSub (eVar 4) (eVar kx)) st (paths8 T) = some ((rowsOf T N).map .str) := by
  unfold paths8 rowsOf
  rw [List.map_map]
  refine mcomp_map fun k hkk => ?_
  have hk8 := List.mem_range.mp hkk
  refine cps fun G hG => ?_
  obtain ⟨f, n, g, m, hσ, hn, hm, hf, hg⟩ := (h.set (k := kx) (pathI (T.P k)) hk).hσ
  have w4 : eVar 4 (st.set kx (pathI (T.P k))) = some (.ref 1) := (h.set (k := kx) (pathI (T.P k)) hk).r4
  have wx : eVar kx (st.set kx (pathI (T.P k))) = some (pathI (T.P k)) := by show (if kx = kx then _ else _) = _; rw [if_pos rfl]
  refine hG ?_; clear hG
  simp only [eSub, w4, wx, oS, subE, subI, subS, dictOf', hσ, lY, lZ]
  exact hg k hk8
 have hl : (paths8 T).length ≤ 100000 := by simp [paths8]
 simp only [eLstOf, eComp, iSeq, v0, oS, paths8_noRefs, if_true, hl, hm, oP]
 rfl
theorem rows_short {T : Tr} {N : Nat → Nat} : (rowsOf T N).length < 64 := by simp [rowsOf]
theorem sorted_strs {st : MSt} {l : List Str} (h : l.length < 64) : sortedV st (strsM l) = some (strsM (sortS l)) := by
 simp only [sortedV, strsM, listOf, oS, strsOf_strs, h, if_true]
theorem below_len (T : Tr) (m : Nat) : ∀ f k, (T.belowF m f k).length ≤ f := fun f => by
 induction f with
 | zero => intro k; simp [Tr.belowF]
 | succ f ih => intro k; unfold Tr.belowF; split <;> simp; exact ih _
theorem way_len (T : Tr) (m i j : Nat) : (T.way m i j).length ≤ 17 := by
 have h1 := below_len T m 8 i
 have h2 := below_len T m 8 j
 simp [Tr.way]; omega
theorem strsM_noRef (l : List Str) : noRef (strsM l) = true := by (dsimp only [strsM, nR1, nR2, nR3, nR4, nR5, nR6, nR7, nR8]; simp only [strsM, nR1, nR2, nR3, nR4, nR5, nR6, nR7, nR8, noRefs_strs])
theorem entry_noRef (T : Tr) (t : Turn) (N : Nat → Nat) : noRef (entry T t N) = true := by
 (dsimp only [entry, nR1, nR2, nR3, nR4, nR5, nR6, nR7, nR8, nRs1, nRs2, strsM_noRef]; simp only [entry, nR1, nR2, nR3, nR4, nR5, nR6, nR7, nR8, nRs1, nRs2, strsM_noRef, Bool.and_self])
theorem sub_path {T : Tr} {i k : Nat} {st : MSt} (hi : i < 8) (r0 : st.ρ 0 = some (.lst (paths8 T))) (r6 : st.ρ k = some (natI i)) : eSub (eVar 0) (eVar k) st = some (pathI (T.P i)) := by
 (dsimp only [eSub, eVar, r0, r6, oS, subE, subI, subS]; simp only [eSub, eVar, r0, r6, oS, subE, subI, subS])
 rw [pickAt_nat (by omega)]
 unfold paths8
 rw [List.getElem?_map, List.getElem?_range hi]; rfl
theorem wk_turn {T : Tr} {N : Nat → Nat} {b : Nat} {told : List MV} {st : MSt} {t : Turn} (h : WK T N b told st) (hi : t.1 < 8) (hj : t.2.1 < 8) (hb : b + 17 < 900) (ht : told.length < 1000)
  (r6 : st.ρ 6 = some (natI t.1)) (r7 : st.ρ 7 = some (natI t.2.1)) (r8 : st.ρ 8 = some (natI t.2.2)) :
  ∃ st', wkBody st = some (.next, st') ∧ WK T (turnN T t N) (b + 17) (told ++ [entry T t N]) st' ∧ st'.ρ 2 = st.ρ 2 := by
 refine cps fun G hG => ?_
 obtain ⟨hm, hp⟩ := T.meet_spec hi hj
 let st1 := st.set 9 (strsM (sortS (rowsOf T N)))
 have s1 : sAssign (eB (f1 sortedV) (eCons (eLstOf (eComp 16 (iSeq (eVar 0)) tTrue (eSub (eVar 4) (eVar 16)))) eNil)) (bName 9) st = some (.next, st1) := by
  simp only [sAssign, eB, eCons, eNil, wk_rows h 16 (by omega), oS, f1, sorted_strs rows_short, bName, oP]
  rfl
 have h1 : WK T N b told st1 := h.set _ (by omega)
 let W := T.way (T.meet t.1 t.2.1) t.1 t.2.1
 let wV : MV := .lst (W.map fun k => pathI (T.P k))
 let st2 := st1.set 10 wV
 have s2 : sAssign (eCall s_law_way (eCons (eSub (eVar 0) (eVar 6)) (eCons (eSub (eVar 0) (eVar 7)) eNil))) (bName 10) st1 = some (.next, st2) := by
  simp only [sAssign, eCall, eCons, eNil, sub_path (st := st1) (k := 6) hi h1.r0 r6, sub_path (st := st1) (k := 7) hj h1.r0 r7, oS, nRs1, nRs2, nR1, nR2, nR3, nR4, nR5, nR6, nR7, nR8, Bool.and_self, if_true, law_way_eq T hi hj hm hp, bName, oP]
  rfl
 have h2 : WK T N b told st2 := h1.set _ (by omega)
 have hW : ∀ x, x ∈ W ↔ x < 8 ∧ T.on t.1 t.2.1 x = true := T.mem_way hi hj
 have hl := way_len T (T.meet t.1 t.2.1) t.1 t.2.1
 obtain ⟨st3, a1, a2, a3⟩ := wk_loop (q := t.2.2) W N b st2 h2 (fun x hx => ((hW x).mp hx).1) (T.way_nodup hi hj) (by show b + (T.way _ _ _).length < 900; omega) r8
 have h3 : WK T (turnN T t N) (b + 17) told st3 := by
  have := a2.cong (V := turnN T t N) fun k hk => by
   unfold turnN turn1
   by_cases e : T.on t.1 t.2.1 k = true
   ·rw [if_pos ((hW k).mpr ⟨hk, e⟩), if_pos e]
   ·rw [if_neg (fun e' => e ((hW k).mp e').2), if_neg e]
  obtain ⟨f, n, g, m, hσ, hn, hm, hf, hg⟩ := this.hσ
  exact ⟨this.r0, this.r3, this.r4, this.r5, f, n, g, m, hσ, by have : W.length ≤ 17 := hl; omega, by have : W.length ≤ 17 := hl; omega, hf, hg⟩
 have s3 : sFor (iSeq (eVar 10)) (bName 11) wkInner sNil st2 = some (.next, st3) := by
  have v10 : eVar 10 st2 = some wV := rfl
  simp only [sFor, iSeq, v10, oS, wV, noRefs_map (f := fun k => pathI (T.P k)) (L := W) (fun _ _ => rfl), if_true]
  exact a1
 let st4 := st3.set 12 (strsM (sortS (rowsOf T (turnN T t N))))
 have s4 : sAssign (eB (f1 sortedV) (eCons (eLstOf (eComp 17 (iSeq (eVar 0)) tTrue (eSub (eVar 4) (eVar 17)))) eNil)) (bName 12) st3 = some (.next, st4) := by
  simp only [sAssign, eB, eCons, eNil, wk_rows h3 17 (by omega), oS, f1, sorted_strs rows_short, bName, oP]
  rfl
 have h4 : WK T (turnN T t N) (b + 17) told st4 := h3.set _ (by omega)
 let ans : MV := .tup [strsM (sortS ((touched T t).map fun k => rowOf T (N k) k)), strsM (sortS ((touched T t).map fun k => rowOf T (turnN T t N k) k))]
 let st5 := st4.set 13 ans
 have v9 : eVar 9 st4 = some (strsM (sortS (rowsOf T N))) := a3 9 (by omega)
 have v12 : eVar 12 st4 = some (strsM (sortS (rowsOf T (turnN T t N)))) := rfl
 have s5 : sAssign (eCall s_sorted_list_difference (eCons (eVar 9) (eCons (eVar 12) eNil))) (bName 13) st4 = some (.next, st5) := by
  simp only [sAssign, eCall, eCons, eNil, v9, v12, oS, nRs1, nRs2, strsM_noRef, Bool.and_self, if_true, answer_eq, bName, oP]
  rfl
 have h5 : WK T (turnN T t N) (b + 17) told st5 := h4.set _ (by omega)
 obtain ⟨f, n, g, m, hσ, hn, hm', hf, hg⟩ := h5.hσ
 let st6 : MSt := { st5 with σ := [.dict f n, .dict g m, .list (told ++ [entry T t N])] }
 have s6 : sAppend 5 (eLst (eCons (eVar 13) (eCons (eVar 9) (eCons (eVar 12) (eCons (eSub (eVar 10) (eInt 0)) eNil))))) st5 = some (.next, st6) := by
  have w5 : eVar 5 st5 = some (.ref 2) := h5.r5
  have w9 : eVar 9 st5 = some (strsM (sortS (rowsOf T N))) := a3 9 (by omega)
  have w12 : eVar 12 st5 = some (strsM (sortS (rowsOf T (turnN T t N)))) := rfl
  have w13 : eVar 13 st5 = some ans := rfl
  have w10 : eVar 10 st5 = some wV := a3 10 (by omega)
  have sub : eSub (eVar 10) (eInt 0) st5 = some (pathI (T.P (T.meet t.1 t.2.1))) := by
   simp only [eSub, w10, eInt, oS, wV, subE, subI, subS, pickAt]
   rfl
  simp only [sAppend, w5, eLst, eCons, eNil, w13, w9, w12, sub, oS, hσ, lY, lZ]
  rw [if_pos (by simp), oS, if_pos ht]
  rfl
 refine hG ?_; clear hG
 refine ⟨st6, ?_, ⟨h5.r0, h5.r3, h5.r4, h5.r5, f, n, g, m, rfl, hn, hm', hf, hg⟩, a3 2 (by omega)⟩
 unfold wkBody
 rw [sSeq_eq s1, sSeq_eq s2, sSeq_eq s3, sSeq_eq s4, sSeq_eq s5, sSeq_eq s6]
 rfl
noncomputable def tale (T : Tr) : List Turn → (Nat → Nat) → List MV
 | [], _ => []
 | t :: U, N => entry T t N :: tale T U (turnN T t N)
noncomputable def ending (T : Tr) : List Turn → (Nat → Nat) → Nat → Nat
 | [], N => N
 | t :: U, N => ending T U (turnN T t N)
theorem wk_turns {T : Tr} : ∀ (U : List Turn) (N : Nat → Nat) (b : Nat) (told : List MV) (st : MSt), (∀ t ∈ U, t.1 < 8 ∧ t.2.1 < 8) → WK T N b told st → b + 17 * U.length < 900 → told.length + U.length < 1000 →
  ∃ st', mfor (bTup [(bName 6), (bName 7), (bName 8)]) wkBody sNil (turnsV U) st = some (.next, st') ∧ WK T (ending T U N) (b + 17 * U.length) (told ++ tale T U N) st'
 | [], N, b, told, st, _, h, _, _ => ⟨st, rfl, by simpa [ending, tale] using h⟩
 | t :: U, N, b, told, st, ht, h, hb, hl => by
  simp only [List.length_cons] at hb hl
  refine cps fun G hG => ?_
  obtain ⟨st1, a1, a2, a3⟩ := wk_turn (t := t) (st := ((st.set 6 (natI t.1)).set 7 (natI t.2.1)).set 8 (natI t.2.2)) (((h.set _ (by omega)).set _ (by omega)).set _ (by omega)) (ht t (by simp)).1 (ht t (by simp)).2 (by omega) (by omega) rfl rfl rfl
  obtain ⟨st', c1, c2⟩ := wk_turns U (turnN T t N) (b + 17) (told ++ [entry T t N]) st1 (fun u hu => ht u (by simp [hu])) a2 (by omega) (by simp; omega)
  refine hG ?_; clear hG
  refine ⟨st', ?_, ?_⟩
  ·simp only [turnsV, List.map_cons, mfor_n, mfor_c, bTup, bAll, bName, List.length_cons, List.length_nil, if_true, oS, a1]
   exact c1
  ·rw [show b + 17 * (t :: U).length = b + 17 + 17 * U.length by simp; omega]
   simpa [ending, tale] using c2
theorem tale_noRefs {T : Tr} : ∀ (U : List Turn) (N : Nat → Nat), noRefs (tale T U N) = true
 | [], _ => rfl
 | t :: U, N => by simp [tale, nRs1, nRs2, entry_noRef, tale_noRefs U]
theorem mdict_gen {T : Tr} {kx : Nat} {ke ve : MSt → Option MV} {st : MSt} {x val : Nat → MV} : ∀ (L : List Nat) (f : Str → Option MV) (n : Nat), (∀ k ∈ L, k < 8) → (∀ k, k < 8 → ke (st.set kx (x k)) = some (pathI (T.P k))) → (∀ k, k < 8 → ve (st.set kx (x k)) = some (val k)) →
  ∃ f', mdict kx ke ve st (L.map x) f n = some (f', n + L.length) ∧ ∀ k, k < 8 → f' (path (T.P k)) = if k ∈ L then some (val k) else f (path (T.P k))
 | [], f, n, _, _, _ => ⟨f, rfl, fun k _ => by simp⟩
 | i :: L, f, n, hL, hk, hv => by
  have hx := hL i (by simp)
  obtain ⟨f', a1, a2⟩ := mdict_gen L (fun y => if y = path (T.P i) then some (val i) else f y) (n + 1) (fun k hk => hL k (by simp [hk])) hk hv
  refine ⟨f', ?_, fun k hk => ?_⟩
  ·simp only [List.map_cons, mdict_n, mdict_c, hk i hx, oS, hv i hx, a1]
   simp; omega
  ·rw [a2 k hk]
   by_cases e : k = i
   ·subst e; simp
   ·simp [e, path_ne hk hx]
theorem mdict_eq {T : Tr} {kx : Nat} {ve : MSt → Option MV} {st : MSt} {val : Nat → MV} (L : List Nat) (f : Str → Option MV) (n : Nat) (hL : ∀ k ∈ L, k < 8) (hv : ∀ k, k < 8 → ve (st.set kx (pathI (T.P k))) = some (val k)) :
  ∃ f', mdict kx (eVar kx) ve st (L.map fun k => pathI (T.P k)) f n = some (f', n + L.length) ∧ ∀ k, k < 8 → f' (path (T.P k)) = if k ∈ L then some (val k) else f (path (T.P k)) :=
 mdict_gen (x := fun k => pathI (T.P k)) L f n hL (fun k _ => by show (if kx = kx then _ else _) = _; rw [if_pos rfl]) hv
theorem newDict_eq {T : Tr} {k kx : Nat} {ve : MSt → Option MV} {st : MSt} {val : Nat → MV} (r0 : st.ρ 0 = some (.lst (paths8 T))) (hv : ∀ k, k < 8 → ve (st.set kx (pathI (T.P k))) = some (val k)) :
  ∃ f, sNewDict k kx (iSeq (eVar 0)) (eVar kx) ve st = some (.next, MSt.set { st with σ := st.σ ++ [MObj.dict f 8] } k (.ref st.σ.length)) ∧ ∀ k, k < 8 → f (path (T.P k)) = some (val k) := by
 obtain ⟨f, a1, a2⟩ := mdict_eq (T := T) (kx := kx) (ve := ve) (st := st) (val := val) (List.range 8) (fun _ => none) 0 (fun k hk => List.mem_range.mp hk) hv
 refine ⟨f, ?_, fun k hk => by rw [a2 k hk, if_pos (List.mem_range.mpr hk)]⟩
 have v0 : eVar 0 st = some (.lst (paths8 T)) := r0
 have hl : (paths8 T).length ≤ 1000 := by simp [paths8]
 have a1' : mdict kx (eVar kx) ve st (paths8 T) (fun _ => none) 0 = some (f, 8) := a1
 simp only [sNewDict, iSeq, v0, oS, paths8_noRefs, if_true, hl, a1', oP]
theorem range8 : rangeL 0 8 = (List.range 8).map natI := rfl
theorem freezes_strs (st : MSt) : ∀ l : List Str, freezes st (l.map .str) = some (l.map .str)
 | [] => rfl
 | x :: l => by simp [fZs1, fZs2, fZ1, fZ2, fZ3, fZ4, fZ5, fZ6, fZ7, fZ8, freezes_strs st l]
theorem sub_mode {M : List Nat} {ka kb i : Nat} {st : MSt} (hi : i < M.length) (h8 : M.length < 1000) (ra : st.ρ ka = some (.lst (M.map natI))) (rb : st.ρ kb = some (natI i)) : eSub (eVar ka) (eVar kb) st = some (natI (M.getD i 0)) := by
 simp only [eSub, eVar, ra, rb, oS, subE, subI, subS]
 rw [pickAt_nat (by omega), List.getElem?_map, List.getElem?_eq_getElem hi]
 simp [hi]
theorem law_walked_eq {T : Tr} {M : List Nat} {U : List Turn} (hM : M.length = 8) (hU : ∀ t ∈ U, t.1 < 8 ∧ t.2.1 < 8) (hl : U.length ≤ 40) :
  s_law_walked [.lst (paths8 T), .lst (M.map natI), .lst (turnsV U)] = some (.tup [.lst (tale T U fun k => M.getD k 0), strsM (rowsOf T (ending T U fun k => M.getD k 0))]) := by
 let st0 : MSt := start [.lst (paths8 T), .lst (M.map natI), .lst (turnsV U)]
 refine cps fun G hG => ?_
 obtain ⟨f, a1, a2⟩ := mdict_gen (T := T) (kx := 14) (ke := eSub (eVar 0) (eVar 14)) (ve := eSub (eVar 1) (eVar 14)) (st := st0) (x := natI) (val := fun k => natI (M.getD k 0)) (List.range 8) (fun _ => none) 0 (fun k hk => List.mem_range.mp hk)
  (fun k hk => sub_path (st := st0.set 14 (natI k)) hk rfl rfl) (fun k hk => sub_mode (st := st0.set 14 (natI k)) (by omega) (by omega) rfl rfl)
 let st1 : MSt := MSt.set { st0 with σ := [.dict f 8] } 3 (.ref 0)
 have a1' : mdict 14 (eSub (eVar 0) (eVar 14)) (eSub (eVar 1) (eVar 14)) st0 ((List.range 8).map natI) (fun _ => none) 0 = some (f, 8) := a1
 have s1 : sNewDict 3 14 (iRange1 (eInt 8)) (eSub (eVar 0) (eVar 14)) (eSub (eVar 1) (eVar 14)) st0 = some (.next, st1) := by
  simp only [sNewDict, iRange1, eInt, oS, asInt]
  rw [if_pos (by omega), oS, range8, if_pos (by simp), a1']
  rfl
 have hf : ∀ k, k < 8 → f (path (T.P k)) = some (natI (M.getD k 0)) := fun k hk => by rw [a2 k hk, if_pos (List.mem_range.mpr hk)]
 obtain ⟨g, c1, c2⟩ := newDict_eq (T := T) (k := 4) (kx := 15) (ve := e2 addV (e2 addV (eCall s_filemode (eCons (eSub (eVar 3) (eVar 15)) eNil)) (eStr " ")) (eVar 15)) (st := st1) (val := fun k => .str (rowOf T (M.getD k 0) k)) rfl (fun k hk => by
  let sk := st1.set 15 (pathI (T.P k))
  show e2 addV (e2 addV (eCall s_filemode (eCons (eSub (eVar 3) (eVar 15)) eNil)) (eStr " ")) (eVar 15) sk = _
  have w3 : eVar 3 sk = some (.ref 0) := rfl
  have w15 : eVar 15 sk = some (pathI (T.P k)) := rfl
  have w4 : sk.σ = [.dict f 8] := rfl
  have n2 : eSub (eVar 3) (eVar 15) sk = some (natI (M.getD k 0)) := by
   simp only [eSub, w3, w15, oS, subE, subI, subS, dictOf', w4, lZ]
   exact hf k hk
  have c1 : eCall s_filemode (eCons (eSub (eVar 3) (eVar 15)) eNil) sk = some (.str (rowS (M.getD k 0))) := by
   (dsimp only [eCall, eCons, n2, eNil, oS, nRs1, nRs2, nR1, nR2, nR3, nR4, nR5, nR6, nR7, nR8, filemode_eq]; simp only [eCall, eCons, n2, eNil, oS, nRs1, nRs2, nR1, nR2, nR3, nR4, nR5, nR6, nR7, nR8, Bool.and_self, if_true, filemode_eq])
  rw [show ∀ a c d : MSt → Option MV, e2 addV (e2 addV a c) d sk = ((((a sk).bind fun v => (c sk).bind fun w => addV v w)).bind fun z => (d sk).bind fun u => addV z u) from fun _ _ _ => rfl, c1, w15]
  (dsimp only [eStr, spc_eq, oS]; simp only [eStr, spc_eq, oS])
  exact row_join hk)
 let st2 : MSt := MSt.set { st1 with σ := st1.σ ++ [.dict g 8] } 4 (.ref st1.σ.length)
 let st3 : MSt := MSt.set { st2 with σ := st2.σ ++ [.list []] } 5 (.ref st2.σ.length)
 have s3 : sNewList 5 eNil st2 = some (.next, st3) := by simp [sNewList, eNil, st3]
 have h3 : WK T (fun k => M.getD k 0) 8 [] st3 := ⟨rfl, rfl, rfl, rfl, f, 8, g, 8, rfl, by omega, by omega, hf, c2⟩
 obtain ⟨st4, d1, d2⟩ := wk_turns U (fun k => M.getD k 0) 8 [] st3 hU h3 (by omega) (by simp; omega)
 have s4 : sFor (iSeq (eVar 2)) (bTup [(bName 6), (bName 7), (bName 8)]) wkBody sNil st3 = some (.next, st4) := by
  have v2 : eVar 2 st3 = some (.lst (turnsV U)) := rfl
  (dsimp only [sFor, iSeq, oS, turnsV_noRefs]; simp only [sFor, iSeq, v2, oS, turnsV_noRefs, if_true])
  exact d1
 refine hG ?_; clear hG
 unfold wkBody wkInner at s4
 unfold s_law_walked runFn m_law_walked
 rw [show packN 3 [MV.lst (paths8 T), .lst (M.map natI), .lst (turnsV U)] = some [.lst (paths8 T), .lst (M.map natI), .lst (turnsV U)] from rfl]
 simp only [oS]
 rw [sSeq_eq s1, sSeq_eq c1, sSeq_eq s3, sSeq_eq s4]
 have rr := wk_rows d2 18 (by omega)
 refine cps fun G hG => ?_
 obtain ⟨f', n, g', m, hσ, _⟩ := d2.hσ
 have v5 : eVar 5 st4 = some (.ref 2) := d2.r5
 have ht : noRefs ([] ++ tale T U fun k => M.getD k 0) = true := tale_noRefs U _
 refine hG ?_; clear hG
 (dsimp only [sSeq, sRet, eTup, eCons, eNil, rr, oS, oP]; simp only [sSeq, sRet, eTup, eCons, eNil, v5, rr, oS, List.length_cons, List.length_nil, oP])
 rw [if_pos (by omega)]
 (dsimp only [oP, oS, fZ1, fZ2, fZ3, fZ4, fZ5, fZ6, fZ7, fZ8, fZs1, fZs2, strsM, freezes_strs]; simp only [oP, oS, fZ1, fZ2, fZ3, fZ4, fZ5, fZ6, fZ7, fZ8, fZs1, fZs2, hσ, lY, lZ, ht, if_true, strsM, freezes_strs])
 rfl
theorem mcomp_filter {α : Type} {kx : Nat} {t : MSt → Option Bool} {e : MSt → Option MV} {st : MSt} {f g : α → MV} {p : α → Bool} : ∀ {L : List α}, (∀ k ∈ L, t (st.set kx (f k)) = some (p k)) → (∀ k ∈ L, e (st.set kx (f k)) = some (g k)) → mcomp kx t e st (L.map f) = some ((L.filter p).map g)
 | [], _, _ => rfl
 | x :: L, h, h' => by
  have h1 := h x (by simp)
  have h2 := h' x (by simp)
  have h3 := mcomp_filter (L := L) (fun k hk => h k (by simp [hk])) fun k hk => h' k (by simp [hk])
  by_cases c : p x = true
  ·simp [mcomp_n, mcomp_c, h1, h2, h3, c]
  ·simp [mcomp_n, mcomp_c, h1, h3, c]
theorem intsOf_nats : ∀ l : List Nat, intsOf (l.map natI) = some (l.map Int.ofNat)
 | [] => rfl
 | x :: l => by simp [iO0, iO1, iO2, iO3, iO4, iO5, iO6, iO7, iO8, intsOf_nats l]
theorem inV_nat (x : Nat) (L : List Nat) : inV (natI x) (.lst (L.map natI)) = some (.bool (decide (x ∈ L))) := by
 simp only [inV, intsOf_nats, oP]
 refine congrArg (fun b => some (MV.bool b)) ?_
 rw [Bool.eq_iff_iff, List.any_eq_true, decide_eq_true_iff]
 constructor
 ·rintro ⟨y, hy, e⟩
  obtain ⟨z, hz, rfl⟩ := List.mem_map.mp hy
  have e1 : Int.ofNat z = (x : Int) := by simpa using e
  have : z = x := by
   have e3 : (z : Int) = (x : Int) := e1
   omega
  rw [← this]; exact hz
 ·intro h
  exact ⟨x, List.mem_map.mpr ⟨x, h, rfl⟩, by simp⟩
theorem maxV_nat {st : MSt} {L : List Nat} {m : Nat} (hm : m ∈ L) (h : ∀ x ∈ L, x ≤ m) : maxV st (.lst (L.map natI)) = some (natI m) := by
 have hne : (L.map Int.ofNat) ≠ [] := by
  intro e
  have := List.map_eq_nil_iff.mp e
  rw [this] at hm; cases hm
 simp only [maxV, listOf, oS, intsOf_nats]
 rw [if_neg hne]
 obtain ⟨h1, h2⟩ := maxI_mem hne
 refine congrArg (fun z => some (MV.int z)) ?_
 obtain ⟨z, hz, e⟩ := List.mem_map.mp h1
 have h3 := h2 m (List.mem_map.mpr ⟨m, hm, rfl⟩)
 have h4 := h z hz
 rw [← e] at h3 ⊢
 have h5 : (m : Int) ≤ (z : Int) := h3
 show (z : Int) = (m : Int)
 omega
theorem neV_bool (a b : Bool) : neV (.bool a) (.bool b) = some (.bool (a != b)) := by
 have : okD (.bool a) = true ∧ okD (.bool b) = true := by constructor <;> simp [okD, nR1, nR2, nR3, nR4, nR5, nR6, nR7, nR8, tP1, tP2, tP3, tP4, tP5, tP6, tP7, tP8, SeqAt.shaped, PyData.canLay0, PyData.depth]
 dsimp only [neV, this.1, this.2, Bool.and_self, if_true, tP1, tP2, tP3, tP4, tP5, tP6, tP7, tP8]
 refine congrArg (fun z => some (MV.bool z)) ?_
 rw [PyData.eqv]
 cases a <;> cases b <;> rfl
theorem set_range {α : Type} {g : Nat → α} {n i : Nat} {v : α} : ((List.range n).map g).set i v = (List.range n).map fun k => if k = i then v else g k := by
 apply List.ext_getElem (by simp)
 intro j h1 h2
 simp only [List.getElem_set, List.getElem_map, List.getElem_range]
 by_cases e : i = j
 ·subst e; simp
 ·rw [if_neg e, if_neg (fun e' => e e'.symm)]
structure WD (T : Tr) (A : List Nat) (V : Nat → Nat) (told : List MV) (st : MSt) : Prop where
 r0 : st.ρ 0 = some (.lst (A.map natI))
 r3 : st.ρ 3 = some (.lst (paths8 T))
 r4 : st.ρ 4 = some (.ref 0)
 r5 : st.ρ 5 = some (.ref 1)
 r6 : st.ρ 6 = some (.ref 2)
 hσ : st.σ = [.list ((List.range 8).map fun k => natI (V k)), .list ((List.range 8).map fun k => .str (rowOf T (V k) k)), .list told]
theorem WD.set {T : Tr} {A : List Nat} {V : Nat → Nat} {told : List MV} {st : MSt} (h : WD T A V told st) {k : Nat} (v : MV) (hk : 6 < k) : WD T A V told (st.set k v) := by
 refine ⟨?_, ?_, ?_, ?_, ?_, h.hσ⟩
 ·show (if 0 = k then some v else st.ρ 0) = _; rw [if_neg (by omega)]; exact h.r0
 ·show (if 3 = k then some v else st.ρ 3) = _; rw [if_neg (by omega)]; exact h.r3
 ·show (if 4 = k then some v else st.ρ 4) = _; rw [if_neg (by omega)]; exact h.r4
 ·show (if 5 = k then some v else st.ρ 5) = _; rw [if_neg (by omega)]; exact h.r5
 ·show (if 6 = k then some v else st.ρ 6) = _; rw [if_neg (by omega)]; exact h.r6
theorem WD.cong {T : Tr} {A : List Nat} {N V : Nat → Nat} {told : List MV} {st : MSt} (h : WD T A N told st) (e : ∀ k, k < 8 → N k = V k) : WD T A V told st := by
 refine ⟨h.r0, h.r3, h.r4, h.r5, h.r6, ?_⟩
 rw [h.hσ, List.map_congr_left (f := fun k => natI (N k)) (g := fun k => natI (V k)) fun k hk => by rw [e k (List.mem_range.mp hk)], List.map_congr_left (f := fun k => MV.str (rowOf T (N k) k)) (g := fun k => .str (rowOf T (V k) k)) fun k hk => by rw [e k (List.mem_range.mp hk)]]
noncomputable def wdInner : MSt → Option (Out × MSt) := (sSeq (sSetItem (eVar 4) (eVar 17) (e2 xorV (eSub (eVar 4) (eVar 17)) (eVar 13)))
 (sSeq (sSetItem (eVar 5) (eVar 17) (e2 addV (e2 addV (eCall s_law_row (eCons (eSub (eVar 4) (eVar 17)) eNil)) (eStr " ")) (eSub (eVar 3) (eVar 17))))
 sNil))
theorem sub_heap (g : Nat → MV) {ka kb n i : Nat} {st : MSt} (hi : i < 8) (ra : st.ρ ka = some (.ref n)) (rb : st.ρ kb = some (natI i)) (hn : st.σ[n]? = some (.list ((List.range 8).map g))) : eSub (eVar ka) (eVar kb) st = some (g i) := by
 (dsimp only [eSub, eVar, ra, rb, oS, subE, subI, subS, listOf]; simp only [eSub, eVar, ra, rb, oS, subE, subI, subS, listOf, hn])
 rw [pickAt_nat (by omega), List.getElem?_map, List.getElem?_range hi]; rfl
theorem sub_texts {T : Tr} {ka k i : Nat} {st : MSt} (hi : i < 8) (r0 : st.ρ ka = some (.lst (paths8 T))) (r6 : st.ρ k = some (natI i)) : eSub (eVar ka) (eVar k) st = some (pathI (T.P i)) := by
 simp only [eSub, eVar, r0, r6, oS, subE, subI, subS]
 rw [pickAt_nat (by omega)]
 unfold paths8
 rw [List.getElem?_map, List.getElem?_range hi]; rfl
theorem wd_one {T : Tr} {A : List Nat} {V : Nat → Nat} {told : List MV} {st : MSt} {q x : Nat} (h : WD T A V told st) (hx : x < 8) (r17 : st.ρ 17 = some (natI x)) (r13 : st.ρ 13 = some (natI q)) :
  ∃ st', wdInner st = some (.next, st') ∧ WD T A (fun k => if k = x then V k ^^^ q else V k) told st' ∧ st'.ρ = st.ρ := by
 have v4 : eVar 4 st = some (.ref 0) := h.r4
 have v17 : eVar 17 st = some (natI x) := r17
 have v13 : eVar 13 st = some (natI q) := r13
 have n1 : eSub (eVar 4) (eVar 17) st = some (natI (V x)) := sub_heap (fun k => natI (V k)) hx h.r4 r17 (by rw [h.hσ]; rfl)
 let V' : Nat → Nat := fun k => if k = x then V k ^^^ q else V k
 let st1 : MSt := { st with σ := [.list ((List.range 8).map fun k => natI (V' k)), .list ((List.range 8).map fun k => .str (rowOf T (V k) k)), .list told] }
 have s1 : sSetItem (eVar 4) (eVar 17) (e2 xorV (eSub (eVar 4) (eVar 17)) (eVar 13)) st = some (.next, st1) := by
  simp only [sSetItem, Mine.e2, n1, v4, v17, v13, oS, xorV, intOp, oP, bitXor_nat, h.hσ, lZ, setObj]
  rw [if_pos ⟨by omega, by simp; omega⟩]
  simp only [oP, Int.toNat_natCast, set_range, List.set_cons_zero]
  refine congrArg (fun l => some (Out.next, ({ st with σ := [.list l, _, _] } : MSt))) (List.map_congr_left fun k _ => ?_)
  simp only [V']
  by_cases e : k = x
  ·subst e; simp
  ·simp [e]
 have n2 : eSub (eVar 4) (eVar 17) st1 = some (natI (V' x)) := sub_heap (fun k => natI (V' k)) hx h.r4 r17 rfl
 have n3 : eSub (eVar 3) (eVar 17) st1 = some (pathI (T.P x)) := sub_texts hx h.r3 r17
 have w5 : eVar 5 st1 = some (.ref 1) := h.r5
 have w17 : eVar 17 st1 = some (natI x) := r17
 have e3 : e2 addV (e2 addV (eCall s_law_row (eCons (eSub (eVar 4) (eVar 17)) eNil)) (eStr " ")) (eSub (eVar 3) (eVar 17)) st1 = some (.str (rowOf T (V' x) x)) := by
  have c1 : eCall s_law_row (eCons (eSub (eVar 4) (eVar 17)) eNil) st1 = some (.str (rowS (V' x))) := by
   simp only [eCall, eCons, n2, eNil, oS, nRs1, nRs2, nR1, nR2, nR3, nR4, nR5, nR6, nR7, nR8, Bool.and_self, if_true, law_row_eq]
  rw [show ∀ a c d : MSt → Option MV, e2 addV (e2 addV a c) d st1 = ((((a st1).bind fun v => (c st1).bind fun w => addV v w)).bind fun z => (d st1).bind fun u => addV z u) from fun _ _ _ => rfl, c1, n3]
  simp only [eStr, spc_eq, oS]
  exact row_join hx
 let st2 : MSt := { st with σ := [.list ((List.range 8).map fun k => natI (V' k)), .list ((List.range 8).map fun k => .str (rowOf T (V' k) k)), .list told] }
 have s2 : sSetItem (eVar 5) (eVar 17) (e2 addV (e2 addV (eCall s_law_row (eCons (eSub (eVar 4) (eVar 17)) eNil)) (eStr " ")) (eSub (eVar 3) (eVar 17))) st1 = some (.next, st2) := by
  simp only [sSetItem, e3, w5, w17, oS, st1, lY, lZ, setObj]
  rw [if_pos ⟨by omega, by simp; omega⟩]
  simp only [oP, Int.toNat_natCast, set_range, List.set_cons_zero, List.set_cons_succ]
  refine congrArg (fun l => some (Out.next, ({ st with σ := [.list ((List.range 8).map fun k => natI (V' k)), .list l, .list told] } : MSt))) (List.map_congr_left fun k _ => ?_)
  simp only [V']
  by_cases e : k = x
  ·subst e; simp
  ·simp [e]
 exact ⟨st2, by unfold wdInner; rw [sSeq_eq s1, sSeq_eq s2]; rfl, ⟨h.r0, h.r3, h.r4, h.r5, h.r6, rfl⟩, rfl⟩
theorem wd_loop {T : Tr} {A : List Nat} {q : Nat} {told : List MV} : ∀ (L : List Nat) (V : Nat → Nat) (st : MSt), WD T A V told st → (∀ x ∈ L, x < 8) → L.Nodup → st.ρ 13 = some (natI q) →
  ∃ st', mfor (bName 17) wdInner sNil (L.map natI) st = some (.next, st') ∧ WD T A (fun k => if k ∈ L then V k ^^^ q else V k) told st' ∧ ∀ j, j ≠ 17 → st'.ρ j = st.ρ j
 | [], V, st, h, _, _, _ => ⟨st, rfl, h.cong fun k _ => by simp, fun _ _ => rfl⟩
 | x :: L, V, st, h, h8, hd, r13 => by
  refine cps fun G hG => ?_
  obtain ⟨hd1, hd2⟩ := List.nodup_cons.mp hd
  obtain ⟨st1, a1, a2, a3⟩ := wd_one (q := q) (x := x) (h.set (k := 17) (natI x) (by omega)) (h8 x (by simp)) rfl r13
  obtain ⟨st', c1, c2, c3⟩ := wd_loop L _ st1 a2 (fun y hy => h8 y (by simp [hy])) hd2 (by rw [a3]; exact r13)
  refine hG ?_; clear hG
  refine ⟨st', ?_, ?_, fun j hj => ?_⟩
  ·simp only [List.map_cons, mfor_n, mfor_c, bName, oS, a1]
   exact c1
  ·refine c2.cong fun k hk => ?_
   by_cases e : k = x
   ·subst e; simp [hd1]
   ·simp [e]
  ·rw [c3 j hj, a3]; show (if j = 17 then _ else _) = _; rw [if_neg hj]
theorem turnN_cong {T : Tr} {t : Turn} {N V : Nat → Nat} (h : ∀ k, k < 8 → N k % 65536 = V k % 65536) : ∀ k, k < 8 → turnN T t N k % 65536 = turnN T t V k % 65536 := fun k hk => by
 unfold turnN
 rw [h k hk]
 by_cases e : T.on t.1 t.2.1 k = true
 ·rw [if_pos e, if_pos e]
 ·rw [if_neg e, if_neg e, h k hk]
theorem row_cong {T : Tr} {a b k : Nat} (h : a % 65536 = b % 65536) : rowOf T a k = rowOf T b k := rowOf_congr (by rw [← rowL_mod a, h, rowL_mod])
theorem entry_cong {T : Tr} {t : Turn} {N V : Nat → Nat} (h : ∀ k, k < 8 → N k % 65536 = V k % 65536) : entry T t N = entry T t V := by
 have h' := turnN_cong (T := T) (t := t) h
 have hm : ∀ k ∈ touched T t, k < 8 := fun k hk => List.mem_range.mp (List.mem_filter.mp hk).1
 unfold entry
 rw [rows_congr (T := T) (N := N) (V := V) fun k hk => by rw [← rowL_mod (N k), h k hk, rowL_mod],
  rows_congr (T := T) (N := turnN T t N) (V := turnN T t V) fun k hk => by rw [← rowL_mod (turnN T t N k), h' k hk, rowL_mod],
  List.map_congr_left (f := fun k => rowOf T (N k) k) (g := fun k => rowOf T (V k) k) fun k hk => row_cong (h k (hm k hk)),
  List.map_congr_left (f := fun k => rowOf T (turnN T t N k) k) (g := fun k => rowOf T (turnN T t V k) k) fun k hk => row_cong (h' k (hm k hk))]
theorem tale_cong {T : Tr} : ∀ (U : List Turn) (N V : Nat → Nat), (∀ k, k < 8 → N k % 65536 = V k % 65536) → tale T U N = tale T U V ∧ ∀ k, k < 8 → ending T U N k % 65536 = ending T U V k % 65536
 | [], N, V, h => ⟨rfl, h⟩
 | t :: U, N, V, h => by
  obtain ⟨h1, h2⟩ := tale_cong U _ _ (turnN_cong (T := T) (t := t) h)
  refine ⟨?_, h2⟩
  simp only [tale]
  rw [entry_cong h, h1]
noncomputable def wdTest : MSt → Option Bool := (bAnd (b2 gtV (eVar 13) (eInt 0)) (bAnd (bOr (b2 eqV (eVar 22) (eVar 12)) (bOr (b2 neV (e2 inV (eVar 22) (eVar 10)) (e2 inV (eVar 22) (eVar 11))) bFalse)) bTrue))
noncomputable def wdBody : MSt → Option (Out × MSt) := (sSeq (sAssign (eCall s_law_ups (eCons (eVar 7) (eCons (eVar 0) eNil))) (bName 10))
 (sSeq (sAssign (eCall s_law_ups (eCons (eVar 8) (eCons (eVar 0) eNil))) (bName 11))
 (sSeq (sAssign (eB (f1 maxV) (eCons (eLstOf (eComp 21 (iSeq (eVar 10)) (b2 inV (eVar 21) (eVar 11)) (eVar 21))) eNil)) (bName 12))
 (sSeq (sAssign (e2 modV (eVar 9) (eInt 4096)) (bName 13))
 (sSeq (sAssign (eLstOf (eComp 22 (iRange1 (eInt 8)) wdTest (eVar 22))) (bName 14))
 (sSeq (sAssign (eB (f1 sortedV) (eCons (eVar 5) eNil)) (bName 15))
 (sSeq (sAssign (eB (f1 sortedV) (eCons (eLstOf (eComp 23 (iSeq (eVar 14)) tTrue (eSub (eVar 5) (eVar 23)))) eNil)) (bName 16))
 (sSeq (sFor (iSeq (eVar 14)) (bName 17) wdInner sNil)
 (sSeq (sAppend 6 (eLst (eCons (eTup (eCons (eVar 16) (eCons (eB (f1 sortedV) (eCons (eLstOf (eComp 24 (iSeq (eVar 14)) tTrue (eSub (eVar 5) (eVar 24)))) eNil)) eNil))) (eCons (eVar 15) (eCons (eB (f1 sortedV) (eCons (eVar 5) eNil)) (eCons (eSub (eVar 3) (eVar 12)) eNil))))))
 sNil)))))))))
theorem wd_ups {T : Tr} {A : List Nat} {V : Nat → Nat} {told : List MV} {st : MSt} (hA : Hangs T A) (h : WD T A V told st) {ka kb i : Nat} (hi : i < 8) (ra : st.ρ ka = some (natI i)) : sAssign (eCall s_law_ups (eCons (eVar ka) (eCons (eVar 0) eNil))) (bName kb) st = some (.next, st.set kb (.lst ((T.ups i).map natI))) := by
 have v0 : eVar 0 st = some (.lst (A.map natI)) := h.r0
 have va : eVar ka st = some (natI i) := ra
 have hn : noRefs [natI i, .lst (A.map natI)] = true := by simp [nRs1, nRs2, nR1, nR2, nR3, nR4, nR5, nR6, nR7, nR8, noRefs_nats]
 simp only [sAssign, eCall, eCons, eNil, v0, va, oS, hn, if_true, law_ups_eq hA hi, bName, oP]
theorem wd_sorted {T : Tr} {A : List Nat} {V : Nat → Nat} {told : List MV} {st : MSt} (h : WD T A V told st) : eB (f1 sortedV) (eCons (eVar 5) eNil) st = some (strsM (sortS (rowsOf T V))) := by
 have v5 : eVar 5 st = some (.ref 1) := h.r5
 have hl : (rowsOf T V).length < 64 := rows_short
 have hr : ((List.range 8).map fun k => MV.str (rowOf T (V k) k)) = (rowsOf T V).map .str := by unfold rowsOf; rw [List.map_map]; rfl
 simp only [eB, eCons, eNil, v5, oS, f1, sortedV, listOf, h.hσ, lY, lZ, hr, strsOf_strs, hl, if_true]
 rfl
theorem wd_some {T : Tr} {A : List Nat} {V : Nat → Nat} {told : List MV} {st : MSt} (h : WD T A V told st) {L : List Nat} (kx : Nat) (hk : 14 < kx) (h8 : ∀ x ∈ L, x < 8) (hl : L.length < 64) (r14 : st.ρ 14 = some (.lst (L.map natI))) :
  eB (f1 sortedV) (eCons (eLstOf (eComp kx (iSeq (eVar 14)) tTrue (eSub (eVar 5) (eVar kx)))) eNil) st = some (strsM (sortS (L.map fun k => rowOf T (V k) k))) := by
 have v14 : eVar 14 st = some (.lst (L.map natI)) := r14
 have hm : mcomp kx tTrue (eSub (eVar 5) (eVar kx)) st (L.map natI) = some ((L.map fun k => rowOf T (V k) k).map .str) := by
  rw [List.map_map]
  refine mcomp_map fun k hkk => ?_
  have hs := h.set (k := kx) (natI k) (by omega)
  exact sub_heap (fun k => .str (rowOf T (V k) k)) (h8 k hkk) hs.r5 (by show (if kx = kx then _ else _) = _; rw [if_pos rfl]) (by rw [hs.hσ]; rfl)
 have hl' : (L.map natI).length ≤ 100000 := by simp; omega
 have hl2 : (L.map fun k => rowOf T (V k) k).length < 64 := by simpa using hl
 have c : eLstOf (eComp kx (iSeq (eVar 14)) tTrue (eSub (eVar 5) (eVar kx))) st = some (strsM (L.map fun k => rowOf T (V k) k)) := by
  simp only [eLstOf, eComp, iSeq, v14, oS, noRefs_nats, if_true, hl', hm, oP]
  rfl
 simp only [eB, eCons, eNil, c, oS, f1, sorted_strs hl2]
theorem touched_lt {T : Tr} {t : Turn} : ∀ k ∈ touched T t, k < 8 := fun k hk => List.mem_range.mp (List.mem_filter.mp hk).1
theorem touched_mem {T : Tr} {t : Turn} {k : Nat} : k ∈ touched T t ↔ k < 8 ∧ 0 < t.2.2 % 4096 ∧ T.on t.1 t.2.1 k = true := by
 unfold touched
 rw [List.mem_filter, List.mem_range, Bool.and_eq_true, decide_eq_true_eq]
theorem touched_len {T : Tr} {t : Turn} : (touched T t).length ≤ 8 := by
 unfold touched
 exact Nat.le_trans (List.length_filter_le _ _) (by simp)
theorem wd_turn {T : Tr} {A : List Nat} {V : Nat → Nat} {told : List MV} {st : MSt} {t : Turn} (hA : Hangs T A) (h : WD T A V told st) (hV : ∀ k, k < 8 → V k < 65536) (hi : t.1 < 8) (hj : t.2.1 < 8) (ht : told.length < 1000)
  (r7 : st.ρ 7 = some (natI t.1)) (r8 : st.ρ 8 = some (natI t.2.1)) (r9 : st.ρ 9 = some (natI t.2.2)) :
  ∃ st', wdBody st = some (.next, st') ∧ WD T A (turnN T t V) (told ++ [entry T t V]) st' ∧ st'.ρ 2 = st.ρ 2 := by
 refine cps fun G hG => ?_
 obtain ⟨hm, hp⟩ := T.meet_spec hi hj
 have hanc := fun k (hk : k < 8) => T.anc_meet (k := k) hi hj hm hp hk
 obtain ⟨mi, mj⟩ := (hanc _ hm).mp (T.anc_self hm)
 let i := t.1
 let j := t.2.1
 let q := t.2.2
 let m := T.meet t.1 t.2.1
 let st1 := st.set 10 (.lst ((T.ups i).map natI))
 have s1 := wd_ups hA h (kb := 10) hi r7
 have h1 : WD T A V told st1 := h.set _ (by omega)
 let st2 := st1.set 11 (.lst ((T.ups j).map natI))
 have s2 : sAssign (eCall s_law_ups (eCons (eVar 8) (eCons (eVar 0) eNil))) (bName 11) st1 = some (.next, st2) := wd_ups hA h1 (kb := 11) hj r8
 have h2 : WD T A V told st2 := h1.set _ (by omega)
 let st3 := st2.set 12 (natI m)
 have s3 : sAssign (eB (f1 maxV) (eCons (eLstOf (eComp 21 (iSeq (eVar 10)) (b2 inV (eVar 21) (eVar 11)) (eVar 21))) eNil)) (bName 12) st2 = some (.next, st3) := by
  have v10 : eVar 10 st2 = some (.lst ((T.ups i).map natI)) := rfl
  have hc : mcomp 21 (b2 inV (eVar 21) (eVar 11)) (eVar 21) st2 ((T.ups i).map natI) = some (((T.ups i).filter fun k => decide (k ∈ T.ups j)).map natI) := mcomp_filter (fun k _ => by
   have w21 : eVar 21 (st2.set 21 (natI k)) = some (natI k) := rfl
   have w11 : eVar 11 (st2.set 21 (natI k)) = some (.lst ((T.ups j).map natI)) := rfl
   simp only [b2, Mine.e2, w21, w11, oS, inV_nat, asBool]) fun k _ => rfl
  have hl : ((T.ups i).map natI).length ≤ 100000 := by
   have : (T.ups i).length ≤ 10 := by
    have h7 : (T.P i).length ≤ 7 := subs_len7 (T.mem_subs hi)
    simp only [Tr.ups, List.length_reverse, List.length_cons]
    omega
   simp; omega
  have mx : maxV st2 (.lst (((T.ups i).filter fun k => decide (k ∈ T.ups j)).map natI)) = some (natI m) := maxV_nat
   (List.mem_filter.mpr ⟨T.mem_ups.mpr mi, decide_eq_true (T.mem_ups.mpr mj)⟩) fun x hx => by
    obtain ⟨a, b⟩ := List.mem_filter.mp hx
    have a := T.mem_ups.mp a
    have b := T.mem_ups.mp (of_decide_eq_true b)
    have hx8 : x < 8 := by have := T.anc_le hi a; omega
    exact T.anc_le hm ((hanc x hx8).mpr ⟨a, b⟩)
  simp only [sAssign, eB, eCons, eNil, eLstOf, eComp, iSeq, v10, oS, noRefs_nats, if_true, hl, hc, oP, f1, mx, bName]
  rfl
 have h3 : WD T A V told st3 := h2.set _ (by omega)
 let st4 := st3.set 13 (natI (q % 4096))
 have s4 : sAssign (e2 modV (eVar 9) (eInt 4096)) (bName 13) st3 = some (.next, st4) := by
  have v9 : eVar 9 st3 = some (natI q) := r9
  have := modV_nat q 4096 (by omega)
  simp only [sAssign, Mine.e2, v9, eInt, oS, this, bName, oP]
  rw [show modV (natI q) (.int 4096) = some (natI (q % 4096)) from this]
  rfl
 have h4 : WD T A V told st4 := h3.set _ (by omega)
 let st5 := st4.set 14 (.lst ((touched T t).map natI))
 have s5 : sAssign (eLstOf (eComp 22 (iRange1 (eInt 8)) wdTest (eVar 22))) (bName 14) st4 = some (.next, st5) := by
  have hc : mcomp 22 wdTest (eVar 22) st4 ((List.range 8).map natI) = some ((touched T t).map natI) := mcomp_filter (fun k _ => by
   let sk := st4.set 22 (natI k)
   show wdTest sk = _
   have w22 : eVar 22 sk = some (natI k) := rfl
   have w10 : eVar 10 sk = some (.lst ((T.ups i).map natI)) := rfl
   have w11 : eVar 11 sk = some (.lst ((T.ups j).map natI)) := rfl
   have w12 : eVar 12 sk = some (natI m) := rfl
   have w13 : eVar 13 sk = some (natI (q % 4096)) := rfl
   have g : gtV (natI (q % 4096)) (.int 0) = some (.bool (decide (0 < q % 4096))) := gtV_nat (q % 4096) 0
   have dd : ∀ x, decide (k ∈ T.ups x) = decide (T.anc k x) := fun x => decide_eq_decide.mpr T.mem_ups
   simp only [wdTest, bAnd, bOr, b2, Mine.e2, w22, w10, w11, w12, w13, eInt, oS, g, asBool, eqV_nat, inV_nat, neV_bool, dd, bFalse, bTrue]
   show _ = some (decide (0 < q % 4096) && (decide (k = m) || (decide (T.anc k i) != decide (T.anc k j))))
   cases decide (0 < q % 4096) <;> cases decide (k = m) <;> cases (decide (T.anc k i) != decide (T.anc k j)) <;> rfl) fun k _ => rfl
  simp only [sAssign, eLstOf, eComp, iRange1, eInt, oS, asInt]
  rw [if_pos (by omega), oS, range8, if_pos (by simp), hc]
  rfl
 have h5 : WD T A V told st5 := h4.set _ (by omega)
 let st6 := st5.set 15 (strsM (sortS (rowsOf T V)))
 have s6 : sAssign (eB (f1 sortedV) (eCons (eVar 5) eNil)) (bName 15) st5 = some (.next, st6) := by
  simp only [sAssign, wd_sorted h5, oS, bName, oP]
  rfl
 have h6 : WD T A V told st6 := h5.set _ (by omega)
 have hl := touched_len (T := T) (t := t)
 let st7 := st6.set 16 (strsM (sortS ((touched T t).map fun k => rowOf T (V k) k)))
 have s7 : sAssign (eB (f1 sortedV) (eCons (eLstOf (eComp 23 (iSeq (eVar 14)) tTrue (eSub (eVar 5) (eVar 23)))) eNil)) (bName 16) st6 = some (.next, st7) := by
  simp only [sAssign, wd_some h6 (L := touched T t) 23 (by omega) touched_lt (by omega) rfl, oS, bName, oP]
  rfl
 have h7 : WD T A V told st7 := h6.set _ (by omega)
 obtain ⟨st8, a1, a2, a3⟩ := wd_loop (q := q % 4096) (touched T t) V st7 h7 touched_lt (List.Pairwise.sublist List.filter_sublist List.nodup_range) rfl
 have s8 : sFor (iSeq (eVar 14)) (bName 17) wdInner sNil st7 = some (.next, st8) := by
  have v14 : eVar 14 st7 = some (.lst ((touched T t).map natI)) := rfl
  simp only [sFor, iSeq, v14, oS, noRefs_nats, if_true]
  exact a1
 have h8 : WD T A (turnN T t V) told st8 := a2.cong fun k hk => by
  unfold turnN
  by_cases e : T.on t.1 t.2.1 k = true
  ·rw [if_pos e, Nat.mod_eq_of_lt (hV k hk)]
   by_cases hz : 0 < t.2.2 % 4096
   ·rw [if_pos (touched_mem.mpr ⟨hk, hz, e⟩)]
   ·have hz0 : t.2.2 % 4096 = 0 := by omega
    rw [hz0, Nat.xor_zero, if_neg fun hm => hz (touched_mem.mp hm).2.1]
  ·rw [if_neg e, if_neg fun hm => e (touched_mem.mp hm).2.2]
 let st9 : MSt := { st8 with σ := [.list ((List.range 8).map fun k => natI (turnN T t V k)), .list ((List.range 8).map fun k => .str (rowOf T (turnN T t V k) k)), .list (told ++ [entry T t V])] }
 have s9 : sAppend 6 (eLst (eCons (eTup (eCons (eVar 16) (eCons (eB (f1 sortedV) (eCons (eLstOf (eComp 24 (iSeq (eVar 14)) tTrue (eSub (eVar 5) (eVar 24)))) eNil)) eNil))) (eCons (eVar 15) (eCons (eB (f1 sortedV) (eCons (eVar 5) eNil)) (eCons (eSub (eVar 3) (eVar 12)) eNil))))) st8 = some (.next, st9) := by
  have w6 : eVar 6 st8 = some (.ref 2) := h8.r6
  have w16 : eVar 16 st8 = some (strsM (sortS ((touched T t).map fun k => rowOf T (V k) k))) := a3 16 (by omega)
  have w15 : eVar 15 st8 = some (strsM (sortS (rowsOf T V))) := a3 15 (by omega)
  have w24 := wd_some h8 (L := touched T t) 24 (by omega) touched_lt (by omega) (a3 14 (by omega))
  have wm : eSub (eVar 3) (eVar 12) st8 = some (pathI (T.P m)) := sub_texts (k := 12) hm h8.r3 (a3 12 (by omega))
  simp only [sAppend, w6, eLst, eTup, eCons, eNil, w16, w24, w15, wd_sorted h8, wm, oS, h8.hσ, lY, lZ]
  rw [if_pos (by simp), oS, oS, if_pos (by simp), oS, if_pos ht]
  rfl
 refine hG ?_; clear hG
 refine ⟨st9, ?_, ⟨h8.r0, h8.r3, h8.r4, h8.r5, h8.r6, rfl⟩, a3 2 (by omega)⟩
 unfold wdBody
 rw [sSeq_eq s1, sSeq_eq s2, sSeq_eq s3, sSeq_eq s4, sSeq_eq s5, sSeq_eq s6, sSeq_eq s7, sSeq_eq s8, sSeq_eq s9]
 rfl
theorem turnN_lt {T : Tr} {t : Turn} {V : Nat → Nat} (h : ∀ k, k < 8 → V k < 65536) : ∀ k, k < 8 → turnN T t V k < 65536 := fun k hk => by
 unfold turnN
 by_cases e : T.on t.1 t.2.1 k = true
 ·rw [if_pos e, show (65536 : Nat) = 2 ^ 16 by decide]
  exact Nat.xor_lt_two_pow (Nat.mod_lt _ (by decide)) (Nat.lt_trans (Nat.mod_lt t.2.2 (by decide : 0 < 4096)) (by decide))
 ·rw [if_neg e]; exact h k hk
theorem wd_turns {T : Tr} {A : List Nat} (hA : Hangs T A) : ∀ (U : List Turn) (V : Nat → Nat) (told : List MV) (st : MSt), (∀ t ∈ U, t.1 < 8 ∧ t.2.1 < 8) → WD T A V told st → (∀ k, k < 8 → V k < 65536) → told.length + U.length < 1000 →
  ∃ st', mfor (bTup [(bName 7), (bName 8), (bName 9)]) wdBody sNil (turnsV U) st = some (.next, st') ∧ WD T A (ending T U V) (told ++ tale T U V) st'
 | [], V, told, st, _, h, _, _ => ⟨st, rfl, by simpa [ending, tale] using h⟩
 | t :: U, V, told, st, ht, h, hV, hl => by
  simp only [List.length_cons] at hl
  refine cps fun G hG => ?_
  obtain ⟨st1, a1, a2, a3⟩ := wd_turn (t := t) (st := ((st.set 7 (natI t.1)).set 8 (natI t.2.1)).set 9 (natI t.2.2)) hA (((h.set _ (by omega)).set _ (by omega)).set _ (by omega)) hV (ht t (by simp)).1 (ht t (by simp)).2 (by omega) rfl rfl rfl
  obtain ⟨st', c1, c2⟩ := wd_turns hA U (turnN T t V) (told ++ [entry T t V]) st1 (fun u hu => ht u (by simp [hu])) a2 (turnN_lt hV) (by simp; omega)
  refine hG ?_; clear hG
  refine ⟨st', ?_, ?_⟩
  ·simp only [turnsV, List.map_cons, mfor_n, mfor_c, bTup, bAll, bName, List.length_cons, List.length_nil, if_true, oS, a1]
   exact c1
  ·simpa [ending, tale] using c2
theorem map_getD (M : List Nat) (hM : M.length = 8) (f : Nat → MV) : M.map f = (List.range 8).map fun k => f (M.getD k 0) := by
 apply List.ext_getElem (by simp [hM])
 intro j h1 h2
 simp only [List.getElem_map, List.getElem_range]
 simp at h1
 simp [h1]
theorem mod_comp {M : List Nat} {st : MSt} (hM : M.length = 8) (r1 : st.ρ 1 = some (.lst (M.map natI))) : eComp 19 (iSeq (eVar 1)) tTrue (e2 modV (eVar 19) (eInt 65536)) st = some ((List.range 8).map fun k => natI (M.getD k 0 % 65536)) := by
 have v1 : eVar 1 st = some (.lst (M.map natI)) := r1
 have hm : mcomp 19 tTrue (e2 modV (eVar 19) (eInt 65536)) st (M.map natI) = some (M.map fun m => natI (m % 65536)) := mcomp_map fun m _ => by
  have w : eVar 19 (st.set 19 (natI m)) = some (natI m) := rfl
  have := modV_nat m 65536 (by omega)
  dsimp only [Mine.e2, w, eInt, oS]
  exact this
 have hl : (M.map natI).length ≤ 100000 := by simp [hM]
 (dsimp only [eComp, iSeq, oS]; simp only [eComp, iSeq, v1, oS, noRefs_nats, if_true, hl, hm])
 rw [map_getD M hM]
theorem law_wanted_eq {T : Tr} {A M : List Nat} {U : List Turn} (hA : Hangs T A) (hM : M.length = 8) (hU : ∀ t ∈ U, t.1 < 8 ∧ t.2.1 < 8) (hl : U.length ≤ 40) :
  s_law_wanted [.lst (A.map natI), .lst (M.map natI), .lst (turnsV U)] = some (.tup [.lst (tale T U fun k => M.getD k 0 % 65536), strsM (rowsOf T (ending T U fun k => M.getD k 0 % 65536))]) := by
 let V : Nat → Nat := fun k => M.getD k 0 % 65536
 have hV : ∀ k, k < 8 → V k < 65536 := fun k _ => Nat.mod_lt _ (by omega)
 let st0 : MSt := start [.lst (A.map natI), .lst (M.map natI), .lst (turnsV U)]
 let st1 := st0.set 3 (.lst (paths8 T))
 have s1 : sAssign (eLstOf (eComp 18 (iRange1 (eInt 8)) tTrue (eCall s_law_text (eCons (eVar 18) (eCons (eVar 0) eNil))))) (bName 3) st0 = some (.next, st1) := by
  have hc : mcomp 18 tTrue (eCall s_law_text (eCons (eVar 18) (eCons (eVar 0) eNil))) st0 ((List.range 8).map natI) = some (paths8 T) := mcomp_map fun k hk => by
   have w18 : eVar 18 (st0.set 18 (natI k)) = some (natI k) := rfl
   have w0 : eVar 0 (st0.set 18 (natI k)) = some (.lst (A.map natI)) := rfl
   have hn : noRefs [natI k, .lst (A.map natI)] = true := by simp [nRs1, nRs2, nR1, nR2, nR3, nR4, nR5, nR6, nR7, nR8, noRefs_nats]
   (dsimp only [eCall, eCons, eNil, oS]; simp only [eCall, eCons, eNil, w18, w0, oS, hn, if_true, law_text_eq hA (List.mem_range.mp hk)])
  simp only [sAssign, eLstOf, eComp, iRange1, eInt, oS, asInt]
  rw [if_pos (by omega), oS, range8, if_pos (by simp), hc]
  rfl
 let st2 : MSt := MSt.set { st1 with σ := [.list ((List.range 8).map fun k => natI (V k))] } 4 (.ref 0)
 have s2 : sNewComp 4 (eComp 19 (iSeq (eVar 1)) tTrue (e2 modV (eVar 19) (eInt 65536))) st1 = some (.next, st2) := by
  (dsimp only [sNewComp, mod_comp (st := st1) hM rfl, oP]; simp only [sNewComp, mod_comp (st := st1) hM rfl, oP])
  rfl
 let st3 : MSt := MSt.set { st2 with σ := [.list ((List.range 8).map fun k => natI (V k)), .list ((List.range 8).map fun k => .str (rowOf T (V k) k))] } 5 (.ref 1)
 have s3 : sNewComp 5 (eComp 20 (iRange1 (eInt 8)) tTrue (e2 addV (e2 addV (eCall s_law_row (eCons (eSub (eVar 4) (eVar 20)) eNil)) (eStr " ")) (eSub (eVar 3) (eVar 20)))) st2 = some (.next, st3) := by
  have hc : mcomp 20 tTrue (e2 addV (e2 addV (eCall s_law_row (eCons (eSub (eVar 4) (eVar 20)) eNil)) (eStr " ")) (eSub (eVar 3) (eVar 20))) st2 ((List.range 8).map natI) = some ((List.range 8).map fun k => .str (rowOf T (V k) k)) := mcomp_map fun k hk => by
   have hx := List.mem_range.mp hk
   let sk := st2.set 20 (natI k)
   show e2 addV (e2 addV (eCall s_law_row (eCons (eSub (eVar 4) (eVar 20)) eNil)) (eStr " ")) (eSub (eVar 3) (eVar 20)) sk = _
   have n2 : eSub (eVar 4) (eVar 20) sk = some (natI (V k)) := sub_heap (fun k => natI (V k)) hx rfl rfl rfl
   have n3 : eSub (eVar 3) (eVar 20) sk = some (pathI (T.P k)) := sub_texts (k := 20) hx rfl rfl
   have c1 : eCall s_law_row (eCons (eSub (eVar 4) (eVar 20)) eNil) sk = some (.str (rowS (V k))) := by
    (dsimp only [eCall, eCons, n2, eNil, oS, nRs1, nRs2, nR1, nR2, nR3, nR4, nR5, nR6, nR7, nR8, law_row_eq]; simp only [eCall, eCons, n2, eNil, oS, nRs1, nRs2, nR1, nR2, nR3, nR4, nR5, nR6, nR7, nR8, Bool.and_self, if_true, law_row_eq])
   rw [show ∀ a c d : MSt → Option MV, e2 addV (e2 addV a c) d sk = ((((a sk).bind fun v => (c sk).bind fun w => addV v w)).bind fun z => (d sk).bind fun u => addV z u) from fun _ _ _ => rfl, c1, n3]
   (dsimp only [eStr, spc_eq, oS]; simp only [eStr, spc_eq, oS])
   exact row_join hx
  simp only [sNewComp, eComp, iRange1, eInt, oS, asInt]
  rw [if_pos (by omega), oS, range8, if_pos (by simp), hc]
  rfl
 let st4 : MSt := MSt.set { st3 with σ := st3.σ ++ [.list []] } 6 (.ref st3.σ.length)
 have s4 : sNewList 6 eNil st3 = some (.next, st4) := by simp [sNewList, eNil, st4]
 have h4 : WD T A V [] st4 := ⟨rfl, rfl, rfl, rfl, rfl, rfl⟩
 obtain ⟨st5, d1, d2⟩ := wd_turns hA U V [] st4 hU h4 hV (by simp; omega)
 have s5 : sFor (iSeq (eVar 2)) (bTup [(bName 7), (bName 8), (bName 9)]) wdBody sNil st4 = some (.next, st5) := by
  have v2 : eVar 2 st4 = some (.lst (turnsV U)) := rfl
  (dsimp only [sFor, iSeq, oS, turnsV_noRefs]; simp only [sFor, iSeq, v2, oS, turnsV_noRefs, if_true])
  exact d1
 unfold wdBody wdTest wdInner at s5
 unfold s_law_wanted runFn m_law_wanted
 rw [show packN 3 [MV.lst (A.map natI), .lst (M.map natI), .lst (turnsV U)] = some [.lst (A.map natI), .lst (M.map natI), .lst (turnsV U)] from rfl]
 simp only [oS]
 rw [sSeq_eq s1, sSeq_eq s2, sSeq_eq s3, sSeq_eq s4, sSeq_eq s5]
 have v6 : eVar 6 st5 = some (.ref 2) := d2.r6
 have v5 : eVar 5 st5 = some (.ref 1) := d2.r5
 have ht : noRefs ([] ++ tale T U V) = true := tale_noRefs U _
 have hr : noRefs ((List.range 8).map fun k => MV.str (rowOf T (ending T U V k) k)) = true := noRefs_map fun _ _ => rfl
 have he : ((List.range 8).map fun k => MV.str (rowOf T (ending T U V k) k)) = (rowsOf T (ending T U V)).map .str := by unfold rowsOf; rw [List.map_map]; rfl
 (dsimp only [sSeq, sRet, eTup, eCons, eNil, oS, oP]; simp only [sSeq, sRet, eTup, eCons, eNil, v5, v6, oS, List.length_cons, List.length_nil, oP])
 rw [if_pos (by omega)]
 (dsimp only [oP, oS, fZ1, fZ2, fZ3, fZ4, fZ5, fZ6, fZ7, fZ8, fZs1, fZs2, d2.hσ]; simp only [oP, oS, fZ1, fZ2, fZ3, fZ4, fZ5, fZ6, fZ7, fZ8, fZs1, fZs2, d2.hσ, lY, lZ, ht, hr, if_true, he])
 rfl
theorem same_tale {T : Tr} {M : List Nat} {U : List Turn} : (tale T U fun k => M.getD k 0) = (tale T U fun k => M.getD k 0 % 65536) ∧ rowsOf T (ending T U fun k => M.getD k 0) = rowsOf T (ending T U fun k => M.getD k 0 % 65536) := by
 obtain ⟨h1, h2⟩ := tale_cong (T := T) U (fun k => M.getD k 0) (fun k => M.getD k 0 % 65536) fun k _ => by omega
 exact ⟨h1, rows_congr fun k hk => by rw [← rowL_mod, h2 k hk, rowL_mod]⟩
noncomputable def xall (l : List Nat) : Nat := l.foldr (fun a b => a ^^^ b) 0
theorem xall_nil : xall [] = 0 := rfl
theorem xall_cons (x : Nat) (l : List Nat) : xall (x :: l) = x ^^^ xall l := rfl
theorem xall_append : ∀ a b : List Nat, xall (a ++ b) = xall a ^^^ xall b
 | [], b => by simp [xall]
 | x :: a, b => by rw [List.cons_append, xall_cons, xall_cons, xall_append a b, Nat.xor_assoc]
theorem xall_perm {a b : List Nat} (h : a.Perm b) : xall a = xall b := by
 induction h with
 | nil => rfl
 | cons x _ ih => rw [xall_cons, xall_cons, ih]
 | swap x y l => simp only [xall_cons]; rw [← Nat.xor_assoc, ← Nat.xor_assoc, Nat.xor_comm x y]
 | trans _ _ ih1 ih2 => rw [ih1, ih2]
theorem xall_zero : ∀ (L : List Nat) (f : Nat → Nat), (∀ x ∈ L, f x = 0) → xall (L.map f) = 0
 | [], _, _ => rfl
 | x :: L, f, h => by rw [List.map_cons, xall_cons, h x (by simp), xall_zero L f fun y hy => h y (by simp [hy])]; rfl
theorem xall_xor (f g : Nat → Nat) : ∀ L : List Nat, xall (L.map fun x => f x ^^^ g x) = xall (L.map f) ^^^ xall (L.map g)
 | [] => by simp [xall]
 | x :: L => by
  simp only [List.map_cons, xall_cons, xall_xor f g L]
  ac_rfl
theorem xall_one (f : Nat → Nat) (i : Nat) : ∀ L : List Nat, L.Nodup → i ∈ L → (∀ x ∈ L, x ≠ i → f x = 0) → xall (L.map f) = f i
 | [], _, hi, _ => by cases hi
 | x :: L, hd, hi, h => by
  obtain ⟨h1, h2⟩ := List.nodup_cons.mp hd
  rw [List.map_cons, xall_cons]
  by_cases e : x = i
  ·subst e
   rw [xall_zero L f fun y hy => h y (by simp [hy]) fun e => h1 (e ▸ hy), Nat.xor_zero]
  ·have hi' : i ∈ L := by
    rcases List.mem_cons.mp hi with e' | e'
    ·exact absurd e'.symm e
    ·exact e'
   rw [h x (by simp) e, Nat.zero_xor, xall_one f i L h2 hi' fun y hy => h y (by simp [hy])]
noncomputable def all7 : List Nat := List.range' 1 7
theorem mem_all7 {x : Nat} : x ∈ all7 ↔ 0 < x ∧ x < 8 := by unfold all7; rw [List.mem_range'_1]; omega
theorem all7_nodup : all7.Nodup := by decide
noncomputable def kidsX (T : Tr) (D : List Nat) (g : Nat → Nat) (k : Nat) : Nat := xall (D.map fun x => if T.ab x = k then g x else 0)
theorem kidsX_xor (T : Tr) (D : List Nat) (f g : Nat → Nat) (k : Nat) : kidsX T D (fun x => f x ^^^ g x) k = kidsX T D f k ^^^ kidsX T D g k := by
 unfold kidsX
 rw [← xall_xor]
 congr 1
 refine List.map_congr_left fun x _ => ?_
 by_cases h : T.ab x = k
 ·rw [if_pos h, if_pos h, if_pos h]
 ·rw [if_neg h, if_neg h, if_neg h]; rfl
theorem kidsX_congr {T : Tr} {D : List Nat} {f g : Nat → Nat} {k : Nat} (h : ∀ x ∈ D, f x = g x) : kidsX T D f k = kidsX T D g k := by
 unfold kidsX
 congr 1
 exact List.map_congr_left fun x hx => by rw [h x hx]
theorem kidsX_zero {T : Tr} {D : List Nat} {f : Nat → Nat} {k : Nat} (h : ∀ x ∈ D, f x = 0) : kidsX T D f k = 0 := by
 unfold kidsX
 refine xall_zero _ _ fun x hx => ?_
 rw [h x hx]; simp
theorem kidsX_one {T : Tr} {i v k : Nat} (h0 : 0 < i) (h8 : i < 8) : kidsX T all7 (fun x => if x = i then v else 0) k = if T.ab i = k then v else 0 := by
 unfold kidsX
 rw [xall_one _ i all7 all7_nodup (mem_all7.mpr ⟨h0, h8⟩) fun x _ hne => by simp [hne]]
 simp
theorem anc_split {T : Tr} {x i v : Nat} (h0 : 0 < i) (h8 : i < 8) : (if T.anc x i then v else 0) = (if x = i then v else 0) ^^^ (if T.anc x (T.ab i) then v else 0) := by
 have hl := T.hlt i h0 h8
 by_cases e : x = i
 ·subst e
  have : ¬ T.anc x (T.ab x) := fun h => by have := T.anc_le (by omega) h; omega
  rw [if_pos (T.anc_self h8), if_pos rfl, if_neg this, Nat.xor_zero]
 ·rw [if_neg e, Nat.zero_xor]
  by_cases h : T.anc x (T.ab i)
  ·rw [if_pos h, if_pos ((T.anc_ab h0 h8).mpr (.inr h))]
  ·rw [if_neg h, if_neg fun h' => h (((T.anc_ab h0 h8).mp h').resolve_left e)]
theorem anc_kids {T : Tr} {v k : Nat} : ∀ (n i : Nat), i < n → i < 8 → (if T.anc k i then v else 0) = (if k = i then v else 0) ^^^ kidsX T all7 (fun x => if T.anc x i then v else 0) k
 | 0, i, hn, _ => by omega
 | n + 1, i, hn, h8 => by
  by_cases h0 : i = 0
  ·subst h0
   rw [kidsX_zero fun x hx => if_neg fun h => by have := T.anc_zero.mp h; have := (mem_all7.mp hx).1; omega, Nat.xor_zero]
   by_cases e : k = 0
   ·rw [if_pos (T.anc_zero.mpr e), if_pos e]
   ·rw [if_neg fun h => e (T.anc_zero.mp h), if_neg e]
  ·have hl := T.hlt i (by omega) h8
   rw [kidsX_congr (g := fun x => (if x = i then v else 0) ^^^ (if T.anc x (T.ab i) then v else 0)) fun x _ => anc_split (by omega) h8, kidsX_xor, kidsX_one (by omega) h8, anc_split (x := k) (by omega) h8, anc_kids n (T.ab i) (by omega) (by omega)]
   have : (if T.ab i = k then v else 0) = if k = T.ab i then v else 0 := by
    by_cases e : T.ab i = k
    ·rw [if_pos e, if_pos e.symm]
    ·rw [if_neg e, if_neg fun h => e h.symm]
   rw [this]
noncomputable def onV (T : Tr) (t : Turn) (k : Nat) : Nat := if T.on t.1 t.2.1 k = true then t.2.2 % 4096 else 0
noncomputable def endsOf (T : Tr) (t : Turn) : List Nat := [t.1, t.2.1, T.meet t.1 t.2.1] ++ if T.meet t.1 t.2.1 = 0 then [] else [T.ab (T.meet t.1 t.2.1)]
noncomputable def endV (T : Tr) (t : Turn) (k : Nat) : Nat := xall ((endsOf T t).map fun x => if k = x then t.2.2 % 4096 else 0)
theorem onV_eq {T : Tr} {t : Turn} (hi : t.1 < 8) (hj : t.2.1 < 8) {k : Nat} (hk : k < 8) :
  onV T t k = (if k = T.meet t.1 t.2.1 then t.2.2 % 4096 else 0) ^^^ ((if T.anc k t.1 then t.2.2 % 4096 else 0) ^^^ (if T.anc k t.2.1 then t.2.2 % 4096 else 0)) := by
 obtain ⟨hm, hp⟩ := T.meet_spec hi hj
 have hanc := T.anc_meet (k := k) hi hj hm hp hk
 unfold onV Tr.on
 by_cases e : k = T.meet t.1 t.2.1
 ·have h := hanc.mp (by rw [← e]; exact T.anc_self hk)
  simp [← e, h.1, h.2]
 ·by_cases a : T.anc k t.1 <;> by_cases b : T.anc k t.2.1 <;> simp [e, a, b]
theorem turn_kids {T : Tr} {t : Turn} (hi : t.1 < 8) (hj : t.2.1 < 8) {k : Nat} (hk : k < 8) : onV T t k = endV T t k ^^^ kidsX T all7 (onV T t) k := by
 obtain ⟨hm, hp⟩ := T.meet_spec hi hj
 rw [kidsX_congr (f := onV T t) fun x hx => onV_eq hi hj (mem_all7.mp hx).2, kidsX_xor, kidsX_xor, onV_eq hi hj hk, anc_kids (k := k) 8 t.1 hi hi, anc_kids (k := k) 8 t.2.1 hj hj]
 have h1 : endV T t k = (if k = t.1 then t.2.2 % 4096 else 0) ^^^ ((if k = t.2.1 then t.2.2 % 4096 else 0) ^^^ ((if k = T.meet t.1 t.2.1 then t.2.2 % 4096 else 0) ^^^ kidsX T all7 (fun x => if x = T.meet t.1 t.2.1 then t.2.2 % 4096 else 0) k)) := by
  unfold endV endsOf
  rw [List.map_append, xall_append]
  simp only [List.map_cons, List.map_nil, xall_cons, xall_nil, Nat.xor_zero]
  have : xall ((if T.meet t.1 t.2.1 = 0 then [] else [T.ab (T.meet t.1 t.2.1)]).map fun x => if k = x then t.2.2 % 4096 else 0) = kidsX T all7 (fun x => if x = T.meet t.1 t.2.1 then t.2.2 % 4096 else 0) k := by
   by_cases h0 : T.meet t.1 t.2.1 = 0
   ·rw [if_pos h0, kidsX_zero fun x hx => if_neg fun h => by have := (mem_all7.mp hx).1; omega]; rfl
   ·rw [if_neg h0, kidsX_one (by omega) hm]
    simp only [List.map_cons, List.map_nil, xall_cons, xall_nil, Nat.xor_zero]
    by_cases e : T.ab (T.meet t.1 t.2.1) = k
    ·rw [if_pos e, if_pos e.symm]
    ·rw [if_neg e, if_neg fun h => e h.symm]
  rw [this]
  ac_rfl
 rw [h1]
 generalize kidsX T all7 (fun x => if x = T.meet t.1 t.2.1 then t.2.2 % 4096 else 0) k = K0
 generalize kidsX T all7 (fun x => if T.anc x t.1 then t.2.2 % 4096 else 0) k = K1
 generalize kidsX T all7 (fun x => if T.anc x t.2.1 then t.2.2 % 4096 else 0) k = K2
 generalize (if k = t.1 then t.2.2 % 4096 else 0) = a
 generalize (if k = t.2.1 then t.2.2 % 4096 else 0) = b
 generalize (if k = T.meet t.1 t.2.1 then t.2.2 % 4096 else 0) = c
 have : a ^^^ (b ^^^ (c ^^^ K0)) ^^^ (K0 ^^^ (K1 ^^^ K2)) = c ^^^ (a ^^^ K1 ^^^ (b ^^^ K2)) ^^^ (K0 ^^^ K0) := by ac_rfl
 rw [this, Nat.xor_self, Nat.xor_zero]
noncomputable def accV (T : Tr) : List Turn → Nat → Nat
 | [], _ => 0
 | t :: U, k => onV T t k ^^^ accV T U k
theorem aV1 {T : Tr} {k : Nat} : accV T [] k = 0 := rfl
theorem aV2 {T : Tr} {t : Turn} {U : List Turn} {k : Nat} : accV T (t :: U) k = onV T t k ^^^ accV T U k := rfl
noncomputable def markV (T : Tr) : List Turn → Nat → Nat
 | [], _ => 0
 | t :: U, k => endV T t k ^^^ markV T U k
theorem kV1 {T : Tr} {k : Nat} : markV T [] k = 0 := rfl
theorem kV2 {T : Tr} {t : Turn} {U : List Turn} {k : Nat} : markV T (t :: U) k = endV T t k ^^^ markV T U k := rfl
theorem acc_kids {T : Tr} : ∀ (U : List Turn), (∀ t ∈ U, t.1 < 8 ∧ t.2.1 < 8) → ∀ k, k < 8 → accV T U k = markV T U k ^^^ kidsX T all7 (accV T U) k
 | [], _, k, hk => by
  have : kidsX T all7 (accV T []) k = 0 := kidsX_zero fun x _ => rfl
  rw [this, Nat.xor_zero]
  simp only [aV1, aV2, kV1, kV2]
 | t :: U, h, k, hk => by
  have h1 := turn_kids (T := T) (h t (by simp)).1 (h t (by simp)).2 hk
  have h2 := acc_kids (T := T) U (fun u hu => h u (by simp [hu])) k hk
  have h3 : kidsX T all7 (accV T (t :: U)) k = kidsX T all7 (onV T t) k ^^^ kidsX T all7 (accV T U) k := kidsX_xor T all7 (onV T t) (accV T U) k
  rw [h3]
  show onV T t k ^^^ accV T U k = endV T t k ^^^ markV T U k ^^^ _
  rw [h2, h1]
  generalize kidsX T all7 (onV T t) k = K1
  generalize kidsX T all7 (accV T U) k = K2
  ac_rfl
theorem acc_end {T : Tr} : ∀ (U : List Turn) (N : Nat → Nat) (k : Nat), (N k ^^^ accV T U k) % 65536 = ending T U N k % 65536
 | [], N, k => by simp [aV1, aV2, ending]
 | t :: U, N, k => by
  show (N k ^^^ (onV T t k ^^^ accV T U k)) % 65536 = ending T U (turnN T t N) k % 65536
  rw [← acc_end U (turnN T t N) k, ← Nat.xor_assoc]
  rw [show (65536 : Nat) = 2 ^ 16 by decide, Nat.xor_mod_two_pow, Nat.xor_mod_two_pow (a := turnN T t N k)]
  congr 1
  unfold turnN onV
  by_cases e : T.on t.1 t.2.1 k = true
  ·rw [if_pos e, if_pos e, Nat.xor_mod_two_pow, Nat.xor_mod_two_pow (a := N k % 65536), show (65536 : Nat) = 2 ^ 16 by decide, Nat.mod_mod]
  ·rw [if_neg e, if_neg e, Nat.xor_zero]
theorem lt_app : ∀ (a : List Nat) (x : Nat) (b : List Nat), a < a ++ x :: b
 | [], x, b => List.nil_lt_cons x b
 | y :: a, x, b => by
  rw [List.cons_append, List.cons_lt_cons_iff]
  exact .inr ⟨rfl, lt_app a x b⟩
theorem path_up {T : Tr} {k : Nat} (h0 : 0 < k) (hk : k < 8) : sLt (path (T.P (T.ab k))) (path (T.P k)) := by
 show (path (T.P (T.ab k))).cps.toList < (path (T.P k)).cps.toList
 rw [path_list, path_list, if_neg (T.ne_nil h0 hk), T.Pk k h0 hk]
 by_cases e : T.P (T.ab k) = []
 ·rw [if_pos e, e]
  exact lt_app [47] (96 + k) []
 ·rw [if_neg e, pathL_append]
  exact lt_app _ _ _
theorem slash_low {T : Tr} {k : Nat} (h0 : 0 < k) (hk : k < 8) : sLt slash (path (T.P k)) := by
 show slash.cps.toList < (path (T.P k)).cps.toList
 rw [path_list, if_neg (T.ne_nil h0 hk), T.Pk k h0 hk, show slash.cps.toList = [47] from rfl]
 cases h : T.P (T.ab k) with
 | nil => exact lt_app [47] (96 + k) []
 | cons x r => exact lt_app [47] (96 + x) _
theorem perm_map_inv {α β : Type} {f : α → β} : ∀ (l' : List β) (l : List α), l'.Perm (l.map f) → ∃ l'' : List α, l''.Perm l ∧ l' = l''.map f
 | [], l, h => by
  have := h.length_eq
  rw [List.length_map] at this
  have : l = [] := List.length_eq_zero_iff.mp this.symm
  subst this
  exact ⟨[], .refl _, rfl⟩
 | x :: r, l, h => by
  have hx : x ∈ l.map f := h.mem_iff.mp (by simp)
  obtain ⟨y, hy, rfl⟩ := List.mem_map.mp hx
  obtain ⟨a, b, rfl⟩ := List.append_of_mem hy
  have h1 : (f y :: r).Perm (f y :: (a ++ b).map f) := h.trans (by rw [List.map_append, List.map_cons, List.map_append]; exact List.perm_middle)
  obtain ⟨l'', g1, g2⟩ := perm_map_inv r (a ++ b) h1.cons_inv
  exact ⟨y :: l'', (g1.cons y).trans List.perm_middle.symm, by rw [List.map_cons, g2]⟩
theorem sorted_paths (T : Tr) : ∃ L : List Nat, sortS ((List.range 8).map fun k => path (T.P k)) = slash :: L.reverse.map (fun k => path (T.P k)) ∧ L.Perm all7 ∧ L.Pairwise fun a b => T.ab b ≠ a := by
 obtain ⟨L0, h1, h2⟩ := perm_map_inv (f := fun k => path (T.P k)) (sortS (all7.map fun k => path (T.P k))) all7 (sortS_perm _)
 have hm : ∀ x ∈ L0, 0 < x ∧ x < 8 := fun x hx => mem_all7.mp (h1.mem_iff.mp hx)
 have hr : Rise (L0.map fun k => path (T.P k)) := by rw [← h2]; exact sortS_rise _
 refine ⟨L0.reverse, ?_, (List.reverse_perm _).trans h1, ?_⟩
 ·rw [List.reverse_reverse]
  refine rise_unique ?_ (sortS_rise _) (List.pairwise_cons.mpr ⟨fun z hz => ?_, hr⟩)
  ·refine (sortS_perm _).trans ?_
   rw [show (List.range 8) = 0 :: all7 by decide, List.map_cons, T.P0]
   exact List.Perm.cons _ (h1.map _).symm
  ·obtain ⟨k, hk, rfl⟩ := List.mem_map.mp hz
   exact sLt_asymm (slash_low (hm k hk).1 (hm k hk).2)
 ·rw [List.pairwise_reverse]
  have hr' : L0.Pairwise fun a b => ¬ sLt (path (T.P b)) (path (T.P a)) := List.pairwise_map.mp hr
  refine List.Pairwise.imp_of_mem (fun {a b} ha hb h e => ?_) hr'
  exact h (e ▸ path_up (hm a ha).1 (hm a ha).2)
structure MK (T : Tr) (c : Nat → Nat) (b : Nat) (st : MSt) : Prop where
 r0 : st.ρ 0 = some (.lst (paths8 T))
 r3 : st.ρ 3 = some (.ref 0)
 hσ : ∃ f n, st.σ[0]? = some (.dict f n) ∧ n ≤ b ∧ ∀ k, k < 8 → f (path (T.P k)) = some (natI (c k))
noncomputable def upd (c : Nat → Nat) (x v : Nat) : Nat → Nat := fun k => if k = x then c k ^^^ v else c k
theorem MK.cong {T : Tr} {c d : Nat → Nat} {b : Nat} {st : MSt} (h : MK T c b st) (e : ∀ k, k < 8 → c k = d k) : MK T d b st := by
 obtain ⟨f, n, h1, h2, h3⟩ := h.hσ
 exact ⟨h.r0, h.r3, f, n, h1, h2, fun k hk => by rw [← e k hk]; exact h3 k hk⟩
theorem MK.set {T : Tr} {c : Nat → Nat} {b : Nat} {st : MSt} (h : MK T c b st) {k : Nat} (v : MV) (hk : 3 < k) : MK T c b (st.set k v) := by
 refine ⟨?_, ?_, h.hσ⟩
 ·show (if 0 = k then some v else st.ρ 0) = _; rw [if_neg (by omega)]; exact h.r0
 ·show (if 3 = k then some v else st.ρ 3) = _; rw [if_neg (by omega)]; exact h.r3
theorem mk_get {T : Tr} {c : Nat → Nat} {b x : Nat} {st : MSt} {kb : MSt → Option MV} (h : MK T c b st) (hx : x < 8) (hk : kb st = some (pathI (T.P x))) : eSub (eVar 3) kb st = some (natI (c x)) := by
 refine cps fun G hG => ?_
 obtain ⟨f, n, h1, h2, h3⟩ := h.hσ
 have v3 : eVar 3 st = some (.ref 0) := h.r3
 refine hG ?_; clear hG
 simp only [eSub, v3, hk, oS, subE, subI, subS, dictOf', h1]
 exact h3 x hx
theorem mk_xor {T : Tr} {c : Nat → Nat} {b x v : Nat} {st : MSt} {kb ve : MSt → Option MV} (h : MK T c b st) (hb : b < 900) (hx : x < 8) (hk : kb st = some (pathI (T.P x))) (hv : ve st = some (natI v)) :
  ∃ st', sSetItem (eVar 3) kb (e2 xorV (eSub (eVar 3) kb) ve) st = some (.next, st') ∧ MK T (upd c x v) (b + 1) st' ∧ st'.ρ = st.ρ ∧ (∀ n, n ≠ 0 → st'.σ[n]? = st.σ[n]?) ∧ st'.σ.length = st.σ.length := by
 refine cps fun G hG => ?_
 obtain ⟨f, n, h1, h2, h3⟩ := h.hσ
 have v3 : eVar 3 st = some (.ref 0) := h.r3
 have g := mk_get h hx hk
 have e1 : e2 xorV (eSub (eVar 3) kb) ve st = some (natI (c x ^^^ v)) := by
  rw [show e2 xorV (eSub (eVar 3) kb) ve st = ((eSub (eVar 3) kb st).bind fun a => (ve st).bind fun b => xorV a b) from rfl, g, hv]
  simp only [oS, xorV, intOp, bitXor_nat, oP]
 have hl : 0 < st.σ.length := (List.getElem?_eq_some_iff.mp h1).1
 refine hG ?_; clear hG
 refine ⟨{ st with σ := st.σ.set 0 (.dict (fun y => if y = path (T.P x) then some (natI (c x ^^^ v)) else f y) (n + 1)) }, ?_, ⟨h.r0, h.r3, (fun y => if y = path (T.P x) then some (natI (c x ^^^ v)) else f y), n + 1, by simp [List.getElem?_set, hl], by omega, fun k hk => ?_⟩, rfl, fun i hi => ?_, by simp⟩
 ·simp only [sSetItem, e1, v3, hk, oS, h1, setObj]
  rw [if_pos (by omega)]
  rfl
 ·unfold upd
  by_cases e : k = x
  ·subst e; simp
  ·simp only [path_ne hk hx, e, if_false]; exact h3 k hk
 ·simp only [List.getElem?_set]
  rw [if_neg (fun e : 0 = i => hi e.symm)]
noncomputable def mkDown : MSt → Option (Out × MSt) := sSeq (sSetItem (eVar 3) (eCall s_dirname (eCons (eVar 10) eNil)) (e2 xorV (eSub (eVar 3) (eCall s_dirname (eCons (eVar 10) eNil))) (eSub (eVar 3) (eVar 10)))) sNil
theorem kidsX_app {T : Tr} {D E : List Nat} {g : Nat → Nat} {k : Nat} : kidsX T (D ++ E) g k = kidsX T D g k ^^^ kidsX T E g k := by
 unfold kidsX
 rw [List.map_append, xall_append]
theorem mk_down {T : Tr} {X m : Nat → Nat} {L : List Nat} (hL : L.Perm all7) (hP : L.Pairwise fun a b => T.ab b ≠ a) (hX : ∀ k, k < 8 → X k = m k ^^^ kidsX T all7 X k) : ∀ (R D : List Nat) (c : Nat → Nat) (b : Nat) (st : MSt), D ++ R = L → MK T c b st → b + R.length < 900 → (∀ k, k < 8 → c k = m k ^^^ kidsX T D X k) →
  ∃ st', mfor (bName 10) mkDown sNil (R.map fun k => pathI (T.P k)) st = some (.next, st') ∧ MK T X (b + R.length) st' ∧ ∀ j, j ≠ 10 → st'.ρ j = st.ρ j
 | [], D, c, b, st, hD, h, _, hc => ⟨st, rfl, h.cong fun k hk => by
   rw [List.append_nil] at hD
   rw [hc k hk, hX k hk, hD]
   congr 1
   unfold kidsX
   exact xall_perm (hL.map _), fun _ _ => rfl⟩
 | x :: R, D, c, b, st, hD, h, hb, hc => by
  simp only [List.length_cons] at hb
  have hx := mem_all7.mp (hL.mem_iff.mp (show x ∈ L by rw [← hD]; simp))
  have hP' := hP
  rw [← hD] at hP'
  have hR := (List.pairwise_cons.mp (List.pairwise_append.mp hP').2.1).1
  have cx : c x = X x := by
   rw [hc x hx.2, hX x hx.2]
   congr 1
   have e1 : kidsX T all7 X x = kidsX T L X x := by unfold kidsX; exact (xall_perm (hL.map _)).symm
   rw [e1, ← hD, kidsX_app, show kidsX T (x :: R) X x = 0 from ?_, Nat.xor_zero]
   unfold kidsX
   refine xall_zero _ _ fun y hy => ?_
   rcases List.mem_cons.mp hy with rfl | hy
   ·have := T.hlt y hx.1 hx.2
    rw [if_neg (by omega)]
   ·rw [if_neg (hR y hy)]
  let st1 := st.set 10 (pathI (T.P x))
  have h1 : MK T c b st1 := h.set _ (by omega)
  have v10 : eVar 10 st1 = some (pathI (T.P x)) := rfl
  have dn : eCall s_dirname (eCons (eVar 10) eNil) st1 = some (pathI (T.P (T.ab x))) := by
   simp only [eCall, eCons, eNil, v10, oS, nRs1, nRs2, nR1, nR2, nR3, nR4, nR5, nR6, nR7, nR8, Bool.and_self, if_true, T.dir hx.2]
  refine cps fun G hG => ?_
  obtain ⟨st2, a1, a2, a3, a4, a5⟩ := mk_xor (v := c x) h1 (by omega) (T.ab_lt hx.2) dn (mk_get h1 hx.2 v10)
  obtain ⟨st', c1, c2, c3⟩ := mk_down hL hP hX R (D ++ [x]) _ (b + 1) st2 (by simp [hD]) a2 (by omega) (fun k hk => by
   rw [kidsX_app, ← Nat.xor_assoc, ← hc k hk]
   unfold upd kidsX
   simp only [List.map_cons, List.map_nil, xall_cons, xall_nil, Nat.xor_zero]
   by_cases e : k = T.ab x
   ·rw [if_pos e, if_pos e.symm, cx]
   ·rw [if_neg e, if_neg fun e' => e e'.symm, Nat.xor_zero])
  refine hG ?_; clear hG
  refine ⟨st', ?_, ?_, fun j hj => ?_⟩
  ·have hb1 : mkDown st1 = some (.next, st2) := by unfold mkDown; rw [sSeq_eq a1]; rfl
   simp only [List.map_cons, mfor_n, mfor_c, bName, oS]
   rw [show st.set 10 (pathI (T.P x)) = st1 from rfl, hb1]
   exact c1
  ·rw [show b + (x :: R).length = b + 1 + R.length by simp; omega]
   exact c2
  ·rw [c3 j hj, a3]; show (if j = 10 then _ else _) = _; rw [if_neg hj]
noncomputable def mkAdd : MSt → Option (Out × MSt) := sSeq (sSetItem (eVar 3) (eVar 10) (e2 xorV (eSub (eVar 3) (eVar 10)) (eVar 7))) sNil
theorem mk_ref {T : Tr} {es : List Nat} {n v : Nat} (hn : n ≠ 0) (h8 : ∀ x ∈ es, x < 8) : ∀ (R D : List Nat) (c : Nat → Nat) (b fuel : Nat) (st : MSt), D ++ R = es → R.length < fuel → b + R.length < 900 → MK T c b st → st.ρ 7 = some (natI v) → st.σ[n]? = some (.list (es.map fun k => pathI (T.P k))) →
  ∃ st', mforRef n (bName 10) mkAdd fuel D.length st = some (.next, st') ∧ MK T (fun k => c k ^^^ xall (R.map fun x => if k = x then v else 0)) (b + R.length) st' ∧ (∀ j, j ≠ 10 → st'.ρ j = st.ρ j)
 | _, _, _, _, 0, _, _, hf, _, _, _, _ => by omega
 | [], D, c, b, fuel + 1, st, hD, hf, hb, h, r7, hs => by
  refine ⟨st, ?_, h.cong fun k _ => by simp [xall], fun _ _ => rfl⟩
  have : (es.map fun k => pathI (T.P k))[D.length]? = none := by rw [← hD]; simp
  (dsimp only [mforRef_n, mforRef_c]; simp only [mforRef_n, mforRef_c, hs, this])
 | x :: R, D, c, b, fuel + 1, st, hD, hf, hb, h, r7, hs => by
  simp only [List.length_cons] at hf hb
  have hx := h8 x (by rw [← hD]; simp)
  let st1 := st.set 10 (pathI (T.P x))
  have h1 : MK T c b st1 := h.set _ (by omega)
  refine cps fun G hG => ?_
  obtain ⟨st2, a1, a2, a3, a4, a5⟩ := mk_xor (v := v) (kb := eVar 10) (ve := eVar 7) h1 (by omega) hx rfl r7
  obtain ⟨st', c1, c2, c3⟩ := mk_ref hn h8 R (D ++ [x]) _ (b + 1) fuel st2 (by simp [hD]) (by omega) (by omega) a2 (by rw [a3]; exact r7) (by rw [a4 n hn]; exact hs)
  refine hG ?_; clear hG
  refine ⟨st', ?_, ?_, fun j hj => ?_⟩
  ·have hg : (es.map fun k => pathI (T.P k))[D.length]? = some (pathI (T.P x)) := by rw [← hD]; simp
   have hb1 : mkAdd st1 = some (.next, st2) := by unfold mkAdd; rw [sSeq_eq a1]; rfl
   (dsimp only [mforRef_n, mforRef_c, bName, oS]; simp only [mforRef_n, mforRef_c, hs, hg, bName, oS])
   rw [show st.set 10 (pathI (T.P x)) = st1 from rfl, hb1]
   rw [List.length_append] at c1
   exact c1
  ·rw [show b + (x :: R).length = b + 1 + R.length by simp; omega]
   refine c2.cong fun k hk => ?_
   rw [List.map_cons, xall_cons, ← Nat.xor_assoc]
   congr 1
   unfold upd
   by_cases e : k = x
   ·rw [if_pos e, if_pos e]
   ·rw [if_neg e, if_neg e, Nat.xor_zero]
  ·rw [c3 j hj, a3]; show (if j = 10 then _ else _) = _; rw [if_neg hj]
noncomputable def mkBody : MSt → Option (Out × MSt) := (sSeq (sAssign (eCall s_S_IMODE (eCons (eVar 6) eNil)) (bName 7))
 (sSeq (sAssign (eCall s_commonpath (eCons (eLst (eCons (eSub (eVar 0) (eVar 5)) (eCons (eSub (eVar 0) (eVar 4)) eNil))) eNil)) (bName 8))
 (sSeq (sNewList 9 (eCons (eSub (eVar 0) (eVar 4)) (eCons (eSub (eVar 0) (eVar 5)) (eCons (eVar 8) eNil))))
 (sSeq (sIf (b2 neV (eVar 8) (eStr "/")) (sSeq (sAppend 9 (eCall s_dirname (eCons (eVar 8) eNil)))
 sNil) sNil)
 (sSeq (sForRef 9 (bName 10) mkAdd)
 sNil)))))
theorem slash_sok : sok slash := by decide +kernel
theorem mk_turn {T : Tr} {c : Nat → Nat} {b : Nat} {st : MSt} {t : Turn} (h : MK T c b st) (hi : t.1 < 8) (hj : t.2.1 < 8) (hb : b + 4 < 900)
  (r4 : st.ρ 4 = some (natI t.1)) (r5 : st.ρ 5 = some (natI t.2.1)) (r6 : st.ρ 6 = some (natI t.2.2)) :
  ∃ st', mkBody st = some (.next, st') ∧ MK T (fun k => c k ^^^ endV T t k) (b + 4) st' ∧ st'.ρ 1 = st.ρ 1 ∧ st'.ρ 2 = st.ρ 2 := by
 refine cps fun G hG => ?_
 obtain ⟨hm, hp⟩ := T.meet_spec hi hj
 obtain ⟨m, hm0⟩ : ∃ m, m = T.meet t.1 t.2.1 := ⟨_, rfl⟩
 rw [← hm0] at hm hp
 have hp' : lcp (T.P t.2.1) (T.P t.1) = T.P m := by rw [lcp_comm]; exact hp
 let v := t.2.2 % 4096
 let st1 := st.set 7 (natI v)
 have s1 : sAssign (eCall s_S_IMODE (eCons (eVar 6) eNil)) (bName 7) st = some (.next, st1) := by
  have v6 : eVar 6 st = some (natI t.2.2) := r6
  have c3 : eCall s_S_IMODE (eCons (eVar 6) eNil) st = some (natI v) := by
   simp only [eCall, eCons, v6, eNil, oS, nRs1, nRs2, nR1, nR2, nR3, nR4, nR5, nR6, nR7, nR8, Bool.and_self, if_true, imode_eq]
   rw [show (4095 : Int) = ((4095 : Nat) : Int) from rfl, bitAnd_nat, and_mode]
  simp only [sAssign, c3, oS, bName, oP]
  rfl
 have h1 : MK T c b st1 := h.set _ (by omega)
 have p4 : eSub (eVar 0) (eVar 4) st1 = some (pathI (T.P t.1)) := sub_path (k := 4) hi h1.r0 r4
 have p5 : eSub (eVar 0) (eVar 5) st1 = some (pathI (T.P t.2.1)) := sub_path (k := 5) hj h1.r0 r5
 let st2 := st1.set 8 (pathI (T.P m))
 have s2 : sAssign (eCall s_commonpath (eCons (eLst (eCons (eSub (eVar 0) (eVar 5)) (eCons (eSub (eVar 0) (eVar 4)) eNil))) eNil)) (bName 8) st1 = some (.next, st2) := by
  have hcom : s_commonpath [.lst [.str (path (T.P t.2.1)), .str (path (T.P t.1))]] = some (pathI (T.P m)) := by
   rw [commonpath_path (T.mem_subs hj) (T.mem_subs hi) (by rw [hp']; exact T.mem_subs hm), hp']
  simp only [sAssign, eCall, eLst, eCons, eNil, p4, p5, oS, List.length_cons, List.length_nil]
  rw [if_pos (by omega)]
  simp only [oS, nRs1, nRs2, nR1, nR2, nR3, nR4, nR5, nR6, nR7, nR8, Bool.and_self, if_true, hcom, bName, oP]
  rfl
 have h2 : MK T c b st2 := h1.set _ (by omega)
 have hσ0 := h2.hσ
 have hlen : 0 < st2.σ.length := by obtain ⟨f, n, g, _⟩ := hσ0; exact (List.getElem?_eq_some_iff.mp g).1
 let n := st2.σ.length
 have q4 : eSub (eVar 0) (eVar 4) st2 = some (pathI (T.P t.1)) := sub_path (k := 4) hi h2.r0 r4
 have q5 : eSub (eVar 0) (eVar 5) st2 = some (pathI (T.P t.2.1)) := sub_path (k := 5) hj h2.r0 r5
 have q8 : eVar 8 st2 = some (pathI (T.P m)) := rfl
 let st3 : MSt := MSt.set { st2 with σ := st2.σ ++ [.list ([t.1, t.2.1, m].map fun k => pathI (T.P k))] } 9 (.ref n)
 have s3 : sNewList 9 (eCons (eSub (eVar 0) (eVar 4)) (eCons (eSub (eVar 0) (eVar 5)) (eCons (eVar 8) eNil))) st2 = some (.next, st3) := by
  simp only [sNewList, eCons, eNil, q4, q5, q8, oS, List.length_cons, List.length_nil]
  rw [if_pos (by omega)]
  rfl
 let es := endsOf T t
 have hes : es = [t.1, t.2.1, m] ++ if m = 0 then [] else [T.ab m] := by rw [hm0]; rfl
 let st4 : MSt := MSt.set { st2 with σ := st2.σ ++ [.list (es.map fun k => pathI (T.P k))] } 9 (.ref n)
 have v8 : eVar 8 st3 = some (pathI (T.P m)) := rfl
 have tst : b2 neV (eVar 8) (eStr "/") st3 = some (!decide (path (T.P m) = slash)) := by
  simp only [b2, Mine.e2, v8, eStr, slash_eq, oS, neV_str (path_sok (T.mem_subs hm)) slash_sok, asBool]
 have hz : path (T.P m) = slash ↔ m = 0 := by
  constructor
  ·intro e
   have : path (T.P m) = path (T.P 0) := by rw [e, T.P0]; rfl
   exact T.inj hm (by omega) (path_inj this)
  ·intro e; rw [e, T.P0]; rfl
 have s4 : sIf (b2 neV (eVar 8) (eStr "/")) (sSeq (sAppend 9 (eCall s_dirname (eCons (eVar 8) eNil))) sNil) sNil st3 = some (.next, st4) := by
  by_cases e : m = 0
  ·have : (!decide (path (T.P m) = slash)) = false := by rw [decide_eq_true (hz.mpr e)]; rfl
   rw [this] at tst
   simp only [sIf, tst, oS, sNil]
   refine congrArg (fun l : List Nat => some (Out.next, (MSt.set { st2 with σ := st2.σ ++ [.list (l.map fun k => pathI (T.P k))] } 9 (.ref n)))) ?_
   rw [hes, if_pos e, List.append_nil]
  ·have : (!decide (path (T.P m) = slash)) = true := by rw [decide_eq_false fun e' => e (hz.mp e')]; rfl
   rw [this] at tst
   have v9 : eVar 9 st3 = some (.ref n) := rfl
   have dn : eCall s_dirname (eCons (eVar 8) eNil) st3 = some (pathI (T.P (T.ab m))) := by
    simp only [eCall, eCons, eNil, v8, oS, nRs1, nRs2, nR1, nR2, nR3, nR4, nR5, nR6, nR7, nR8, Bool.and_self, if_true, T.dir hm]
   have g3 : st3.σ[n]? = some (.list ([t.1, t.2.1, m].map fun k => pathI (T.P k))) := by
    show (st2.σ ++ [_])[st2.σ.length]? = _
    simp
   have ap : sAppend 9 (eCall s_dirname (eCons (eVar 8) eNil)) st3 = some (.next, st4) := by
    simp only [sAppend, v9, dn, oS, g3]
    rw [if_pos (by simp)]
    have : st3.σ.set n (.list (([t.1, t.2.1, m].map fun k => pathI (T.P k)) ++ [pathI (T.P (T.ab m))])) = st2.σ ++ [.list (es.map fun k => pathI (T.P k))] := by
     show (st2.σ ++ [_]).set st2.σ.length _ = _
     rw [List.set_append_right _ _ (by omega), Nat.sub_self, hes, if_neg e]
     rfl
    rw [this]
    rfl
   simp only [sIf, tst, oS, if_true]
   rw [sSeq_eq ap]; rfl
 have h4 : MK T c b st4 := by
  obtain ⟨f, k, g, h1', h2'⟩ := hσ0
  refine ⟨h2.r0, h2.r3, f, k, ?_, h1', h2'⟩
  show (st2.σ ++ [_])[0]? = _
  rw [List.getElem?_append_left hlen]; exact g
 have hl8 : ∀ x ∈ es, x < 8 := fun x hx => by
  rw [hes] at hx
  by_cases e : m = 0
  ·rw [if_pos e] at hx
   simp at hx
   rcases hx with rfl | rfl | rfl <;> assumption
  ·rw [if_neg e] at hx
   have := T.ab_lt hm
   simp at hx
   rcases hx with rfl | rfl | rfl | rfl <;> assumption
 have hel : es.length ≤ 4 := by rw [hes]; split <;> simp
 have g4 : st4.σ[n]? = some (.list (es.map fun k => pathI (T.P k))) := by
  show (st2.σ ++ [_])[st2.σ.length]? = _
  simp
 obtain ⟨st5, a1, a2, a3⟩ := mk_ref (v := v) (n := n) (es := es) (by omega) hl8 es [] c b 1000 st4 rfl (by omega) (by omega) h4 rfl g4
 have s5 : sForRef 9 (bName 10) mkAdd st4 = some (.next, st5) := by
  have v9 : eVar 9 st4 = some (.ref n) := rfl
  simp only [sForRef, v9, oS, g4]
  exact a1
 refine hG ?_; clear hG
 refine ⟨st5, ?_, ?_, a3 1 (by omega), a3 2 (by omega)⟩
 ·unfold mkBody
  rw [sSeq_eq s1, sSeq_eq s2, sSeq_eq s3, sSeq_eq s4, sSeq_eq s5]
  rfl
 ·obtain ⟨f, k, g, h1', h2'⟩ := a2.hσ
  exact ⟨a2.r0, a2.r3, f, k, g, by omega, h2'⟩
theorem mk_turns {T : Tr} : ∀ (U : List Turn) (c : Nat → Nat) (b : Nat) (st : MSt), (∀ t ∈ U, t.1 < 8 ∧ t.2.1 < 8) → MK T c b st → b + 4 * U.length < 900 →
  ∃ st', mfor (bTup [(bName 4), (bName 5), (bName 6)]) mkBody sNil (turnsV U) st = some (.next, st') ∧ MK T (fun k => c k ^^^ markV T U k) (b + 4 * U.length) st' ∧ st'.ρ 1 = st.ρ 1 ∧ st'.ρ 2 = st.ρ 2
 | [], c, b, st, _, h, _ => ⟨st, rfl, h.cong fun k _ => by simp [kV1, kV2], rfl, rfl⟩
 | t :: U, c, b, st, ht, h, hb => by
  simp only [List.length_cons] at hb
  refine cps fun G hG => ?_
  obtain ⟨st1, a1, a2, a3, a4⟩ := mk_turn (t := t) (st := ((st.set 4 (natI t.1)).set 5 (natI t.2.1)).set 6 (natI t.2.2)) (((h.set _ (by omega)).set _ (by omega)).set _ (by omega)) (ht t (by simp)).1 (ht t (by simp)).2 (by omega) rfl rfl rfl
  obtain ⟨st', c1, c2, c3, c4⟩ := mk_turns U _ (b + 4) st1 (fun u hu => ht u (by simp [hu])) a2 (by omega)
  refine hG ?_; clear hG
  refine ⟨st', ?_, ?_, c3.trans a3, c4.trans a4⟩
  ·simp only [turnsV, List.map_cons, mfor_n, mfor_c, bTup, bAll, bName, List.length_cons, List.length_nil, if_true, oS, a1]
   exact c1
  ·rw [show b + 4 * (t :: U).length = b + 4 + 4 * U.length by simp; omega]
   refine c2.cong fun k hk => ?_
   show c k ^^^ endV T t k ^^^ markV T U k = c k ^^^ (endV T t k ^^^ markV T U k)
   rw [Nat.xor_assoc]
theorem law_marked_eq {T : Tr} {M : List Nat} {U : List Turn} (hM : M.length = 8) (hU : ∀ t ∈ U, t.1 < 8 ∧ t.2.1 < 8) (hl : U.length ≤ 40) :
  s_law_marked [.lst (paths8 T), .lst (M.map natI), .lst (turnsV U)] = some (strsM (rowsOf T fun k => M.getD k 0 ^^^ accV T U k)) := by
 let st0 : MSt := start [.lst (paths8 T), .lst (M.map natI), .lst (turnsV U)]
 refine cps fun G hG => ?_
 obtain ⟨f, c1, c2⟩ := newDict_eq (T := T) (k := 3) (kx := 11) (ve := eInt 0) (st := st0) (val := fun _ => natI 0) rfl (fun k hk => rfl)
 let st1 : MSt := MSt.set { st0 with σ := st0.σ ++ [.dict f 8] } 3 (.ref st0.σ.length)
 have h1 : MK T (fun _ => 0) 8 st1 := ⟨rfl, rfl, f, 8, rfl, by omega, c2⟩
 obtain ⟨st2, d1, d2, d3, d4⟩ := mk_turns U (fun _ => 0) 8 st1 hU h1 (by omega)
 have s2 : sFor (iSeq (eVar 2)) (bTup [(bName 4), (bName 5), (bName 6)]) mkBody sNil st1 = some (.next, st2) := by
  have v2 : eVar 2 st1 = some (.lst (turnsV U)) := rfl
  (dsimp only [sFor, iSeq, oS, turnsV_noRefs]; simp only [sFor, iSeq, v2, oS, turnsV_noRefs, if_true])
  exact d1
 obtain ⟨L, l1, l2, l3⟩ := sorted_paths T
 have hL7 : L.length = 7 := l2.length_eq.trans rfl
 obtain ⟨st3, e1, e2', e3⟩ := mk_down (X := accV T U) (m := markV T U) l2 l3 (acc_kids U hU) L [] _ (8 + 4 * U.length) st2 rfl d2 (by omega) fun k hk => by simp [kidsX, xall]
 have s3 : sFor (iSeq (eSlice (eSlice (eB (f1 sortedV) (eCons (eVar 0) eNil)) (pSome (eInt 1)) pNone pNone) pNone pNone (pSome (eNeg (eInt 1))))) (bName 10) mkDown sNil st2 = some (.next, st3) := by
  have v0 : eVar 0 st2 = some (.lst (paths8 T)) := d2.r0
  have hp : paths8 T = ((List.range 8).map fun k => path (T.P k)).map .str := by unfold paths8; rw [List.map_map]; rfl
  have hl64 : ((List.range 8).map fun k => path (T.P k)).length < 64 := by simp
  have sv : eB (f1 sortedV) (eCons (eVar 0) eNil) st2 = some (.lst (MV.str slash :: L.reverse.map (fun k => pathI (T.P k)))) := by
   (dsimp only [eB, eCons, eNil, oS, f1]; simp only [eB, eCons, eNil, v0, oS, f1])
   rw [show MV.lst (paths8 T) = strsM ((List.range 8).map fun k => path (T.P k)) by rw [hp]; rfl, sorted_strs hl64, l1]
   unfold strsM
   rw [List.map_cons, List.map_map]; rfl
  have hs1 : eSlice (eB (f1 sortedV) (eCons (eVar 0) eNil)) (pSome (eInt 1)) pNone pNone st2 = some (.lst (L.reverse.map fun k => pathI (T.P k))) := by
   rw [show eSlice (eB (f1 sortedV) (eCons (eVar 0) eNil)) (pSome (eInt 1)) pNone pNone st2 = ((eB (f1 sortedV) (eCons (eVar 0) eNil) st2).bind fun x => ((pSome (eInt 1)) st2).bind fun lo => (pNone st2).bind fun hi => (pNone st2).bind fun sp => sliceE st2 x lo hi sp) from rfl, sv]
   simp only [oS, pSome, eInt, asInt, oP, pNone, sliceE, listOf]
   rw [show (some (1 : Int)) = some ((1 : Nat) : Int) from rfl, sliceV_drop, if_pos ⟨by simp, by simp [hL7]⟩]
   rfl
  have hs2 : eSlice (eSlice (eB (f1 sortedV) (eCons (eVar 0) eNil)) (pSome (eInt 1)) pNone pNone) pNone pNone (pSome (eNeg (eInt 1))) st2 = some (.lst (L.map fun k => pathI (T.P k))) := by
   rw [show eSlice (eSlice (eB (f1 sortedV) (eCons (eVar 0) eNil)) (pSome (eInt 1)) pNone pNone) pNone pNone (pSome (eNeg (eInt 1))) st2 = ((eSlice (eB (f1 sortedV) (eCons (eVar 0) eNil)) (pSome (eInt 1)) pNone pNone st2).bind fun x => (pNone st2).bind fun lo => (pNone st2).bind fun hi => ((pSome (eNeg (eInt 1))) st2).bind fun sp => sliceE st2 x lo hi sp) from rfl, hs1]
   simp only [oS, pSome, eInt, eNeg, asInt, oP, pNone, sliceE, listOf]
   rw [show (some (-1 : Int)) = some (-1) from rfl, sliceV_rev, if_pos ⟨by simp, by simp [hL7]⟩, ← List.map_reverse, List.reverse_reverse]
  (dsimp only [sFor, iSeq, oS]; simp only [sFor, iSeq, hs2, oS, noRefs_map (f := fun k => pathI (T.P k)) (L := L) (fun _ _ => rfl), if_true])
  exact e1
 refine hG ?_; clear hG
 unfold mkBody mkAdd at s2
 unfold mkDown at s3
 unfold s_law_marked runFn m_law_marked
 rw [show packN 3 [MV.lst (paths8 T), .lst (M.map natI), .lst (turnsV U)] = some [.lst (paths8 T), .lst (M.map natI), .lst (turnsV U)] from rfl]
 simp only [oS]
 rw [sSeq_eq c1, sSeq_eq s2, sSeq_eq s3]
 have r1 : st3.ρ 1 = some (.lst (M.map natI)) := by rw [e3 1 (by omega), d3]; rfl
 have hc : mcomp 12 tTrue (e2 addV (e2 addV (eCall s_filemode (eCons (e2 xorV (eSub (eVar 1) (eVar 12)) (eSub (eVar 3) (eSub (eVar 0) (eVar 12)))) eNil)) (eStr " ")) (eSub (eVar 0) (eVar 12))) st3 ((List.range 8).map natI) = some ((List.range 8).map fun k => .str (rowOf T (M.getD k 0 ^^^ accV T U k) k)) := mcomp_map fun k hk => by
  have hx := List.mem_range.mp hk
  let sk := st3.set 12 (natI k)
  have hsk : MK T (accV T U) (8 + 4 * U.length + L.length) sk := e2'.set _ (by omega)
  show e2 addV (e2 addV (eCall s_filemode (eCons (e2 xorV (eSub (eVar 1) (eVar 12)) (eSub (eVar 3) (eSub (eVar 0) (eVar 12)))) eNil)) (eStr " ")) (eSub (eVar 0) (eVar 12)) sk = _
  have n1 : eSub (eVar 1) (eVar 12) sk = some (natI (M.getD k 0)) := sub_mode (st := sk) (ka := 1) (kb := 12) (by omega) (by omega) r1 rfl
  have n0 : eSub (eVar 0) (eVar 12) sk = some (pathI (T.P k)) := sub_path (k := 12) hx hsk.r0 rfl
  have n3 : eSub (eVar 3) (eSub (eVar 0) (eVar 12)) sk = some (natI (accV T U k)) := mk_get hsk hx n0
  have nx : e2 xorV (eSub (eVar 1) (eVar 12)) (eSub (eVar 3) (eSub (eVar 0) (eVar 12))) sk = some (natI (M.getD k 0 ^^^ accV T U k)) := by
   rw [show e2 xorV (eSub (eVar 1) (eVar 12)) (eSub (eVar 3) (eSub (eVar 0) (eVar 12))) sk = ((eSub (eVar 1) (eVar 12) sk).bind fun a => (eSub (eVar 3) (eSub (eVar 0) (eVar 12)) sk).bind fun b => xorV a b) from rfl, n1, n3]
   (dsimp only [oS, xorV, intOp, bitXor_nat, oP]; simp only [oS, xorV, intOp, bitXor_nat, oP])
  have c1 : eCall s_filemode (eCons (e2 xorV (eSub (eVar 1) (eVar 12)) (eSub (eVar 3) (eSub (eVar 0) (eVar 12)))) eNil) sk = some (.str (rowS (M.getD k 0 ^^^ accV T U k))) := by
   (dsimp only [eCall, eCons, nx, eNil, oS, nRs1, nRs2, nR1, nR2, nR3, nR4, nR5, nR6, nR7, nR8, filemode_eq]; simp only [eCall, eCons, nx, eNil, oS, nRs1, nRs2, nR1, nR2, nR3, nR4, nR5, nR6, nR7, nR8, Bool.and_self, if_true, filemode_eq])
  rw [show ∀ a c d : MSt → Option MV, e2 addV (e2 addV a c) d sk = ((((a sk).bind fun v => (c sk).bind fun w => addV v w)).bind fun z => (d sk).bind fun u => addV z u) from fun _ _ _ => rfl, c1, n0]
  (dsimp only [eStr, spc_eq, oS]; simp only [eStr, spc_eq, oS])
  exact row_join hx
 have he : ((List.range 8).map fun k => MV.str (rowOf T (M.getD k 0 ^^^ accV T U k) k)) = (rowsOf T fun k => M.getD k 0 ^^^ accV T U k).map .str := by unfold rowsOf; rw [List.map_map]; rfl
 rw [he] at hc
 simp only [sSeq, sRet, eLstOf, eComp, iRange1, eInt, oS, asInt]
 rw [if_pos (by omega), oS, range8, if_pos (by simp), hc]
 (dsimp only [oP, oS, fZ1, fZ2, fZ3, fZ4, fZ5, fZ6, fZ7, fZ8, freezes_strs]; simp only [oP, oS, fZ1, fZ2, fZ3, fZ4, fZ5, fZ6, fZ7, fZ8, freezes_strs])
 rfl
theorem same_end {T : Tr} {M : List Nat} {U : List Turn} : (rowsOf T fun k => M.getD k 0 ^^^ accV T U k) = rowsOf T (ending T U fun k => M.getD k 0 % 65536) := by
 rw [← same_tale.2]
 refine rows_congr fun k hk => ?_
 have := acc_end (T := T) U (fun k => M.getD k 0) k
 rw [← rowL_mod, this, rowL_mod]
section
set_option backward.match.sparseCases false
theorem sliceV_map {α β : Type} (f : α → β) (l : List α) (lo hi sp : Option Int) : sliceV (l.map f) lo hi sp = (sliceV l lo hi sp).map f := by
 unfold sliceV pickIdx
 rw [List.length_map]
 rw [List.map_filterMap]
 congr 1
 funext i
 simp
theorem intsOf_ints : ∀ l : List Int, intsOf (l.map .int) = some l
 | [] => rfl
 | x :: l => by simp [iO0, iO1, iO2, iO3, iO4, iO5, iO6, iO7, iO8, intsOf_ints l]
theorem fmod_pos (x : Int) {n : Nat} (h : 0 < n) : ∃ k : Nat, x.fmod (n : Int) = (k : Int) ∧ k < n := by
 have h1 : 0 ≤ x.fmod (n : Int) := Int.fmod_nonneg_of_pos _ (by omega)
 have h2 : x.fmod (n : Int) < n := Int.fmod_lt_of_pos _ (by omega)
 exact ⟨(x.fmod (n : Int)).toNat, by omega, by omega⟩
theorem modV_pos (x : Int) {n : Nat} (h : 0 < n) : ∃ k : Nat, modV (.int x) (.int (n : Int)) = some (natI k) ∧ k < n := by
 obtain ⟨k, h1, h2⟩ := fmod_pos x h
 refine ⟨k, ?_, h2⟩
 simp only [modV, intOp]
 rw [if_pos (by omega), h1]; rfl
theorem sub_sum {S : List Int} {i : Nat} {st : MSt} (hi : i < S.length) (h : S.length < 100) {kb : MSt → Option MV} {ka : Nat} (r : st.ρ ka = some (.lst (S.map .int))) (hk : kb st = some (natI i)) : ∃ z : Int, eSub (eVar ka) kb st = some (.int z) := by
 refine ⟨S[i], ?_⟩
 (dsimp only [eSub, eVar, r, oS, subE, subI, subS]; simp only [eSub, eVar, r, hk, oS, subE, subI, subS])
 rw [pickAt_nat (by omega), List.getElem?_map, List.getElem?_eq_getElem hi]; rfl
theorem sub_tab {l : List Int} {i : Nat} {st : MSt} (hi : i < l.length) (h : l.length < 100) {es : MSt → Option (List MV)} {kb : MSt → Option MV} (he : es st = some (l.map .int)) (hk : kb st = some (natI i)) : ∃ z : Int, eSub (eLst es) kb st = some (.int z) := by
 refine ⟨l[i], ?_⟩
 simp only [eSub, eLst, he, hk, oS]
 rw [if_pos (by simp; omega)]
 simp only [oS, subE, subI, subS]
 rw [pickAt_nat (by omega), List.getElem?_map, List.getElem?_eq_getElem hi]; rfl
noncomputable def Falls (A : List Nat) : Prop := ∀ j (h : j < A.length), A[j] = 0 ∨ A[j] < j
theorem pow32 (st : MSt) : e2 powV (eInt 2) (eInt 32) st = some (.int ((4294967296 : Nat) : Int)) := by
 simp only [Mine.e2, eInt, oS, powV, intOp]
 rw [if_pos (by decide)]; rfl
noncomputable def dr1 : MSt → Option (Out × MSt) := (sSeq (sAppend 2 (e2 modV (e2 addV (eSub (eLst (eCons (eInt 0) (eCons (eInt 0) (eCons (eInt 0) (eCons (eInt 1) (eCons (eInt 1) (eCons (eInt 2) (eCons (eInt 3) (eCons (eInt 3) eNil))))))))) (eVar 4)) (eSub (eVar 1) (e2 subV (eVar 4) (eInt 1)))) (eVar 4)))
 (sSeq (sAppend 3 (e2 modV (e2 addV (eSub (eLst (eCons (eInt 0) (eCons (eInt 17896) (eCons (eInt 17407) (eCons (eInt 35273) (eCons (eInt 41471) (eCons (eInt 4516) (eCons (eInt 24576) (eCons (eInt 8438180) eNil))))))))) (eVar 4)) (e2 divV (eSub (eVar 1) (e2 subV (eVar 4) (eInt 1))) (eVar 4))) (e2 powV (eInt 2) (eInt 32))))
 sNil))
noncomputable def dr2 : MSt → Option (Out × MSt) := (sSeq (sAssign (eSub (eVar 1) (e2 addV (eInt 7) (eVar 6))) (bName 7))
 (sSeq (sAssign (e2 modV (e2 addV (eSub (eLst (eCons (eInt 6) (eCons (eInt 5) (eCons (eInt 3) (eCons (eInt 4) eNil))))) (eVar 6)) (eVar 7)) (eInt 8)) (bName 8))
 (sSeq (sAssign (e2 modV (e2 addV (eSub (eLst (eCons (eInt 4) (eCons (eInt 0) (eCons (eInt 7) (eCons (eInt 4) eNil))))) (eVar 6)) (e2 divV (eVar 7) (eInt 8))) (eInt 8)) (bName 9))
 (sSeq (sAppend 5 (eLst (eCons (eVar 8) (eCons (eVar 9) (eCons (e2 modV (e2 addV (eSub (eLst (eCons (eInt 2121) (eCons (eInt 49663) (eCons (eInt 65535) (eCons (eInt 12288) eNil))))) (eVar 6)) (e2 divV (eVar 7) (eInt 64))) (e2 powV (eInt 2) (eInt 32))) eNil)))))
 sNil))))
structure DR (S : List Int) (n : Nat) (st : MSt) : Prop where
 r1 : st.ρ 1 = some (.lst (S.map .int))
 r2 : st.ρ 2 = some (.ref 0)
 r3 : st.ρ 3 = some (.ref 1)
 hσ : ∃ A M : List Nat, st.σ = [.list (A.map natI), .list (M.map natI)] ∧ A.length = n + 1 ∧ M.length = n + 1 ∧ Falls A
theorem addV_int (a b : Int) : addV (.int a) (.int b) = some (.int (a + b)) := rfl
theorem divV_pos (a : Int) {n : Nat} (h0 : 0 < n) (h1 : n < 1073741824) : divV (.int a) (.int (n : Int)) = some (.int (a.fdiv n)) := by
 simp only [divV, intOp]
 rw [if_pos ⟨by omega, by omega⟩]; rfl
theorem dr_one {S : List Int} {n : Nat} {st : MSt} (hS : S.length = 11) (h : DR S n st) (hn : n < 7) (r4 : st.ρ 4 = some (natI (n + 1))) : ∃ st', dr1 st = some (.next, st') ∧ DR S (n + 1) st' := by
 refine cps fun G hG => ?_
 obtain ⟨A, M, hσ, lA, lM, hA⟩ := h.hσ
 have ix : ∀ st : MSt, st.ρ 4 = some (natI (n + 1)) → e2 subV (eVar 4) (eInt 1) st = some (natI n) := fun st r => by
  (dsimp only [Mine.e2, eVar, r, eInt, oS, subV, intOp, oP]; simp only [Mine.e2, eVar, r, eInt, oS, subV, intOp, oP])
  refine congrArg (fun z => some (MV.int z)) ?_
  omega
 have v2 : eVar 2 st = some (.ref 0) := h.r2
 have v4 : eVar 4 st = some (natI (n + 1)) := r4
 obtain ⟨z, hz⟩ := sub_sum (kb := e2 subV (eVar 4) (eInt 1)) (by omega) (by omega) h.r1 (ix st r4)
 obtain ⟨y, hy⟩ := sub_tab (l := [0, 0, 0, 1, 1, 2, 3, 3]) (i := n + 1) (st := st) (kb := eVar 4) (by simp; omega) (by simp) (es := eCons (eInt 0) (eCons (eInt 0) (eCons (eInt 0) (eCons (eInt 1) (eCons (eInt 1) (eCons (eInt 2) (eCons (eInt 3) (eCons (eInt 3) eNil)))))))) rfl r4
 obtain ⟨k, hk1, hk2⟩ := modV_pos (y + z) (n := n + 1) (by omega)
 let st1 : MSt := { st with σ := [.list ((A ++ [k]).map natI), .list (M.map natI)] }
 have s1 : sAppend 2 (e2 modV (e2 addV (eSub (eLst (eCons (eInt 0) (eCons (eInt 0) (eCons (eInt 0) (eCons (eInt 1) (eCons (eInt 1) (eCons (eInt 2) (eCons (eInt 3) (eCons (eInt 3) eNil))))))))) (eVar 4)) (eSub (eVar 1) (e2 subV (eVar 4) (eInt 1)))) (eVar 4)) st = some (.next, st1) := by
  rw [show ∀ (a b c : MSt → Option MV), sAppend 2 (e2 modV (e2 addV a b) c) st = ((eVar 2 st).bind fun x => match x with
   | .ref n => ((((a st).bind fun u => (b st).bind fun v => addV u v).bind fun u => (c st).bind fun v => modV u v)).bind fun v => match st.σ[n]? with
    | some (.list xs) => if xs.length < 1000 then some (.next, { st with σ := st.σ.set n (.list (xs ++ [v])) }) else none
    | _ => none
   | _ => none) from fun _ _ _ => rfl, v2, hy, hz, v4]
  (dsimp only [oS, addV_int]; simp only [oS, addV_int, hk1, hσ, lZ])
  rw [if_pos (by simp; omega)]
  simp [st1]
 have w3 : eVar 3 st1 = some (.ref 1) := h.r3
 have w4 : eVar 4 st1 = some (natI (n + 1)) := r4
 obtain ⟨z', hz'⟩ := sub_sum (kb := e2 subV (eVar 4) (eInt 1)) (st := st1) (ka := 1) (S := S) (by omega) (by omega) h.r1 (ix st1 r4)
 obtain ⟨y', hy'⟩ := sub_tab (l := [0, 17896, 17407, 35273, 41471, 4516, 24576, 8438180]) (i := n + 1) (st := st1) (kb := eVar 4) (by simp; omega) (by simp) (es := eCons (eInt 0) (eCons (eInt 17896) (eCons (eInt 17407) (eCons (eInt 35273) (eCons (eInt 41471) (eCons (eInt 4516) (eCons (eInt 24576) (eCons (eInt 8438180) eNil)))))))) rfl r4
 obtain ⟨k', hk1', hk2'⟩ := modV_pos (y' + z'.fdiv ((n + 1 : Nat) : Int)) (n := 4294967296) (by omega)
 let st2 : MSt := { st with σ := [.list ((A ++ [k]).map natI), .list ((M ++ [k']).map natI)] }
 have s2 : sAppend 3 (e2 modV (e2 addV (eSub (eLst (eCons (eInt 0) (eCons (eInt 17896) (eCons (eInt 17407) (eCons (eInt 35273) (eCons (eInt 41471) (eCons (eInt 4516) (eCons (eInt 24576) (eCons (eInt 8438180) eNil))))))))) (eVar 4)) (e2 divV (eSub (eVar 1) (e2 subV (eVar 4) (eInt 1))) (eVar 4))) (e2 powV (eInt 2) (eInt 32))) st1 = some (.next, st2) := by
  rw [show ∀ (a b c d : MSt → Option MV), sAppend 3 (e2 modV (e2 addV a (e2 divV b d)) c) st1 = ((eVar 3 st1).bind fun x => match x with
   | .ref n => ((((a st1).bind fun u => ((b st1).bind fun u => (d st1).bind fun v => divV u v).bind fun v => addV u v).bind fun u => (c st1).bind fun v => modV u v)).bind fun v => match st1.σ[n]? with
    | some (.list xs) => if xs.length < 1000 then some (.next, { st1 with σ := st1.σ.set n (.list (xs ++ [v])) }) else none
    | _ => none
   | _ => none) from fun _ _ _ _ => rfl, w3, hy', hz', w4, pow32]
  (dsimp only [oS, divV_pos z' (show 0 < n + 1 by omega) (by omega), addV_int, st1]; simp only [oS, divV_pos z' (show 0 < n + 1 by omega) (by omega), addV_int, hk1', st1, lZ, lY])
  rw [if_pos (by simp; omega)]
  simp [st2]
 refine hG ?_; clear hG
 refine ⟨st2, by unfold dr1; rw [sSeq_eq s1, sSeq_eq s2]; rfl, h.r1, h.r2, h.r3, A ++ [k], M ++ [k'], rfl, by simp [lA], by simp [lM], fun j hj => ?_⟩
 rw [List.getElem_append]
 split
 ·exact hA j _
 ·simp at hj ⊢; omega
end
section
set_option backward.match.sparseCases false
structure DT (S : List Int) (A M : List Nat) (n : Nat) (st : MSt) : Prop where
 r1 : st.ρ 1 = some (.lst (S.map .int))
 r2 : st.ρ 2 = some (.ref 0)
 r3 : st.ρ 3 = some (.ref 1)
 r5 : st.ρ 5 = some (.ref 2)
 hσ : ∃ U : List Turn, st.σ = [.list (A.map natI), .list (M.map natI), .list (turnsV U)] ∧ U.length = n ∧ ∀ t ∈ U, t.1 < 8 ∧ t.2.1 < 8
theorem dt_one {S : List Int} {A M : List Nat} {n : Nat} {st : MSt} (hS : S.length = 11) (h : DT S A M n st) (hn : n < 4) (r6 : st.ρ 6 = some (natI n)) : ∃ st', dr2 st = some (.next, st') ∧ DT S A M (n + 1) st' := by
 refine cps fun G hG => ?_
 obtain ⟨U, hσ, lU, hU⟩ := h.hσ
 have ix : e2 addV (eInt 7) (eVar 6) st = some (natI (7 + n)) := by
  (dsimp only [Mine.e2, eVar, r6, eInt, oS, addV]; simp only [Mine.e2, eVar, r6, eInt, oS, addV])
  refine congrArg (fun z => some (MV.int z)) ?_
  omega
 obtain ⟨w, hw⟩ := sub_sum (kb := e2 addV (eInt 7) (eVar 6)) (by omega) (by omega) h.r1 ix
 let st1 := st.set 7 (.int w)
 have s1 : sAssign (eSub (eVar 1) (e2 addV (eInt 7) (eVar 6))) (bName 7) st = some (.next, st1) := by
  (dsimp only [sAssign, oS, bName, oP]; simp only [sAssign, hw, oS, bName, oP])
  rfl
 obtain ⟨y1, hy1⟩ := sub_tab (l := [6, 5, 3, 4]) (i := n) (st := st1) (kb := eVar 6) (by simp; omega) (by simp) (es := eCons (eInt 6) (eCons (eInt 5) (eCons (eInt 3) (eCons (eInt 4) eNil)))) rfl r6
 obtain ⟨k1, hk1, hl1⟩ := modV_pos (y1 + w) (n := 8) (by omega)
 let st2 := st1.set 8 (natI k1)
 have s2 : sAssign (e2 modV (e2 addV (eSub (eLst (eCons (eInt 6) (eCons (eInt 5) (eCons (eInt 3) (eCons (eInt 4) eNil))))) (eVar 6)) (eVar 7)) (eInt 8)) (bName 8) st1 = some (.next, st2) := by
  have v7 : eVar 7 st1 = some (.int w) := rfl
  rw [show ∀ (a b c : MSt → Option MV), sAssign (e2 modV (e2 addV a b) c) (bName 8) st1 = (((((a st1).bind fun u => (b st1).bind fun v => addV u v).bind fun u => (c st1).bind fun v => modV u v)).bind fun v => (bName 8 v st1).map fun s => (Out.next, s)) from fun _ _ _ => rfl, hy1, v7]
  simp only [oS, addV_int, eInt]
  rw [show modV (.int (y1 + w)) (.int 8) = some (natI k1) from hk1]
  rfl
 obtain ⟨y2, hy2⟩ := sub_tab (l := [4, 0, 7, 4]) (i := n) (st := st2) (kb := eVar 6) (by simp; omega) (by simp) (es := eCons (eInt 4) (eCons (eInt 0) (eCons (eInt 7) (eCons (eInt 4) eNil)))) rfl r6
 obtain ⟨k2, hk2, hl2⟩ := modV_pos (y2 + w.fdiv 8) (n := 8) (by omega)
 let st3 := st2.set 9 (natI k2)
 have s3 : sAssign (e2 modV (e2 addV (eSub (eLst (eCons (eInt 4) (eCons (eInt 0) (eCons (eInt 7) (eCons (eInt 4) eNil))))) (eVar 6)) (e2 divV (eVar 7) (eInt 8))) (eInt 8)) (bName 9) st2 = some (.next, st3) := by
  have v7 : eVar 7 st2 = some (.int w) := rfl
  have d : divV (.int w) (.int 8) = some (.int (w.fdiv 8)) := divV_pos w (n := 8) (by omega) (by omega)
  rw [show ∀ (a b c d : MSt → Option MV), sAssign (e2 modV (e2 addV a (e2 divV b d)) c) (bName 9) st2 = (((((a st2).bind fun u => ((b st2).bind fun u => (d st2).bind fun v => divV u v).bind fun v => addV u v).bind fun u => (c st2).bind fun v => modV u v)).bind fun v => (bName 9 v st2).map fun s => (Out.next, s)) from fun _ _ _ _ => rfl, hy2, v7]
  (dsimp only [oS, addV_int, eInt, d]; simp only [oS, addV_int, eInt, d])
  rw [show modV (.int (y2 + w.fdiv 8)) (.int 8) = some (natI k2) from hk2]
  rfl
 obtain ⟨y3, hy3⟩ := sub_tab (l := [2121, 49663, 65535, 12288]) (i := n) (st := st3) (kb := eVar 6) (by simp; omega) (by simp) (es := eCons (eInt 2121) (eCons (eInt 49663) (eCons (eInt 65535) (eCons (eInt 12288) eNil)))) rfl r6
 obtain ⟨k3, hk3, hl3⟩ := modV_pos (y3 + w.fdiv 64) (n := 4294967296) (by omega)
 have c3 : e2 modV (e2 addV (eSub (eLst (eCons (eInt 2121) (eCons (eInt 49663) (eCons (eInt 65535) (eCons (eInt 12288) eNil))))) (eVar 6)) (e2 divV (eVar 7) (eInt 64))) (e2 powV (eInt 2) (eInt 32)) st3 = some (natI k3) := by
  have v7 : eVar 7 st3 = some (.int w) := rfl
  have d : divV (.int w) (.int 64) = some (.int (w.fdiv 64)) := divV_pos w (n := 64) (by omega) (by omega)
  rw [show ∀ (a b c d : MSt → Option MV), e2 modV (e2 addV a (e2 divV b d)) c st3 = ((((a st3).bind fun u => ((b st3).bind fun u => (d st3).bind fun v => divV u v).bind fun v => addV u v).bind fun u => (c st3).bind fun v => modV u v)) from fun _ _ _ _ => rfl, hy3, v7, pow32]
  (dsimp only [oS, addV_int, eInt, d]; simp only [oS, addV_int, eInt, d, hk3])
 let st4 : MSt := { st3 with σ := [.list (A.map natI), .list (M.map natI), .list (turnsV (U ++ [(k1, k2, k3)]))] }
 have s4 : sAppend 5 (eLst (eCons (eVar 8) (eCons (eVar 9) (eCons (e2 modV (e2 addV (eSub (eLst (eCons (eInt 2121) (eCons (eInt 49663) (eCons (eInt 65535) (eCons (eInt 12288) eNil))))) (eVar 6)) (e2 divV (eVar 7) (eInt 64))) (e2 powV (eInt 2) (eInt 32))) eNil)))) st3 = some (.next, st4) := by
  have v8 : eVar 8 st3 = some (natI k1) := rfl
  have v9 : eVar 9 st3 = some (natI k2) := rfl
  have v5 : eVar 5 st3 = some (.ref 2) := h.r5
  have hs : st3.σ = [.list (A.map natI), .list (M.map natI), .list (turnsV U)] := hσ
  have ll : (turnsV U).length < 1000 := by simp [turnsV, lU]; omega
  rw [show ∀ (a b c : MSt → Option MV), sAppend 5 (eLst (eCons a (eCons b (eCons c eNil)))) st3 = ((eVar 5 st3).bind fun x => match x with
   | .ref n => (((a st3).bind fun x => ((b st3).bind fun y => ((c st3).bind fun z => some [z]).bind fun l => some (y :: l)).bind fun l => some (x :: l)).bind fun l => if l.length ≤ 1000 then some (MV.lst l) else none).bind fun v => match st3.σ[n]? with
    | some (.list xs) => if xs.length < 1000 then some (.next, { st3 with σ := st3.σ.set n (.list (xs ++ [v])) }) else none
    | _ => none
   | _ => none) from fun _ _ _ => rfl, v5, v8, v9, c3]
  (dsimp only [oS]; simp only [oS, hs, lZ, lY, List.length_cons, List.length_nil])
  rw [if_pos (by omega)]
  simp only [oS]
  rw [if_pos ll]
  simp [st4, turnsV]
 refine hG ?_; clear hG
 refine ⟨st4, by unfold dr2; rw [sSeq_eq s1, sSeq_eq s2, sSeq_eq s3, sSeq_eq s4]; rfl, h.r1, h.r2, h.r3, h.r5, U ++ [(k1, k2, k3)], rfl, by simp [lU], fun t ht => ?_⟩
 rcases List.mem_append.mp ht with ht | ht
 ·exact hU t ht
 ·have : t = (k1, k2, k3) := by simpa using ht
  subst this
  exact ⟨hl1, hl2⟩
theorem law_drawn_eq (ns : List Int) (hns : ns.length ≤ 63) : ∃ (A M : List Nat) (U : List Turn), s_law_drawn [.lst (ns.map .int)] = some (.tup [.lst (A.map natI), .lst (M.map natI), .lst (turnsV U)]) ∧ A.length = 8 ∧ Falls A ∧ M.length = 8 ∧ U.length = 4 ∧ ∀ t ∈ U, t.1 < 8 ∧ t.2.1 < 8 := by
 let st0 : MSt := start [.lst (ns.map .int)]
 let S : List Int := (List.range 11).map fun s => (sliceV ns (some ((s : Nat) : Int)) none (some 11)).sum
 have hS : S.length = 11 := by simp [S]
 let st1 := st0.set 1 (.lst (S.map .int))
 have s1 : sAssign (eLstOf (eComp 10 (iRange1 (eInt 11)) tTrue (eB (f1 sumV) (eCons (eSlice (eVar 0) (pSome (eVar 10)) pNone (pSome (eInt 11))) eNil)))) (bName 1) st0 = some (.next, st1) := by
  have r11 : rangeL 0 11 = (List.range 11).map natI := rfl
  have hc : mcomp 10 tTrue (eB (f1 sumV) (eCons (eSlice (eVar 0) (pSome (eVar 10)) pNone (pSome (eInt 11))) eNil)) st0 ((List.range 11).map natI) = some ((List.range 11).map fun s => MV.int (sliceV ns (some ((s : Nat) : Int)) none (some 11)).sum) := mcomp_map fun k hk => by
   let sk := st0.set 10 (natI k)
   show eB (f1 sumV) (eCons (eSlice (eVar 0) (pSome (eVar 10)) pNone (pSome (eInt 11))) eNil) sk = _
   have v0 : eVar 0 sk = some (.lst (ns.map .int)) := rfl
   have v10 : eVar 10 sk = some (natI k) := rfl
   have hsl : eSlice (eVar 0) (pSome (eVar 10)) pNone (pSome (eInt 11)) sk = some (.lst ((sliceV ns (some ((k : Nat) : Int)) none (some 11)).map .int)) := by
    simp only [eSlice, v0, v10, oS, pSome, eInt, asInt, oP, pNone, sliceE, listOf, sliceV_map]
    rw [if_pos ⟨by simp, by simp; omega⟩]
   simp only [eB, eCons, eNil, hsl, oS, f1, sumV, listOf, intsOf_ints, oP]
  simp only [sAssign, eLstOf, eComp, iRange1, eInt, oS, asInt]
  rw [if_pos (by omega), oS, r11, if_pos (by simp), hc]
  simp only [oP, oS, bName, st1, S, List.map_map]
  rfl
 let st2 : MSt := MSt.set { st1 with σ := [.list [.int 0]] } 2 (.ref 0)
 have s2 : sNewList 2 (eCons (eInt 0) eNil) st1 = some (.next, st2) := by
  simp only [sNewList, eCons, eNil, eInt, oS]
  rfl
 let st3 : MSt := MSt.set { st2 with σ := [.list [.int 0], .list [.int 16877]] } 3 (.ref 1)
 have s3 : sNewList 3 (eCons (eInt 16877) eNil) st2 = some (.next, st3) := by
  simp only [sNewList, eCons, eNil, eInt, oS]
  rfl
 have h3 : DR S 0 st3 := ⟨rfl, rfl, rfl, [0], [16877], rfl, rfl, rfl, fun j hj => by
  simp at hj; subst hj; exact .inl rfl⟩
 refine cps fun G hG => ?_
 obtain ⟨st4, a1, a2⟩ := mfor_inv (b := bName 4) (body := dr1) (fun i st => i ≤ 7 → DR S i st) (rangeL 1 8) 0 st3 (fun k x st hx hI => by
  simp only [Nat.zero_add] at hI ⊢
  obtain ⟨rfl, hk⟩ := rangeL_get hx
  have hk : k < 7 := by simpa using hk
  have e : (1 + (k : Int)) = ((k + 1 : Nat) : Int) := by omega
  have hI := hI (by omega)
  have hI' : DR S k (st.set 4 (.int (1 + (k : Int)))) := ⟨hI.r1, hI.r2, hI.r3, hI.hσ⟩
  obtain ⟨st', g1, g2⟩ := dr_one hS hI' hk (by rw [e]; rfl)
  exact ⟨_, st', rfl, g1, fun _ => g2⟩) fun _ => h3
 have s4 : sFor (iRange2 (eInt 1) (eInt 8)) (bName 4) dr1 sNil st3 = some (.next, st4) := by
  simp only [sFor, iRange2, eInt, oS, asInt]
  rw [if_pos (by omega), oS]
  exact a1
 have l7 : (rangeL 1 8).length = 7 := rfl
 rw [l7] at a2
 have a2 := a2 (by omega)
 simp only [Nat.zero_add] at a2
 obtain ⟨A, M, hσ, lA, lM, hA⟩ := a2.hσ
 let st5 : MSt := MSt.set { st4 with σ := st4.σ ++ [.list []] } 5 (.ref st4.σ.length)
 have s5 : sNewList 5 eNil st4 = some (.next, st5) := by simp [sNewList, eNil, st5]
 have h5 : DT S A M 0 st5 := ⟨a2.r1, a2.r2, a2.r3, by show some (MV.ref st4.σ.length) = _; rw [hσ]; rfl, [], by show st4.σ ++ _ = _; rw [hσ]; rfl, rfl, fun t ht => nomatch ht⟩
 obtain ⟨st6, d1, d2⟩ := mfor_inv (b := bName 6) (body := dr2) (fun i st => i ≤ 4 → DT S A M i st) (rangeL 0 4) 0 st5 (fun k x st hx hI => by
  simp only [Nat.zero_add] at hI ⊢
  obtain ⟨rfl, hk⟩ := rangeL_get hx
  have hk : k < 4 := by simpa using hk
  have e : (0 + (k : Int)) = (k : Int) := by omega
  have hI := hI (by omega)
  have hI' : DT S A M k (st.set 6 (.int (0 + (k : Int)))) := ⟨hI.r1, hI.r2, hI.r3, hI.r5, hI.hσ⟩
  obtain ⟨st', g1, g2⟩ := dt_one hS hI' hk (by rw [e]; rfl)
  exact ⟨_, st', rfl, g1, fun _ => g2⟩) fun _ => h5
 have s6 : sFor (iRange1 (eInt 4)) (bName 6) dr2 sNil st5 = some (.next, st6) := by
  simp only [sFor, iRange1, eInt, oS, asInt]
  rw [if_pos (by omega), oS]
  exact d1
 have l4 : (rangeL 0 4).length = 4 := rfl
 rw [l4] at d2
 have d2 := d2 (by omega)
 simp only [Nat.zero_add] at d2
 obtain ⟨U, hσ6, lU, hU⟩ := d2.hσ
 refine hG ?_; clear hG
 refine ⟨A, M, U, ?_, lA, hA, lM, lU, hU⟩
 unfold dr1 at s4
 unfold dr2 at s6
 unfold s_law_drawn runFn m_law_drawn
 rw [show packN 1 [MV.lst (ns.map .int)] = some [MV.lst (ns.map .int)] from rfl]
 simp only [oS]
 rw [sSeq_eq s1, sSeq_eq s2, sSeq_eq s3, sSeq_eq s4, sSeq_eq s5, sSeq_eq s6]
 have v2 : eVar 2 st6 = some (.ref 0) := d2.r2
 have v3 : eVar 3 st6 = some (.ref 1) := d2.r3
 have v5 : eVar 5 st6 = some (.ref 2) := d2.r5
 simp only [sSeq, sRet, eTup, eCons, eNil, v2, v3, v5, oS, List.length_cons, List.length_nil, oP]
 rw [if_pos (by omega)]
 simp only [oP, oS, fZ1, fZ2, fZ3, fZ4, fZ5, fZ6, fZ7, fZ8, fZs1, fZs2, hσ6, lY, lZ, noRefs_nats, turnsV_noRefs, if_true]
end
noncomputable def chain (ab : Nat → Nat) : Nat → Nat → List Nat
 | 0, _ => []
 | f + 1, k => if k = 0 then [] else chain ab f (ab k) ++ [k]
theorem chain_more {ab : Nat → Nat} (h : ∀ k, 0 < k → k < 8 → ab k < k) : ∀ (f g k : Nat), k < 8 → k ≤ f → k ≤ g → chain ab f k = chain ab g k
 | 0, g, k, h8, h1, h2 => by
  have : k = 0 := by omega
  subst this
  cases g <;> simp [chain]
 | f + 1, 0, k, h8, h1, h2 => by
  have : k = 0 := by omega
  subst this
  simp [chain]
 | f + 1, g + 1, k, h8, h1, h2 => by
  by_cases e : k = 0
  ·subst e; simp [chain]
  ·have := h k (by omega) h8
   dsimp only [chain, e, if_false]
   rw [chain_more h f g (ab k) (by omega) (by omega) (by omega)]
theorem tree_of {A : List Nat} (lA : A.length = 8) (hA : Falls A) : ∃ T : Tr, Hangs T A := by
 have hg : ∀ k, (h : k < 8) → A.getD k 0 = A[k]'(by omega) := fun k h => by
  rw [List.getD_eq_getElem?_getD, List.getElem?_eq_getElem (by omega)]; rfl
 have hlt : ∀ k, 0 < k → k < 8 → A.getD k 0 < k := fun k h0 h8 => by
  rw [hg k h8]
  rcases hA k (by omega) with e | e <;> omega
 refine ⟨⟨fun k => A.getD k 0, chain (fun k => A.getD k 0) 8, ?_, hlt, by simp [chain], fun k h0 h8 => ?_⟩, lA, fun k hk => ?_⟩
 ·show A.getD 0 0 = 0
  rw [hg 0 (by omega)]
  rcases hA 0 (by omega) with e | e <;> omega
 ·have := hlt k h0 h8
  rw [chain_more hlt 8 7 (A.getD k 0) (by omega) (by omega) (by omega)]
  show (if k = 0 then [] else _) = _
  rw [if_neg (by omega)]
 ·show A[k]? = some (A.getD k 0)
  rw [hg k hk, List.getElem?_eq_getElem]
structure Nice (n : Nat) (x : MV) : Prop where
 nr : noRef x = true
 lay : PyData.canLay0 (toPy x) = true
 dep : PyData.depth (toPy x) ≤ n
structure Nices (n : Nat) (l : List MV) : Prop where
 nr : noRefs l = true
 lay : PyData.canLayAll0 (toPys l) = true
 dep : PyData.depthAll (toPys l) ≤ n
theorem Nices.nil {n : Nat} : Nices n [] := ⟨rfl, rfl, by simp [tPs1, tPs2, PyData.depthAll]⟩
theorem Nices.cons {n : Nat} {x : MV} {l : List MV} (h : Nice n x) (h' : Nices n l) : Nices n (x :: l) := ⟨by simp [nRs1, nRs2, h.nr, h'.nr], by simp [tPs1, tPs2, PyData.canLayAll0, h.lay, h'.lay], by
 have := h.dep; have := h'.dep; dsimp only [tPs1, tPs2, PyData.depthAll]; omega⟩
theorem Nice.str {n : Nat} {x : Str} (h : sok x) : Nice n (.str x) := ⟨rfl, h, by simp [tP1, tP2, tP3, tP4, tP5, tP6, tP7, tP8, PyData.depth]⟩
theorem Nice.lst {n : Nat} {l : List MV} (h : Nices n l) : Nice (n + 1) (.lst l) := ⟨by simp [nR1, nR2, nR3, nR4, nR5, nR6, nR7, nR8, h.nr], by simp [tP1, tP2, tP3, tP4, tP5, tP6, tP7, tP8, PyData.canLay0, h.lay], by have := h.dep; dsimp only [tP1, tP2, tP3, tP4, tP5, tP6, tP7, tP8, PyData.depth]; omega⟩
theorem Nice.tup {n : Nat} {l : List MV} (h : Nices n l) : Nice (n + 1) (.tup l) := ⟨by simp [nR1, nR2, nR3, nR4, nR5, nR6, nR7, nR8, h.nr], by simp [tP1, tP2, tP3, tP4, tP5, tP6, tP7, tP8, PyData.canLay0, h.lay], by have := h.dep; dsimp only [tP1, tP2, tP3, tP4, tP5, tP6, tP7, tP8, PyData.depth]; omega⟩
theorem Nice.up {n : Nat} {x : MV} (h : Nice n x) : Nice (n + 1) x := ⟨h.nr, h.lay, by have := h.dep; omega⟩
theorem Nices.strs {n : Nat} : ∀ {l : List Str}, (∀ x ∈ l, sok x) → Nices n (l.map .str)
 | [], _ => .nil
 | x :: l, h => .cons (.str (h x (by simp))) (Nices.strs fun y hy => h y (by simp [hy]))
theorem Nice.strs {n : Nat} {l : List Str} (h : ∀ x ∈ l, sok x) : Nice (n + 1) (strsM l) := .lst (.strs h)
theorem Nice.ok {n : Nat} {x : MV} (h : Nice n x) (hn : n ≤ 64) : okD x = true := by
 have := h.dep
 simp only [okD, h.nr, SeqAt.shaped, h.lay, Bool.true_and, decide_eq_true_eq]
 omega
theorem Nice.eq {n : Nat} {x : MV} (h : Nice n x) (hn : n ≤ 64) : eqV x x = some (.bool true) := by
 simp only [eqV, h.ok hn, Bool.and_self, if_true, SeqAt.eqv_refl _ h.lay]
theorem Nice.ne {n : Nat} {x : MV} (h : Nice n x) (hn : n ≤ 64) : neV x x = some (.bool false) := by
 simp only [neV, h.ok hn, Bool.and_self, if_true, SeqAt.eqv_refl _ h.lay, Bool.not_true]
theorem rows_ok {T : Tr} {N : Nat → Nat} : ∀ z ∈ rowsOf T N, sok z := fun z hz => by
 unfold rowsOf at hz
 obtain ⟨k, hk, rfl⟩ := List.mem_map.mp hz
 exact row_sok (List.mem_range.mp hk)
theorem some_ok {T : Tr} {t : Turn} {N : Nat → Nat} : ∀ z ∈ sortS ((touched T t).map fun k => rowOf T (N k) k), sok z := fun z hz => by
 rw [(sortS_perm _).mem_iff] at hz
 obtain ⟨k, hk, rfl⟩ := List.mem_map.mp hz
 exact row_sok (touched_lt k hk)
theorem entry_nice {T : Tr} {t : Turn} {N : Nat → Nat} (hi : t.1 < 8) (hj : t.2.1 < 8) : Nice 3 (entry T t N) := by
 obtain ⟨hm, _⟩ := T.meet_spec hi hj
 exact .lst (.cons (.tup (.cons (.strs some_ok) (.cons (.strs some_ok) .nil))) (.cons (Nice.strs rows_sok) (.cons (Nice.strs rows_sok) (.cons (.str (path_sok (T.mem_subs hm))) .nil))))
theorem tale_nice {T : Tr} : ∀ (U : List Turn) (N : Nat → Nat), (∀ t ∈ U, t.1 < 8 ∧ t.2.1 < 8) → Nices 3 (tale T U N)
 | [], _, _ => .nil
 | t :: U, N, h => .cons (entry_nice (h t (by simp)).1 (h t (by simp)).2) (tale_nice U _ fun u hu => h u (by simp [hu]))
noncomputable def unBody : MSt → Option (Out × MSt) := (sSeq (sPop 3 0)
 (sSeq (xTryEx (xSeq (xRemove 1 3)
 (xS sNil))
 (sSeq (sAppend 2 (eVar 3))
 sNil))
 sNil))
structure UN (xs ys zs : List Str) (st : MSt) : Prop where
 r0 : st.ρ 0 = some (.ref 0)
 r1 : st.ρ 1 = some (.ref 1)
 r2 : st.ρ 2 = some (.ref 2)
 hσ : st.σ = [.list (xs.map .str), .list (ys.map .str), .list (zs.map .str)]
theorem un_test {xs ys zs : List Str} {st : MSt} (h : UN xs ys zs st) (hl : xs.length ≤ 100) : bL (eVar 0) st = some (!xs.isEmpty) := by
 have v0 : eVar 0 st = some (.ref 0) := h.r0
 simp only [bL, v0, oS, truthL, listOf, h.hσ, lZ]
 rw [if_pos (by simp; omega)]
 cases xs <;> rfl
theorem un_pop {xs ys zs : List Str} {x : Str} {st : MSt} (h : UN (xs ++ [x]) ys zs st) (hl : xs.length ≤ 100) : ∃ st', sPop 3 0 st = some (.next, st') ∧ UN xs ys zs st' ∧ st'.ρ 3 = some (.str x) := by
 have v0 : eVar 0 st = some (.ref 0) := h.r0
 refine ⟨MSt.set { st with σ := [.list (xs.map .str), .list (ys.map .str), .list (zs.map .str)] } 3 (.str x), ?_, ⟨h.r0, h.r1, h.r2, rfl⟩, rfl⟩
 have e1 : ((xs ++ [x]).map MV.str)[((xs ++ [x]).map MV.str).length - 1]? = some (.str x) := by simp
 have e3 : ((xs ++ [x]).map MV.str).eraseIdx (((xs ++ [x]).map MV.str).length - 1) = xs.map .str := by
  rw [List.eraseIdx_length_sub_one]; simp
 simp only [sPop, v0, oS, h.hσ, lZ]
 rw [if_pos ⟨flats_strs _, by simp; omega⟩, e1, e3]
 rfl
theorem un_loop {zs : List Str} : ∀ (ys : List Str) (n : Nat) (st : MSt), ys.length < n → ys.length ≤ 50 → UN ys.reverse ys zs st → ∃ st', mwhile (bL (eVar 0)) unBody n st = some (.next, st') ∧ UN [] [] zs st'
 | _, 0, _, h, _, _ => by omega
 | [], n + 1, st, _, _, h => ⟨st, by
   have t := un_test h (by simp)
   simp only [mwhile_n, mwhile_c, t]; rfl, h⟩
 | y :: ys, n + 1, st, hn, hl, h => by
  simp only [List.length_cons] at hn hl
  have t := un_test h (by simp; omega)
  have h' : UN (ys.reverse ++ [y]) (y :: ys) zs st := by rw [← List.reverse_cons]; exact h
  obtain ⟨st1, a1, a2, a3⟩ := un_pop h' (by simp; omega)
  let st2 : MSt := { st1 with σ := [.list (ys.reverse.map .str), .list (ys.map .str), .list (zs.map .str)] }
  have h2 : UN ys.reverse ys zs st2 := ⟨a2.r0, a2.r1, a2.r2, rfl⟩
  have rm : xRemove 1 3 st1 = some (some .next, st2) := by
   have v1 : eVar 1 st1 = some (.ref 1) := a2.r1
   have v3 : eVar 3 st1 = some (.str y) := a3
   simp only [xRemove, v1, v3, oS, a2.hσ, lY, lZ, strsOf_strs]
   rw [if_pos ⟨flats_strs _, by simp; omega⟩]
   have i0 : (y :: ys).idxOf y = 0 := by simp
   rw [if_pos (by rw [i0]; simp), i0]
   rfl
  obtain ⟨st', c1, c2⟩ := un_loop ys n st2 (by omega) (by omega) h2
  refine ⟨st', ?_, c2⟩
  have hb : unBody st = some (.next, st2) := by
   unfold unBody
   rw [sSeq_eq a1]
   have : xTryEx (xSeq (xRemove 1 3) (xS sNil)) (sSeq (sAppend 2 (eVar 3)) sNil) st1 = some (.next, st2) := by
    unfold xTryEx
    rw [xSeq_eq rm]
    rfl
   rw [sSeq_eq this]; rfl
  have t' : (!(y :: ys).reverse.isEmpty) = true := by simp
  rw [t'] at t
  simp only [mwhile_n, mwhile_c, t, oS, if_true, hb]
  exact c1
theorem unorder_eq {l : List Str} (hl : l.length ≤ 40) (hs : slash ∉ l) : s_unorderable_list_difference (l ++ [slash]) l.reverse = some ([slash], [], []) := by
 let st0 := startU (l ++ [slash]) l.reverse
 let st1 : MSt := MSt.set { st0 with σ := [.list ((l ++ [slash]).map .str), .list (l.reverse.map .str), .list []] } 2 (.ref 2)
 have s1 : sNewList 2 eNil st0 = some (.next, st1) := by simp [sNewList, eNil, st1, st0, startU]
 have h1 : UN (l ++ [slash]) l.reverse [] st1 := ⟨rfl, rfl, rfl, rfl⟩
 obtain ⟨st2, a1, a2, a3⟩ := un_pop h1 (by omega)
 have rm : xRemove 1 3 st2 = some (none, st2) := by
  have v1 : eVar 1 st2 = some (.ref 1) := a2.r1
  have v3 : eVar 3 st2 = some (.str slash) := a3
  simp only [xRemove, v1, v3, oS, a2.hσ, lY, lZ, strsOf_strs]
  rw [if_pos ⟨flats_strs _, by simp; omega⟩, if_neg]
  rw [List.idxOf_lt_length_iff]
  simpa using hs
 let st3 : MSt := { st2 with σ := [.list (l.map .str), .list (l.reverse.map .str), .list ([slash].map .str)] }
 have ap : sAppend 2 (eVar 3) st2 = some (.next, st3) := by
  have v2 : eVar 2 st2 = some (.ref 2) := a2.r2
  have v3 : eVar 3 st2 = some (.str slash) := a3
  simp only [sAppend, v2, v3, oS, a2.hσ, lY, lZ]
  rw [if_pos (by simp)]
  rfl
 have hb : unBody st1 = some (.next, st3) := by
  unfold unBody
  rw [sSeq_eq a1]
  have : xTryEx (xSeq (xRemove 1 3) (xS sNil)) (sSeq (sAppend 2 (eVar 3)) sNil) st2 = some (.next, st3) := by
   unfold xTryEx
   rw [xSeq_stop rm]
   show (sSeq (sAppend 2 (eVar 3)) sNil) st2 = _
   rw [sSeq_eq ap]; rfl
  rw [sSeq_eq this]; rfl
 have h3 : UN l.reverse.reverse l.reverse [slash] st3 := ⟨a2.r0, a2.r1, a2.r2, by rw [List.reverse_reverse]⟩
 obtain ⟨st4, c1, c2⟩ := un_loop l.reverse 99 st3 (by simp; omega) (by simp; omega) h3
 have t := un_test h1 (by simp; omega)
 have t' : (!(l ++ [slash]).isEmpty) = true := by cases l <;> rfl
 rw [t'] at t
 have s2 : sWhile (bL (eVar 0)) unBody st1 = some (.next, st4) := by
  show mwhile (bL (eVar 0)) unBody 100 st1 = _
  rw [show (100 : Nat) = 99 + 1 from rfl]
  simp only [mwhile_n, mwhile_c, t, oS, if_true, hb]
  exact c1
 unfold unBody at s2
 have v1 : eVar 1 st4 = some (.ref 1) := c2.r1
 have v2 : eVar 2 st4 = some (.ref 2) := c2.r2
 have hm : m_unorderable_list_difference st0 = some (.ret (.tup [.ref 2, .ref 1]), st4) := by
  unfold m_unorderable_list_difference
  rw [sSeq_eq s1, sSeq_eq s2]
  simp only [sSeq, sRet, eTup, eCons, eNil, v1, v2, oS, List.length_cons, List.length_nil, oP]
  rw [if_pos (by omega)]
  rfl
 unfold s_unorderable_list_difference specU
 rw [if_pos ⟨by simp; omega, by simp; omega⟩, show m_unorderable_list_difference (startU (l ++ [slash]) l.reverse) = some (.ret (.tup [.ref 2, .ref 1]), st4) from hm]
 exact pickU_eq rfl c2.hσ
theorem slash_notin {T : Tr} {N : Nat → Nat} : slash ∉ rowsOf T N := fun h => by
 unfold rowsOf at h
 obtain ⟨k, hk, e⟩ := List.mem_map.mp h
 have e1 : (rowOf T (N k) k).cps.toList = slash.cps.toList := by rw [e]
 rw [rowOf_list] at e1
 have := congrArg List.length e1
 rw [List.length_append, rowL_len, List.length_cons] at this
 have h1 : slash.cps.toList.length = 1 := rfl
 omega
theorem thaws_strs (st : MSt) : ∀ l : List Str, thaws st (l.map .str) = some (l.map .str)
 | [] => rfl
 | x :: l => by simp [tHs1, tHs2, tH1, tH2, tH3, tH4, tH5, tH6, tH7, tH8, thaws_strs st l]
theorem law_ok (ns : List Int) (hns : ns.length ≤ 63) : lawOk ns := by
 obtain ⟨A, M, U, hd0, lA, hA0, lM, lU, hU⟩ := law_drawn_eq ns hns
 obtain ⟨T, hA⟩ := tree_of lA hA0
 have hl40 : U.length ≤ 40 := by omega
 obtain ⟨E1, E2⟩ := same_tale (T := T) (M := M) (U := U)
 have E3 := same_end (T := T) (M := M) (U := U)
 have wk := law_walked_eq (T := T) lM hU hl40
 have wd := law_wanted_eq hA lM hU hl40
 have mk := law_marked_eq (T := T) lM hU hl40
 have pt := law_paths_eq hA
 rw [E1, E2] at wk
 rw [E3] at mk
 generalize hτ : (tale T U fun k => M.getD k 0 % 65536) = τ at wk wd
 generalize hN : (ending T U fun k => M.getD k 0 % 65536) = N at wk wd mk
 have nτ : Nices 3 τ := by rw [← hτ]; exact tale_nice U _ hU
 have nL : Nice 4 (.lst τ) := .lst nτ
 have nR : Nice 1 (strsM (rowsOf T N)) := Nice.strs rows_ok
 have nl : (rowsOf T N).length = 8 := by simp [rowsOf]
 let aV : MV := .lst (A.map natI)
 let mV : MV := .lst (M.map natI)
 let uV : MV := .lst (turnsV U)
 let pV : MV := .lst (paths8 T)
 let rV : MV := strsM (rowsOf T N)
 have na : noRef aV = true := noRefs_nats A
 have nm : noRef mV = true := noRefs_nats M
 have nu : noRef uV = true := turnsV_noRefs U
 have np : noRef pV = true := paths8_noRefs T
 let st0 : MSt := start [.lst (ns.map .int)]
 let st1 : MSt := ((st0.set 1 aV).set 2 mV).set 3 uV
 have s1 : sAssign (eCall s_law_drawn (eCons (eVar 0) eNil)) (bTup [(bName 1), (bName 2), (bName 3)]) st0 = some (.next, st1) := by
  have v0 : eVar 0 st0 = some (.lst (ns.map .int)) := rfl
  have nn : noRefs [.lst (ns.map .int)] = true := by simp only [nRs1, nRs2, nR1, nR2, nR3, nR4, nR5, nR6, nR7, nR8, noRefs_map (f := MV.int) (L := ns) (fun _ _ => rfl), Bool.and_self]
  simp only [sAssign, eCall, eCons, eNil, v0, oS, nn, if_true, hd0, bTup, bAll, bName, List.length_cons, List.length_nil, oP]
  rfl
 let st2 : MSt := st1.set 4 pV
 have s2 : sAssign (eCall s_law_paths (eCons (eVar 1) eNil)) (bName 4) st1 = some (.next, st2) := by
  have v1 : eVar 1 st1 = some aV := rfl
  have nn : noRefs [aV] = true := by simp only [nRs1, nRs2, na, Bool.and_self]
  simp only [sAssign, eCall, eCons, eNil, v1, oS, nn, if_true]
  rw [show s_law_paths [aV] = some pV from pt]
  rfl
 let st3 : MSt := (st2.set 5 (.lst τ)).set 6 rV
 have s3 : sAssign (eCall0 s_law_walked (eCons (eVar 4) (eCons (eVar 2) (eCons (eVar 3) eNil)))) (bTup [(bName 5), (bName 6)]) st2 = some (.next, st3) := by
  have v4 : eVar 4 st2 = some pV := rfl
  have v2 : eVar 2 st2 = some mV := rfl
  have v3 : eVar 3 st2 = some uV := rfl
  have nn : noRefs [pV, mV, uV] = true := by simp only [nRs1, nRs2, np, nm, nu, Bool.and_self]
  have he : st2.σ.isEmpty = true := rfl
  simp only [sAssign, eCall0, he, if_true, eCall, eCons, eNil, v4, v2, v3, oS, nn]
  rw [show s_law_walked [pV, mV, uV] = some (.tup [.lst τ, rV]) from wk]
  rfl
 let st4 : MSt := (st3.set 7 (.lst τ)).set 8 rV
 have s4 : sAssign (eCall s_law_wanted (eCons (eVar 1) (eCons (eVar 2) (eCons (eVar 3) eNil)))) (bTup [(bName 7), (bName 8)]) st3 = some (.next, st4) := by
  have v1 : eVar 1 st3 = some aV := rfl
  have v2 : eVar 2 st3 = some mV := rfl
  have v3 : eVar 3 st3 = some uV := rfl
  have nn : noRefs [aV, mV, uV] = true := by simp only [nRs1, nRs2, na, nm, nu, Bool.and_self]
  simp only [sAssign, eCall, eCons, eNil, v1, v2, v3, oS, nn, if_true]
  rw [show s_law_wanted [aV, mV, uV] = some (.tup [.lst τ, rV]) from wd]
  rfl
 have s5 : sIf (bOr (b2 neV (eVar 5) (eVar 7)) (bOr (b2 neV (eVar 6) (eVar 8)) bFalse)) (sSeq (sRet (eBool false)) sNil) sNil st4 = some (.next, st4) := by
  have v5 : eVar 5 st4 = some (.lst τ) := rfl
  have v6 : eVar 6 st4 = some rV := rfl
  have v7 : eVar 7 st4 = some (.lst τ) := rfl
  have v8 : eVar 8 st4 = some rV := rfl
  have n1 : neV (.lst τ) (.lst τ) = some (.bool false) := nL.ne (by omega)
  have n2 : neV rV rV = some (.bool false) := nR.ne (by omega)
  simp only [sIf, bOr, b2, Mine.e2, v5, v6, v7, v8, oS, n1, n2, asBool, bFalse, sNil]
  rfl
 let st5 : MSt := MSt.set { st4 with σ := [.list ((rowsOf T N ++ [slash]).map .str)] } 9 (.ref 0)
 have s6 : sNewFlat 9 (nAdd (eVar 6) (eLst (eCons (eStr "/") eNil))) st4 = some (.next, st5) := by
  have v6 : eVar 6 st4 = some (.lst ((rowsOf T N).map .str)) := rfl
  have e1 : nAdd (eVar 6) (eLst (eCons (eStr "/") eNil)) st4 = some ((rowsOf T N ++ [slash]).map .str) := by
   simp only [nAdd, v6, eLst, eCons, eNil, eStr, slash_eq, oS, List.length_cons, List.length_nil, listOf]
   rw [if_pos (by omega)]
   simp only [oS, listOf]
   rw [if_pos (by simp [nl]), List.map_append]
   rfl
  simp only [sNewFlat, e1, oS]
  rw [if_pos ⟨flats_strs _, by simp [nl]⟩]
  rfl
 let st6 : MSt := st5.set 10 rV
 have s7 : sAssign (eCall s_law_marked (eCons (eVar 4) (eCons (eVar 2) (eCons (eVar 3) eNil)))) (bName 10) st5 = some (.next, st6) := by
  have v4 : eVar 4 st5 = some pV := rfl
  have v2 : eVar 2 st5 = some mV := rfl
  have v3 : eVar 3 st5 = some uV := rfl
  have nn : noRefs [pV, mV, uV] = true := by simp only [nRs1, nRs2, np, nm, nu, Bool.and_self]
  simp only [sAssign, eCall, eCons, eNil, v4, v2, v3, oS, nn, if_true]
  rw [show s_law_marked [pV, mV, uV] = some rV from mk]
  rfl
 let st7 : MSt := MSt.set { st6 with σ := [.list ((rowsOf T N ++ [slash]).map .str), .list ((rowsOf T N).reverse.map .str)] } 11 (.ref 1)
 have s8 : sNewFlat 11 (nSlice (eVar 10) pNone pNone (pSome (eNeg (eInt 1)))) st6 = some (.next, st7) := by
  have v10 : eVar 10 st6 = some (.lst ((rowsOf T N).map .str)) := rfl
  have e1 : nSlice (eVar 10) pNone pNone (pSome (eNeg (eInt 1))) st6 = some ((rowsOf T N).reverse.map .str) := by
   simp only [nSlice, v10, oS, pSome, eInt, eNeg, asInt, oP, pNone, listOf]
   rw [show (some (-1 : Int)) = some (-1) from rfl, sliceV_rev, if_pos ⟨by simp, by simp [nl]⟩, List.map_reverse]
  simp only [sNewFlat, e1, oS]
  rw [if_pos ⟨flats_strs _, by simp [nl]⟩]
  rfl
 let st8 : MSt := MSt.set ⟨st7.ρ, [.list [], .list []]⟩ 12 (.tup [.lst [.str slash], .ref 1])
 have s9 : sCallU 9 11 12 s_unorderable_list_difference st7 = some (.next, st8) := by
  exact sCallU_eq ⟨rfl, rfl, rfl, unorder_eq (l := rowsOf T N) (by omega) slash_notin, (by decide : 1 ≤ 1000), Nat.zero_le _, Nat.zero_le _⟩
 have s10 : sRet (eAnd (e2 eqV (eVar 10) (eVar 8)) (eAnd (e2S eqR (eVar 12) (eTup (eCons (eLst (eCons (eStr "/") eNil)) (eCons (eLst eNil) eNil)))) (eAnd (e2S eqR (eVar 9) (eLst eNil)) (e2S isR (eSub (eVar 12) (eInt 1)) (eVar 11))))) st8 = some (.ret (.bool true), st8) := by
  have v10 : eVar 10 st8 = some rV := rfl
  have v8 : eVar 8 st8 = some rV := rfl
  have v12 : eVar 12 st8 = some (.tup [.lst [.str slash], .ref 1]) := rfl
  have v9 : eVar 9 st8 = some (.ref 0) := rfl
  have v11 : eVar 11 st8 = some (.ref 1) := rfl
  have q1 : e2 eqV (eVar 10) (eVar 8) st8 = some (.bool true) := by
   simp only [Mine.e2, v10, v8, oS]
   exact nR.eq (by omega)
  have k1 : eTup (eCons (eLst (eCons (eStr "/") eNil)) (eCons (eLst eNil) eNil)) st8 = some (.tup [.lst [.str slash], .lst []]) := by
   simp only [eTup, eLst, eCons, eNil, eStr, slash_eq, oS, List.length_cons, List.length_nil]
   rfl
  have nn : Nice 2 (.tup [.lst [.str slash], .lst []]) := .tup (.cons (.lst (.cons (.str slash_sok) .nil)) (.cons (.lst .nil) .nil))
  have th1 : thaw st8 (.tup [.lst [.str slash], .ref 1]) = some (.tup [.lst [.str slash], .lst []]) := rfl
  have th2 : thaw st8 (.tup [.lst [.str slash], .lst []]) = some (.tup [.lst [.str slash], .lst []]) := rfl
  have q2 : e2S eqR (eVar 12) (eTup (eCons (eLst (eCons (eStr "/") eNil)) (eCons (eLst eNil) eNil))) st8 = some (.bool true) := by
   simp only [e2S, v12, k1, oS, eqR, th1, th2]
   exact nn.eq (by omega)
  have k2 : eLst eNil st8 = some (.lst []) := rfl
  have n0 : Nice 1 (.lst []) := .lst .nil
  have th3 : thaw st8 (.ref 0) = some (.lst []) := rfl
  have th4 : thaw st8 (.lst []) = some (.lst []) := rfl
  have q3 : e2S eqR (eVar 9) (eLst eNil) st8 = some (.bool true) := by
   simp only [e2S, v9, k2, oS, eqR, th3, th4]
   exact n0.eq (by omega)
  have q4 : e2S isR (eSub (eVar 12) (eInt 1)) (eVar 11) st8 = some (.bool true) := by
   have sb : eSub (eVar 12) (eInt 1) st8 = some (.ref 1) := rfl
   simp only [e2S, sb, v11, oS, isR]
   rfl
  simp only [sRet, eAnd, q1, q2, q3, q4, oS, oP]
 unfold lawOk
 have hm : m_law st0 = some (.ret (.bool true), st8) := by
  unfold m_law
  rw [sSeq_eq s1, sSeq_eq s2, sSeq_eq s3, sSeq_eq s4, sSeq_eq s5, sSeq_eq s6, sSeq_eq s7, sSeq_eq s8, sSeq_eq s9]
  unfold sSeq
  rw [s10]
  rfl
 rw [show m_law (start [.lst (ns.map .int)]) = some (.ret (.bool true), st8) from hm]
 rfl
theorem law_holds : PySem.Challenge.rw_pd0154_01.Holds := holds_of law_ok
end Mine
open PySem PySem.W PyProof.Rows
theorem PySem.Challenge.cw_pd0154_01_holds : PySem.Challenge.rw_pd0154_01.Holds := by
  exact Mine.law_holds
