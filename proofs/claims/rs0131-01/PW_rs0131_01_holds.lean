import PyProof.Rows.All
import Wide.All
import OpenK.AllK
import Wide.FinOn
import PySem.Challenge.RW_rs0131_01
set_option Elab.async false
section
open PySem PySem.W PyProof.Rows
set_option maxRecDepth 100000
set_option linter.unusedVariables false
namespace Mine

/-- one entry of a dict -/
def kE (P : Params) (k : Str) (t : Tok) (v : Value) : DictEntry := ⟨PyData.keyHash P k, .str k t, v⟩
/-- what the names of the top stand for -/
noncomputable def es3 (P : Params) : List DictEntry := [
    kE P ⟨#[95, 95, 110, 97, 109, 101, 95, 95]⟩ 165 (.str ⟨#[108, 97, 119, 95, 114, 115, 48, 49, 51, 49, 95, 48, 49]⟩ 543),
    kE P ⟨#[95, 95, 100, 111, 99, 95, 95]⟩ 166 (Value.none),
    kE P ⟨#[95, 95, 112, 97, 99, 107, 97, 103, 101, 95, 95]⟩ 167 (Value.none),
    kE P ⟨#[95, 95, 108, 111, 97, 100, 101, 114, 95, 95]⟩ 168 (Value.builtin "__main__.__loader__#opaque"),
    kE P ⟨#[95, 95, 115, 112, 101, 99, 95, 95]⟩ 169 (Value.none),
    kE P ⟨#[95, 95, 97, 110, 110, 111, 116, 97, 116, 105, 111, 110, 115, 95, 95]⟩ 170 (Value.ref 6),
    kE P ⟨#[95, 95, 98, 117, 105, 108, 116, 105, 110, 115, 95, 95]⟩ 171 (Value.ref 4),
    kE P ⟨#[95, 95, 102, 105, 108, 101, 95, 95]⟩ 173 (.str ⟨#[47, 99, 108, 97, 105, 109, 47, 99, 117, 116, 46, 112, 121]⟩ 172),
    kE P ⟨#[95, 95, 99, 97, 99, 104, 101, 100, 95, 95]⟩ 174 (Value.none),
    kE P ⟨#[95, 115, 114, 101]⟩ 275 (Value.ref 12),
    kE P ⟨#[73, 80, 86, 52, 95, 82, 69]⟩ 313 (Value.ref 36),
    kE P ⟨#[105, 115, 95, 72, 68, 78]⟩ 320 (Value.ref 43),
    kE P ⟨#[100, 111, 109, 97, 105, 110, 95, 109, 97, 116, 99, 104]⟩ 329 (Value.ref 50),
    kE P ⟨#[114, 101, 97, 99, 104]⟩ 338 (Value.ref 57),
    kE P ⟨#[69, 78, 68, 77, 65, 82, 75, 69, 82]⟩ 342 (Value.int 0 341),
    kE P ⟨#[76, 80, 65, 82]⟩ 344 (Value.int 7 343),
    kE P ⟨#[82, 80, 65, 82]⟩ 346 (Value.int 8 345),
    kE P ⟨#[76, 83, 81, 66]⟩ 348 (Value.int 9 347),
    kE P ⟨#[82, 83, 81, 66]⟩ 350 (Value.int 10 349),
    kE P ⟨#[67, 79, 76, 79, 78]⟩ 352 (Value.int 11 351),
    kE P ⟨#[67, 79, 77, 77, 65]⟩ 354 (Value.int 12 353),
    kE P ⟨#[83, 69, 77, 73]⟩ 356 (Value.int 13 355),
    kE P ⟨#[80, 76, 85, 83]⟩ 358 (Value.int 14 357),
    kE P ⟨#[77, 73, 78, 85, 83]⟩ 360 (Value.int 15 359),
    kE P ⟨#[83, 84, 65, 82]⟩ 362 (Value.int 16 361),
    kE P ⟨#[83, 76, 65, 83, 72]⟩ 364 (Value.int 17 363),
    kE P ⟨#[86, 66, 65, 82]⟩ 366 (Value.int 18 365),
    kE P ⟨#[65, 77, 80, 69, 82]⟩ 368 (Value.int 19 367),
    kE P ⟨#[76, 69, 83, 83]⟩ 370 (Value.int 20 369),
    kE P ⟨#[71, 82, 69, 65, 84, 69, 82]⟩ 372 (Value.int 21 371),
    kE P ⟨#[69, 81, 85, 65, 76]⟩ 374 (Value.int 22 373),
    kE P ⟨#[68, 79, 84]⟩ 376 (Value.int 23 375),
    kE P ⟨#[80, 69, 82, 67, 69, 78, 84]⟩ 378 (Value.int 24 377),
    kE P ⟨#[76, 66, 82, 65, 67, 69]⟩ 380 (Value.int 25 379),
    kE P ⟨#[82, 66, 82, 65, 67, 69]⟩ 382 (Value.int 26 381),
    kE P ⟨#[69, 81, 69, 81, 85, 65, 76]⟩ 384 (Value.int 27 383),
    kE P ⟨#[78, 79, 84, 69, 81, 85, 65, 76]⟩ 386 (Value.int 28 385),
    kE P ⟨#[76, 69, 83, 83, 69, 81, 85, 65, 76]⟩ 388 (Value.int 29 387),
    kE P ⟨#[71, 82, 69, 65, 84, 69, 82, 69, 81, 85, 65, 76]⟩ 390 (Value.int 30 389),
    kE P ⟨#[84, 73, 76, 68, 69]⟩ 392 (Value.int 31 391),
    kE P ⟨#[67, 73, 82, 67, 85, 77, 70, 76, 69, 88]⟩ 394 (Value.int 32 393),
    kE P ⟨#[76, 69, 70, 84, 83, 72, 73, 70, 84]⟩ 396 (Value.int 33 395),
    kE P ⟨#[82, 73, 71, 72, 84, 83, 72, 73, 70, 84]⟩ 398 (Value.int 34 397),
    kE P ⟨#[68, 79, 85, 66, 76, 69, 83, 84, 65, 82]⟩ 400 (Value.int 35 399),
    kE P ⟨#[80, 76, 85, 83, 69, 81, 85, 65, 76]⟩ 402 (Value.int 36 401),
    kE P ⟨#[77, 73, 78, 69, 81, 85, 65, 76]⟩ 404 (Value.int 37 403),
    kE P ⟨#[83, 84, 65, 82, 69, 81, 85, 65, 76]⟩ 406 (Value.int 38 405),
    kE P ⟨#[83, 76, 65, 83, 72, 69, 81, 85, 65, 76]⟩ 408 (Value.int 39 407),
    kE P ⟨#[80, 69, 82, 67, 69, 78, 84, 69, 81, 85, 65, 76]⟩ 410 (Value.int 40 409),
    kE P ⟨#[65, 77, 80, 69, 82, 69, 81, 85, 65, 76]⟩ 412 (Value.int 41 411),
    kE P ⟨#[86, 66, 65, 82, 69, 81, 85, 65, 76]⟩ 414 (Value.int 42 413),
    kE P ⟨#[67, 73, 82, 67, 85, 77, 70, 76, 69, 88, 69, 81, 85, 65, 76]⟩ 416 (Value.int 43 415),
    kE P ⟨#[76, 69, 70, 84, 83, 72, 73, 70, 84, 69, 81, 85, 65, 76]⟩ 418 (Value.int 44 417),
    kE P ⟨#[82, 73, 71, 72, 84, 83, 72, 73, 70, 84, 69, 81, 85, 65, 76]⟩ 420 (Value.int 45 419),
    kE P ⟨#[68, 79, 85, 66, 76, 69, 83, 84, 65, 82, 69, 81, 85, 65, 76]⟩ 422 (Value.int 46 421),
    kE P ⟨#[68, 79, 85, 66, 76, 69, 83, 76, 65, 83, 72]⟩ 424 (Value.int 47 423),
    kE P ⟨#[68, 79, 85, 66, 76, 69, 83, 76, 65, 83, 72, 69, 81, 85, 65, 76]⟩ 426 (Value.int 48 425),
    kE P ⟨#[65, 84]⟩ 428 (Value.int 49 427),
    kE P ⟨#[65, 84, 69, 81, 85, 65, 76]⟩ 430 (Value.int 50 429),
    kE P ⟨#[82, 65, 82, 82, 79, 87]⟩ 432 (Value.int 51 431),
    kE P ⟨#[69, 76, 76, 73, 80, 83, 73, 83]⟩ 434 (Value.int 52 433),
    kE P ⟨#[67, 79, 76, 79, 78, 69, 81, 85, 65, 76]⟩ 436 (Value.int 53 435),
    kE P ⟨#[69, 88, 67, 76, 65, 77, 65, 84, 73, 79, 78]⟩ 438 (Value.int 54 437),
    kE P ⟨#[69, 88, 65, 67, 84, 95, 84, 79, 75, 69, 78, 95, 84, 89, 80, 69, 83]⟩ 535 (Value.ref 58),
    kE P ⟨#[73, 83, 69, 79, 70]⟩ 542 (Value.ref 67),
    kE P ⟨#[95, 108, 97, 119, 95, 114, 111, 119]⟩ 550 (Value.ref 74),
    kE P ⟨#[95, 108, 97, 119, 95, 104, 111, 115, 116]⟩ 558 (Value.ref 81),
    kE P ⟨#[95, 108, 97, 119, 95, 99, 108, 105, 109, 98]⟩ 568 (Value.ref 88),
    kE P ⟨#[95, 108, 97, 119, 95, 110, 105, 109, 115, 117, 109]⟩ 574 (Value.ref 93),
    kE P ⟨#[108, 97, 119]⟩ 580 (Value.ref 98)]
/-- the numbers of the texts -/
noncomputable def kv58 : List (Str × Tok × Int × Tok) := [
    (⟨#[33]⟩, 439, 54, 437),
    (⟨#[33, 61]⟩, 441, 28, 385),
    (⟨#[37]⟩, 443, 24, 377),
    (⟨#[37, 61]⟩, 445, 40, 409),
    (⟨#[38]⟩, 447, 19, 367),
    (⟨#[38, 61]⟩, 449, 41, 411),
    (⟨#[40]⟩, 451, 7, 343),
    (⟨#[41]⟩, 453, 8, 345),
    (⟨#[42]⟩, 455, 16, 361),
    (⟨#[42, 42]⟩, 457, 35, 399),
    (⟨#[42, 42, 61]⟩, 459, 46, 421),
    (⟨#[42, 61]⟩, 461, 38, 405),
    (⟨#[43]⟩, 463, 14, 357),
    (⟨#[43, 61]⟩, 465, 36, 401),
    (⟨#[44]⟩, 467, 12, 353),
    (⟨#[45]⟩, 469, 15, 359),
    (⟨#[45, 61]⟩, 471, 37, 403),
    (⟨#[45, 62]⟩, 473, 51, 431),
    (⟨#[46]⟩, 475, 23, 375),
    (⟨#[46, 46, 46]⟩, 477, 52, 433),
    (⟨#[47]⟩, 479, 17, 363),
    (⟨#[47, 47]⟩, 481, 47, 423),
    (⟨#[47, 47, 61]⟩, 483, 48, 425),
    (⟨#[47, 61]⟩, 485, 39, 407),
    (⟨#[58]⟩, 487, 11, 351),
    (⟨#[58, 61]⟩, 489, 53, 435),
    (⟨#[59]⟩, 491, 13, 355),
    (⟨#[60]⟩, 493, 20, 369),
    (⟨#[60, 60]⟩, 495, 33, 395),
    (⟨#[60, 60, 61]⟩, 497, 44, 417),
    (⟨#[60, 61]⟩, 499, 29, 387),
    (⟨#[61]⟩, 501, 22, 373),
    (⟨#[61, 61]⟩, 503, 27, 383),
    (⟨#[62]⟩, 505, 21, 371),
    (⟨#[62, 61]⟩, 507, 30, 389),
    (⟨#[62, 62]⟩, 508, 34, 397),
    (⟨#[62, 62, 61]⟩, 509, 45, 419),
    (⟨#[64]⟩, 510, 49, 427),
    (⟨#[64, 61]⟩, 511, 50, 429),
    (⟨#[91]⟩, 512, 9, 347),
    (⟨#[93]⟩, 513, 10, 349),
    (⟨#[94]⟩, 514, 32, 393),
    (⟨#[94, 61]⟩, 515, 43, 415),
    (⟨#[123]⟩, 516, 25, 379),
    (⟨#[124]⟩, 517, 18, 365),
    (⟨#[124, 61]⟩, 518, 42, 413),
    (⟨#[125]⟩, 519, 26, 381),
    (⟨#[126]⟩, 520, 31, 391)]
noncomputable def es58 (P : Params) : List DictEntry := kv58.map fun e => kE P e.1 e.2.1 (.int e.2.2.1 e.2.2.2)
noncomputable def o35 : Obj := { cls := Value.type "tuple", data := Data.seq #[Value.int 14 0, Value.int 8 0, Value.int 1 0, Value.int 2 0, Value.int 4294967295 0, Value.int 1 0, Value.int 1 0, Value.int 46 0, Value.int 0 0, Value.int 16 0, Value.int 46 0, Value.int 24 0, Value.int 9 0, Value.int 1 0, Value.int 4294967295 0, Value.int 13 0, Value.int 4 0, Value.int 8 0, Value.int 0 0, Value.int 0 0, Value.int 1 0, Value.int 6 0, Value.int 5 0, Value.int 1 0] }
noncomputable def o36 : Obj := { cls := .type "re.Pattern", data := .fields #[.str ⟨#[92, 46, 92, 100, 43, 36]⟩ 285, .int 256 312, .int 0 0, .none, .none, .ref 35, .int 0 0] }
/-- the part of the heap that is known whole -/
noncomputable def kfrag (P : Params) : Frag := [(3, { cls := .type "dict", data := .dict (es3 P).toArray 70 }), (35, o35), (36, o36), (58, { cls := .type "dict", data := .dict (es58 P).toArray 48 })]
end Mine

end
section
open PySem PySem.W PyProof.Rows
set_option maxRecDepth 100000
set_option maxHeartbeats 8000000
set_option linter.unusedVariables false
namespace Mine
universe u
/-- the text's defs -/
def qv : Program := { PySem.Challenge.pw_rs0131_01 with main := { PySem.Challenge.pw_rs0131_01.main with body := PySem.Challenge.pw_rs0131_01.main.body.filter fun st => match st with
  | .Assign .. => false
  | _ => true } }
/-- its other names -/
def lv : List Str := PySem.Challenge.pw_rs0131_01.main.body.filterMap fun st => match st with
  | .Assign [.Name x _] _ _ => if x == Str.ofString "__name__" then none else some x
  | _ => none
noncomputable def hk : Hook := kHook kfrag [3, 35, 36, 58] (fun _ => rfl)
noncomputable def run (w : World) := (openEnds treeTable PySem.Challenge.pw_rs0131_01 w 3688).map fun s => (openSeen qv lv (importedModules PySem.Challenge.pw_rs0131_01.main.body) (fun s => xlAt qv [] s && recOk [] s) true s, [3, 35, 36, 58].map s.heap.get?)
noncomputable def good (w : World) := some (openGood qv lv, (kfrag w.params).map fun p => some p.2)
/-- a closed word about anything -/
def mark {α : Sort u} (_ : α) : Bool := true
theorem run_mark : mark run = true := by k_qdec
theorem good_mark : mark good = true := by k_qdec
theorem run0 : ∀ w : World, PySem.W.Fast.tw17348356500610007063 (w.withFollow "special-get-raises" false) = PySem.W.Fast.tw10306816596565454657 (w.withFollow "special-get-raises" false) := fun w => by kernel_rfl
theorem run1 : ∀ w : World, PySem.W.Fast.tw17348356500610007063 (w.withFollow "special-get-raises" true) = PySem.W.Fast.tw10306816596565454657 (w.withFollow "special-get-raises" true) := fun w => by kernel_rfl
theorem run_good (w : World) : run w = good w := byRow2 "special-get-raises" (P := fun w => run w = good w)
  (fun w => (congrFun PySem.W.Fast.te17348356500610007063 _).trans ((run0 w).trans (congrFun PySem.W.Fast.te10306816596565454657 _).symm))
  (fun w => (congrFun PySem.W.Fast.te17348356500610007063 _).trans ((run1 w).trans (congrFun PySem.W.Fast.te10306816596565454657 _).symm)) w
theorem hleft : LeftO PySem.Challenge.rw_rs0131_01.row.prog qv lv (fun s => xlAt qv [] s && recOk (RowW.records PySem.Challenge.rw_rs0131_01.row.toRowW) s) (Hook.obs hk) (Hook.val hk) 3688 := fun w => run_good w
theorem said : PySem.Challenge.rw_rs0131_01.wellSaid = true := by k_qdec
theorem chains : (chainsOk qv && opensWell PySem.Challenge.rw_rs0131_01.row.prog && (frees PySem.Challenge.rw_rs0131_01.row.toRowW && PySem.Challenge.rw_rs0131_01.row.within.isEmpty)) = true := by k_qdec
/-- the top is run: what is left is the call -/
theorem head {d : DefRec} {kwd : List (Str × Expr)} (h1 : defOf qv PySem.Challenge.rw_rs0131_01.row.name = some (d, kwd)) (h2 : PySem.Challenge.rw_rs0131_01.row.prog.theDef PySem.Challenge.rw_rs0131_01.row.name = some (d.params, d.body, d.scope)) (h3 : kwWritten? d.params.kwonlyargs d.params.kw_defaults = some kwd)
    (call : WalkO qv lv (XL qv []) (Hook.says hk) PySem.Challenge.rw_rs0131_01.row.toRowW d kwd fun f vs => PySem.call f vs) : PySem.Challenge.rw_rs0131_01.Holds := by
  w_on
  refine holds_law said fun sd => ?_
  refine PySem.W.holds_open (q := qv) (loose := lv) (Xt := fun s => xlAt qv [] s && recOk (RowW.records PySem.Challenge.rw_rs0131_01.row.toRowW) s) (XP := XL qv []) (Yf := Hook.obs hk) (Ya := Hook.val hk) (YP := Hook.says hk) (N := 3688) hleft (Hook.of hk) (Hook.keeps hk) (fun s e => xl_of s (Bool.and_eq_true_iff.mp e).1) XL.keeps h1 h2 h3 (fun s e => recFacts_of (Bool.and_eq_true_iff.mp e).2) (by rfl) sd chains ⟨rfl, rfl, rfl, rfl, rfl, by decide +kernel⟩ ?hw call
  case hw => w_witness2
end Mine

end
section
open PySem PyProof.Rows
set_option maxRecDepth 100000
set_option linter.unusedVariables false
namespace Mine

/-- everything of h stands in h' -/
abbrev Le (h h' : Heap) : Prop := ∀ b o, h.get? b = some o → h'.get? b = some o
theorem Le.refl (h : Heap) : Le h h := fun _ _ e => e
theorem Le.trans {h₁ h₂ h₃ : Heap} (x : Le h₁ h₂) (y : Le h₂ h₃) : Le h₁ h₃ := fun b o e => y b o (x b o e)
theorem Le.push (h : Heap) (o : Obj) : Le h (h.push o) := fun _ _ e => Heap.get?_push_of_some _ e
theorem freshAt (h : Heap) : h.get? h.objs.size = none := by
  cases q : h.get? h.objs.size with
  | none => rfl
  | some o => exact absurd (Heap.lt_size q) (Nat.lt_irrefl _)
theorem Le.none {h h' : Heap} {a : Addr} (x : Le h h') (q : h'.get? a = Option.none) : h.get? a = Option.none := by
  cases r : h.get? a with
  | none => rfl
  | some o => rw [x _ _ r] at q; cases q

/-- what stands and never turns again -/
abbrev FM := Addr → Option Obj
def FLe (F F' : FM) : Prop := ∀ a o, F a = some o → F' a = some o
def Fit (F : FM) (h : Heap) : Prop := ∀ a o, F a = some o → h.get? a = some o

abbrev lst (vs : List Value) (n : Nat) : Obj := { cls := .type "list", data := .seq vs.toArray n }
abbrev tpl (vs : List Value) (n : Nat) : Obj := { cls := .type "tuple", data := .seq vs.toArray n }
def IsSeq (o : Obj) : Prop := ∃ xs n, o.data = .seq xs n
theorem lst_seq {vs : List Value} {n : Nat} : IsSeq (lst vs n) := ⟨_, _, rfl⟩
theorem tpl_seq {vs : List Value} {n : Nat} : IsSeq (tpl vs n) := ⟨_, _, rfl⟩

mutual
/-- the value v bears the datum d by objects that stay -/
inductive Rep (F : FM) : Value → PyData → Prop
  | none : Rep F .none .none
  | bool (b : Bool) : Rep F (.bool b) (.bool b)
  | int (i : Int) (t : Tok) : Rep F (.int i t) (.int i)
  | str (x : Str) (t : Tok) : Rep F (.str x t) (.str x)
  | list {a : Addr} {n : Nat} {vs : List Value} {ds : List PyData} : F a = some (lst vs n) → RepAll F vs ds → Rep F (.ref a) (.list ds)
  | tuple {a : Addr} {n : Nat} {vs : List Value} {ds : List PyData} : F a = some (tpl vs n) → RepAll F vs ds → Rep F (.ref a) (.tuple ds)
inductive RepAll (F : FM) : List Value → List PyData → Prop
  | nil : RepAll F [] []
  | cons {v : Value} {vs : List Value} {d : PyData} {ds : List PyData} : Rep F v d → RepAll F vs ds → RepAll F (v :: vs) (d :: ds)
end

mutual
theorem Rep.mono {F F' : FM} (k : ∀ b o, F b = some o → IsSeq o → F' b = some o) : ∀ {v : Value} {d : PyData}, Rep F v d → Rep F' v d
  | _, _, .none => .none
  | _, _, .bool b => .bool b
  | _, _, .int i t => .int i t
  | _, _, .str x t => .str x t
  | _, _, .list e r => .list (k _ _ e lst_seq) (RepAll.mono k r)
  | _, _, .tuple e r => .tuple (k _ _ e tpl_seq) (RepAll.mono k r)
theorem RepAll.mono {F F' : FM} (k : ∀ b o, F b = some o → IsSeq o → F' b = some o) : ∀ {vs : List Value} {ds : List PyData}, RepAll F vs ds → RepAll F' vs ds
  | _, _, .nil => .nil
  | _, _, .cons x r => .cons (Rep.mono k x) (RepAll.mono k r)
end

section
variable {F F' : FM} {h h' : Heap} {v : Value} {d : PyData} {vs : List Value} {ds : List PyData}
theorem Rep.le (x : Rep F v d) (k : FLe F F') : Rep F' v d := x.mono fun b o e _ => k b o e
theorem RepAll.le (x : RepAll F vs ds) (k : FLe F F') : RepAll F' vs ds := x.mono fun b o e _ => k b o e
theorem RepAll.length (x : RepAll F vs ds) : vs.length = ds.length := by
  induction vs generalizing ds with
  | nil => cases x; rfl
  | cons v vs ih => cases x with | cons _ r => simp [ih r]
theorem RepAll.append {ws : List Value} {es : List PyData} (x : RepAll F vs ds) (y : RepAll F ws es) : RepAll F (vs ++ ws) (ds ++ es) := by
  induction vs generalizing ds with
  | nil => cases x; exact y
  | cons v vs ih => cases x with | cons a r => exact .cons a (ih r)
theorem RepAll.get (x : RepAll F vs ds) {k : Nat} {d : PyData} (hk : ds[k]? = some d) : ∃ v, vs[k]? = some v ∧ Rep F v d := by
  induction vs generalizing ds k with
  | nil => cases x; simp at hk
  | cons v vs ih => cases x with
    | cons a r =>
      cases k with
      | zero => simp at hk; subst hk; exact ⟨v, rfl, a⟩
      | succ k => simp at hk; simpa using ih r hk
theorem RepAll.get' (x : RepAll F vs ds) {k : Nat} {v : Value} (hk : vs[k]? = some v) : ∃ d, ds[k]? = some d ∧ Rep F v d := by
  induction vs generalizing ds k with
  | nil => simp at hk
  | cons v vs ih => cases x with
    | cons a r =>
      cases k with
      | zero => simp at hk; subst hk; exact ⟨_, rfl, a⟩
      | succ k => simp at hk; simpa using ih r hk
theorem RepAll.take (x : RepAll F vs ds) (k : Nat) : RepAll F (vs.take k) (ds.take k) := by
  induction vs generalizing ds k with
  | nil => cases x; simp; exact .nil
  | cons v vs ih => cases x with
    | cons a r => cases k with
      | zero => exact .nil
      | succ k => exact .cons a (ih r k)
theorem RepAll.drop (x : RepAll F vs ds) (k : Nat) : RepAll F (vs.drop k) (ds.drop k) := by
  induction vs generalizing ds k with
  | nil => cases x; simp; exact .nil
  | cons v vs ih => cases x with
    | cons a r => cases k with
      | zero => exact .cons a r
      | succ k => exact ih r k
theorem RepAll.set (x : RepAll F vs ds) (k : Nat) (y : Rep F v d) : RepAll F (vs.set k v) (ds.set k d) := by
  induction vs generalizing ds k with
  | nil => cases x; exact .nil
  | cons u us ih => cases x with
    | cons a r => cases k with
      | zero => exact .cons y r
      | succ k => exact .cons a (ih r k)
end
mutual
theorem Rep.reads {F : FM} {h : Heap} (k : Fit F h) : ∀ {v : Value} {d : PyData}, Rep F v d → ∃ as, Reads h v d as
  | _, _, .none => ⟨_, .none⟩
  | _, _, .bool b => ⟨_, .bool b⟩
  | _, _, .int i t => ⟨_, .int i t⟩
  | _, _, .str x t => ⟨_, .str x t⟩
  | _, _, .list e r => let ⟨_, q⟩ := RepAll.reads k r; ⟨_, .list (k _ _ e) rfl rfl (by simpa using q)⟩
  | _, _, .tuple e r => let ⟨_, q⟩ := RepAll.reads k r; ⟨_, .tuple (k _ _ e) rfl rfl (by simpa using q)⟩
theorem RepAll.reads {F : FM} {h : Heap} (k : Fit F h) : ∀ {vs : List Value} {ds : List PyData}, RepAll F vs ds → ∃ as, ReadsAll h vs ds as
  | _, _, .nil => ⟨_, .nil⟩
  | _, _, .cons x r => let ⟨_, p⟩ := Rep.reads k x; let ⟨_, q⟩ := RepAll.reads k r; ⟨_, .cons p q⟩
end

theorem repStrs {F : FM} : ∀ (l : List (Str × Tok)), RepAll F (strValues l) (l.map fun p => PyData.str p.1)
  | [] => .nil
  | _ :: l => .cons (.str _ _) (repStrs l)
theorem RepAll.strs {F : FM} : ∀ {vs : List Value} {xs : List Str}, RepAll F vs (xs.map PyData.str) → ∃ l : List (Str × Tok), vs = strValues l ∧ l.map (·.1) = xs
  | vs, [], x => by cases x; exact ⟨[], rfl, rfl⟩
  | vs, x :: xs, r => by
    cases r with | cons a r => cases a with | str _ t => obtain ⟨l, rfl, rfl⟩ := RepAll.strs r; exact ⟨(x, t) :: l, rfl, rfl⟩
theorem RepAll.ints {F : FM} : ∀ {vs : List Value} {ns : List Int}, RepAll F vs (ns.map PyData.int) → IntsAre vs ns
  | vs, [], x => by cases x; exact .nil
  | vs, n :: ns, r => by
    cases r with | cons a r => cases a with | int _ t => exact .cons _ _ (RepAll.ints r)
theorem repInts {F : FM} : ∀ {vs : List Value} {ns : List Int}, IntsAre vs ns → RepAll F vs (ns.map PyData.int)
  | _, _, .nil => .nil
  | _, _, .cons _ _ r => .cons (.int _ _) (repInts r)

/-- more is made, nothing turns; what is newly said to stay is new -/
structure Ext (F : FM) (h : Heap) (F' : FM) (h' : Heap) : Prop where
  f : FLe F F'
  l : Le h h'
  n : ∀ a o, F' a = some o → F a = some o ∨ h.get? a = none
  k : Fit F' h'
section
variable {F F' F₁ F₂ F₃ : FM} {h h' h₁ h₂ h₃ : Heap}
theorem Ext.refl (k : Fit F h) : Ext F h F h := ⟨fun _ _ e => e, Le.refl _, fun _ _ e => .inl e, k⟩
theorem Ext.trans (x : Ext F₁ h₁ F₂ h₂) (y : Ext F₂ h₂ F₃ h₃) : Ext F₁ h₁ F₃ h₃ :=
  ⟨fun a o e => y.f a o (x.f a o e), x.l.trans y.l, fun a o e => (y.n a o e).elim (x.n a o) fun q => .inr (x.l.none q), y.k⟩
theorem Ext.heap (k : Fit F h) (l : Le h h') : Ext F h F h' := ⟨fun _ _ e => e, l, fun _ _ e => .inl e, fun a o e => l _ _ (k a o e)⟩
/-- an object that is new is said to stay -/
def ins (F : FM) (a : Addr) (o : Obj) : FM := fun b => if b = a then some o else F b
theorem ins_self {a : Addr} {o : Obj} : ins F a o a = some o := by simp [ins]
theorem Ext.ins {a : Addr} {o : Obj} (x : Ext F h F' h') (f : h.get? a = none) (g : h'.get? a = some o) : Ext F h (ins F' a o) h' where
  f := fun b p e => by
    unfold Mine.ins
    split
    · next q => subst q; rw [← g, ← x.k _ _ (x.f _ _ e)]
    · exact x.f b p e
  l := x.l
  n := fun b p e => by
    unfold Mine.ins at e
    split at e
    · next q => subst q; exact .inr f
    · exact x.n b p e
  k := fun b p e => by
    unfold Mine.ins at e
    split at e
    · next q => subst q; cases e; exact g
    · exact x.k b p e
theorem fle_ins {a : Addr} {o : Obj} (k : Fit F h) (g : h.get? a = some o) : FLe F (ins F a o) := fun b p e => by
  unfold Mine.ins
  split
  · next q => subst q; rw [← g, k _ _ e]
  · exact e
theorem Ext.push (k : Fit F h) {o : Obj} (ho : o.isFreed = false := by rfl) : Ext F h (Mine.ins F h.objs.size o) (h.push o) :=
  (Ext.heap k (Le.push h o)).ins (freshAt h) (Heap.get?_push_size _ ho)
end

abbrev Cond := FM → Heap → Prop
/-- the tree gives the datum d wherever Ok holds; it makes things, it changes none -/
def EV (M : Model) (A : Around) (Ok : Cond) (t : Sem Value) (d : PyData) : Prop :=
  ∀ (F : FM) (s : Shared) (Q : Value → Shared → Prop) (E : Value → Shared → Prop), Fit F s.heap → Ok F s.heap →
    (∀ v F' h' tk, Ext F s.heap F' h' → Rep F' v d → Q v { s with heap := h', toks := tk }) → wpAny M A t Q E s
def EB (M : Model) (A : Around) (Ok : Cond) (t : Sem Bool) (b : Bool) : Prop :=
  ∀ (F : FM) (s : Shared) (Q : Bool → Shared → Prop) (E : Value → Shared → Prop), Fit F s.heap → Ok F s.heap →
    (∀ F' h' tk, Ext F s.heap F' h' → Q b { s with heap := h', toks := tk }) → wpAny M A t Q E s
def EA (M : Model) (A : Around) (Ok : Cond) (ts : List (Bool × Sem Value)) (ds : List PyData) : Prop :=
  ∀ (F : FM) (s : Shared) (Q : List Value → Shared → Prop) (E : Value → Shared → Prop), Fit F s.heap → Ok F s.heap →
    (∀ vs F' h' tk, Ext F s.heap F' h' → RepAll F' vs ds → Q vs { s with heap := h', toks := tk }) → wpAny M A (spliced ts) Q E s
/-- a tree that makes a new list -/
def EVM (M : Model) (A : Around) (Ok : Cond) (t : Sem Value) (ds : List PyData) : Prop :=
  ∀ (F : FM) (s : Shared) (Q : Value → Shared → Prop) (E : Value → Shared → Prop), Fit F s.heap → Ok F s.heap →
    (∀ a n vs F' h' tk, Ext F s.heap F' h' → s.heap.get? a = none → F' a = none → h'.get? a = some (lst vs n) → RepAll F' vs ds → Q (.ref a) { s with heap := h', toks := tk }) → wpAny M A t Q E s
/-- the name stands for this very value -/
def NV (M : Model) (A : Around) (Ok : Cond) (env : Env) (x : Str) (v : Value) : Prop :=
  ∀ (pos : Pos) (F : FM) (s : Shared) (Q : Value → Shared → Prop) (E : Value → Shared → Prop), Ok F s.heap → Q v s → wpAny M A (eval (.Name x pos) env) Q E s
def Mono (Ok : Cond) : Prop := ∀ F h F' h', Ok F h → Ext F h F' h' → Ok F' h'
theorem Mono.rep {v : Value} {d : PyData} : Mono fun F _ => Rep F v d := fun _ _ _ _ x k => x.le k.f
theorem Mono.repAll {v : List Value} {d : List PyData} : Mono fun F _ => RepAll F v d := fun _ _ _ _ x k => x.le k.f
theorem Mono.and {P Q : Cond} (p : Mono P) (q : Mono Q) : Mono fun F h => P F h ∧ Q F h := fun _ _ _ _ x k => ⟨p _ _ _ _ x.1 k, q _ _ _ _ x.2 k⟩

section
variable {M : Model} {A : Around} {Ok Ok' : Cond} {t : Sem Value} {d d₁ d₂ : PyData} {ds : List PyData} {env : Env} {pos : Pos}

theorem EV.weak (x : EV M A Ok t d) (k : ∀ F h, Ok' F h → Ok F h) : EV M A Ok' t d := fun F s Q E ft ok h => x F s Q E ft (k _ _ ok) h
theorem EB.weak {t : Sem Bool} {b : Bool} (x : EB M A Ok t b) (k : ∀ F h, Ok' F h → Ok F h) : EB M A Ok' t b := fun F s Q E ft ok h => x F s Q E ft (k _ _ ok) h
theorem NV.weak {x : Str} {v : Value} (n : NV M A Ok env x v) (k : ∀ F h, Ok' F h → Ok F h) : NV M A Ok' env x v := fun p F s Q E ok h => n p F s Q E (k _ _ ok) h
theorem EVM.ev (x : EVM M A Ok t ds) : EV M A Ok t (.list ds) := fun F s Q E ft ok hQ =>
  x F s Q E ft ok fun a n vs F' h' tk l f _ g r => hQ _ _ h' tk (l.ins f g) (.list ins_self (r.le (fle_ins l.k g)))

theorem ev_int {i : Int} {k : Nat} : EV M A Ok (eval (.Constant (.int i) k pos) env) (.int i) := fun F s Q E ft ok h => wpAny_Constant_int (h _ F s.heap _ (.refl ft) (.int _ _))
theorem ev_str {x : Str} {k : Nat} : EV M A Ok (eval (.Constant (.str x) k pos) env) (.str x) := fun F s Q E ft ok h => wpAny_Constant_str (h _ F s.heap _ (.refl ft) (.str _ _))
theorem ev_bool {b : Bool} {k : Nat} : EV M A Ok (eval (.Constant (.bool b) k pos) env) (.bool b) := fun F s Q E ft ok h => wpAny_Constant_bool (h _ F s.heap s.toks (.refl ft) (.bool _))
theorem ev_none {k : Nat} : EV M A Ok (eval (.Constant .none k pos) env) .none := fun F s Q E ft ok h => wpAny_Constant_none (h _ F s.heap s.toks (.refl ft) .none)

theorem ev_binop {l r : Expr} {op : Operator} (mo : Mono Ok) (hl : EV M A Ok (eval l env) d₁) (hr : EV M A Ok (eval r env) d₂)
    (ho : ∀ a b, EV M A (fun F h => Ok F h ∧ Rep F a d₁ ∧ Rep F b d₂) (binaryOp op a b) d) : EV M A Ok (eval (.BinOp l op r pos) env) d := fun F s Q E ft ok h =>
  wpAny_BinOp (hl F s _ E ft ok fun a F₁ h₁ tk₁ l₁ r₁ => hr F₁ _ _ E l₁.k (mo _ _ _ _ ok l₁) fun b F₂ h₂ tk₂ l₂ r₂ => ho a b F₂ _ _ E l₂.k ⟨mo _ _ _ _ ok (l₁.trans l₂), r₁.le l₂.f, r₂⟩ fun v F₃ h₃ tk₃ l₃ r₃ =>
    h v F₃ h₃ tk₃ ((l₁.trans l₂).trans l₃) r₃)

theorem ev_compare {l r : Expr} {op : CmpOp} (mo : Mono Ok) (hl : EV M A Ok (eval l env) d₁) (hr : EV M A Ok (eval r env) d₂)
    (ho : ∀ a b, EV M A (fun F h => Ok F h ∧ Rep F a d₁ ∧ Rep F b d₂) (compareOp op a b) d) (hm : behindInMarks op r = false := by with_unfolding_all rfl) :
    EV M A Ok (eval (.Compare l [op] [r] pos) env) d := fun F s Q E ft ok h =>
  wpAny_Compare1 (hl F s _ E ft ok fun a F₁ h₁ tk₁ l₁ r₁ => hr F₁ _ _ E l₁.k (mo _ _ _ _ ok l₁) fun b F₂ h₂ tk₂ l₂ r₂ => ho a b F₂ _ _ E l₂.k ⟨mo _ _ _ _ ok (l₁.trans l₂), r₁.le l₂.f, r₂⟩ fun v F₃ h₃ tk₃ l₃ r₃ =>
    h v F₃ h₃ tk₃ ((l₁.trans l₂).trans l₃) r₃) hm

theorem eb_compare {l r : Expr} {op : CmpOp} {whole : Sem Value} {b : Bool} (mo : Mono Ok) (hl : EV M A Ok (eval l env) d₁) (hr : EV M A Ok (eval r env) d₂)
    (ho : ∀ a c, EV M A (fun F h => Ok F h ∧ Rep F a d₁ ∧ Rep F c d₂) (compareOp op a c) (.bool b)) (hm : behindInMarks op r = false := by with_unfolding_all rfl) :
    EB M A Ok (isTrue (.Compare l [op] [r] pos) env whole) b := fun F s Q E ft ok h =>
  wpAny_isTrue_Compare1 (hl F s _ E ft ok fun a F₁ h₁ tk₁ l₁ r₁ => hr F₁ _ _ E l₁.k (mo _ _ _ _ ok l₁) fun c F₂ h₂ tk₂ l₂ r₂ => ho a c F₂ _ _ E l₂.k ⟨mo _ _ _ _ ok (l₁.trans l₂), r₁.le l₂.f, r₂⟩ fun v F₃ h₃ tk₃ l₃ r₃ => by
    cases r₃; exact wpAny_truthy_bool (h F₃ h₃ tk₃ ((l₁.trans l₂).trans l₃))) hm

theorem ev_unary {x : Expr} {op : UnaryOp} (mo : Mono Ok) (hx : EV M A Ok (eval x env) d₁) (ho : ∀ a, EV M A (fun F h => Ok F h ∧ Rep F a d₁) (unaryOp op a) d) :
    EV M A Ok (eval (.UnaryOp op x pos) env) d := fun F s Q E ft ok h =>
  wpAny_UnaryOp (hx F s _ E ft ok fun a F₁ h₁ tk₁ l₁ r₁ => ho a F₁ _ _ E l₁.k ⟨mo _ _ _ _ ok l₁, r₁⟩ fun v F₂ h₂ tk₂ l₂ r₂ => h v F₂ h₂ tk₂ (l₁.trans l₂) r₂)

theorem eb_not {x : Expr} {whole : Sem Value} {b : Bool} (hx : EB M A Ok (isTrue x env (eval x env)) b) : EB M A Ok (isTrue (.UnaryOp .Not x pos) env whole) (!b) := fun F s Q E ft ok h =>
  wpAny_isTrue_Not (hx F s _ E ft ok fun F₁ h₁ tk₁ l₁ => h F₁ h₁ tk₁ l₁)

theorem eb_value {e : Expr} {b : Bool} (mo : Mono Ok) (hx : EV M A Ok (eval e env) d) (ht : ∀ a, EB M A (fun F h => Ok F h ∧ Rep F a d) (truthy a) b)
    (he : isTrue e env (eval e env) = (do let v ← eval e env; standAt e.pos; holding [v] (truthy v)) := by rfl) : EB M A Ok (isTrue e env (eval e env)) b := fun F s Q E ft ok h =>
  wpAny_isTrue_value (hx F s _ E ft ok fun a F₁ h₁ tk₁ l₁ r₁ => ht a F₁ _ _ E l₁.k ⟨mo _ _ _ _ ok l₁, r₁⟩ fun F₂ h₂ tk₂ l₂ => h F₂ h₂ tk₂ (l₁.trans l₂)) he

theorem eb_and_nil : EB M A Ok (allTrue .And [] env) true := fun F s Q E ft ok h => wpAny_allTrue_And_nil (h F s.heap s.toks (.refl ft))
theorem eb_or_nil : EB M A Ok (allTrue .Or [] env) false := fun F s Q E ft ok h => wpAny_allTrue_Or_nil (h F s.heap s.toks (.refl ft))
theorem eb_and_cons {x : Expr} {rest : List Expr} {b c : Bool} (mo : Mono Ok) (hx : EB M A Ok (isTrue x env (eval x env)) b) (hr : b = true → EB M A Ok (allTrue .And rest env) c) :
    EB M A Ok (allTrue .And (x :: rest) env) (b && c) := fun F s Q E ft ok h =>
  wpAny_allTrue_And_cons (hx F s _ E ft ok fun F₁ h₁ tk₁ l₁ => by
    cases b with
    | false => exact h F₁ h₁ tk₁ l₁
    | true => exact hr rfl F₁ _ _ E l₁.k (mo _ _ _ _ ok l₁) fun F₂ h₂ tk₂ l₂ => h F₂ h₂ tk₂ (l₁.trans l₂))
theorem eb_or_cons {x : Expr} {rest : List Expr} {b c : Bool} (mo : Mono Ok) (hx : EB M A Ok (isTrue x env (eval x env)) b) (hr : b = false → EB M A Ok (allTrue .Or rest env) c) :
    EB M A Ok (allTrue .Or (x :: rest) env) (b || c) := fun F s Q E ft ok h =>
  wpAny_allTrue_Or_cons (hx F s _ E ft ok fun F₁ h₁ tk₁ l₁ => by
    cases b with
    | true => exact h F₁ h₁ tk₁ l₁
    | false => exact hr rfl F₁ _ _ E l₁.k (mo _ _ _ _ ok l₁) fun F₂ h₂ tk₂ l₂ => h F₂ h₂ tk₂ (l₁.trans l₂))
theorem eb_boolop {op : BoolOp} {values : List Expr} {whole : Sem Value} {b : Bool} (h : EB M A Ok (allTrue op values env) b) : EB M A Ok (isTrue (.BoolOp op values pos) env whole) b :=
  fun F s Q E ft ok k => wpAny_isTrue_BoolOp (h F s Q E ft ok k)

theorem ea_nil : EA M A Ok [] [] := fun F s Q E ft ok h => Calls.spliced_nil (h [] F s.heap s.toks (.refl ft) .nil)
theorem ea_cons {rest : List (Bool × Sem Value)} {ds : List PyData} (mo : Mono Ok) (hx : EV M A Ok t d) (hr : EA M A Ok rest ds) : EA M A Ok ((false, t) :: rest) (d :: ds) := fun F s Q E ft ok h =>
  Calls.spliced_cons (hx F s _ E ft ok fun v F₁ h₁ tk₁ l₁ r₁ => hr F₁ _ _ E l₁.k (mo _ _ _ _ ok l₁) fun vs F₂ h₂ tk₂ l₂ r₂ => h (v :: vs) F₂ h₂ tk₂ (l₁.trans l₂) (.cons (r₁.le l₂.f) r₂))

theorem evm_list {elts : List Expr} (ha : EA M A Ok (backTo pos (starEach elts env)) ds) (hn : ds.length ≤ sizeLine) : EVM M A Ok (eval (.List elts pos) env) ds := fun F s Q E ft ok h =>
  wpAny_List (ha F s _ E ft ok fun vs F₁ h₁ tk₁ l₁ r₁ => ⟨by rw [r₁.length]; exact hn, h h₁.objs.size 0 vs F₁ _ tk₁ (l₁.trans (Ext.heap l₁.k (Le.push _ _))) (l₁.l.none (freshAt _))
    (by cases q : F₁ h₁.objs.size with
      | none => rfl
      | some o => have := l₁.k _ _ q; rw [freshAt] at this; cases this) (Heap.get?_push_size _ rfl) r₁⟩)
theorem ev_list {elts : List Expr} (ha : EA M A Ok (backTo pos (starEach elts env)) ds) (hn : ds.length ≤ sizeLine) : EV M A Ok (eval (.List elts pos) env) (.list ds) := (evm_list ha hn).ev
theorem ev_tuple {elts : List Expr} {k : Nat} (ha : EA M A Ok (backTo pos (starEach elts env)) ds) (hn : ds.length ≤ sizeLine) : EV M A Ok (eval (.Tuple elts k pos) env) (.tuple ds) := fun F s Q E ft ok h =>
  wpAny_Tuple (ha F s _ E ft ok fun vs F₁ h₁ tk₁ l₁ r₁ => ⟨by rw [r₁.length]; exact hn, h _ _ _ tk₁ (l₁.trans (Ext.push l₁.k)) (.tuple ins_self (r₁.le (Ext.push l₁.k).f))⟩)
end
end Mine

end
section
open PySem PyProof.Rows
set_option maxRecDepth 100000
set_option linter.unusedVariables false
namespace Mine
section
variable {prog : Program} {w : World} {A : Around} {Ok Ok' : Cond} {t : Sem Value} {d d₁ d₂ : PyData} {ds : List PyData} {env : Env} {pos : Pos}

theorem args_any {M : Model} {s : Shared} {E : Value → Shared → Prop} {f : Value} {trees : List (Bool × Sem Value)} {Q : Args → Shared → Prop} (hp : trees.any (·.1) = false)
    (h : wpAny M A (spliced trees) (fun vs s' => Q ⟨vs, []⟩ s') E s) : wpAny M A (evalArgs f true trees []) Q E s := by
  cases trees with
  | nil =>
    unfold evalArgs
    show wpAny M A (spliced [] >>= _) Q E s
    refine wpAny_bind (wpAny_mono h (fun vs s' h' => ?_) fun _ _ x => x)
    refine wpAny_bind (wpAny_pure ?_)
    refine wpAny_holding ?_
    exact wpAny_bind (wpAny_pure (wpAny_bind (wpAny_pure (wpAny_pure h'))))
  | cons x r =>
    obtain ⟨b, x⟩ := x
    have hb : b = false := by simp at hp; exact hp.1
    subst hb
    exact Calls.evalArgs_plain h

theorem ev_call_def {f : Str} {fp : Pos} {args : List Expr} {a : Addr} (mo : Mono Ok) (hn : NV (model prog w) A Ok env f (.ref a)) (hfun : ∀ F h, Ok F h → ∃ o fd, h.get? a = some o ∧ o.data = .func fd)
    (ha : EA (model prog w) A Ok (backTo pos (starEach args env)) ds) (hc : ∀ vs, EV (model prog w) A (fun F h => Ok F h ∧ RepAll F vs ds) (call (.ref a) vs) d)
    (hp : (backTo pos (starEach args env)).any (·.1) = false := by rfl) :
    EV (model prog w) A Ok (eval (.Call (.Name f fp) args [] pos) env) d := fun F s Q E ft ok h => by
  obtain ⟨o, fd, ho, hd⟩ := hfun _ _ ok
  refine wpAny_Call_NameR (hn _ F s _ E ok ?_)
  refine Calls.callWith_function (o := o) (fd := fd) (args_any hp (ha F s _ E ft ok fun vs F₁ h₁ tk₁ l₁ r₁ => ⟨⟨l₁.l _ _ ho, hd⟩, ?_⟩))
  exact hc vs F₁ _ _ E l₁.k ⟨mo _ _ _ _ ok l₁, r₁⟩ fun v F₂ h₂ tk₂ l₂ r₂ => h v F₂ h₂ tk₂ (l₁.trans l₂) r₂

theorem ev_call_builtin {f : Str} {fp : Pos} {args : List Expr} {id : String} (mo : Mono Ok) (hn : NV (model prog w) A Ok env f (.builtin id))
    (ha : EA (model prog w) A Ok (backTo pos (starEach args env)) ds) (hc : ∀ vs, EV (model prog w) A (fun F h => Ok F h ∧ RepAll F vs ds) (call (.builtin id) vs) d)
    (hp : (backTo pos (starEach args env)).any (·.1) = false := by rfl) :
    EV (model prog w) A Ok (eval (.Call (.Name f fp) args [] pos) env) d := fun F s Q E ft ok h => by
  refine wpAny_Call_NameR (hn _ F s _ E ok ?_)
  refine Calls.callWith_builtin hp (args_any hp (ha F s _ E ft ok fun vs F₁ h₁ tk₁ l₁ r₁ => ?_))
  exact hc vs F₁ _ _ E l₁.k ⟨mo _ _ _ _ ok l₁, r₁⟩ fun v F₂ h₂ tk₂ l₂ r₂ => h v F₂ h₂ tk₂ (l₁.trans l₂) r₂

theorem ev_call_type {f : Str} {fp : Pos} {args : List Expr} {T : String} (mo : Mono Ok) (hn : NV (model prog w) A Ok env f (.type T))
    (ha : EA (model prog w) A Ok (backTo pos (starEach args env)) ds) (hc : ∀ vs, EV (model prog w) A (fun F h => Ok F h ∧ RepAll F vs ds) (call (.type T) vs) d)
    (hp : (backTo pos (starEach args env)).any (·.1) = false := by rfl) :
    EV (model prog w) A Ok (eval (.Call (.Name f fp) args [] pos) env) d := fun F s Q E ft ok h => by
  refine wpAny_Call_NameR (hn _ F s _ E ok ?_)
  refine PySem.callWith_type hp (args_any hp (ha F s _ E ft ok fun vs F₁ h₁ tk₁ l₁ r₁ => ?_))
  exact hc vs F₁ _ _ E l₁.k ⟨mo _ _ _ _ ok l₁, r₁⟩ fun v F₂ h₂ tk₂ l₂ r₂ => h v F₂ h₂ tk₂ (l₁.trans l₂) r₂

/-- what a method's look at its object asks -/
def HasType (h : Heap) (v : Value) (T : String) : Prop := (∀ s : Shared, s.heap = h → s.TypeIs v T) ∧ ∀ a, v = .ref a → ∃ ob, h.get? a = some ob ∧ ob.dict = none
theorem hasType_str {F : FM} {h : Heap} {v : Value} {x : Str} (r : Rep F v (.str x)) : HasType h v "str" := by
  cases r; exact ⟨fun s _ => typeIs_str _ _ _, fun _ e => nomatch e⟩
theorem hasType_list {F : FM} {h : Heap} {v : Value} (k : Fit F h) (r : Rep F v (.list ds)) : HasType h v "list" := by
  cases r with | list e _ => exact ⟨fun s hs => ⟨_, hs ▸ k _ _ e, rfl⟩, fun b q => by cases q; exact ⟨_, k _ _ e, rfl⟩⟩

theorem ev_method {o : Expr} {name : Str} {apos : Pos} {args : List Expr} {T id : String} (pa : PlainAttrs T) (slot : Slot T name id) (hty : typeOf (.builtin id) = pure (.type "method_descriptor"))
    (mo : Mono Ok) (ho : EV (model prog w) A Ok (eval o env) d₁) (hT : ∀ F h v, Fit F h → Rep F v d₁ → HasType h v T)
    (ha : EA (model prog w) A Ok (backTo pos (starEach args env)) ds) (hc : ∀ v vs, EV (model prog w) A (fun F h => Ok F h ∧ Rep F v d₁ ∧ RepAll F vs ds) (call (.builtin id) (v :: vs)) d)
    (hp : (backTo pos (starEach args env)).any (·.1) = false := by rfl)
    (hbase : attributeBase o name env (eval o env) = eval o env := by rfl)
    (hfew : ((backTo pos (starEach args env)).all (fun x => !x.1) && (backToKw pos (keywordEach [] env)).all (fun x => x.1.isSome)
      && decide (args.length + ([] : List Keyword).length + (if ([] : List Keyword).isEmpty then 0 else 1) < 30)) = true := by rfl)
    (hline : (apos.endLine == pos.line) = true := by rfl) :
    EV (model prog w) A Ok (eval (.Call (.Attribute o name apos) args [] pos) env) d := fun F s Q E ft ok h => by
  refine wpAny_Call_method_late hbase hfew hline rfl (ho F s _ E ft ok fun v F₁ h₁ tk₁ l₁ r₁ => ?_)
  have ty := hT F₁ h₁ v l₁.k r₁
  refine ⟨T, id, pa, slot, hty, ty.1 _ rfl, ty.2, ?_⟩
  refine Calls.callWith_builtin hp (args_any hp (ha F₁ _ _ E l₁.k (mo _ _ _ _ ok l₁) fun vs F₂ h₂ tk₂ l₂ r₂ => ?_))
  exact hc v vs F₂ _ _ E l₂.k ⟨mo _ _ _ _ ok (l₁.trans l₂), r₁.le l₂.f, r₂⟩ fun u F₃ h₃ tk₃ l₃ r₃ => h u F₃ h₃ tk₃ ((l₁.trans l₂).trans l₃) r₃

theorem ev_subscript {value slice : Expr} {T id : String} (hl : typeLookup (.type T) "__getitem__" = pure (some (.builtin id))) (mo : Mono Ok) (hv : EV (model prog w) A Ok (eval value env) d₁) (hi : EV (model prog w) A Ok (eval slice env) d₂)
    (hT : ∀ F h v, Fit F h → Rep F v d₁ → HasType h v T)
    (hg : ∀ a b, EV (model prog w) A (fun F h => Ok F h ∧ Rep F a d₁ ∧ Rep F b d₂) (getItem a b) d)
    (hs : ∀ o i, subscripted slice false o i = operate [o, i] (getItem o i) ∨ subscripted slice false o i = operate [i, o] (getItem o i) := by intro _ _; first | exact .inl rfl | exact .inr rfl) :
    EV (model prog w) A Ok (eval (.Subscript value slice pos) env) d := fun F s Q E ft ok h => by
  refine Subscript_ (hv F s _ E ft ok fun a F₁ h₁ tk₁ l₁ r₁ => hi F₁ _ _ E l₁.k (mo _ _ _ _ ok l₁) fun b F₂ h₂ tk₂ l₂ r₂ => ?_)
  have ty := hT F₂ h₂ a l₂.k (r₁.le l₂.f)
  unfold subscriptTail
  refine wpAny_bind ?_
  have hT' := ty.1 { s with heap := h₂, toks := tk₂ } rfl
  rw [getitemInPython_of_ne hT'.not_modules]
  refine wpAny_bind (wpAny_specialOf hT' hl ?_)
  have fin : wpAny (model prog w) A (subscripted slice false a b) (fun r s₃ => wpAny (model prog w) A (letTemporaryGo value a r >>= fun _ => pure r) Q E s₃) E { s with heap := h₂, toks := tk₂ } := by
    have g : wpAny (model prog w) A (getItem a b) (fun r s₃ => wpAny (model prog w) A (letTemporaryGo value a r >>= fun _ => pure r) Q E s₃) E { s with heap := h₂, toks := tk₂ } :=
      hg a b F₂ _ _ E l₂.k ⟨mo _ _ _ _ ok (l₁.trans l₂), r₁.le l₂.f, r₂⟩ fun u F₃ h₃ tk₃ l₃ r₃ => wpAny_bind (wpAny_letTemporaryGo (wpAny_pure (h u F₃ h₃ tk₃ ((l₁.trans l₂).trans l₃) r₃)))
    rcases hs a b with e | e <;> rw [e] <;> exact wpAny_operating g
  first
    | exact wpAny_pure (wpAny_bind fin)
    | exact wpAny_bind (wpAny_pure (wpAny_bind fin))
    | exact wpAny_bind fin
end
end Mine

end
section
open PySem PyProof.Rows
set_option maxRecDepth 100000
set_option linter.unusedVariables false
namespace Mine

/-- what a name holds: a datum that stays, or a list of the frame's own that turns -/
inductive B where
  | imm (d : PyData)
  | mut (ds : List PyData)
abbrev Rho := List (Str × B)

def val (e : Env) (m cm : Str → Option Value) (x : Str) : Option Value :=
  match e.kindOf x with
  | some .local => m x
  | some .cell => if (e.cells.lookup x).isSome then cm x else none
  | _ => none
def okName (e : Env) (x : Str) : Bool :=
  match e.kindOf x with
  | some .local => true
  | some .cell => (e.cells.lookup x).isSome
  | _ => false

structure Fx (G : Heap → Prop) (K : FM) (e : Env) (ρ : Rho) (F : FM) (h : Heap) (m cm : Str → Option Value) : Prop where
  kind : e.scope.kind = .function
  gl : ∀ h', Fit K h' → G h'
  ns : h.Ns e.locals m
  cl : Cl e.locals e.cells h cm
  fit : Fit F h
  kept : Fit K h
  offL : K e.locals = none ∧ F e.locals = none
  offC : ∀ x c, e.cells.lookup x = some c → K c = none ∧ F c = none
  imm : ∀ x d, ρ.lookup x = some (.imm d) → ∃ v, val e m cm x = some v ∧ Rep F v d
  mt : ∀ x ds, ρ.lookup x = some (.mut ds) → ∃ a n vs, val e m cm x = some (.ref a) ∧ K a = none ∧ F a = none ∧ h.get? a = some (lst vs n) ∧ RepAll F vs ds
  apart : ∀ x y ds es a, x ≠ y → ρ.lookup x = some (.mut ds) → ρ.lookup y = some (.mut es) → val e m cm x = some (.ref a) → val e m cm y ≠ some (.ref a)
def St (G : Heap → Prop) (K : FM) (e : Env) (ρ : Rho) : Cond := fun F h => ∃ m cm, Fx G K e ρ F h m cm

theorem ns_noSeq {h : Heap} {L : Addr} {m : Str → Option Value} (n : h.Ns L m) : ∀ o, h.get? L = some o → ¬ IsSeq o := fun o q ⟨xs, k, r⟩ => by
  obtain ⟨o', es, ep, g, d, _⟩ := n
  rw [q] at g; cases g; rw [r] at d; cases d
theorem cell_noSeq {h : Heap} {c : Addr} {v : Option Value} (n : h.IsCell c v) : ∀ o, h.get? c = some o → ¬ IsSeq o := fun o q ⟨xs, k, r⟩ => by
  obtain ⟨o', g, d⟩ := n
  rw [q] at g; cases g; rw [r] at d; cases d

section
variable {G : Heap → Prop} {K : FM} {F F' : FM} {h h' : Heap} {e : Env} {ρ ρ' : Rho} {m cm : Str → Option Value}

theorem Fx.ext (S : Fx G K e ρ F h m cm) (k : Ext F h F' h') : Fx G K e ρ F' h' m cm where
  kind := S.kind
  gl := S.gl
  ns := S.ns.keeps k.l
  cl := S.cl.keeps k.l
  fit := k.k
  kept := fun a o q => k.l _ _ (S.kept a o q)
  offL := ⟨S.offL.1, by
    obtain ⟨o, _, _, g, _⟩ := S.ns
    cases q : F' e.locals with
    | none => rfl
    | some p => rcases k.n _ _ q with r | r
                · rw [S.offL.2] at r; cases r
                · rw [g] at r; cases r⟩
  offC := fun x c q => ⟨(S.offC x c q).1, by
    obtain ⟨o, g, _⟩ := S.cl.cell x c q
    cases r : F' c with
    | none => rfl
    | some p => rcases k.n _ _ r with r | r
                · rw [(S.offC x c q).2] at r; cases r
                · rw [g] at r; cases r⟩
  imm := fun x d q => let ⟨v, a, r⟩ := S.imm x d q; ⟨v, a, r.le k.f⟩
  mt := fun x ds q => by
    obtain ⟨a, n, vs, i, j, f, g, r⟩ := S.mt x ds q
    refine ⟨a, n, vs, i, j, ?_, k.l _ _ g, r.le k.f⟩
    cases q : F' a with
    | none => rfl
    | some p => rcases k.n _ _ q with r | r
                · rw [f] at r; cases r
                · rw [g] at r; cases r
  apart := S.apart
theorem St.mono : Mono (St G K e ρ) := fun _ _ _ _ ⟨m, cm, S⟩ k => ⟨m, cm, S.ext k⟩
theorem St.weak (S : St G K e ρ F h) (k : ∀ x b, ρ'.lookup x = some b → ρ.lookup x = some b) : St G K e ρ' F h :=
  let ⟨m, cm, S⟩ := S; ⟨m, cm, S.kind, S.gl, S.ns, S.cl, S.fit, S.kept, S.offL, S.offC, fun x d q => S.imm x d (k _ _ q), fun x ds q => S.mt x ds (k _ _ q), fun x y ds es a hn p q => S.apart x y ds es a hn (k _ _ p) (k _ _ q)⟩
theorem St.fit (S : St G K e ρ F h) : Fit F h := let ⟨m, cm, S⟩ := S; S.fit
theorem St.kept (S : St G K e ρ F h) : Fit K h := let ⟨m, cm, S⟩ := S; S.kept
theorem St.glob (S : St G K e ρ F h) : G h := let ⟨m, cm, S⟩ := S; S.gl _ S.kept

variable {M : Model} {A : Around} {E : Value → Shared → Prop} {s : Shared} {x : Str} {v : Value} {d : PyData}

theorem lookup_ins {x y : Str} {b c : B} (h : (List.lookup y ((x, b) :: ρ)) = some c) : (y = x ∧ c = b) ∨ (y ≠ x ∧ ρ.lookup y = some c) := by
  rw [List.lookup_cons] at h
  by_cases q : y = x
  · subst q; simp at h; exact .inl ⟨rfl, h.symm⟩
  · have : (y == x) = false := by simpa using q
    rw [this] at h; exact .inr ⟨q, h⟩

/-- the raw store: what has turned -/
theorem store_raw {Q : Unit → Shared → Prop} (S : Fx G K e ρ F s.heap m cm) (hx : okName e x = true)
    (hQ : ∀ a h' m' cm' tk, Heap.SameBut a s.heap h' → (∀ o, s.heap.get? a = some o → ¬ IsSeq o) → K a = none ∧ F a = none → h'.Ns e.locals m' → Cl e.locals e.cells h' cm' → val e m' cm' x = some v → (∀ y, y ≠ x → val e m' cm' y = val e m cm y) →
      Q () { s with heap := h', toks := tk }) : wpAny M A (storeName e x v) Q E s := by
  unfold okName at hx
  cases hk : e.kindOf x with
  | none => rw [hk] at hx; cases hx
  | some k =>
    rw [hk] at hx
    cases k with
    | «local» =>
      refine wpAny_storeName_local hk S.ns (fun h' hn hs => hQ e.locals h' _ cm _ hs (ns_noSeq S.ns) S.offL hn (S.cl.sameBut hs (Nat.le_refl _)) ?_ ?_) (by rw [S.kind]; rfl)
      · unfold val; rw [hk]; simp
      · intro y hy; unfold val; split <;> simp [hy]
    | «cell» =>
      simp only at hx
      cases hc : e.cells.lookup x with
      | none => rw [hc] at hx; cases hx
      | some c =>
        have X := S.cl
        have hLc : e.locals < c := X.above x c (mem_of_lookup hc)
        refine wpAny_storeName_cell S.kind hk hc (X.cell x c hc) fun h' hv hs => hQ c h' m (fun y => if y = x then some v else cm y) s.toks hs (cell_noSeq (X.cell x c hc)) (S.offC x c hc)
          (S.ns.sameBut hs (Nat.ne_of_lt hLc)) ⟨fun n c' q => ?_, X.apart, X.above⟩ ?_ ?_
        · by_cases hn : n = x
          · subst hn; rw [hc] at q; cases q; simpa using hv
          · have hcc : c' ≠ c := fun r => hn (name_of_addr X.apart (mem_of_lookup q) (r ▸ mem_of_lookup hc))
            simpa [hn] using (X.cell n c' q).sameBut hs hcc
        · unfold val; rw [hk]; simp [hc]
        · intro y hy; unfold val; split <;> simp [hy]
    | _ => cases hx

/-- a frame's object that is no sequence turns -/
theorem Fx.turn {a : Addr} {m' cm' : Str → Option Value} (S : Fx G K e ρ F h m cm) (hs : Heap.SameBut a h h') (ha : ∀ o, h.get? a = some o → ¬ IsSeq o) (hk : K a = none ∧ F a = none)
    (N : h'.Ns e.locals m') (C : Cl e.locals e.cells h' cm')
    (i : ∀ x d, ρ'.lookup x = some (.imm d) → ∃ v, val e m' cm' x = some v ∧ Rep F v d)
    (j : ∀ x ds, ρ'.lookup x = some (.mut ds) → ρ.lookup x = some (.mut ds) ∧ val e m' cm' x = val e m cm x) : Fx G K e ρ' F h' m' cm' where
  kind := S.kind
  gl := S.gl
  ns := N
  cl := C
  fit := fun b o q => (hs.2 b (fun r => by rw [r, hk.2] at q; cases q)).trans (S.fit b o q)
  kept := fun b o q => (hs.2 b (fun r => by rw [r, hk.1] at q; cases q)).trans (S.kept b o q)
  offL := S.offL
  offC := S.offC
  imm := i
  mt := fun x ds q => by
    obtain ⟨e1, e2⟩ := j x ds q
    obtain ⟨b, n, vs, p, k, f, g, r⟩ := S.mt x ds e1
    exact ⟨b, n, vs, e2.trans p, k, f, (hs.2 b (fun c => ha _ (c ▸ g) lst_seq)).trans g, r⟩
  apart := fun x y ds es b hn p q => by
    obtain ⟨e1, e2⟩ := j x ds p
    obtain ⟨e3, e4⟩ := j y es q
    rw [e2, e4]
    exact S.apart x y ds es b hn e1 e3

theorem store_imm {Q : Unit → Shared → Prop} (S : St G K e ρ F s.heap) (hx : okName e x = true) (r : Rep F v d)
    (hQ : ∀ h' tk, St G K e ((x, .imm d) :: ρ) F h' → Q () { s with heap := h', toks := tk }) : wpAny M A (storeName e x v) Q E s := by
  obtain ⟨m, cm, S⟩ := S
  refine store_raw S hx fun a h' m' cm' tk hs ha hk N C hv hr => hQ h' tk ⟨m', cm', S.turn hs ha hk N C (fun y f q => ?_) fun y fs q => ?_⟩
  · rcases lookup_ins q with ⟨rfl, q'⟩ | ⟨hy, q⟩
    · cases q'; exact ⟨v, hv, r⟩
    · obtain ⟨u, p, r⟩ := S.imm y f q
      exact ⟨u, (hr y hy).trans p, r⟩
  · rcases lookup_ins q with ⟨_, q'⟩ | ⟨hy, q⟩
    · cases q'
    · exact ⟨q, hr y hy⟩

/-- a new list becomes the name's own -/
theorem store_mut {Q : Unit → Shared → Prop} {a : Addr} {n : Nat} {vs : List Value} {ds : List PyData} {h₁ : Heap} (S₁ : St G K e ρ F h₁) (S : St G K e ρ F' s.heap) (l : Ext F h₁ F' s.heap) (hx : okName e x = true)
    (ha : h₁.get? a = none) (hf : F' a = none) (g : s.heap.get? a = some (lst vs n)) (r : RepAll F' vs ds)
    (hQ : ∀ h' tk, St G K e ((x, .mut ds) :: ρ) F' h' → Q () { s with heap := h', toks := tk }) : wpAny M A (storeName e x (.ref a)) Q E s := by
  obtain ⟨m₁, cm₁, S₁⟩ := S₁
  have S := S₁.ext l
  have hka : K a = none := by
    cases q : K a with
    | none => rfl
    | some o => have := S₁.kept _ _ q; rw [ha] at this; cases this
  have old : ∀ y es, ρ.lookup y = some (.mut es) → val e m₁ cm₁ y ≠ some (.ref a) := fun y es q p => by
    obtain ⟨b, k, us, i, _, _, gb, _⟩ := S₁.mt y es q
    rw [i] at p; cases p; rw [ha] at gb; cases gb
  refine store_raw S hx fun c h' m' cm' tk hs hc hk N C hv hr => hQ h' tk ⟨m', cm', ?_⟩
  have keep : ∀ b o, s.heap.get? b = some o → IsSeq o → h'.get? b = some o := fun b o q i => (hs.2 b (fun r => hc _ (r ▸ q) i)).trans q
  refine ⟨S.kind, S.gl, N, C, fun b o q => (hs.2 b (fun r => by rw [r, hk.2] at q; cases q)).trans (S.fit b o q), fun b o q => (hs.2 b (fun r => by rw [r, hk.1] at q; cases q)).trans (S.kept b o q), S.offL, S.offC,
    fun y f q => ?_, fun y fs q => ?_, fun y z fs gs b hn p q => ?_⟩
  · rcases lookup_ins q with ⟨_, q'⟩ | ⟨hy, q⟩
    · cases q'
    · obtain ⟨u, p, r⟩ := S.imm y f q
      exact ⟨u, (hr y hy).trans p, r⟩
  · rcases lookup_ins q with ⟨rfl, q'⟩ | ⟨hy, q⟩
    · cases q'; exact ⟨a, n, vs, hv, hka, hf, keep _ _ g lst_seq, r⟩
    · obtain ⟨b, k, us, i, j, f, p, r⟩ := S.mt y fs q
      exact ⟨b, k, us, (hr y hy).trans i, j, f, keep _ _ p lst_seq, r⟩
  · rcases lookup_ins p with ⟨rfl, p'⟩ | ⟨hy, p2⟩ <;> rcases lookup_ins q with ⟨rfl, q'⟩ | ⟨hz, q2⟩
    · exact absurd rfl hn
    · intro u v'; rw [hv] at u; cases u; rw [hr z hz] at v'; exact old z gs q2 v'
    · intro u v'; rw [hv] at v'; cases v'; rw [hr y hy] at u; exact old y fs p2 u
    · rw [hr y hy, hr z hz]; exact S.apart y z fs gs b hn p2 q2

/-- the name's own list turns -/
theorem Fx.turned {x : Str} {a : Addr} {n' : Nat} {us ws : List Value} {n : Nat} {ds es : List PyData} (S : Fx G K e ρ F h m cm) (hm : ρ.lookup x = some (.mut ds)) (hv : val e m cm x = some (.ref a)) (hk : K a = none) (hf : F a = none)
    (g₀ : h.get? a = some (lst us n)) (hs : Heap.SameBut a h h') (g : h'.get? a = some (lst ws n')) (r : RepAll F ws es) : Fx G K e ((x, .mut es) :: ρ) F h' m cm where
  kind := S.kind
  gl := S.gl
  ns := S.ns.sameBut hs (fun q => ns_noSeq S.ns _ (q ▸ g₀) lst_seq)
  cl := ⟨fun y c q => (S.cl.cell y c q).sameBut hs (fun z => cell_noSeq (S.cl.cell y c q) _ (z ▸ g₀) lst_seq), S.cl.apart, S.cl.above⟩
  fit := fun b o q => (hs.2 b (fun r => by rw [r, hf] at q; cases q)).trans (S.fit b o q)
  kept := fun b o q => (hs.2 b (fun r => by rw [r, hk] at q; cases q)).trans (S.kept b o q)
  offL := S.offL
  offC := S.offC
  imm := fun y f q => by
    rcases lookup_ins q with ⟨_, q'⟩ | ⟨hy, q⟩
    · cases q'
    · exact S.imm y f q
  mt := fun y fs q => by
    rcases lookup_ins q with ⟨rfl, q'⟩ | ⟨hy, q⟩
    · cases q'; exact ⟨a, n', ws, hv, hk, hf, g, r⟩
    · obtain ⟨b, k, us, i, j, f, p, r⟩ := S.mt y fs q
      have hba : b ≠ a := fun c => S.apart y x fs ds b hy q hm i (c ▸ hv)
      exact ⟨b, k, us, i, j, f, (hs.2 b hba).trans p, r⟩
  apart := fun y z fs gs b hn p q => by
    rcases lookup_ins p with ⟨rfl, p'⟩ | ⟨hy, p2⟩ <;> rcases lookup_ins q with ⟨rfl, q'⟩ | ⟨hz, q2⟩
    · exact absurd rfl hn
    · exact S.apart _ z _ gs b hn hm q2
    · exact S.apart y _ fs _ b hn p2 hm
    · exact S.apart y z fs gs b hn p2 q2
end
end Mine

end
section
open PySem PyProof.Rows
set_option maxRecDepth 100000
set_option linter.unusedVariables false
namespace Mine

inductive Out where
  | next (ρ : Rho)
  | ret (d : PyData)
def New (K F F' : FM) : Prop := ∀ a o, F' a = some o → F a = some o ∨ K a = none
theorem New.refl {K F : FM} : New K F F := fun _ _ e => .inl e
theorem New.trans {K F F' F'' : FM} (x : New K F F') (y : New K F' F'') : New K F F'' := fun a o e => (y a o e).elim (x a o) .inr
theorem FLe.refl {F : FM} : FLe F F := fun _ _ e => e
theorem FLe.trans {F F' F'' : FM} (x : FLe F F') (y : FLe F' F'') : FLe F F'' := fun a o e => y a o (x a o e)
theorem Ext.new {K F F' : FM} {h h' : Heap} (x : Ext F h F' h') (k : Fit K h) : New K F F' := fun a o e => (x.n a o e).imp_right fun q => by
  cases r : K a with
  | none => rfl
  | some p => rw [k _ _ r] at q; cases q
/-- the statement's end -/
def Ends (G : Heap → Prop) (K : FM) (e : Env) (F : FM) (s : Shared) (Q : Flow → Shared → Prop) : Out → Prop
  | .next ρ' => ∀ F' h' tk, FLe F F' → New K F F' → St G K e ρ' F' h' → Q .next { s with heap := h', toks := tk }
  | .ret d => ∀ v F' h' tk, FLe F F' → New K F F' → Fit F' h' → Fit K h' → Rep F' v d → Q (.ret v) { s with heap := h', toks := tk }
def EX (M : Model) (A : Around) (G : Heap → Prop) (e : Env) (ρ : Rho) (t : Sem Flow) (o : Out) : Prop :=
  ∀ (K F : FM) (s : Shared) (Q : Flow → Shared → Prop) (E : Value → Shared → Prop), St G K e ρ F s.heap → Ends G K e F s Q o → wpAny M A t Q E s

section
variable {M : Model} {A : Around} {G : Heap → Prop} {K F F' : FM} {h h' : Heap} {e : Env} {ρ ρ' ρ₂ : Rho} {m cm : Str → Option Value} {x : Str} {d : PyData} {ds : List PyData} {pos : Pos} {o : Out} {st : Stmt} {rest : List Stmt}

theorem load_val {E : Value → Shared → Prop} {s : Shared} {v : Value} {Q : Value → Shared → Prop} (S : Fx G K e ρ F s.heap m cm) (hv : val e m cm x = some v) (hQ : Q v s) (hd : (x == ("__debug__" : Str)) = false) :
    wpAny M A (eval (.Name x pos) e) Q E s := by
  unfold val at hv
  cases hk : e.kindOf x with
  | none => rw [hk] at hv; cases hv
  | some k =>
    rw [hk] at hv
    cases k with
    | «local» => exact wpAny_Name (wpAny_loadName_local S.kind hk S.ns hv hQ) hd
    | «cell» =>
      simp only at hv
      cases hc : e.cells.lookup x with
      | none => rw [hc] at hv; cases hv
      | some c => rw [hc] at hv; exact wpAny_Name (wpAny_loadName_cell S.kind hk hc (by simp at hv; exact hv ▸ S.cl.cell x c hc) hQ) hd
    | _ => cases hv

theorem ev_var (hx : ρ.lookup x = some (.imm d)) (hd : (x == ("__debug__" : Str)) = false) : EV M A (St G K e ρ) (eval (.Name x pos) e) d := fun F s Q E ft ⟨m, cm, S⟩ hQ => by
  obtain ⟨v, a, r⟩ := S.imm x d hx
  exact load_val S a (hQ v F s.heap s.toks (.refl ft) r) hd

theorem Ends.later {s : Shared} {Q : Flow → Shared → Prop} {h' : Heap} {tk : Nat} (x : Ends G K e F s Q o) (f : FLe F F') (n : New K F F') : Ends G K e F' { s with heap := h', toks := tk } Q o := by
  cases o with
  | next ρ => exact fun F'' h'' tk'' f' n' S => x F'' h'' tk'' (f.trans f') (n.trans n') S
  | ret d => exact fun v F'' h'' tk'' f' n' k1 k2 r => x v F'' h'' tk'' (f.trans f') (n.trans n') k1 k2 r

theorem EX.weak {t : Sem Flow} (x : EX M A G e ρ t o) (k : ∀ y b, ρ.lookup y = some b → ρ'.lookup y = some b) : EX M A G e ρ' t o := fun K F s Q E S hQ => x K F s Q E (S.weak k) hQ
theorem EX.forget {t : Sem Flow} (x : EX M A G e ρ t (.next ρ')) (k : ∀ y b, ρ₂.lookup y = some b → ρ'.lookup y = some b) : EX M A G e ρ t (.next ρ₂) :=
  fun K F s Q E S hQ => x K F s Q E S fun F' h' tk f n S' => hQ F' h' tk f n (S'.weak k)

theorem ex_nil : EX M A G e ρ (execs [] e) (.next ρ) := fun K F s Q E S hQ => wpAny_execs_nil (hQ F s.heap s.toks .refl .refl S)
theorem ex_next (h1 : EX M A G e ρ (exec st e) (.next ρ')) (h2 : EX M A G e ρ' (execs rest e) o) : EX M A G e ρ (execs (st :: rest) e) o := fun K F s Q E S hQ =>
  wpAny_execs_cons (h1 K F s _ E S fun F' h' tk f n S' => h2 K F' _ Q E S' (hQ.later f n))
theorem ex_ret (h1 : EX M A G e ρ (exec st e) (.ret d)) : EX M A G e ρ (execs (st :: rest) e) (.ret d) := fun K F s Q E S hQ =>
  wpAny_execs_cons (h1 K F s _ E S fun v F' h' tk f n k1 k2 r => hQ v F' h' tk f n k1 k2 r)

theorem ex_assign {value : Expr} {p : Pos} (hv : ∀ K, EV M A (St G K e ρ) (eval value e) d) (hx : okName e x = true) (hs : swapsWith value (some (.Name x p)) pos.line e = pure false := by rfl) :
    EX M A G e ρ (exec (.Assign [.Name x p] value pos) e) (.next ((x, .imm d) :: ρ)) := fun K F s Q E S hQ =>
  wpAny_Assign_Name (hv K F s _ E S.fit S fun v F' h' tk l r => store_imm (St.mono _ _ _ _ S l) hx r fun h₂ tk₂ S₂ => hQ F' h₂ tk₂ l.f (l.new S.kept) S₂) hs
theorem ex_assign_mut {value : Expr} {p : Pos} (hv : ∀ K, EVM M A (St G K e ρ) (eval value e) ds) (hx : okName e x = true) (hs : swapsWith value (some (.Name x p)) pos.line e = pure false := by rfl) :
    EX M A G e ρ (exec (.Assign [.Name x p] value pos) e) (.next ((x, .mut ds) :: ρ)) := fun K F s Q E S hQ =>
  wpAny_Assign_Name (hv K F s _ E S.fit S fun a n vs F' h' tk l f f' g r => store_mut S (St.mono _ _ _ _ S l) l hx f f' g r fun h₂ tk₂ S₂ => hQ F' h₂ tk₂ l.f (l.new S.kept) S₂) hs

theorem ex_if {test : Expr} {body orelse : List Stmt} {b : Bool} (ht : ∀ K, EB M A (St G K e ρ) (isTrue test e (eval test e)) b) (h1 : b = true → EX M A G e ρ (execs body e) o) (h2 : b = false → EX M A G e ρ (execs orelse e) o) :
    EX M A G e ρ (exec (.If test body orelse pos) e) o := fun K F s Q E S hQ =>
  wpAny_If (ht K F s _ E S.fit S fun F' h' tk l => by
    cases b with
    | true => exact h1 rfl K F' _ Q E (St.mono _ _ _ _ S l) (hQ.later l.f (l.new S.kept))
    | false => exact h2 rfl K F' _ Q E (St.mono _ _ _ _ S l) (hQ.later l.f (l.new S.kept)))
theorem ex_return {v : Expr} (hv : ∀ K, EV M A (St G K e ρ) (eval v e) d) : EX M A G e ρ (exec (.Return (some v) pos) e) (.ret d) := fun K F s Q E S hQ =>
  wpAny_Return_some (hv K F s _ E S.fit S fun v F' h' tk l r => hQ v F' h' tk l.f (l.new S.kept) l.k (fun a o q => l.l _ _ (S.kept a o q)) r)
/-- at the frame's end its own list is handed on -/
theorem ex_return_mut {p : Pos} (hx : ρ.lookup x = some (.mut ds)) (hd : (x == ("__debug__" : Str)) = false) : EX M A G e ρ (exec (.Return (some (.Name x p)) pos) e) (.ret (.list ds)) := fun K F s Q E S hQ => by
  obtain ⟨m, cm, S⟩ := S
  obtain ⟨a, n, vs, i, j, f, g, r⟩ := S.mt x ds hx
  refine wpAny_Return_some (load_val S i ?_ hd)
  refine hQ _ (ins F a (lst vs n)) s.heap s.toks (fle_ins S.fit g) (fun b o q => ?_) (fun b o q => ?_) S.kept (.list ins_self (r.le (fle_ins S.fit g)))
  · unfold ins at q
    split at q
    · next z => subst z; exact .inr j
    · exact .inl q
  · unfold ins at q
    split at q
    · next z => subst z; cases q; exact g
    · exact S.fit b o q
end

section
variable {prog : Program} {w : World} {A : Around} {G : Heap → Prop} {K F : FM} {h h' : Heap} {e : Env} {ρ ρ' : Rho} {m cm : Str → Option Value} {x : Str} {d : PyData} {ds : List PyData} {pos : Pos}

theorem append_plain {s : Shared} {E : Value → Shared → Prop} {a : Addr} {n : Nat} {vs : List Value} {v : Value} {Q : Value → Shared → Prop} (g : s.heap.get? a = some (lst vs n)) (hn : vs.length ≤ sizeLine)
    (hQ : ∀ h' n', h'.get? a = some (lst (vs ++ [v]) n') → Heap.SameBut a s.heap h' → Q .none { s with heap := h' }) : wpAny (model prog w) A (call (.builtin "list.append") [.ref a, v]) Q E s := by
  have hl : s.heap.IsList a vs.toArray := ⟨_, g, rfl, n, rfl⟩
  refine wpAny_call_entry PySem.slot_list_append hl.typeIs entry_list_append ?_ (args_list_append _ _)
  show wpAny _ _ (updateSeq a (·.push v) >>= fun _ => ret .none) _ _ s
  refine wpAny_bind ?_
  have he : Obj.mapSeq (·.push v) (lst vs n) = lst (vs ++ [v]) (n + 1) := by simp [Obj.mapSeq, lst]
  refine wpAny_updateSeq g rfl (wpAny_pure ⟨.none, rfl, hQ _ (n + 1) (by rw [← he]; exact Heap.get?_update_self _ g rfl) (Heap.SameBut.update ..)⟩) ?_
  simpa using hn

theorem ex_append {elt : Expr} {p apos cpos : Pos} (hx : ρ.lookup x = some (.mut ds)) (hv : ∀ K, EV (model prog w) A (St G K e ρ) (eval elt e) d) (hn : ds.length ≤ sizeLine) (hd : (x == ("__debug__" : Str)) = false)
    (htrees : backTo cpos (starEach [elt] e) = [(false, eval elt e)] := by rfl) (hi : interactive e = false := by rfl)
    (hline : (apos.endLine == cpos.line) = true := by rfl) :
    EX (model prog w) A G e ρ (exec (.Expr (.Call (.Attribute (.Name x p) "append" apos) [elt] [] cpos) pos) e) (.next ((x, .mut (ds ++ [d])) :: ρ)) := fun K F s Q E S hQ => by
  refine wpAny_Expr ?_ hi rfl
  obtain ⟨m, cm, S⟩ := S
  refine wpAny_Call_method1_late rfl hline htrees ?_
  obtain ⟨a, n, vs, i, j, f, g, r⟩ := S.mt x ds hx
  refine load_val S i ?_ hd
  refine ⟨"list", "list.append", PySem.F.plainAttrs_list, PySem.F.slot_list_append, PySem.F.type_list_append, ⟨_, g, rfl⟩, fun b q => by cases q; exact ⟨_, g, rfl⟩, ?_⟩
  refine Calls.callWith_builtin rfl (Calls.evalArgs_plain (Calls.spliced_cons (hv K F s _ E S.fit ⟨m, cm, S⟩ fun v F₁ h₁ tk₁ l₁ r₁ => Calls.spliced_nil ?_)))
  refine append_plain (s := { s with heap := h₁, toks := tk₁ }) (l₁.l _ _ g) (by rw [r.length]; exact hn) fun h₂ n₂ g₂ hs => ?_
  have S₁ := S.ext l₁
  obtain ⟨a', n', vs', i', j', f', g', r'⟩ := S₁.mt x ds hx
  rw [i] at i'; cases i'
  exact hQ F₁ h₂ tk₁ l₁.f (l₁.new S.kept) ⟨m, cm, S₁.turned hx i j f' (l₁.l _ _ g) hs g₂ ((r.le l₁.f).append (.cons r₁ .nil))⟩

/-- a def's call by its body -/
theorem fn_call {name : Str} {params : Arguments} {body : List Stmt} {scope : Scope} {a : Addr} {vs : List Value} {binds : List (Str × Value)}
    (mg : ∀ h h', G h → Le h h' → G h') (hroom : A.depth < recursionLimit)
    (hG : ∀ h, G h → ∃ o pm cd doc, h.get? a = some o ∧ o.data = .func (Calls.docDef name params body scope pm cd doc) ∧ h.NoLimit ∧ h.CodeRec cd name)
    (hbind : ∀ pm cd doc, bindArgs (Calls.docDef name params body scope pm cd doc) ⟨vs, []⟩ = pure binds)
    (hkind : ∀ k, ∀ x ∈ binds, scope.names.lookup x.1 = some .local ∨ (scope.names.lookup x.1 = some .cell ∧ ((cellsFrom k scope.names []).lookup x.1).isSome = true))
    (hval : ∀ L cd F, RepAll F vs ds → ∀ x d, ρ.lookup x = some (.imm d) → ∃ v, val (envOfC name scope L a cd) (bindL (envOfC name scope L a cd).kindOf binds fun _ => none) (bindC (envOfC name scope L a cd).kindOf binds fun _ => none) x = some v ∧ Rep F v d)
    (hmut : ∀ x fs, ρ.lookup x ≠ some (.mut fs))
    (hb : ∀ L cd, EX (model prog w) (A.deeper (envOfC name scope L a cd)) G (envOfC name scope L a cd) ρ (execs body (envOfC name scope L a cd)) (.ret d))
    (hco : scope.isCoroutine = false := by rfl) (hgen : scope.isGenerator = false := by rfl) (hk : scope.kind = .function := by rfl) :
    EV (model prog w) A (fun F h => G h ∧ RepAll F vs ds) (call (.ref a) vs) d := fun F s Q E ft ok hQ => by
  obtain ⟨g, r⟩ := ok
  obtain ⟨o, pm, cd, doc, ho, hd, hlim, hcd⟩ := hG _ g
  refine wpAny_call (call_cells_ret hroom ho hd hlim hcd (hbind pm cd doc) (hkind _) (fun h₁ tk Fr X => ?_) hco hgen hk)
  have off : ∀ b, s.heap.objs.size ≤ b → s.heap.get? b = none ∧ F b = none := fun b hb => by
    have h1 : s.heap.get? b = none := by
      cases q : s.heap.get? b with
      | none => rfl
      | some o => exact absurd (Heap.lt_size q) (Nat.not_lt.mpr hb)
    refine ⟨h1, ?_⟩
    cases q : F b with
    | none => rfl
    | some o => rw [ft _ _ q] at h1; cases h1
  refine hb s.heap.objs.size cd s.heap.get? F { s with heap := h₁, toks := tk } _ _ ⟨_, _, ⟨hk, fun h' k => mg _ _ g k, Fr.ns, X, fun b o q => Fr.keep _ _ (ft _ _ q), Fr.keep, off _ (Nat.le_refl _), fun x c q => off _ (Nat.le_of_lt (X.above x c (mem_of_lookup q))),
    fun x d q => hval _ cd F r x d q, fun x fs q => absurd q (hmut x fs), fun x y fs gs b hn p q => absurd p (hmut x fs)⟩⟩ ?_
  intro v F' h' tk' f n k1 k2 r'
  exact hQ v F' h' tk' ⟨f, k2, n, k1⟩ r'
end
end Mine

end
section
open PySem PyProof.Rows PySem.W
set_option maxRecDepth 100000
set_option linter.unusedVariables false
namespace Mine

abbrev PW : Program := PySem.Challenge.pw_rs0131_01
noncomputable abbrev KP (w : World) : Frag := kfrag w.params

/-- the text's defs, each found once -/
noncomputable def s43 : {s : Stmt // (PW.main.body[3]?).getD (.Pass ⟨0, 0, 0, 0⟩) = s} := ⟨_, by conv => lhs; whnf⟩
noncomputable def s50 : {s : Stmt // (PW.main.body[4]?).getD (.Pass ⟨0, 0, 0, 0⟩) = s} := ⟨_, by conv => lhs; whnf⟩
noncomputable def s57 : {s : Stmt // (PW.main.body[5]?).getD (.Pass ⟨0, 0, 0, 0⟩) = s} := ⟨_, by conv => lhs; whnf⟩
noncomputable def s67 : {s : Stmt // (PW.main.body[57]?).getD (.Pass ⟨0, 0, 0, 0⟩) = s} := ⟨_, by conv => lhs; whnf⟩
noncomputable def s74 : {s : Stmt // (PW.main.body[59]?).getD (.Pass ⟨0, 0, 0, 0⟩) = s} := ⟨_, by conv => lhs; whnf⟩
noncomputable def s81 : {s : Stmt // (PW.main.body[60]?).getD (.Pass ⟨0, 0, 0, 0⟩) = s} := ⟨_, by conv => lhs; whnf⟩
noncomputable def s88 : {s : Stmt // (PW.main.body[61]?).getD (.Pass ⟨0, 0, 0, 0⟩) = s} := ⟨_, by conv => lhs; whnf⟩
noncomputable def s93 : {s : Stmt // (PW.main.body[62]?).getD (.Pass ⟨0, 0, 0, 0⟩) = s} := ⟨_, by conv => lhs; whnf⟩
noncomputable def s98 : {s : Stmt // (PW.main.body[63]?).getD (.Pass ⟨0, 0, 0, 0⟩) = s} := ⟨_, by conv => lhs; whnf⟩
noncomputable def stm (a : Addr) : Stmt := match a with
  | 43 => s43.1
  | 50 => s50.1
  | 57 => s57.1
  | 67 => s67.1
  | 74 => s74.1
  | 81 => s81.1
  | 88 => s88.1
  | 93 => s93.1
  | 98 => s98.1
  | _ => .Pass ⟨0, 0, 0, 0⟩
noncomputable def fb (a : Addr) : List Stmt := match stm a with
  | .FunctionDef _ _ b _ _ _ _ _ _ _ => b
  | _ => []
noncomputable def fs (a : Addr) : Scope := match stm a with
  | .FunctionDef _ _ _ _ _ _ s _ _ _ => s
  | _ => default
noncomputable def fp (a : Addr) : Arguments := match stm a with
  | .FunctionDef _ p _ _ _ _ _ _ _ _ => p
  | _ => default
noncomputable def fn (a : Addr) : Str := match stm a with
  | .FunctionDef n _ _ _ _ _ _ _ _ _ => n
  | _ => default
noncomputable def fq (a : Addr) : Pos := match stm a with
  | .FunctionDef _ _ _ _ _ _ _ _ _ p => p
  | _ => ⟨0, 0, 0, 0⟩
def fAddrs : List Addr := [43, 50, 57, 67, 74, 81, 88, 93, 98]

/-- what the top has left -/
structure Gl (w : World) (h : Heap) : Prop where
  kin : (KP w).In h
  g : ∃ mg, h.Ns mainGlobals mg
  b : ∃ mb, h.Ns builtinsNs mb ∧ ∀ x : Str, x ≠ "__name__" → mb x = bootBuiltins x
  nolimit : h.NoLimit
  fns : ∀ a ∈ fAddrs, ∃ o pm cd doc, h.get? a = some o ∧ o.data = .func (Calls.docDef (fn a) (fp a) (fb a) (fs a) pm cd doc) ∧ h.CodeRec cd (fn a)
theorem codeRec_keeps {h h' : Heap} {cd : Value} {n : Str} (x : h.CodeRec cd n) (k : Le h h') : h'.CodeRec cd n :=
  let ⟨c, oc, vs, t, e1, e2, e3, e4⟩ := x; ⟨c, oc, vs, t, e1, k _ _ e2, e3, e4⟩
theorem Gl.mono {w : World} (h h' : Heap) (x : Gl w h) (k : Le h h') : Gl w h' :=
  ⟨x.kin.keeps k, let ⟨mg, g⟩ := x.g; ⟨mg, g.keeps k⟩, let ⟨mb, g, r⟩ := x.b; ⟨mb, g.keeps k, r⟩, x.nolimit.keeps k, fun a ha => let ⟨o, pm, cd, doc, e1, e2, e3⟩ := x.fns a ha; ⟨o, pm, cd, doc, k _ _ e1, e2, codeRec_keeps e3 k⟩⟩

section
variable {w : World} {M : Model} {A : Around} {Ok : Cond} {env : Env} {x : Str} {v : Value}
theorem nv_global (hg : ∀ F h, Ok F h → Gl w h) (e : nsIn (KP w) mainGlobals x = some (some v)) (hx : env.kindOf x = some .globalImplicit) (hk : env.scope.kind = .function)
    (he : env.globals = mainGlobals) (hd : (x == ("__debug__" : Str)) = false) : NV M A Ok env x v := fun pos F s Q E ok hQ => by
  have g := hg _ _ ok
  obtain ⟨mg, n⟩ := g.g
  exact Calls.Name_function_global hk hx (Calls.loadGlobal_global (env := env) (by rw [he]; exact n) (mg_of g.kin n e) hQ) hd
theorem nv_builtin (hg : ∀ F h, Ok F h → Gl w h) (e : nsIn (KP w) mainGlobals x = some none) (hv : bootBuiltins x = some v) (hn : x ≠ "__name__") (hx : env.kindOf x = some .globalImplicit) (hk : env.scope.kind = .function)
    (he : env.globals = mainGlobals) (hb : env.builtins = builtinsNs) (hd : (x == ("__debug__" : Str)) = false) : NV M A Ok env x v := fun pos F s Q E ok hQ => by
  have g := hg _ _ ok
  obtain ⟨mg, n⟩ := g.g
  obtain ⟨mb, nb, r⟩ := g.b
  exact Calls.Name_function_global hk hx (Calls.loadGlobal_builtin (env := env) (by rw [he]; exact n) (mg_none_of g.kin n e) (by rw [hb]; exact nb) ((r x hn).trans hv) hQ) hd
theorem ev_gint {i : Int} {t : Tok} {pos : Pos} (n : NV M A Ok env x (.int i t)) : EV M A Ok (eval (.Name x pos) env) (.int i) := fun F s Q E ft ok hQ => n pos F s Q E ok (hQ _ F s.heap s.toks (.refl ft) (.int _ _))
end


section
variable {prog : Program} {w : World} {A : Around} {d d₁ d₂ : PyData} {vs : List Value} {a : Addr} {p q : Str}
abbrev FnAt (w : World) (a : Addr) : Prop := ∀ h, Gl w h → ∃ o pm cd doc, h.get? a = some o ∧ o.data = .func (Calls.docDef (fn a) (fp a) (fb a) (fs a) pm cd doc) ∧ h.NoLimit ∧ h.CodeRec cd (fn a)
noncomputable abbrev fe (a L : Addr) (cd : Value) : Env := envOfC (fn a) (fs a) L a cd

theorem fn_call0 (hroom : A.depth < recursionLimit) (hG : FnAt w a) (hbind : ∀ pm cd doc, bindArgs (Calls.docDef (fn a) (fp a) (fb a) (fs a) pm cd doc) ⟨[], []⟩ = pure [])
    (hb : ∀ L cd, EX (model prog w) (A.deeper (fe a L cd)) (Gl w) (fe a L cd) [] (execs (fb a) (fe a L cd)) (.ret d))
    (hco : (fs a).isCoroutine = false) (hgen : (fs a).isGenerator = false) (hk : (fs a).kind = .function) :
    EV (model prog w) A (fun F h => Gl w h ∧ RepAll F vs []) (call (.ref a) vs) d := fun F s Q E ft ok hQ => by
  obtain ⟨g, r⟩ := ok
  cases r
  exact fn_call (ds := []) Gl.mono hroom hG hbind (fun k x hx => by cases hx) (fun L cd F r x d h => by cases h) (fun x fs h => by cases h) hb hco hgen hk F s Q E ft ⟨g, .nil⟩ hQ

theorem fn_call1 (hroom : A.depth < recursionLimit) (hG : FnAt w a) (hbind : ∀ v pm cd doc, bindArgs (Calls.docDef (fn a) (fp a) (fb a) (fs a) pm cd doc) ⟨[v], []⟩ = pure [(p, v)])
    (hkind : ∀ k, (fs a).names.lookup p = some .local ∨ ((fs a).names.lookup p = some .cell ∧ ((cellsFrom k (fs a).names []).lookup p).isSome = true))
    (hval : ∀ L cd v, val (fe a L cd) (bindL (fe a L cd).kindOf [(p, v)] fun _ => none) (bindC (fe a L cd).kindOf [(p, v)] fun _ => none) p = some v)
    (hb : ∀ L cd, EX (model prog w) (A.deeper (fe a L cd)) (Gl w) (fe a L cd) [(p, .imm d₁)] (execs (fb a) (fe a L cd)) (.ret d))
    (hco : (fs a).isCoroutine = false) (hgen : (fs a).isGenerator = false) (hk : (fs a).kind = .function) :
    EV (model prog w) A (fun F h => Gl w h ∧ RepAll F vs [d₁]) (call (.ref a) vs) d := fun F s Q E ft ok hQ => by
  obtain ⟨g, r⟩ := ok
  cases r with | cons r1 r =>
  cases r
  refine fn_call (ds := [d₁]) (ρ := [(p, .imm d₁)]) Gl.mono hroom hG (hbind _) (fun k x hx => by cases hx with | head => exact hkind k | tail _ h => cases h) (fun L cd F r x d h => ?_) (fun x fs h => ?_) hb hco hgen hk F s Q E ft ⟨g, .cons r1 .nil⟩ hQ
  · rcases lookup_ins h with ⟨rfl, h'⟩ | ⟨_, h⟩
    · cases h'; cases r with | cons r1 _ => exact ⟨_, hval L cd _, r1⟩
    · cases h
  · rcases lookup_ins h with ⟨_, h⟩ | ⟨_, h⟩ <;> cases h

theorem fn_call2 (hroom : A.depth < recursionLimit) (hG : FnAt w a) (hbind : ∀ v u pm cd doc, bindArgs (Calls.docDef (fn a) (fp a) (fb a) (fs a) pm cd doc) ⟨[v, u], []⟩ = pure [(p, v), (q, u)])
    (hkind : ∀ k x, x = p ∨ x = q → (fs a).names.lookup x = some .local ∨ ((fs a).names.lookup x = some .cell ∧ ((cellsFrom k (fs a).names []).lookup x).isSome = true))
    (hval : ∀ L cd v u, val (fe a L cd) (bindL (fe a L cd).kindOf [(p, v), (q, u)] fun _ => none) (bindC (fe a L cd).kindOf [(p, v), (q, u)] fun _ => none) p = some v ∧
      val (fe a L cd) (bindL (fe a L cd).kindOf [(p, v), (q, u)] fun _ => none) (bindC (fe a L cd).kindOf [(p, v), (q, u)] fun _ => none) q = some u)
    (hb : ∀ L cd, EX (model prog w) (A.deeper (fe a L cd)) (Gl w) (fe a L cd) [(p, .imm d₁), (q, .imm d₂)] (execs (fb a) (fe a L cd)) (.ret d))
    (hco : (fs a).isCoroutine = false) (hgen : (fs a).isGenerator = false) (hk : (fs a).kind = .function) :
    EV (model prog w) A (fun F h => Gl w h ∧ RepAll F vs [d₁, d₂]) (call (.ref a) vs) d := fun F s Q E ft ok hQ => by
  obtain ⟨g, r⟩ := ok
  cases r with | cons r1 r =>
  cases r with | cons r2 r =>
  cases r
  refine fn_call (ds := [d₁, d₂]) (ρ := [(p, .imm d₁), (q, .imm d₂)]) Gl.mono hroom hG (hbind _ _)
    (fun k x hx => by
      cases hx with
      | head => exact hkind k _ (.inl rfl)
      | tail _ h => cases h with
        | head => exact hkind k _ (.inr rfl)
        | tail _ h => cases h) (fun L cd F r x d h => ?_) (fun x fs h => ?_) hb hco hgen hk F s Q E ft ⟨g, .cons r1 (.cons r2 .nil)⟩ hQ
  · cases r with | cons r1 r =>
    cases r with | cons r2 r =>
    rcases lookup_ins h with ⟨rfl, h'⟩ | ⟨_, h⟩
    · cases h'; exact ⟨_, (hval L cd _ _).1, r1⟩
    · rcases lookup_ins h with ⟨rfl, h'⟩ | ⟨_, h⟩
      · cases h'; exact ⟨_, (hval L cd _ _).2, r2⟩
      · cases h
  · rcases lookup_ins h with ⟨_, h⟩ | ⟨_, h⟩
    · cases h
    · rcases lookup_ins h with ⟨_, h⟩ | ⟨_, h⟩ <;> cases h
end

theorem fn_at {w : World} {a : Addr} (ha : a ∈ fAddrs) : FnAt w a := fun h g =>
  let ⟨o, pm, cd, doc, e1, e2, e3⟩ := g.fns a ha; ⟨o, pm, cd, doc, e1, e2, g.nolimit, e3⟩
theorem at_hdn {w : World} : FnAt w 43 := fn_at (by decide)
theorem at_dm {w : World} : FnAt w 50 := fn_at (by decide)
theorem at_reach {w : World} : FnAt w 57 := fn_at (by decide)
theorem at_iseof {w : World} : FnAt w 67 := fn_at (by decide)
theorem at_row {w : World} : FnAt w 74 := fn_at (by decide)
theorem at_host {w : World} : FnAt w 81 := fn_at (by decide)
theorem at_climb {w : World} : FnAt w 88 := fn_at (by decide)
theorem at_nim {w : World} : FnAt w 93 := fn_at (by decide)
theorem at_law {w : World} : FnAt w 98 := fn_at (by decide)
end Mine

end
section
open PySem PyProof.Rows
set_option maxRecDepth 100000
set_option linter.unusedVariables false
namespace Mine

section
variable {prog : Program} {w : World} {A : Around} {Ok : Cond} {a b : Value} {x y : Str} {i j : Int} {d d₁ d₂ : PyData} {ds es : List PyData} {env : Env} {pos : Pos}

theorem op_eq_int : EV (model prog w) A (fun F h => Ok F h ∧ Rep F a (.int i) ∧ Rep F b (.int j)) (compareOp .Eq a b) (.bool (i == j)) := fun F s Q E ft ⟨_, r, q⟩ h => by
  cases r; cases q; exact eq_int (h _ F s.heap s.toks (.refl ft) (.bool _))
theorem op_ne_int : EV (model prog w) A (fun F h => Ok F h ∧ Rep F a (.int i) ∧ Rep F b (.int j)) (compareOp .NotEq a b) (.bool (i != j)) := fun F s Q E ft ⟨_, r, q⟩ h => by
  cases r; cases q; exact ne_int (h _ F s.heap s.toks (.refl ft) (.bool _))
theorem op_ge_int : EV (model prog w) A (fun F h => Ok F h ∧ Rep F a (.int i) ∧ Rep F b (.int j)) (compareOp .GtE a b) (.bool (decide (j ≤ i))) := fun F s Q E ft ⟨_, r, q⟩ h => by
  cases r; cases q; exact ge_int (h _ F s.heap s.toks (.refl ft) (.bool _))
theorem op_eq_str : EV (model prog w) A (fun F h => Ok F h ∧ Rep F a (.str x) ∧ Rep F b (.str y)) (compareOp .Eq a b) (.bool (x == y)) := fun F s Q E ft ⟨_, r, q⟩ h => by
  cases r; cases q; exact eq_str (h _ F s.heap s.toks (.refl ft) (.bool _))
theorem op_ne_str : EV (model prog w) A (fun F h => Ok F h ∧ Rep F a (.str x) ∧ Rep F b (.str y)) (compareOp .NotEq a b) (.bool (x != y)) := fun F s Q E ft ⟨_, r, q⟩ h => by
  cases r; cases q; exact ne_str (h _ F s.heap s.toks (.refl ft) (.bool _))
theorem op_eq (hu : A.units + 64 < cLine) (h1 : SeqAt.shaped d₁ = true) (h2 : SeqAt.shaped d₂ = true) :
    EV (model prog w) A (fun F h => Ok F h ∧ Rep F a d₁ ∧ Rep F b d₂) (compareOp .Eq a b) (.bool (PyData.eqv d₁ d₂)) := fun F s Q E ft ⟨_, r, q⟩ h => by
  obtain ⟨as, ra⟩ := r.reads ft
  obtain ⟨bs, rb⟩ := q.reads ft
  exact SeqAt.compareEq_shaped ra rb h1 h2 hu (h _ F s.heap s.toks (.refl ft) (.bool _))
theorem op_ne (hu : A.units + 64 < cLine) (h1 : SeqAt.shaped d₁ = true) (h2 : SeqAt.shaped d₂ = true) :
    EV (model prog w) A (fun F h => Ok F h ∧ Rep F a d₁ ∧ Rep F b d₂) (compareOp .NotEq a b) (.bool (!PyData.eqv d₁ d₂)) := fun F s Q E ft ⟨_, r, q⟩ h => by
  obtain ⟨as, ra⟩ := r.reads ft
  obtain ⟨bs, rb⟩ := q.reads ft
  exact SeqAt.compareNe_shaped ra rb h1 h2 hu (h _ F s.heap s.toks (.refl ft) (.bool _))

theorem op_add_int : EV (model prog w) A (fun F h => Ok F h ∧ Rep F a (.int i) ∧ Rep F b (.int j)) (binaryOp .Add a b) (.int (i + j)) := fun F s Q E ft ⟨_, r, q⟩ h => by
  cases r; cases q; exact add_int (h _ F s.heap _ (.refl ft) (.int _ _))
theorem op_sub_int : EV (model prog w) A (fun F h => Ok F h ∧ Rep F a (.int i) ∧ Rep F b (.int j)) (binaryOp .Sub a b) (.int (i - j)) := fun F s Q E ft ⟨_, r, q⟩ h => by
  cases r; cases q; exact sub_int (h _ F s.heap _ (.refl ft) (.int _ _))
theorem op_mod_int (hj : j ≠ 0) : EV (model prog w) A (fun F h => Ok F h ∧ Rep F a (.int i) ∧ Rep F b (.int j)) (binaryOp .Mod a b) (.int (i.fmod j)) := fun F s Q E ft ⟨_, r, q⟩ h => by
  cases r; cases q; exact mod_int' hj (h _ F s.heap _ (.refl ft) (.int _ _))
theorem op_xor_int : EV (model prog w) A (fun F h => Ok F h ∧ Rep F a (.int i) ∧ Rep F b (.int j)) (binaryOp .BitXor a b) (.int (Builtin.bitXor i j)) := fun F s Q E ft ⟨_, r, q⟩ h => by
  cases r; cases q; exact xor_int (h _ F s.heap _ (.refl ft) (.int _ _))
theorem op_and_int : EV (model prog w) A (fun F h => Ok F h ∧ Rep F a (.int i) ∧ Rep F b (.int j)) (binaryOp .BitAnd a b) (.int (Builtin.bitAnd i j)) := fun F s Q E ft ⟨_, r, q⟩ h => by
  cases r; cases q; exact and_int (h _ F s.heap _ (.refl ft) (.int _ _))
theorem op_shl_int (h0 : 0 ≤ j) (h1 : j ≤ 1000000) (h2 : i.natAbs < 2 ^ 64) : EV (model prog w) A (fun F h => Ok F h ∧ Rep F a (.int i) ∧ Rep F b (.int j)) (binaryOp .LShift a b) (.int (i * 2 ^ j.toNat)) := fun F s Q E ft ⟨_, r, q⟩ h => by
  cases r; cases q; exact lshift_int_small h0 h1 h2 (h _ F s.heap _ (.refl ft) (.int _ _))
theorem op_shr_int (h0 : 0 ≤ j) : EV (model prog w) A (fun F h => Ok F h ∧ Rep F a (.int i) ∧ Rep F b (.int j)) (binaryOp .RShift a b) (.int (i.fdiv (2 ^ j.toNat))) := fun F s Q E ft ⟨_, r, q⟩ h => by
  cases r; cases q; exact rshift_int h0 (h _ F s.heap _ (.refl ft) (.int _ _))
theorem op_neg_int : EV (model prog w) A (fun F h => Ok F h ∧ Rep F a (.int i)) (unaryOp .USub a) (.int (-i)) := fun F s Q E ft ⟨_, r⟩ h => by
  cases r; exact neg_int (h _ F s.heap _ (.refl ft) (.int _ _))
theorem op_inv_int : EV (model prog w) A (fun F h => Ok F h ∧ Rep F a (.int i)) (unaryOp .Invert a) (.int (Builtin.bitNot i)) := fun F s Q E ft ⟨_, r⟩ h => by
  cases r; exact invert_int (h _ F s.heap _ (.refl ft) (.int _ _))
theorem op_add_str (hz : x.length + y.length ≤ sizeLine) : EV (model prog w) A (fun F h => Ok F h ∧ Rep F a (.str x) ∧ Rep F b (.str y)) (binaryOp .Add a b) (.str (x ++ y)) := fun F s Q E ft ⟨_, r, q⟩ h => by
  cases r; cases q; exact add_str (fun t' tk => h _ F s.heap tk (.refl ft) (.str _ _)) hz

theorem tr_bool {c : Bool} : EB (model prog w) A (fun F h => Ok F h ∧ Rep F a (.bool c)) (truthy a) c := fun F s Q E ft ⟨_, r⟩ h => by
  cases r; exact wpAny_truthy_bool (h F s.heap s.toks (.refl ft))

/-- s[i] of a text -/
theorem gi_list {k : Int} (h0 : 0 ≤ k) (h1 : k < 2 ^ 63) (hk : ds[k.toNat]? = some d) : EV (model prog w) A (fun F h => Ok F h ∧ Rep F a (.list ds) ∧ Rep F b (.int k)) (getItem a b) d := fun F s Q E ft ⟨_, r, q⟩ h => by
  cases q
  cases r with | list g r =>
  obtain ⟨v, hv, rv⟩ := r.get hk
  exact wpAny_getItem_list ⟨_, ft _ _ g, rfl, _, rfl⟩ h0 h1 (by simpa using hv) (h v F s.heap s.toks (.refl ft) rv)

theorem RepAll.pick {F : FM} {vs : List Value} (r : RepAll F vs ds) : ∀ idx : List Nat, RepAll F (idx.filterMap (vs[·]?)) (idx.filterMap (ds[·]?))
  | [] => .nil
  | k :: idx => by
    cases hv : vs[k]? with
    | none =>
      have hd : ds[k]? = none := by simp at hv ⊢; rw [← r.length]; exact hv
      simp [hv, hd]; exact RepAll.pick r idx
    | some v =>
      obtain ⟨d, hd, q⟩ := r.get' hv
      simp [hv, hd]; exact .cons q (RepAll.pick r idx)

/-- a slice's part -/
inductive EP (prog : Program) (w : World) (A : Around) (Ok : Cond) (env : Env) : Option Expr → Option Int → Prop
  | none : EP prog w A Ok env .none .none
  | some {e : Expr} {i : Int} : EV (model prog w) A Ok (eval e env) (.int i) → EP prog w A Ok env (.some e) (.some i)
theorem EP.go {o : Option Expr} {l : Option Int} (x : EP prog w A Ok env o l) {F : FM} {s : Shared} {E : Value → Shared → Prop} {Q : Value → Shared → Prop} (ft : Fit F s.heap) (ok : Ok F s.heap)
    (h : ∀ p : Option (Int × Tok), p.map (·.1) = l → ∀ F' h' tk, Ext F s.heap F' h' → Q (partValue p) { s with heap := h', toks := tk }) : wpAny (model prog w) A (evalPart o env) Q E s := by
  cases x with
  | none => exact wpAny_pure (h Option.none rfl F s.heap s.toks (.refl ft))
  | @some e i x => exact x F s Q E ft ok fun v F' h' tk l r => by cases r with | int _ t => exact h (Option.some (i, t)) rfl F' h' tk l

theorem slice_go {lower upper step : Option Expr} {p : Pos} {l u st : Option Int} (mo : Mono Ok) (h1 : EP prog w A Ok env lower l) (h2 : EP prog w A Ok env upper u) (h3 : EP prog w A Ok env step st)
    {F : FM} {s : Shared} {E : Value → Shared → Prop} {Q : Value → Shared → Prop} (ft : Fit F s.heap) (ok : Ok F s.heap)
    (h : ∀ (p q r : Option (Int × Tok)) F' h' tk sl, p.map (·.1) = l → q.map (·.1) = u → r.map (·.1) = st → Ext F s.heap F' h' → h'.IsSlice sl p q r → h'.IsSliceOf sl (partValue p) (partValue q) (partValue r) → Q (.ref sl) { s with heap := h', toks := tk }) :
    wpAny (model prog w) A (eval (.Slice lower upper step p) env) Q E s := by
  refine wpAny_Slice (h1.go ft ok fun p e1 F₁ h₁ tk₁ l₁ => h2.go l₁.k (mo _ _ _ _ ok l₁) fun q e2 F₂ h₂ tk₂ l₂ => h3.go l₂.k (mo _ _ _ _ ok (l₁.trans l₂)) fun r e3 F₃ h₃ tk₃ l₃ => ?_)
  have x := (l₁.trans l₂).trans l₃
  exact h p q r F₃ _ tk₃ _ e1 e2 e3 (x.trans (Ext.heap x.k (Le.push _ _))) ⟨_, Heap.get?_push_size _ rfl, rfl, rfl⟩ ⟨_, Heap.get?_push_size _ rfl, rfl, rfl⟩

/-- the text that a slice picks -/
def sslice (x : Str) (l u st : Option Int) : Str :=
  if (st.getD 1 == 1 && (Builtin.Str.strSliceIndices l u (st.getD 1) x.length).length == x.length) = true then x else ⟨((Builtin.Str.strSliceIndices l u (st.getD 1) x.length).filterMap (x.cps[·]?)).toArray⟩
theorem sslice_made {t : Tok} {p q r : Option (Int × Tok)} {s : Shared} {Q : Value → Shared → Prop} (hx : x.length ≤ sizeLine) (hz : (sslice x (p.map (·.1)) (q.map (·.1)) (r.map (·.1))).length ≤ sizeLine)
    (h : ∀ t' tk, Q (.str (sslice x (p.map (·.1)) (q.map (·.1)) (r.map (·.1))) t') { s with toks := tk }) : (sliceMade x t p q r).post Q s := by
  unfold sliceMade
  unfold sslice at h hz
  unfold slicePicked
  split
  · next e => rw [if_pos e] at h; exact h t s.toks
  · next e => rw [if_neg e] at h hz; exact ⟨hz, h _ _⟩
end
end Mine

end
section
open PySem PyProof.Rows
set_option maxRecDepth 100000
set_option linter.unusedVariables false
namespace Mine

section
variable {prog : Program} {w : World} {A : Around} {Ok : Cond} {a b : Value} {x y : Str} {i j : Int} {d d₁ d₂ : PyData} {ds es : List PyData} {env : Env} {pos : Pos}

theorem sub_tail {value slice : Expr} {T id : String} (hl : typeLookup (.type T) "__getitem__" = pure (some (.builtin id))) {s : Shared} {E : Value → Shared → Prop} {a i : Value} {Q : Value → Shared → Prop} (hT : HasType s.heap a T)
    (g : wpAny (model prog w) A (getItem a i) Q E s)
    (hs : subscripted slice false a i = operate [a, i] (getItem a i) ∨ subscripted slice false a i = operate [i, a] (getItem a i)) : wpAny (model prog w) A (subscriptTail value slice a i) Q E s := by
  unfold subscriptTail
  refine wpAny_bind ?_
  have hT' := hT.1 s rfl
  rw [getitemInPython_of_ne hT'.not_modules]
  refine wpAny_bind (wpAny_specialOf hT' hl ?_)
  have fin : wpAny (model prog w) A (subscripted slice false a i) (fun r s₃ => wpAny (model prog w) A (letTemporaryGo value a r >>= fun _ => pure r) Q E s₃) E s := by
    have g' : wpAny (model prog w) A (getItem a i) (fun r s₃ => wpAny (model prog w) A (letTemporaryGo value a r >>= fun _ => pure r) Q E s₃) E s :=
      wpAny_mono g (fun r s₃ h => wpAny_bind (wpAny_letTemporaryGo (wpAny_pure h))) fun _ _ h => h
    rcases hs with e | e <;> rw [e] <;> exact wpAny_operating g'
  first
    | exact wpAny_pure (wpAny_bind fin)
    | exact wpAny_bind (wpAny_pure (wpAny_bind fin))
    | exact wpAny_bind fin

theorem slice_two {lower upper step : Option Expr} {p : Pos} (o i : Value) : subscripted (.Slice lower upper step p) false o i = operate [o, i] (getItem o i) ∨ subscripted (.Slice lower upper step p) false o i = operate [i, o] (getItem o i) := by
  cases step
  · exact .inr rfl
  · exact .inl rfl

theorem sslice_len {l u st : Option Int} : (sslice x l u st).length ≤ max x.length (Builtin.Str.strSliceIndices l u (st.getD 1) x.length).length := by
  unfold sslice
  split
  · exact Nat.le_max_left _ _
  · refine Nat.le_trans ?_ (Nat.le_max_right _ _)
    show (List.toArray _).size ≤ _
    rw [List.size_toArray]
    exact List.length_filterMap_le ..

theorem ev_slice_str {value : Expr} {lower upper step : Option Expr} {p : Pos} {l u st : Option Int} (mo : Mono Ok) (hv : EV (model prog w) A Ok (eval value env) (.str x))
    (h1 : EP prog w A Ok env lower l) (h2 : EP prog w A Ok env upper u) (h3 : EP prog w A Ok env step st) (h0 : (st.getD 1 == 0) = false) (hx : x.length ≤ sizeLine) (hz : (sslice x l u st).length ≤ sizeLine) :
    EV (model prog w) A Ok (eval (.Subscript value (.Slice lower upper step p) pos) env) (.str (sslice x l u st)) := fun F s Q E ft ok h => by
  refine Subscript_ (hv F s _ E ft ok fun a F₁ h₁ tk₁ l₁ r₁ => slice_go mo h1 h2 h3 l₁.k (mo _ _ _ _ ok l₁) fun p q r F₂ h₂ tk₂ sl e1 e2 e3 l₂ s1 _ => ?_)
  cases r₁ with | str _ t =>
  subst e1 e2 e3
  refine sub_tail PySem.F.slot_str_getitem.lookup ⟨fun s _ => typeIs_str _ _ _, fun _ e => nomatch e⟩ (wpAny_getItem_str_slice s1 h0 (sslice_made hx hz fun t' tk => ?_)) (slice_two _ _)
  exact h _ F₂ h₂ tk (l₁.trans l₂) (.str _ _)

/-- the items that a slice picks -/
def lslice (ds : List PyData) (lo hi st : Option Int) : List PyData :=
  (sliceRange (sliceBounds lo hi st ds.length).1 (sliceBounds lo hi st ds.length).2.1 (sliceBounds lo hi st ds.length).2.2).filterMap (ds[·]?)
theorem ev_slice_list {value : Expr} {lower upper step : Option Expr} {p : Pos} {l u st : Option Int} (mo : Mono Ok) (hv : EV (model prog w) A Ok (eval value env) (.list ds))
    (h1 : EP prog w A Ok env lower l) (h2 : EP prog w A Ok env upper u) (h3 : EP prog w A Ok env step st) (h0 : st ≠ some 0) (hx : ds.length ≤ sizeLine) :
    EV (model prog w) A Ok (eval (.Subscript value (.Slice lower upper step p) pos) env) (.list (lslice ds l u st)) := fun F s Q E ft ok h => by
  refine Subscript_ (hv F s _ E ft ok fun a F₁ h₁ tk₁ l₁ r₁ => slice_go mo h1 h2 h3 l₁.k (mo _ _ _ _ ok l₁) fun p q r F₂ h₂ tk₂ sl e1 e2 e3 l₂ _ s2 => ?_)
  have ty := hasType_list l₂.k (r₁.le l₂.f)
  cases r₁ with | @list a n vs _ g r₁ =>
  have part : ∀ (p : Option (Int × Tok)), IsPart (partValue p) (p.map (·.1)) := fun p => by
    cases p with
    | none => exact .none
    | some p => exact .int _ _
  have g₂ := l₂.k _ _ (l₂.f _ _ g)
  subst e1 e2 e3
  refine sub_tail list_getitem_lookup ty (wpAny_getItem_list_slice ⟨_, g₂, rfl, _, rfl⟩ s2 (part p) (part q) (part r) h0 ?_ (by simpa [r₁.length] using hx)) (slice_two _ _)
  have e : slicePick vs.toArray (p.map (·.1)) (q.map (·.1)) (r.map (·.1)) = (((sliceRange (sliceBounds (p.map (·.1)) (q.map (·.1)) (r.map (·.1)) ds.length).1 (sliceBounds (p.map (·.1)) (q.map (·.1)) (r.map (·.1)) ds.length).2.1 (sliceBounds (p.map (·.1)) (q.map (·.1)) (r.map (·.1)) ds.length).2.2).filterMap (vs[·]?))).toArray := by
    unfold slicePick
    simp only [List.size_toArray, r₁.length]
    congr 1
    simp
  have x := (l₁.trans l₂).trans (Ext.push (o := lst ((sliceRange (sliceBounds (p.map (·.1)) (q.map (·.1)) (r.map (·.1)) ds.length).1 (sliceBounds (p.map (·.1)) (q.map (·.1)) (r.map (·.1)) ds.length).2.1 (sliceBounds (p.map (·.1)) (q.map (·.1)) (r.map (·.1)) ds.length).2.2).filterMap (vs[·]?)) 0) l₂.k)
  rw [e]
  exact h _ _ _ tk₂ x (.list ins_self ((r₁.pick _).le (fun b o q => (l₂.trans (Ext.push (o := lst _ 0) l₂.k)).f b o q)))
end
end Mine

end
section
open PySem PyProof.Rows
set_option maxRecDepth 100000
set_option linter.unusedVariables false
namespace Mine
open Builtin Builtin.Re

theorem plainAttrs_re : PlainAttrs "re.Pattern" :=
  ⟨⟨"object.__getattribute__", by rw [typeLookup_type, builtinLookup_eq_fast]; kernel_rfl, by decide +kernel⟩, by rw [typeLookup_type, builtinLookup_eq_fast]; kernel_rfl⟩
theorem slot_re_search : Slot "re.Pattern" "search" "re.Pattern.search" :=
  .of (owner := "re.Pattern") (n := "search") (by rw [typeLookup_type, builtinLookup_eq_fast]; kernel_rfl) (by decide +kernel) (by decide +kernel) (by decide +kernel)
    (by first | exact .inl (by decide +kernel) | exact .inr (by decide +kernel)) (by rw [isSubtype_type]; kernel_rfl)
theorem type_re_search : typeOf (.builtin "re.Pattern.search") = pure (.type "method_descriptor") := by show builtinType _ = _; rw [builtinType_eq_fast]; kernel_rfl
theorem entry_re_search : entryFor table "re.Pattern.search" = some Builtin.«re.Pattern.search» := entryFor_of_tree (by kernel_rfl)
theorem args_re_search (a b : Value) : argsOk "re.Pattern.search" ⟨[a, b], []⟩ := by unfold argsOk; kernel_rfl
theorem match_bool : typeLookup (.type "re.Match") "__bool__" = pure none := by rw [typeLookup_type, builtinLookup_eq_fast]; kernel_rfl
theorem match_len : typeLookup (.type "re.Match") "__len__" = pure none := by rw [typeLookup_type, builtinLookup_eq_fast]; kernel_rfl

def ipCode : Array Nat := #[14, 8, 1, 2, 4294967295, 1, 1, 46, 0, 16, 46, 24, 9, 1, 4294967295, 13, 4, 8, 0, 0, 1, 6, 5, 1]
def ipM (x : Str) : Sre.M := Sre.forSearch ipCode x.cps 0 0 x.cps.size false
def ipEnd (x : Str) : Sre.M := (ipM x).runFor 400
/-- the search comes to its end -/
def ipOk (x : Str) : Bool := match (ipEnd x).outcome with | some .matched | some .failed => true | _ => false
def ipHit (x : Str) : Bool := match (ipEnd x).outcome with | some .matched => true | _ => false

theorem runFor_done {m : Sre.M} (h : m.outcome.isSome = true) : ∀ n, m.runFor n = m
  | 0 => rfl
  | n + 1 => by rw [Sre.M.runFor, if_pos h]
theorem runFor_add (m : Sre.M) : ∀ a b, m.runFor (a + b) = (m.runFor a).runFor b
  | 0, b => by rw [Nat.zero_add]; rfl
  | a + 1, b => by
    rw [show a + 1 + b = (a + b) + 1 from by omega, Sre.M.runFor, Sre.M.runFor]
    split
    · next h => rw [runFor_done h]
    · exact runFor_add m.step a b

theorem wp_reDrive {M : Model} {A : Around} {E : Value → Shared → Prop} {s : Shared} {Q : Sre.M → Shared → Prop} : ∀ (k turns : Nat) (m : Sre.M), k ≤ turns → 0 < turns → (m.runFor (4 * k)).outcome.isSome = true → Q (m.runFor (4 * k)) s → wpAny M A (reDrive turns m) Q E s
  | k, 0, m, _, h0, _, _ => absurd h0 (Nat.lt_irrefl _)
  | 0, t + 1, m, _, _, ho, hQ => by
    rw [reDrive]
    have e : m.runFor reTurnSteps = m := runFor_done ho _
    simp only [e]
    have ho' : m.outcome.isSome = true := ho
    rw [if_pos ho']
    exact wpAny_pure hQ
  | k + 1, t + 1, m, hk, _, ho, hQ => by
    have e : m.runFor (4 * (k + 1)) = (m.runFor reTurnSteps).runFor (4 * k) := by
      rw [show 4 * (k + 1) = reTurnSteps + 4 * k from by simp [reTurnSteps]; omega, runFor_add]
    rw [reDrive]
    by_cases h : (m.runFor reTurnSteps).outcome.isSome = true
    · simp only [h, if_true]
      rw [e, runFor_done h] at hQ
      exact wpAny_pure hQ
    · simp only [h]
      rw [e] at ho hQ
      refine wpAny_bind (wpAny_rule ?_)
      cases t with
      | zero =>
        have : k = 0 := by omega
        subst this
        exact absurd ho h
      | succ t => exact wp_reDrive k (t + 1) _ (by omega) (by omega) ho hQ
end Mine

end
section
open PySem PyProof.Rows
set_option maxRecDepth 100000
set_option linter.unusedVariables false
namespace Mine
open Builtin Builtin.Re

def ipTuple : Obj := { cls := .type "tuple", data := .seq #[.int 14 0, .int 8 0, .int 1 0, .int 2 0, .int 4294967295 0, .int 1 0, .int 1 0, .int 46 0, .int 0 0, .int 16 0, .int 46 0, .int 24 0,
  .int 9 0, .int 1 0, .int 4294967295 0, .int 13 0, .int 4 0, .int 8 0, .int 0 0, .int 0 0, .int 1 0, .int 6 0, .int 5 0, .int 1 0] }
def ipPattern : Obj := { cls := .type "re.Pattern", data := .fields #[.str (Str.ofString "\\.\\d+$") 285, .int 256 312, .int 0 0, .none, .none, .ref 35, .int 0 0] }

section
variable {prog : Program} {w : World} {A : Around} {E : Value → Shared → Prop} {s : Shared} {x : Str} {t : Tok}

theorem forIn_rules {M : Model} {m : Sre.M} {Q : PUnit → Shared → Prop} (h : Q ⟨⟩ s) : ∀ l : List Nat, wpAny M A (forIn l PUnit.unit fun i _ => if m.seen.has i = true then (do rule (Sre.names.getD i ""); pure (ForInStep.yield PUnit.unit) : Sem (ForInStep PUnit)) else pure (ForInStep.yield PUnit.unit)) Q E s
  | [] => wpAny_pure h
  | i :: l => by
    rw [List.forIn_cons]
    refine wpAny_bind ?_
    split
    · exact wpAny_bind (wpAny_rule (wpAny_pure (forIn_rules h l)))
    · exact wpAny_pure (forIn_rules h l)

theorem wp_search {Q : Value → Shared → Prop} (h36 : s.heap.get? 36 = some ipPattern) (h35 : s.heap.get? 35 = some ipTuple) (hx : x.cps.size ≤ 2 ^ 63 - 1) (ok : ipOk x = true)
    (hQ : if ipHit x then ∀ a o h', h'.get? a = some o → o.cls = .type "re.Match" → (∀ b p, s.heap.get? b = some p → h'.get? b = some p) → Q (.ref a) { s with heap := h' } else Q .none s) :
    wpAny (model prog w) A (call (.builtin "re.Pattern.search") [.ref 36, .str x t]) Q E s := by
  refine wpAny_call_entry slot_re_search ⟨_, h36, rfl⟩ entry_re_search ?_ (args_re_search _ _)
  unfold «re.Pattern.search»
  refine wpAny_bind ?_
  unfold reTarget
  have hn : reNamed "re.Pattern.search" "search" ["string", "pos", "endpos"] 1 [.str x t] [] = pure [some (.str x t), none, none] := by rfl
  show wpAny _ _ (reNamed "re.Pattern.search" "search" ["string", "pos", "endpos"] 1 [.str x t] [] >>= _) _ _ s
  rw [hn]
  refine wpAny_bind (wpAny_pure ?_)
  dsimp only
  refine wpAny_bind (wpAny_pure (wpAny_bind (wpAny_pure ?_)))
  refine wpAny_bind (wpAny_fieldsOf h36 rfl ?_)
  refine wpAny_bind ?_
  unfold reTextOf
  refine wpAny_bind (wpAny_pure ?_)
  dsimp only
  refine wpAny_pure ?_
  dsimp only
  rw [if_neg (by decide), if_neg (by decide)]
  refine wpAny_bind (m := reNoCollectionInside (.str x t) 0) (wpAny_pure ?_)
  refine wpAny_bind ?_
  show wpAny _ _ (reRawItems (.ref 35)) _ _ s
  unfold reRawItems
  refine wpAny_bind (wpAny_seqItems h35 rfl ?_)
  refine wpAny_pure ?_
  refine wpAny_pure ?_
  have e1 : (Min.min (2 ^ 63 - 1 : Int).toNat x.cps.size) = x.cps.size := by
    have : (2 ^ 63 - 1 : Int).toNat = 2 ^ 63 - 1 := by decide
    rw [this]; exact Nat.min_eq_right hx
  have e2 : (Min.min (Int.toNat 0) x.cps.size) = 0 := Nat.min_eq_left (Nat.zero_le _)
  dsimp only
  rw [e1, e2]
  have e3 : (Array.map (fun (x : Int) => x.toNat) (Array.map reRawOf ((some (#[.int 14 0, .int 8 0, .int 1 0, .int 2 0, .int 4294967295 0, .int 1 0, .int 1 0, .int 46 0, .int 0 0, .int 16 0, .int 46 0, .int 24 0,
  .int 9 0, .int 1 0, .int 4294967295 0, .int 13 0, .int 4 0, .int 8 0, .int 0 0, .int 0 0, .int 1 0, .int 6 0, .int 5 0, .int 1 0] : Array Value)).getD #[]))) = ipCode := by decide +kernel
  rw [e3]
  unfold reAnswer reRunToEnd
  refine wpAny_bind (wpAny_bind ?_)
  have hm : (ipM x).runFor (4 * 100) = ipEnd x := rfl
  have ho : (ipEnd x).outcome.isSome = true := by
    unfold ipOk at ok
    cases h : (ipEnd x).outcome with
    | none => rw [h] at ok; cases ok
    | some o => rfl
  refine wp_reDrive 100 (2 ^ 64) _ (by decide) (by decide) (by exact ho) ?_
  have hg : reRawNat ((#[Value.str (Str.ofString "\\.\\d+$") 285, Value.int 256 312, Value.int 0 0, Value.none, Value.none, Value.ref 35, Value.int 0 0] : Array Value).getD 2 Value.none) = 0 := rfl
  rw [hg]
  refine wpAny_bind (forIn_rules ?_ _)
  have hm' : (Sre.forSearch ipCode x.cps 0 0 x.cps.size false).runFor (4 * 100) = ipEnd x := rfl
  rw [hm']
  unfold ipOk at ok
  unfold ipHit at hQ
  cases hc : (ipEnd x).outcome with
  | none => rw [hc] at ok; cases ok
  | some o =>
    rw [hc] at ok hQ
    cases o with
    | stuck why => cases ok
    | failed => exact wpAny_pure (wpAny_pure ⟨_, rfl, hQ⟩)
    | matched =>
      refine wpAny_pure ?_
      dsimp only
      refine wpAny_bind ?_
      unfold reNewMatch
      dsimp only
      refine wpAny_ite ?_
      rw [if_neg (by simp)]
      refine wpAny_bind (wpAny_newTuple ?_ (by show 2 ≤ sizeLine; decide))
      unfold newFields
      refine wpAny_newObj_type (wpAny_pure ⟨_, rfl, ?_⟩) (by size_fits)
      exact hQ _ _ _ (Heap.get?_push_size _ rfl) rfl fun b p e => Heap.get?_push_of_some _ (Heap.get?_push_of_some _ e)
end
end Mine

end
section
open PySem PyProof.Rows PySem.W
set_option maxRecDepth 100000
set_option linter.unusedVariables false
namespace Mine

section
variable {prog : Program} {w : World} {A : Around} {Ok : Cond} {a b : Value} {x y : Str} {i j : Int} {d d₁ d₂ : PyData} {ds es : List PyData} {env : Env} {pos : Pos}

theorem gi_str {k : Int} {c : Nat} (hr : (decide (k < -(2 ^ 63 : Int)) || decide (k ≥ 2 ^ 63)) = false) (hc : (seqIndex? k x.length).bind (x.cps[·]?) = some c) :
    EV (model prog w) A (fun F h => Ok F h ∧ Rep F a (.str x) ∧ Rep F b (.int k)) (getItem a b) (.str ⟨#[c]⟩) := fun F s Q E ft ⟨_, r, q⟩ h => by
  cases q; cases r
  exact PySem.P.getItem_str hr hc (h _ F s.heap _ (.refl ft) (.str _ _))

theorem wp_truthy_match {E : Value → Shared → Prop} {s : Shared} {a : Addr} {o : Obj} {Q : Bool → Shared → Prop} (g : s.heap.get? a = some o) (hc : o.cls = .type "re.Match") (h : Q true s) : wpAny (model prog w) A (truthy (.ref a)) Q E s := by
  unfold truthy
  have hT : s.TypeIs (.ref a) "re.Match" := ⟨o, g, hc⟩
  refine wpAny_bind (wpAny_callSpecial?_none hT match_bool ?_)
  refine wpAny_bind (wpAny_specialOf hT match_len ?_)
  exact wpAny_pure h

theorem eb_search {arg : Expr} {p apos : Pos} (mo : Mono Ok) (hg : ∀ F h, Ok F h → Gl w h) (hn : NV (model prog w) A Ok env (Str.ofString "IPV4_RE") (.ref 36)) (hv : EV (model prog w) A Ok (eval arg env) (.str x)) (hx : x.cps.size ≤ 2 ^ 63 - 1) (ok : ipOk x = true)
    (hbase : attributeBase (.Name (Str.ofString "IPV4_RE") p) (Str.ofString "search") env (eval (.Name (Str.ofString "IPV4_RE") p) env) = eval (.Name (Str.ofString "IPV4_RE") p) env := by rfl)
    (hline : (apos.endLine == pos.line) = true := by rfl) (htrees : backTo pos (starEach [arg] env) = [(false, eval arg env)] := by rfl) :
    EB (model prog w) A Ok (isTrue (.Call (.Attribute (.Name (Str.ofString "IPV4_RE") p) (Str.ofString "search") apos) [arg] [] pos) env (eval (.Call (.Attribute (.Name (Str.ofString "IPV4_RE") p) (Str.ofString "search") apos) [arg] [] pos) env)) (ipHit x) := fun F s Q E ft okk h => by
  refine wpAny_isTrue_value (wpAny_Call_method1_late hbase hline htrees (hn _ F s _ E okk ?_))
  have g := hg _ _ okk
  have h36 : s.heap.get? 36 = some ipPattern := g.kin 36 _ (by rfl)
  refine ⟨"re.Pattern", "re.Pattern.search", plainAttrs_re, slot_re_search, type_re_search, ⟨_, h36, rfl⟩, fun b q => by cases q; exact ⟨_, h36, rfl⟩, ?_⟩
  refine Calls.callWith_builtin rfl (Calls.evalArgs_plain (Calls.spliced_cons (hv F s _ E ft okk fun v F₁ h₁ tk₁ l₁ r₁ => Calls.spliced_nil ?_)))
  cases r₁ with | str _ t =>
  have g₁ := hg _ _ (mo _ _ _ _ okk l₁)
  refine wp_search (s := { s with heap := h₁, toks := tk₁ }) (g₁.kin 36 _ (by rfl)) (g₁.kin 35 _ (by rfl)) hx ok ?_
  split
  · next hh =>
    intro a o h' ga hc k
    refine wp_truthy_match (s := { s with heap := h', toks := tk₁ }) ga hc ?_
    rw [hh] at h
    exact h F₁ h' tk₁ (l₁.trans (Ext.heap l₁.k k))
  · next hh =>
    have hf : ipHit x = false := by simpa using hh
    rw [hf] at h
    exact wpAny_pure (h F₁ h₁ tk₁ l₁)
end

section
variable {M : Model} {A : Around} {G : Heap → Prop} {e : Env} {ρ : Rho} {d : PyData} {rest body : List Stmt} {test : Expr} {pos : Pos} {b : Bool}
theorem ex_guard (ht : ∀ K, EB M A (St G K e ρ) (isTrue test e (eval test e)) b) (h1 : b = true → EX M A G e ρ (execs body e) (.ret d)) (h2 : b = false → EX M A G e ρ (execs rest e) (.ret d)) :
    EX M A G e ρ (execs (.If test body [] pos :: rest) e) (.ret d) := by
  cases b with
  | true => exact ex_ret (ex_if ht (fun _ => h1 rfl) (fun q => by cases q))
  | false => exact ex_next (ex_if ht (fun q => by cases q) (fun _ => ex_nil)) (h2 rfl)
theorem ex_return_bool {c : Bool} {k : Nat} {p : Pos} (h : d = .bool c) : EX M A G e ρ (execs (.Return (some (.Constant (.bool c) k p)) pos :: rest) e) (.ret d) := by
  subst h; exact ex_ret (ex_return fun K => ev_bool)
end

theorem seq0 {n : Nat} (h : 0 < n) : seqIndex? (0 : Int) n = some 0 := by
  unfold seqIndex?
  simp; omega
theorem seqm1 {n : Nat} (h : 0 < n) : seqIndex? (-1 : Int) n = some (n - 1) := by
  unfold seqIndex?
  have h1 : (0 : Int) ≤ -1 + (n : Int) := by omega
  have h2 : (-1 + (n : Int)) < (n : Int) := by omega
  have h3 : (-1 + (n : Int)).toNat = n - 1 := by omega
  simp [h1, h2, h3]
def dot : Str := Str.ofString "."
/-- is_HDN -/
def hdn (x : Str) : Bool := !ipHit x && !(x == Str.ofString "") && !((⟨#[x.cps.getD 0 0]⟩ : Str) == dot || (⟨#[x.cps.getD (x.cps.size - 1) 0]⟩ : Str) == dot)

section
variable {prog : Program} {w : World} {A : Around} {vs : List Value} {x y : Str}
theorem ev_hdn (hroom : A.depth < recursionLimit) (hx : x.cps.size ≤ 2 ^ 20) (ok : ipOk x = true) : EV (model prog w) A (fun F h => Gl w h ∧ RepAll F vs [.str x]) (call (.ref 43) vs) (.bool (hdn x)) := by
  refine fn_call1 (p := Str.ofString "text") hroom at_hdn (by intros; rfl) (fun k => .inl (by rfl)) (by intros; rfl) (fun L cd => ?_) (by rfl) (by rfl) (by rfl)
  generalize A.deeper (fe 43 L cd) = A'
  show EX (model prog w) A' (Gl w) (fe 43 L cd) _ (execs (_ :: _) _) _
  have hd := @St.mono
  refine ex_guard (fun K => eb_search St.mono (fun F h S => S.glob) (nv_global (fun F h S => S.glob) (by kernel_rfl) (by rfl) (by rfl) (by rfl) (by rfl)) (ev_var (by rfl) (by rfl)) (by omega) ok) ?_ ?_
  · intro hb; exact ex_return_bool (by simp [hdn, hb])
  intro hb
  refine ex_guard (b := x == Str.ofString "") (fun K => eb_compare St.mono (ev_var (by rfl) (by rfl)) ev_str (fun a c => op_eq_str)) ?_ ?_
  · intro hc; exact ex_return_bool (by simp [hdn, hc])
  intro hc
  have hpos : 0 < x.cps.size := by
    rcases Nat.eq_zero_or_pos x.cps.size with h | h
    · exfalso
      have : x = Str.ofString "" := by
        apply Str.ext'
        show x.cps = #[]
        exact Array.eq_empty_of_size_eq_zero h
      rw [this] at hc; simp at hc
    · exact h
  refine ex_guard (b := ((⟨#[x.cps.getD 0 0]⟩ : Str) == dot || ((⟨#[x.cps.getD (x.cps.size - 1) 0]⟩ : Str) == dot || false))) (fun K => eb_boolop (eb_or_cons St.mono ?_ fun _ => eb_or_cons St.mono ?_ fun _ => eb_or_nil)) ?_ ?_
  · refine eb_compare St.mono (ev_subscript PySem.F.slot_str_getitem.lookup St.mono (ev_var (by rfl) (by rfl)) ev_int (fun F h v _ r => hasType_str r) (fun a b => gi_str (c := x.cps.getD 0 0) (by decide) ?_)) ev_str (fun a c => op_eq_str)
    rw [show seqIndex? (0 : Int) x.length = some 0 from seq0 hpos]; simp [Array.getD, hpos]
  · refine eb_compare St.mono (ev_subscript PySem.F.slot_str_getitem.lookup St.mono (ev_var (by rfl) (by rfl)) (ev_unary St.mono ev_int fun a => op_neg_int) (fun F h v _ r => hasType_str r) (fun a b => gi_str (c := x.cps.getD (x.cps.size - 1) 0) (by decide) ?_)) ev_str (fun a c => op_eq_str)
    rw [show seqIndex? (-1 : Int) x.length = some (x.cps.size - 1) from seqm1 hpos]
    have h1 : x.cps.size - 1 < x.cps.size := by omega
    simp [Array.getD, h1]
  · intro hd
    rw [Bool.or_false] at hd
    exact ex_return_bool (by unfold hdn; rw [hd]; simp)
  · intro hd
    rw [Bool.or_false] at hd
    exact ex_return_bool (by unfold hdn; rw [hd, hb, hc]; rfl)
end
end Mine

end
section
open PySem PyProof.Rows PySem.W
set_option maxRecDepth 100000
set_option linter.unusedVariables false
namespace Mine

section
variable {prog : Program} {w : World} {A : Around} {Ok : Cond} {a b : Value} {x y : Str} {i j : Int} {d d₁ d₂ : PyData} {ds es : List PyData} {env : Env} {pos apos : Pos} {o e₁ : Expr}

theorem ea1 {M : Model} {e₁ : Expr} (mo : Mono Ok) (h : EV M A Ok (eval e₁ env) d) (ht : backTo pos (starEach [e₁] env) = [(false, eval e₁ env)] := by rfl) : EA M A Ok (backTo pos (starEach [e₁] env)) [d] := by
  rw [ht]; exact ea_cons mo h ea_nil
theorem ea2 {M : Model} {e₁ e₂ : Expr} (mo : Mono Ok) (h : EV M A Ok (eval e₁ env) d₁) (h₂ : EV M A Ok (eval e₂ env) d₂) (ht : backTo pos (starEach [e₁, e₂] env) = [(false, eval e₁ env), (false, eval e₂ env)] := by rfl) :
    EA M A Ok (backTo pos (starEach [e₁, e₂] env)) [d₁, d₂] := by
  rw [ht]; exact ea_cons mo h (ea_cons mo h₂ ea_nil)
theorem ea3 {M : Model} {e₁ e₂ e₃ : Expr} {d₃ : PyData} (mo : Mono Ok) (h : EV M A Ok (eval e₁ env) d₁) (h₂ : EV M A Ok (eval e₂ env) d₂) (h₃ : EV M A Ok (eval e₃ env) d₃)
    (ht : backTo pos (starEach [e₁, e₂, e₃] env) = [(false, eval e₁ env), (false, eval e₂ env), (false, eval e₃ env)] := by rfl) :
    EA M A Ok (backTo pos (starEach [e₁, e₂, e₃] env)) [d₁, d₂, d₃] := by
  rw [ht]; exact ea_cons mo h (ea_cons mo h₂ (ea_cons mo h₃ ea_nil))

/-- how a method's call is written -/
structure MOk (env : Env) (o : Expr) (name : Str) (apos : Pos) (args : List Expr) (pos : Pos) : Prop where
  hp : (backTo pos (starEach args env)).any (·.1) = false
  hbase : attributeBase o name env (eval o env) = eval o env
  hfew : ((backTo pos (starEach args env)).all (fun x => !x.1) && (backToKw pos (keywordEach [] env)).all (fun x => x.1.isSome)
      && decide (args.length + ([] : List Keyword).length + (if ([] : List Keyword).isEmpty then 0 else 1) < 30)) = true
  hline : (apos.endLine == pos.line) = true

theorem m_str {name : Str} {args : List Expr} {id : String} (mk : MOk env o name apos args pos) (slot : Slot "str" name id) (hty : typeOf (.builtin id) = pure (.type "method_descriptor")) (mo : Mono Ok)
    (ho : EV (model prog w) A Ok (eval o env) (.str x)) (ha : EA (model prog w) A Ok (backTo pos (starEach args env)) ds)
    (hc : ∀ v vs, EV (model prog w) A (fun F h => Ok F h ∧ Rep F v (.str x) ∧ RepAll F vs ds) (call (.builtin id) (v :: vs)) d) : EV (model prog w) A Ok (eval (.Call (.Attribute o name apos) args [] pos) env) d :=
  ev_method PySem.F.plainAttrs_str slot hty mo ho (fun F h v _ r => hasType_str r) ha hc mk.hp mk.hbase mk.hfew mk.hline

theorem lower_size (x : Str) : (Txt.lower x).length ≤ 3 * x.length := by
  have := StrLaws.placedRaw_le3 x.cps (fun i _ => Unicode.lowerAt x.cps i) (fun i _ => StrLaws.lowerAt_le3 x.cps i)
  exact this
theorem upper_size (x : Str) : (Txt.upper x).length ≤ 3 * x.length := by
  have := StrLaws.placedRaw_le3 x.cps (fun _ c => Unicode.upperOf c) (fun _ c => StrLaws.upperOf_le3 c)
  exact this
theorem notLong {n : Nat} (h : n ≤ sizeLine) : Builtin.Str.tooLong n = false := by
  unfold Builtin.Str.tooLong; simp; exact h

theorem m_lower (mk : MOk env o (Str.ofString "lower") apos [] pos) (mo : Mono Ok) (ho : EV (model prog w) A Ok (eval o env) (.str x)) (hz : x.length ≤ 2 ^ 20) :
    EV (model prog w) A Ok (eval (.Call (.Attribute o (Str.ofString "lower") apos) [] [] pos) env) (.str (Txt.lower x)) :=
  m_str mk PySem.F.slot_str_lower PySem.F.type_str_lower mo ho ea_nil fun v vs F s Q E ft ⟨_, r, q⟩ h => by
    cases r; cases q
    exact SC.lower (notLong (by have := lower_size x; rw [sizeLine_eq]; omega)) (h _ F s.heap _ (.refl ft) (.str _ _))
theorem m_upper (mk : MOk env o (Str.ofString "upper") apos [] pos) (mo : Mono Ok) (ho : EV (model prog w) A Ok (eval o env) (.str x)) (hz : x.length ≤ 2 ^ 20) :
    EV (model prog w) A Ok (eval (.Call (.Attribute o (Str.ofString "upper") apos) [] [] pos) env) (.str (Txt.upper x)) :=
  m_str mk PySem.F.slot_str_upper PySem.F.type_str_upper mo ho ea_nil fun v vs F s Q E ft ⟨_, r, q⟩ h => by
    cases r; cases q
    exact SC.upper (notLong (by have := upper_size x; rw [sizeLine_eq]; omega)) (h _ F s.heap _ (.refl ft) (.str _ _))
theorem m_find (mk : MOk env o (Str.ofString "find") apos [e₁] pos) (mo : Mono Ok) (ho : EV (model prog w) A Ok (eval o env) (.str x)) (ha : EA (model prog w) A Ok (backTo pos (starEach [e₁] env)) [.str y]) :
    EV (model prog w) A Ok (eval (.Call (.Attribute o (Str.ofString "find") apos) [e₁] [] pos) env) (.int (Txt.find x y)) :=
  m_str mk PySem.F.slot_str_find PySem.F.type_str_find mo ho ha fun v vs F s Q E ft ⟨_, r, q⟩ h => by
    cases r; cases q with | cons q1 q => cases q1; cases q; exact SC.find (h _ F s.heap _ (.refl ft) (.int _ _))
theorem m_rfind (mk : MOk env o (Str.ofString "rfind") apos [e₁] pos) (mo : Mono Ok) (ho : EV (model prog w) A Ok (eval o env) (.str x)) (ha : EA (model prog w) A Ok (backTo pos (starEach [e₁] env)) [.str y]) :
    EV (model prog w) A Ok (eval (.Call (.Attribute o (Str.ofString "rfind") apos) [e₁] [] pos) env) (.int (Txt.rfind x y)) :=
  m_str mk PySem.F.slot_str_rfind PySem.F.type_str_rfind mo ho ha fun v vs F s Q E ft ⟨_, r, q⟩ h => by
    cases r; cases q with | cons q1 q => cases q1; cases q; exact SC.rfind (h _ F s.heap _ (.refl ft) (.int _ _))
theorem m_startswith (mk : MOk env o (Str.ofString "startswith") apos [e₁] pos) (mo : Mono Ok) (ho : EV (model prog w) A Ok (eval o env) (.str x)) (ha : EA (model prog w) A Ok (backTo pos (starEach [e₁] env)) [.str y]) :
    EV (model prog w) A Ok (eval (.Call (.Attribute o (Str.ofString "startswith") apos) [e₁] [] pos) env) (.bool (Txt.startswith x y)) :=
  m_str mk PySem.F.slot_str_startswith PySem.F.type_str_startswith mo ho ha fun v vs F s Q E ft ⟨_, r, q⟩ h => by
    cases r; cases q with | cons q1 q => cases q1; cases q; exact SC.startswith (h _ F s.heap s.toks (.refl ft) (.bool _))
/-- split at a text -/
theorem m_split (mk : MOk env o (Str.ofString "split") apos [e₁] pos) (mo : Mono Ok) (ho : EV (model prog w) A Ok (eval o env) (.str x)) (ha : EA (model prog w) A Ok (backTo pos (starEach [e₁] env)) [.str y])
    (hy : (y.length == 0) = false) (hz : x.length ≤ 2 ^ 20) (hz2 : (Txt.split x y).length ≤ 2 ^ 20) :
    EV (model prog w) A Ok (eval (.Call (.Attribute o (Str.ofString "split") apos) [e₁] [] pos) env) (.list ((Txt.split x y).map .str)) :=
  m_str mk PySem.F.slot_str_split PySem.F.type_str_split mo ho ha fun v vs F s Q E ft ⟨_, r, q⟩ h => by
    cases r with | str _ t =>
    cases q with | cons q1 q =>
    cases q
    cases q1 with | str _ u =>
    have fin : ∀ (l : List (Str × Tok)) (tk : Nat), l.map (·.1) = Txt.split x y → Q (.ref s.heap.objs.size) { s with toks := tk, heap := s.heap.push { cls := .type "list", data := .seq (strValues l).toArray } } := fun l tk e => by
      have rl : RepAll F (strValues l) ((Txt.split x y).map .str) := by rw [← e, List.map_map]; exact repStrs l
      exact h _ _ _ tk (Ext.push (o := lst (strValues l) 0) ft) (.list ins_self (rl.le (Ext.push (o := lst (strValues l) 0) ft).f))
    have hz' : x.length ≤ sizeLine := by rw [sizeLine_eq]; omega
    cases h1 : (decide (x.length < y.length) || decide (Builtin.Str.strKind x < Builtin.Str.strKind y))
    · cases hf : (Builtin.Str.occurrences x y 0 x.length (x.length + 1)).isEmpty
      · have e : Txt.split x y = Builtin.Str.partsBetween x (Builtin.Str.occurrences x y 0 x.length (x.length + 1)) y.length := (if_neg (ne_true_of_eq_false h1)).trans (if_neg (ne_true_of_eq_false hf))
        refine call_meets PySem.F.slot_str_split (typeIs_str _ _ _) PySem.F.entry_str_split (PySem.F.args_str_split_2 _ _) (meets_str_split_sep x y t u h1 hy hf hz' (by rw [← e, sizeLine_eq]; omega)) ?_
        show wants Q E _ { s with toks := _, heap := s.heap.push { cls := .type "list", data := .seq (strsFrom s.toks (Builtin.Str.partsBetween x (Builtin.Str.occurrences x y 0 x.length (x.length + 1)) y.length)).toArray } }
        rw [strsFrom_eq]
        exact fin (numbered s.toks _) _ ((numbered_texts _ _).trans e.symm)
      · exact call_meets PySem.F.slot_str_split (typeIs_str _ _ _) PySem.F.entry_str_split (PySem.F.args_str_split_2 _ _) (meets_str_split_not_found x y t u h1 hy hf)
          (fin [(x, t)] s.toks ((if_neg (ne_true_of_eq_false h1)).trans (if_pos hf)).symm)
    · exact call_meets PySem.F.slot_str_split (typeIs_str _ _ _) PySem.F.entry_str_split (PySem.F.args_str_split_2 _ _) (meets_str_split_cannot_occur x y t u h1)
        (fin [(x, t)] s.toks (if_pos h1).symm)
theorem m_join {xs : List Str} (mk : MOk env o (Str.ofString "join") apos [e₁] pos) (mo : Mono Ok) (ho : EV (model prog w) A Ok (eval o env) (.str x)) (ha : EA (model prog w) A Ok (backTo pos (starEach [e₁] env)) [.list (xs.map .str)])
    (hok : JoinOk x xs = true) :
    EV (model prog w) A Ok (eval (.Call (.Attribute o (Str.ofString "join") apos) [e₁] [] pos) env) (.str (Txt.join x xs)) :=
  m_str mk PySem.F.slot_str_join PySem.F.type_str_join mo ho ha fun v vs F s Q E ft ⟨_, r, q⟩ h => by
    cases r with | str _ t =>
    cases q with | cons q1 q =>
    cases q
    cases q1 with | list g rl =>
    obtain ⟨l, rfl, e⟩ := rl.strs
    exact SC.join ⟨_, ft _ _ g, rfl, _, rfl⟩ e hok fun t' k => h _ F s.heap k (.refl ft) (.str _ _)
end
end Mine

end
section
open PySem PyProof.Rows PySem.W
set_option maxRecDepth 100000
set_option linter.unusedVariables false
namespace Mine

section
variable {prog : Program} {w : World} {A : Around} {G : Heap → Prop} {e : Env} {ρ : Rho} {vs : List Value} {x y : Str} {i : Int} {env : Env} {pos : Pos} {Ok : Cond} {d : PyData} {ds : List PyData}

/-- a def of the top is called by its name -/
theorem ev_def {f : Str} {fp : Pos} {args : List Expr} {a : Addr} (mo : Mono Ok) (hg : ∀ F h, Ok F h → Gl w h) (hn : NV (model prog w) A Ok env f (.ref a)) (hat : FnAt w a)
    (ha : EA (model prog w) A Ok (backTo pos (starEach args env)) ds) (hc : ∀ vs, EV (model prog w) A (fun F h => Gl w h ∧ RepAll F vs ds) (call (.ref a) vs) d)
    (hp : (backTo pos (starEach args env)).any (·.1) = false) :
    EV (model prog w) A Ok (eval (.Call (.Name f fp) args [] pos) env) d :=
  ev_call_def mo hn (fun F h ok => let ⟨o, pm, cd, doc, g, q, _⟩ := hat h (hg F h ok); ⟨o, _, g, q⟩) ha (fun vs => (hc vs).weak fun F h q => ⟨hg _ _ q.1, q.2⟩) hp

theorem ev_iseof (hroom : A.depth < recursionLimit) : EV (model prog w) A (fun F h => Gl w h ∧ RepAll F vs [.int i]) (call (.ref 67) vs) (.bool (i == 0)) := by
  refine fn_call1 (p := Str.ofString "x") hroom at_iseof (by intros; rfl) (fun k => .inl (by rfl)) (by intros; rfl) (fun L cd => ?_) (by rfl) (by rfl) (by rfl)
  generalize A.deeper (fe 67 L cd) = A'
  show EX (model prog w) A' (Gl w) (fe 67 L cd) _ (execs (_ :: _) _) _
  exact ex_ret (ex_return fun K => ev_compare St.mono (ev_var (by rfl) (by rfl)) (ev_gint (nv_global (fun F h S => S.glob) (by rfl) (by rfl) (by rfl) (by rfl) (by rfl))) (fun a b => op_eq_int))

def dm (A B : Str) : Bool :=
  Txt.lower A == Txt.lower B ||
    (hdn (Txt.lower A) && !(Txt.rfind (Txt.lower A) (Txt.lower B) == -1 || (Txt.rfind (Txt.lower A) (Txt.lower B) == 0 || false)) && Txt.startswith (Txt.lower B) dot && hdn (sslice (Txt.lower B) (some 1) none none))
/-- what the walk of domain_match asks of its texts -/
structure DmOk (A B : Str) : Prop where
  a : A.length ≤ 2 ^ 16
  b : B.length ≤ 2 ^ 16
  z : (sslice (Txt.lower B) (some 1) none none).length ≤ 2 ^ 20
  oa : ipOk (Txt.lower A) = true
  ob : ipOk (sslice (Txt.lower B) (some 1) none none) = true

theorem ev_dm (hroom : A.depth + 1 < recursionLimit) (ok : DmOk x y) : EV (model prog w) A (fun F h => Gl w h ∧ RepAll F vs [.str x, .str y]) (call (.ref 50) vs) (.bool (dm x y)) := by
  refine fn_call2 (p := Str.ofString "A") (q := Str.ofString "B") (by omega) at_dm (by intros; rfl) (fun k z hz => by rcases hz with rfl | rfl <;> exact .inl (by rfl)) (by intros; exact ⟨by rfl, by rfl⟩) (fun L cd => ?_) (by rfl) (by rfl) (by rfl)
  have hr : (A.deeper (fe 50 L cd)).depth < recursionLimit := hroom
  generalize A.deeper (fe 50 L cd) = A' at hr
  have la := lower_size x
  have lb := lower_size y
  have oka := ok.a
  have okb := ok.b
  show EX (model prog w) A' (Gl w) (fe 50 L cd) _ (execs (_ :: _ :: _) _) _
  refine ex_next (ex_assign (fun K => m_lower ⟨by rfl, by rfl, by rfl, by rfl⟩ St.mono (ev_var (by rfl) (by rfl)) (by omega)) (by rfl)) ?_
  refine ex_next (ex_assign (fun K => m_lower (x := y) ⟨by rfl, by rfl, by rfl, by rfl⟩ St.mono (ev_var (by rfl) (by rfl)) (by omega)) (by rfl)) ?_
  refine ex_guard (fun K => eb_compare St.mono (ev_var (by rfl) (by rfl)) (ev_var (by rfl) (by rfl)) (fun a c => op_eq_str)) ?_ ?_
  · intro h; exact ex_return_bool (by unfold dm; rw [h]; rfl)
  intro h1
  refine ex_guard (fun K => eb_not (eb_value St.mono (ev_def St.mono (fun F h S => S.glob) (nv_global (fun F h S => S.glob) (by kernel_rfl) (by rfl) (by rfl) (by rfl) (by rfl)) at_hdn (ea1 St.mono (ev_var (by rfl) (by rfl)))
    (fun vs => ev_hdn hr (by show (Txt.lower x).length ≤ _; omega) ok.oa) (by rfl)) (fun a => tr_bool))) ?_ ?_
  · intro h; exact ex_return_bool (by unfold dm; rw [h1]; simp at h; rw [h]; rfl)
  intro h2
  simp at h2
  refine ex_next (ex_assign (fun K => m_rfind ⟨by rfl, by rfl, by rfl, by rfl⟩ St.mono (ev_var (by rfl) (by rfl)) (ea1 St.mono (ev_var (by rfl) (by rfl)))) (by rfl)) ?_
  refine ex_guard (fun K => eb_boolop (eb_or_cons St.mono (eb_compare St.mono (ev_var (by rfl) (by rfl)) (ev_unary St.mono ev_int fun a => op_neg_int) (fun a c => op_eq_int)) fun _ =>
    eb_or_cons St.mono (eb_compare St.mono (ev_var (by rfl) (by rfl)) ev_int (fun a c => op_eq_int)) fun _ => eb_or_nil)) ?_ ?_
  · intro h; exact ex_return_bool (by unfold dm; rw [h1, h2, h]; rfl)
  intro h3
  refine ex_guard (fun K => eb_not (eb_value St.mono (m_startswith ⟨by rfl, by rfl, by rfl, by rfl⟩ St.mono (ev_var (by rfl) (by rfl)) (ea1 St.mono ev_str)) (fun a => tr_bool))) ?_ ?_
  · intro h; exact ex_return_bool (by unfold dm; rw [h1, h2, h3]; simp at h; unfold dot; rw [h]; rfl)
  intro h4
  simp at h4
  refine ex_guard (fun K => eb_not (eb_value St.mono (ev_def St.mono (fun F h S => S.glob) (nv_global (fun F h S => S.glob) (by kernel_rfl) (by rfl) (by rfl) (by rfl) (by rfl)) at_hdn
    (ea1 St.mono (ev_slice_str St.mono (ev_var (by rfl) (by rfl)) (.some ev_int) .none .none (by rfl) (by rw [sizeLine_eq]; omega) (by have := ok.z; rw [sizeLine_eq]; omega)))
    (fun vs => ev_hdn hr ok.z ok.ob) (by rfl)) (fun a => tr_bool))) ?_ ?_
  · intro h; exact ex_return_bool (by unfold dm; rw [h1, h2, h3]; simp at h; unfold dot; rw [h4, h]; rfl)
  intro h5
  simp at h5
  exact ex_return_bool (by unfold dm; rw [h1, h2, h3]; unfold dot; rw [h4, h5]; rfl)
end
end Mine

end
section
open PySem PyProof.Rows PySem.W
set_option maxRecDepth 100000
set_option linter.unusedVariables false
namespace Mine

section
variable {prog : Program} {w : World} {A : Around} {Ok : Cond} {a b : Value} {x y : Str} {i j : Int} {d d₁ d₂ : PyData} {ds es : List PyData} {env : Env} {pos apos : Pos} {o e₁ : Expr} {vs : List Value}

theorem op_add_list (hz : ds.length + es.length ≤ sizeLine) : EV (model prog w) A (fun F h => Ok F h ∧ Rep F a (.list ds) ∧ Rep F b (.list es)) (binaryOp .Add a b) (.list (ds ++ es)) := fun F s Q E ft ⟨_, r, q⟩ h => by
  cases r with | @list l n vs _ g r =>
  cases q with | @list l' n' ws _ g' q =>
  refine PySem.P.add_list (ft _ _ g) (ft _ _ g') ?_ (by simpa [r.length, q.length] using hz)
  have e : vs.toArray ++ ws.toArray = (vs ++ ws).toArray := by simp
  rw [e]
  exact h _ _ _ s.toks (Ext.push (o := lst (vs ++ ws) 0) ft) (.list ins_self ((r.append q).le (Ext.push (o := lst (vs ++ ws) 0) ft).f))

def signs (x : Str) : List Str := x.cps.toList.map fun c => ⟨#[c]⟩
theorem repSigns {F : FM} {acc : Array Value} (h : ItemsOf (SignAt x) acc x.cps.size) : RepAll F acc.toList ((signs x).map .str) := by
  have key : ∀ (l : List Value) (m : List Nat), l.length = m.length → (∀ (j : Nat) (v : Value), l[j]? = some v → ∃ c u, m[j]? = some c ∧ v = Value.str ⟨#[c]⟩ u) → RepAll F l ((m.map fun c => (⟨#[c]⟩ : Str)).map PyData.str) := by
    intro l
    induction l with
    | nil => intro m hm _; cases m with | nil => exact .nil | cons c m => simp at hm
    | cons v l ih =>
      intro m hm hv
      cases m with
      | nil => simp at hm
      | cons c m =>
        obtain ⟨c', u, h1, rfl⟩ := hv 0 v rfl
        simp at h1; subst h1
        exact .cons (.str _ _) (ih m (by simpa using hm) fun j v' hj => hv (j + 1) v' (by simpa using hj))
  exact key acc.toList x.cps.toList (by simp [h.1]) fun j v hj => by
    obtain ⟨c, u, h1, h2⟩ := h.2 j v (by simpa using hj)
    exact ⟨c, u, by simpa using h1, h2⟩

theorem ca_list_str (hh : A.handled = none) (hz : x.cps.size ≤ sizeLine) : EV (model prog w) A (fun F h => Ok F h ∧ RepAll F vs [.str x]) (call (.type "list") vs) (.list ((signs x).map .str)) := fun F s Q E ft ⟨_, r⟩ h => by
  cases r with | cons r q =>
  cases q
  cases r with | str _ t =>
  refine call_list_str hh x t (fun h' tk acc c k g hi => ?_) hz
  have g' : h'.get? s.heap.objs.size = some (lst acc.toList c) := by rw [g]
  have ex := (Ext.heap ft k).ins (freshAt s.heap) g'
  exact h _ _ h' tk ex (.list ins_self (repSigns hi))

/-- reach -/
def rchC (h : Str) : Bool :=
  hdn h && ((decide (0 ≤ Txt.find (sslice h (some (Txt.find h dot + 1)) none none) dot) || (sslice h (some (Txt.find h dot + 1)) none none == Str.ofString "local" || false)) && true)
def rch (h : Str) : Str :=
  if 0 ≤ Txt.find h dot then (if rchC h = true then dot ++ sslice h (some (Txt.find h dot + 1)) none none else h) else h
theorem ev_reach (hroom : A.depth + 1 < recursionLimit) (hx : x.length ≤ 2 ^ 16) (hz : (sslice x (some (Txt.find x dot + 1)) none none).length ≤ 2 ^ 20) (ok : ipOk x = true) :
    EV (model prog w) A (fun F h => Gl w h ∧ RepAll F vs [.str x]) (call (.ref 57) vs) (.str (rch x)) := by
  refine fn_call1 (p := Str.ofString "h") (by omega) at_reach (by intros; rfl) (fun k => .inl (by rfl)) (by intros; rfl) (fun L cd => ?_) (by rfl) (by rfl) (by rfl)
  have hr : (A.deeper (fe 57 L cd)).depth < recursionLimit := hroom
  generalize A.deeper (fe 57 L cd) = A' at hr
  show EX (model prog w) A' (Gl w) (fe 57 L cd) _ (execs (_ :: _ :: _) _) _
  refine ex_next (ex_assign (fun K => m_find (y := dot) ⟨by rfl, by rfl, by rfl, by rfl⟩ St.mono (ev_var (by rfl) (by rfl)) (ea1 St.mono ev_str)) (by rfl)) ?_
  have hb1 : x.length ≤ sizeLine := by rw [sizeLine_eq]; omega
  have hb2 : (sslice x (some (Txt.find x dot + 1)) none none).length ≤ sizeLine := by rw [sizeLine_eq]; omega
  by_cases h1 : 0 ≤ Txt.find x dot
  · cases h2 : rchC x with
    | true =>
      have e : rch x = dot ++ sslice x (some (Txt.find x dot + 1)) none none := by unfold rch; rw [if_pos h1, if_pos h2]
      rw [e]
      refine ex_ret (ex_if (b := true) (fun K => ?_) (fun _ => ?_) (fun q => by cases q))
      · rw [show true = decide (0 ≤ Txt.find x dot) from by simp [h1]]
        exact eb_compare St.mono (ev_var (by rfl) (by rfl)) ev_int (fun a c => op_ge_int)
      refine ex_next (ex_assign (fun K => ev_slice_str St.mono (ev_var (by rfl) (by rfl)) (.some (ev_binop St.mono (ev_var (by rfl) (by rfl)) ev_int (fun a b => op_add_int))) .none .none (by rfl) hb1 hb2) (by rfl)) ?_
      refine ex_next (ex_assign (fun K => m_find (y := dot) ⟨by rfl, by rfl, by rfl, by rfl⟩ St.mono (ev_var (by rfl) (by rfl)) (ea1 St.mono ev_str)) (by rfl)) ?_
      refine ex_ret (ex_if (b := rchC x) (fun K => ?_) (fun _ => ?_) (fun q => by rw [h2] at q; cases q))
      · exact eb_boolop (eb_and_cons St.mono (eb_value St.mono (ev_def St.mono (fun F h S => S.glob) (nv_global (fun F h S => S.glob) (by kernel_rfl) (by rfl) (by rfl) (by rfl) (by rfl)) at_hdn (ea1 St.mono (ev_var (by rfl) (by rfl)))
          (fun vs => ev_hdn hr (by show x.length ≤ _; omega) ok) (by rfl)) (fun a => tr_bool)) fun _ => eb_and_cons St.mono (eb_boolop (eb_or_cons St.mono (eb_compare St.mono (ev_var (by rfl) (by rfl)) ev_int (fun a c => op_ge_int)) fun _ =>
          eb_or_cons St.mono (eb_compare St.mono (ev_var (by rfl) (by rfl)) ev_str (fun a c => op_eq_str)) fun _ => eb_or_nil)) fun _ => eb_and_nil)
      refine ex_ret (ex_return fun K => ev_binop St.mono (ev_str (x := dot)) (ev_var (by rfl) (by rfl)) (fun a b => op_add_str ?_))
      have : dot.length = 1 := by decide +kernel
      rw [this, sizeLine_eq]; omega
    | false =>
      have e : rch x = x := by unfold rch; rw [if_pos h1, if_neg (by rw [h2]; simp)]
      rw [e]
      refine ex_next (ρ' := [(Str.ofString "h", B.imm (PyData.str x))]) (ex_if (b := true) (fun K => ?_) (fun _ => EX.forget (ρ' := [(Str.ofString "i", B.imm (PyData.int (Txt.find (sslice x (some (Txt.find x dot + 1)) none none) dot))), (Str.ofString "b", B.imm (PyData.str (sslice x (some (Txt.find x dot + 1)) none none))), (Str.ofString "i", B.imm (PyData.int (Txt.find x dot))), (Str.ofString "h", B.imm (PyData.str x))]) ?_ ?_) (fun q => by cases q)) ?_
      · rw [show true = decide (0 ≤ Txt.find x dot) from by simp [h1]]
        exact eb_compare St.mono (ev_var (by rfl) (by rfl)) ev_int (fun a c => op_ge_int)
      · refine ex_next (ex_assign (fun K => ev_slice_str St.mono (ev_var (by rfl) (by rfl)) (.some (ev_binop St.mono (ev_var (by rfl) (by rfl)) ev_int (fun a b => op_add_int))) .none .none (by rfl) hb1 hb2) (by rfl)) ?_
        refine ex_next (ex_assign (fun K => m_find (y := dot) ⟨by rfl, by rfl, by rfl, by rfl⟩ St.mono (ev_var (by rfl) (by rfl)) (ea1 St.mono ev_str)) (by rfl)) ?_
        refine ex_next (ex_if (b := rchC x) (fun K => ?_) (fun q => by rw [h2] at q; cases q) (fun _ => ex_nil)) ex_nil
        exact eb_boolop (eb_and_cons St.mono (eb_value St.mono (ev_def St.mono (fun F h S => S.glob) (nv_global (fun F h S => S.glob) (by kernel_rfl) (by rfl) (by rfl) (by rfl) (by rfl)) at_hdn (ea1 St.mono (ev_var (by rfl) (by rfl)))
          (fun vs => ev_hdn hr (by show x.length ≤ _; omega) ok) (by rfl)) (fun a => tr_bool)) fun _ => eb_and_cons St.mono (eb_boolop (eb_or_cons St.mono (eb_compare St.mono (ev_var (by rfl) (by rfl)) ev_int (fun a c => op_ge_int)) fun _ =>
          eb_or_cons St.mono (eb_compare St.mono (ev_var (by rfl) (by rfl)) ev_str (fun a c => op_eq_str)) fun _ => eb_or_nil)) fun _ => eb_and_nil)
      · intro y b q
        rcases lookup_ins q with ⟨rfl, q'⟩ | ⟨_, q⟩
        · cases q'; rfl
        · cases q
      · exact ex_ret (ex_return fun K => ev_var (by rfl) (by rfl))
  · have e : rch x = x := by unfold rch; rw [if_neg h1]
    rw [e]
    refine ex_next (ex_if (b := false) (fun K => ?_) (fun q => by cases q) (fun _ => ex_nil)) ?_
    · rw [show false = decide (0 ≤ Txt.find x dot) from by simp [h1]]
      exact eb_compare St.mono (ev_var (by rfl) (by rfl)) ev_int (fun a c => op_ge_int)
    · exact ex_ret (ex_return fun K => ev_var (by rfl) (by rfl))

/-- the row's text -/
def rowT : Str := Str.ofString "( ) [ ] : , ; + - * / | & < > = . % { } == != <= >= ~ ^ << >> ** += -= *= /= %= &= |= ^= <<= >>= **= // //= @ @= -> ... := !"
def rowL : List Str := Txt.split rowT (Str.ofString " ")
theorem rowT_len : rowT.length ≤ 2 ^ 20 := by decide +kernel
theorem rowL_len : rowL.length ≤ 2 ^ 20 := by decide +kernel
theorem ev_row (hroom : A.depth < recursionLimit) : EV (model prog w) A (fun F h => Gl w h ∧ RepAll F vs []) (call (.ref 74) vs) (.list (rowL.map .str)) := by
  refine fn_call0 hroom at_row (by intros; rfl) (fun L cd => ?_) (by rfl) (by rfl) (by rfl)
  generalize A.deeper (fe 74 L cd) = A'
  show EX (model prog w) A' (Gl w) (fe 74 L cd) _ (execs (_ :: _) _) _
  exact ex_ret (ex_return fun K => m_split (x := rowT) (y := Str.ofString " ") ⟨by rfl, by rfl, by rfl, by rfl⟩ St.mono ev_str (ea1 St.mono ev_str) (by decide +kernel) rowT_len rowL_len)

/-- _law_host -/
def hostF (x top : Str) : Str := Txt.join dot (signs (sslice x none none (some (-1))) ++ [top])
structure HostOk (x top : Str) : Prop where
  a : x.length ≤ 2 ^ 16
  b : (sslice x none none (some (-1))).length ≤ 2 ^ 16
  j : JoinOk dot (signs (sslice x none none (some (-1))) ++ [top]) = true
theorem ev_host (hh : A.handled = none) (hroom : A.depth < recursionLimit) (ok : HostOk x y) : EV (model prog w) A (fun F h => Gl w h ∧ RepAll F vs [.str x, .str y]) (call (.ref 81) vs) (.str (hostF x y)) := by
  refine fn_call2 (p := Str.ofString "text") (q := Str.ofString "top") hroom at_host (by intros; rfl) (fun k z hz => by rcases hz with rfl | rfl <;> exact .inl (by rfl)) (by intros; exact ⟨by rfl, by rfl⟩) (fun L cd => ?_) (by rfl) (by rfl) (by rfl)
  have hh' : (A.deeper (fe 81 L cd)).handled = none := hh
  generalize A.deeper (fe 81 L cd) = A' at hh'
  have oka := ok.a
  have okb := ok.b
  show EX (model prog w) A' (Gl w) (fe 81 L cd) _ (execs (_ :: _) _) _
  refine ex_ret (ex_return fun K => m_join (x := dot) (xs := signs (sslice x none none (some (-1))) ++ [y]) ⟨by rfl, by rfl, by rfl, by rfl⟩ St.mono ev_str (ea1 St.mono ?_) ok.j)
  rw [List.map_append]
  refine ev_binop St.mono (ev_call_type (T := "list") (ds := [.str (sslice x none none (some (-1)))]) St.mono (nv_builtin (fun F h S => S.glob) (by kernel_rfl) (by kernel_rfl!) (by decide +kernel) (by rfl) (by rfl) (by rfl) (by rfl) (by rfl)) (ea1 St.mono ?_) (fun vs => ca_list_str hh' (by show (sslice x none none (some (-1))).length ≤ _; rw [sizeLine_eq]; omega)))
    (ev_list (ea1 St.mono (ev_var (by rfl) (by rfl))) (by show 1 ≤ sizeLine; decide)) (fun a b => op_add_list ?_)
  · exact ev_slice_str St.mono (ev_var (by rfl) (by rfl)) .none .none (.some (ev_unary St.mono ev_int fun a => op_neg_int)) (by rfl) (by rw [sizeLine_eq]; omega) (by rw [sizeLine_eq]; omega)
  · have : (signs (sslice x none none (some (-1)))).length = (sslice x none none (some (-1))).length := by
      unfold signs; rw [List.length_map]; exact Array.length_toList
    rw [List.length_map, this, sizeLine_eq]
    show _ + 1 ≤ _
    omega
end
end Mine

end
section
open PySem PyProof.Rows
set_option maxRecDepth 100000
set_option linter.unusedVariables false
namespace Mine

/-- the stores of a turn, one behind the other -/
def StoreAll (M : Model) (A : Around) (env : Env) (Q : Unit → Shared → Prop) (E : Value → Shared → Prop) : List Str → List Value → Shared → Prop
  | x :: xs, v :: vs, s => wpAny M A (storeName env x v) (fun _ s' => StoreAll M A env Q E xs vs s') E s
  | _, _, s => Q () s

/-- an iterator with its for's target: what a turn stores -/
structure Cyc (prog : Program) (w : World) (A : Around) (target : Expr) (I : Addr) (fp wr : List Addr) (n : Nat) (J : Nat → Heap → Prop) (xs : List Str) (P : Nat → List Value → Prop) : Prop where
  sub : ∀ b ∈ wr, b ∈ fp
  frame : ∀ i h h', J i h → (∀ b ∈ fp, ∀ o, h.get? b = some o → h'.get? b = some o) → J i h'
  item : ∀ i (s : Shared) (env : Env) (Q : Unit → Shared → Prop) (E : Value → Shared → Prop), i < n → J i s.heap →
    (∀ vs h' tk, P i vs → J (i + 1) h' → (∀ b o, b ∉ wr → s.heap.get? b = some o → h'.get? b = some o) → StoreAll (model prog w) A env Q E xs vs { s with heap := h', toks := tk }) →
    wpAny (model prog w) A (pyNext (.ref I)) (fun r s₁ => match r with
      | none => False
      | some v => wpAny (model prog w) A (letOwnedTupleGo target (.ref I) v) (fun _ s₂ => wpAny (model prog w) A (assign target env v) Q E s₂) E s₁) E s
  done : ∀ (s : Shared) (Q : Option Value → Shared → Prop) (E : Value → Shared → Prop), J n s.heap →
    (∀ h' tk, (∀ b o, b ∉ wr → s.heap.get? b = some o → h'.get? b = some o) → Q none { s with heap := h', toks := tk }) → wpAny (model prog w) A (pyNext (.ref I)) Q E s
  self : ∀ i (s : Shared) (Q : Value → Shared → Prop) (E : Value → Shared → Prop), J i s.heap → Q (.ref I) s → wpAny (model prog w) A (pyIter (.ref I)) Q E s
  here : ∀ i h, J i h → ∀ b ∈ fp, ∃ o, h.get? b = some o

section
variable {prog : Program} {w : World} {A : Around} {I : Addr} {fp wr : List Addr} {n : Nat} {J : Nat → Heap → Prop} {P : Nat → Value → Prop} {x y : Str} {p q pt : Pos}
theorem cyc_name (W : Walks prog w A I fp wr n P J) (here : ∀ i h, J i h → ∀ b ∈ fp, ∃ o, h.get? b = some o) : Cyc prog w A (.Name x p) I fp wr n J [x] (fun i vs => ∃ v, vs = [v] ∧ P i v) where
  sub := W.sub
  frame := W.frame
  item := fun i s env Q E hi hJ hQ => W.item i s _ E hi hJ fun v h' tk hP hJ' hk => by
    exact wpAny_pure (wpAny_assign_Name (hQ [v] h' tk ⟨v, rfl, hP⟩ hJ' hk))
  done := W.done
  self := W.self
  here := here

theorem cyc_pair (hh : A.handled = none) {Pt : Nat → Array Value → Prop} {Mid : Nat → Addr → Heap → Prop} {k : Nat} (W : WalksT prog w A I fp wr n Pt J Mid) (h2 : ∀ i vals, Pt i vals → ∃ v0 v1, vals = #[v0, v1]) (here : ∀ i h, J i h → ∀ b ∈ fp, ∃ o, h.get? b = some o)
    :
    Cyc prog w A (.Tuple [.Name x p, .Name y q] k pt) I fp wr n J [x, y] (fun i vs => ∃ v0 v1, vs = [v0, v1] ∧ Pt i #[v0, v1]) where
  sub := W.sub
  frame := W.frame
  item := fun i s env Q E hi hJ hQ => W.item i s _ E hi hJ fun T vals h₁ tk₁ hPt _ hT hMid hk₁ => by
    obtain ⟨v0, v1, rfl⟩ := h2 i vals hPt
    refine W.go _ k pt i T _ _ _ hMid fun h₂ hst₂ hk₂ => ?_
    have ht₂ : h₂.IsTuple T #[v0, v1] := hT.at fun o e => hk₂ T o (W.apart i T h₁ hMid) e
    refine wpAny_assign_Tuple hh ht₂ rfl rfl fun h₃ hx₃ => ?_
    replace hx₃ : Heap.ExtBut h₂.objs.size h₂ h₃ := hx₃
    have up₃ : ∀ b o, h₂.get? b = some o → h₃.get? b = some o := fun b o x => hx₃ b o (Nat.ne_of_lt (Heap.lt_size x)) x
    show wpAny _ A (do holding [v1] (assign (.Name x p) env v0); do holding [] (assign (.Name y q) env v1); pure ()) _ _ _
    have h3 := hQ [v0, v1] h₃ tk₁ ⟨v0, v1, rfl, hPt⟩ (W.frame _ _ _ hst₂ fun b _ o e => up₃ b o e) fun b o hb e => up₃ b o (hk₂ b o hb (hk₁ b o hb e))
    refine wpAny_bind (wpAny_holding (wpAny_assign_Name (wpAny_mono h3 (fun _ s' z => ?_) fun _ _ z => z)))
    exact wpAny_bind (wpAny_holding (wpAny_assign_Name (wpAny_mono z (fun _ s'' z' => wpAny_pure z') fun _ _ z => z)))
  done := W.done
  self := W.self
  here := here
end
end Mine

end
section
open PySem PyProof.Rows
set_option maxRecDepth 100000
set_option linter.unusedVariables false
namespace Mine

/-- the expression is iterated: its turns store these data -/
def EI (prog : Program) (w : World) (A : Around) (Ok : Cond) (target iter : Expr) (env : Env) (xs : List Str) (dss : List (List PyData)) : Prop :=
  ∀ (F : FM) (s : Shared) (Q : Value → Shared → Prop) (E : Value → Shared → Prop), Fit F s.heap → Ok F s.heap →
    (∀ I fp wr J P F' h' tk, Ext F s.heap F' h' → Cyc prog w A target I fp wr dss.length J xs P → J 0 h' → (∀ b ∈ wr, s.heap.get? b = none ∧ F' b = none) → (∀ b ∈ fp, b ∈ wr ∨ ∃ o, F' b = some o) →
      (∀ i vs, P i vs → ∃ ds, dss[i]? = some ds ∧ RepAll F' vs ds) → Q (.ref I) { s with heap := h', toks := tk }) →
    wpAny (model prog w) A (eval iter env) (fun xv s₁ => wpAny (model prog w) A (pyIter xv) Q E s₁) E s

def bindAll : List Str → List PyData → Rho → Rho
  | x :: xs, d :: ds, ρ => bindAll xs ds ((x, .imm d) :: ρ)
  | _, _, ρ => ρ

/-- the iterator's own objects are kept besides -/
noncomputable def kplus (K : FM) (wr : List Addr) (h : Heap) : FM := fun b => if b ∈ wr then h.get? b else K b

section
variable {prog : Program} {w : World} {A : Around} {M : Model} {G : Heap → Prop} {K F F' : FM} {h h' : Heap} {e : Env} {ρ ρ' : Rho} {xs : List Str} {wr : List Addr}

theorem store_all {E : Value → Shared → Prop} {Q : Unit → Shared → Prop} : ∀ (xs : List Str) (vs : List Value) (ds : List PyData) (ρ : Rho) (s : Shared), St G K e ρ F s.heap → (∀ x ∈ xs, okName e x = true) → RepAll F vs ds →
    (∀ h' tk, St G K e (bindAll xs ds ρ) F h' → Q () { s with heap := h', toks := tk }) → StoreAll M A e Q E xs vs s
  | [], vs, ds, ρ, s, S, _, r, hQ => by
    have := hQ s.heap s.toks (by simpa [bindAll] using S)
    cases vs <;> exact this
  | x :: xs, [], ds, ρ, s, S, _, r, hQ => by cases r; exact hQ s.heap s.toks S
  | x :: xs, v :: vs, ds, ρ, s, S, hx, r, hQ => by
    cases r with
    | cons r1 r => exact store_imm S (hx x (.head _)) r1 fun h' tk S' => store_all xs vs _ _ { s with heap := h', toks := tk } S' (fun y hy => hx y (.tail _ hy)) r fun h₂ tk₂ S₂ => hQ h₂ tk₂ S₂

/-- iterator objects turn, all else stays -/
theorem St.step (S : St G (kplus K wr h) e ρ F h) (gK : ∀ h, Fit K h → G h) (hK : ∀ b ∈ wr, K b = none) (hF : ∀ b ∈ wr, F b = none) (hw : ∀ b ∈ wr, ∃ o, h.get? b = some o)
    (hk : ∀ b o, b ∉ wr → h.get? b = some o → h'.get? b = some o) (hw' : ∀ b ∈ wr, ∃ o, h'.get? b = some o) : St G (kplus K wr h') e ρ F h' := by
  obtain ⟨m, cm, S⟩ := S
  have off : ∀ b, kplus K wr h b = none → b ∉ wr := fun b q hb => by
    unfold kplus at q; rw [if_pos hb] at q
    obtain ⟨o, p⟩ := hw b hb; rw [p] at q; cases q
  have kn : ∀ b, kplus K wr h b = none → kplus K wr h' b = none := fun b q => by
    have := off b q
    unfold kplus at q ⊢; rw [if_neg this] at q ⊢; exact q
  refine ⟨m, cm, S.kind, fun h'' f => gK _ fun b o q => f b o ?_, ?_, ⟨fun x c q => ?_, S.cl.apart, S.cl.above⟩, fun b o q => ?_, fun b o q => ?_, ⟨kn _ S.offL.1, S.offL.2⟩, fun x c q => ⟨kn _ (S.offC x c q).1, (S.offC x c q).2⟩, S.imm, fun x ds q => ?_, S.apart⟩
  · unfold kplus; rw [if_neg (fun hb => by rw [hK b hb] at q; cases q)]; exact q
  · exact S.ns.at' fun o q => hk _ o (off _ S.offL.1) q
  · obtain ⟨o, g, d⟩ := S.cl.cell x c q
    exact ⟨o, hk _ o (off _ (S.offC x c q).1) g, d⟩
  · exact hk b o (fun hb => by rw [hF b hb] at q; cases q) (S.fit b o q)
  · unfold kplus at q
    split at q
    · exact q
    · next hb => exact hk b o hb (S.kept b o (by unfold kplus; rw [if_neg hb]; exact q))
  · obtain ⟨a, n, vs, i, j, f, g, r⟩ := S.mt x ds q
    exact ⟨a, n, vs, i, kn _ j, f, hk _ _ (off _ j) g, r⟩
theorem St.enter (S : St G K e ρ F h) (hk : Ext F h F' h') (hw : ∀ b ∈ wr, h.get? b = none ∧ F' b = none) : St G (kplus K wr h') e ρ F' h' := by
  obtain ⟨m, cm, S⟩ := S
  have S' := S.ext hk
  have off : ∀ {b o}, h.get? b = some o → b ∉ wr := fun {b o} q hb => by rw [(hw b hb).1] at q; cases q
  have kn : ∀ {b o}, h.get? b = some o → K b = none → kplus K wr h' b = none := fun {b o} q p => by unfold kplus; rw [if_neg (off q)]; exact p
  refine ⟨m, cm, S.kind, fun h'' f => S.gl _ fun b o q => f b o ?_, S'.ns, S'.cl, S'.fit, fun b o q => ?_, ⟨?_, S'.offL.2⟩, fun x c q => ⟨?_, (S'.offC x c q).2⟩, S'.imm, fun x ds q => ?_, S'.apart⟩
  · unfold kplus; rw [if_neg (off (S.kept _ _ q))]; exact q
  · unfold kplus at q
    split at q
    · exact q
    · exact S'.kept b o q
  · obtain ⟨o, _, _, g, _⟩ := S.ns; exact kn g S.offL.1
  · obtain ⟨o, g, _⟩ := S.cl.cell x c q; exact kn g (S.offC x c q).1
  · obtain ⟨a, n, vs, i, j, f, g, r⟩ := S.mt x ds q
    obtain ⟨a', n', vs', i', j', f', g', r'⟩ := S'.mt x ds q
    rw [i] at i'; cases i'
    exact ⟨a, n', vs', i, kn g j, f', g', r'⟩
theorem St.dropK {K' : FM} (S : St G K' e ρ F h) (gK : ∀ h, Fit K h → G h) (hk : FLe K K') : St G K e ρ F h := by
  obtain ⟨m, cm, S⟩ := S
  have kn : ∀ {b}, K' b = none → K b = none := fun {b} q => by
    cases r : K b with
    | none => rfl
    | some o => rw [hk _ _ r] at q; cases q
  exact ⟨m, cm, S.kind, gK, S.ns, S.cl, S.fit, fun b o q => S.kept b o (hk b o q), ⟨kn S.offL.1, S.offL.2⟩, fun x c q => ⟨kn (S.offC x c q).1, (S.offC x c q).2⟩, S.imm, fun x ds q => let ⟨a, n, vs, i, j, f, g, r⟩ := S.mt x ds q; ⟨a, n, vs, i, kn j, f, g, r⟩, S.apart⟩
theorem St.congrK {K' : FM} (S : St G K' e ρ F h) (hk : ∀ b, K' b = K b) : St G K e ρ F h := by
  have : K' = K := funext hk
  rw [← this]; exact S

theorem ex_for {target iter : Expr} {body : List Stmt} {pos : Pos} {ρ : Nat → Rho} {dss : List (List PyData)} (hi : ∀ K, EI prog w A (St G K e (ρ 0)) target iter e xs dss) (hx : ∀ x ∈ xs, okName e x = true)
    (hb : ∀ i ds, dss[i]? = some ds → EX (model prog w) A G e (bindAll xs ds (ρ i)) (execs body e) (.next (ρ (i + 1))))
    (hs : ∀ x, foldedSetIterable iter e x = pure x := by intro _; rfl) :
    EX (model prog w) A G e (ρ 0) (exec (.For target iter body [] pos) e) (.next (ρ dss.length)) := fun K F s Q E S hQ => by
  refine wpAny_For (hi K F s _ E S.fit S fun I fp wr J P F₁ h₁ tk₁ l₁ C j0 hw hfp hP => ?_) hs
  have gK : ∀ h, Fit K h → G h := by obtain ⟨m, cm, S⟩ := S; exact S.gl
  have hKw : ∀ b ∈ wr, K b = none := fun b hb => by
    cases q : K b with
    | none => rfl
    | some o => have := S.kept _ _ q; rw [(hw b hb).1] at this; cases this
  refine codeAny_forLoop_any (fun k s' => ∃ i F' h' tk, s' = { s with heap := h', toks := tk } ∧ i ≤ dss.length ∧ k = dss.length + 1 - i ∧ J i h' ∧ St G (kplus K wr h') e (ρ i) F' h' ∧ FLe F₁ F' ∧ New K F₁ F' ∧ (∀ b ∈ wr, F' b = none)) ?_ (dss.length + 1)
    ⟨0, F₁, h₁, tk₁, rfl, Nat.zero_le _, rfl, j0, S.enter l₁ hw, .refl, .refl, fun b hb => (hw b hb).2⟩
  rintro k s' ⟨i, F', h', tk, rfl, hin, rfl, hJ, S', f', n', hF'⟩
  have wrHere : ∀ {i h}, J i h → ∀ b ∈ wr, ∃ o, h.get? b = some o := fun {i h} q b hb => C.here i h q b (C.sub b hb)
  by_cases hlt : i < dss.length
  · refine wpAny_mono (C.item i { s with heap := h', toks := tk } e ?q _ hlt hJ ?hst) (fun r s₁ h₁ => ?hend) fun _ _ z => z
    case hend =>
      cases r with
      | none => exact h₁.elim
      | some v => exact h₁
    intro vs h₂ tk₂ hPv hJ₂ hk₂
    obtain ⟨ds, hds, rv⟩ := hP i vs hPv
    have S₂ := S'.step gK hKw hF' (wrHere hJ) hk₂ (wrHere hJ₂)
    refine store_all xs vs ds (ρ i) { s with heap := h₂, toks := tk₂ } S₂ hx (rv.le f') fun h₃ tk₃ S₃ => ?_
    refine hb i ds hds _ F' _ _ _ S₃ fun F₄ h₄ tk₄ f₄ n₄ S₄ => ?_
    have hF₄ : ∀ b ∈ wr, F₄ b = none := fun b hb => by
      cases q : F₄ b with
      | none => rfl
      | some o =>
        rcases n₄ b o q with r | r
        · rw [hF' b hb] at r; cases r
        · unfold kplus at r; rw [if_pos hb] at r
          obtain ⟨o', p⟩ := wrHere hJ₂ b hb
          rw [p] at r; cases r
    have same : ∀ b ∈ wr, h₄.get? b = h₂.get? b := fun b hb => by
      obtain ⟨o, p⟩ := wrHere hJ₂ b hb
      rw [p]
      exact S₄.kept b o (by unfold kplus; rw [if_pos hb]; exact p)
    refine ⟨dss.length + 1 - (i + 1), by omega, i + 1, F₄, h₄, tk₄, rfl, hlt, rfl, ?_, S₄.congrK fun b => ?_, f'.trans f₄, n'.trans fun b o q => (n₄ b o q).imp_right fun r => ?_, hF₄⟩
    · refine C.frame _ _ _ hJ₂ fun b hb o q => ?_
      rcases hfp b hb with hbw | ⟨o', p⟩
      · rw [same b hbw]; exact q
      · have : o' = o := by
          have p2 := S₂.fit b o' (f' b o' p)
          rw [q] at p2; exact (Option.some.inj p2).symm
        subst this
        exact S₄.fit b o' (f₄ b o' (f' b o' p))
    · unfold kplus
      split
      · next hb => rw [same b hb]
      · rfl
    · unfold kplus at r
      split at r
      · next hb => exact hKw b hb
      · exact r
  · have : i = dss.length := by omega
    subst this
    refine C.done _ _ _ hJ fun h₂ tk₂ hk₂ => ?_
    refine wpAny_execs_nil ?_
    have fin : St G K e (ρ dss.length) F' h₂ := by
      obtain ⟨m, cm, S⟩ := S'
      have off : ∀ b, kplus K wr h' b = none → b ∉ wr := fun b q hb => by
        unfold kplus at q; rw [if_pos hb] at q
        obtain ⟨o, p⟩ := wrHere hJ b hb; rw [p] at q; cases q
      have kn : ∀ {b}, kplus K wr h' b = none → K b = none := fun {b} q => by
        have := off b q; unfold kplus at q; rw [if_neg this] at q; exact q
      refine ⟨m, cm, S.kind, gK, S.ns.at' fun o q => hk₂ _ o (off _ S.offL.1) q, ⟨fun x c q => ?_, S.cl.apart, S.cl.above⟩, fun b o q => hk₂ b o (fun hb => by rw [hF' b hb] at q; cases q) (S.fit b o q), fun b o q => ?_,
        ⟨kn S.offL.1, S.offL.2⟩, fun x c q => ⟨kn (S.offC x c q).1, (S.offC x c q).2⟩, S.imm, fun x ds q => ?_, S.apart⟩
      · obtain ⟨o, g, d⟩ := S.cl.cell x c q
        exact ⟨o, hk₂ _ o (off _ (S.offC x c q).1) g, d⟩
      · have hb : b ∉ wr := fun hb => by rw [hKw b hb] at q; cases q
        exact hk₂ b o hb (S.kept b o (by unfold kplus; rw [if_neg hb]; exact q))
      · obtain ⟨a, n, vs, i, j, f, g, r⟩ := S.mt x ds q
        exact ⟨a, n, vs, i, kn j, f, hk₂ _ _ (off _ j) g, r⟩
    exact hQ F' h₂ tk₂ (l₁.f.trans f') ((l₁.new (by obtain ⟨m, cm, S⟩ := S; exact S.kept)).trans n') fin
end
end Mine

end
section
open PySem PyProof.Rows PySem.W
set_option maxRecDepth 100000
set_option linter.unusedVariables false
namespace Mine

section
variable {prog : Program} {w : World} {A : Around} {Ok : Cond} {env : Env} {x y : Str} {p q pt pos fp : Pos} {iter e₁ e₂ e₃ : Expr} {ds : List PyData} {a b c : Int}

theorem ei_list (hh : A.handled = none) (h : EV (model prog w) A Ok (eval iter env) (.list ds)) : EI prog w A Ok (.Name x p) iter env [x] (ds.map fun d => [d]) := fun F s Q E ft ok hQ =>
  h F s _ E ft ok fun v F₁ h₁ tk₁ l₁ r₁ => by
    cases r₁ with | @list ax n vs _ g r =>
    have g₁ := l₁.k _ _ g
    have hl : h₁.IsList ax vs.toArray := ⟨_, g₁, rfl, n, rfl⟩
    refine wpAny_pyIter_list (s := { s with heap := h₁, toks := tk₁ }) hl ?_
    have hne : ax ≠ h₁.objs.size := fun e => by rw [e, freshAt] at g₁; cases g₁
    have W := Walks.list (prog := prog) (w := w) hh h₁.objs.size ax hne vs.toArray
    have C := cyc_name (x := x) (p := p) W (fun i h st b hb => by
      rcases List.mem_cons.mp hb with rfl | hb
      · obtain ⟨o, g, _⟩ := st.1; exact ⟨o, g⟩
      · rcases List.mem_cons.mp hb with rfl | hb
        · obtain ⟨o, g, _⟩ := st.2; exact ⟨o, g⟩
        · cases hb)
    have len : vs.toArray.size = (ds.map fun d => [d]).length := by simp [r.length]
    rw [len] at C
    refine hQ h₁.objs.size _ _ _ _ F₁ _ tk₁ (l₁.trans (Ext.heap l₁.k (Le.push _ _))) C ⟨⟨_, Heap.get?_push_size _ rfl, rfl, rfl⟩, hl.push _⟩ (fun b hb => ?_) (fun b hb => ?_) (fun i us hu => ?_)
    · simp at hb; subst hb
      refine ⟨l₁.l.none (freshAt _), ?_⟩
      cases q : F₁ h₁.objs.size with
      | none => rfl
      | some o => have := l₁.k _ _ q; rw [freshAt] at this; cases this
    · rcases List.mem_cons.mp hb with rfl | hb
      · exact .inl (by simp)
      · rcases List.mem_cons.mp hb with rfl | hb
        · exact .inr ⟨_, g⟩
        · cases hb
    · obtain ⟨v, rfl, hv⟩ := hu
      obtain ⟨d, hd, rd⟩ := r.get' (k := i) (by simpa using hv)
      exact ⟨[d], by simp [hd], .cons rd .nil⟩

def rangeD (a b c : Int) : List (List PyData) := (List.range (Builtin.Range.rangeSize a b c).toNat).map fun i => [.int (a + (i : Nat) * c)]
theorem range_iter {F : FM} {s : Shared} {E : Value → Shared → Prop} {Q : Value → Shared → Prop} {r : Addr} {t u v : Tok} (hh : A.handled = none) (ft : Fit F s.heap) (hr : IsRange s.heap r a b c t u v) (hs : Builtin.Range.small a b c = true) (hn : 0 ≤ Builtin.Range.rangeSize a b c)
    (hQ : ∀ I fp wr J P h', Ext F s.heap F h' → Cyc prog w A (.Name x p) I fp wr (rangeD a b c).length J [x] P → J 0 h' → (∀ b ∈ wr, s.heap.get? b = none ∧ F b = none) → (∀ b ∈ fp, b ∈ wr ∨ ∃ o, F b = some o) →
      (∀ i vs, P i vs → ∃ ds, (rangeD a b c)[i]? = some ds ∧ RepAll F vs ds) → Q (.ref I) { s with heap := h' }) :
    wpAny (model prog w) A (pyIter (.ref r)) Q E s := by
  refine wpAny_pyIter_range hr hs ?_
  have W := Walks.range (prog := prog) (w := w) hh s.heap.objs.size a c (Builtin.Range.rangeSize a b c).toNat
  have W' : Walks prog w A s.heap.objs.size [s.heap.objs.size] [s.heap.objs.size] (Builtin.Range.rangeSize a b c).toNat (fun i v => i < (Builtin.Range.rangeSize a b c).toNat ∧ ∃ t, v = .int (a + i * c) t)
      (fun i h => IsRangeIter h s.heap.objs.size (a + (i : Nat) * c) (((Builtin.Range.rangeSize a b c).toNat : Int) - (i : Nat)) c) :=
    ⟨W.sub, W.frame, fun i s Q E hi hst hQ => W.item i s Q E hi hst fun v h' tk hp => hQ v h' tk ⟨hi, hp⟩, W.done, W.self⟩
  have C := cyc_name (x := x) (p := p) W' (fun i h st b hb => by simp at hb; subst hb; exact ⟨_, st⟩)
  have len : (Builtin.Range.rangeSize a b c).toNat = (rangeD a b c).length := by simp [rangeD]
  have fr : F s.heap.objs.size = none := by
    cases q : F s.heap.objs.size with
    | none => rfl
    | some o => have := ft _ _ q; rw [freshAt] at this; cases this
  refine hQ s.heap.objs.size _ _ _ _ _ (Ext.heap ft (Le.push _ _)) (len ▸ C) ?_ (fun b hb => ?_) (fun b hb => .inl hb) (fun i us hu => ?_)
  · have e1 : (a + ((0 : Nat) : Int) * c) = a := by simp
    have e2 : (((Builtin.Range.rangeSize a b c).toNat : Int) - ((0 : Nat) : Int)) = Builtin.Range.rangeSize a b c := by omega
    rw [e1, ← len, e2]
    exact Heap.get?_push_size _ rfl
  · simp at hb; subst hb; exact ⟨freshAt _, fr⟩
  · obtain ⟨v, rfl, hi, t, rfl⟩ := hu
    rw [← len] at hi
    exact ⟨[.int (a + (i : Nat) * c)], by simp [rangeD, hi], .cons (.int _ _) .nil⟩

theorem ei_range1 (hh : A.handled = none) (hn : NV (model prog w) A Ok env (Str.ofString "range") (.type "range")) (h1 : EA (model prog w) A Ok (backTo pos (starEach [e₁] env)) [.int b])
    (hs : Builtin.Range.small 0 b 1 = true) (hz : 0 ≤ Builtin.Range.rangeSize 0 b 1) (hp : (backTo pos (starEach [e₁] env)).any (·.1) = false := by rfl) :
    EI prog w A Ok (.Name x p) (.Call (.Name (Str.ofString "range") fp) [e₁] [] pos) env [x] (rangeD 0 b 1) := fun F s Q E ft ok hQ => by
  refine wpAny_Call_NameR (hn _ F s _ E ok ?_)
  refine PySem.callWith_type hp (args_any hp (h1 F s _ E ft ok fun vs F₁ h₁ tk₁ l₁ r₁ => ?_))
  cases r₁ with | cons r r₁ => cases r₁; cases r with | int _ t =>
  refine call_range_1 ?_
  have x₁ := l₁.trans (Ext.heap (h' := h₁.push { cls := .type "range", data := .fields #[.int 0 tk₁, .int b t, .int 1 (tk₁ + 1)] }) l₁.k (Le.push _ _))
  refine range_iter (x := x) (p := p) (F := F₁) hh x₁.k (Heap.get?_push_size _ rfl) hs hz fun I fp wr J P h' l C j0 hw hf hP => ?_
  exact hQ I fp wr J P F₁ h' _ (x₁.trans l) C j0 (fun b hb => ⟨x₁.l.none (hw b hb).1, (hw b hb).2⟩) hf hP

theorem ei_range2 (hh : A.handled = none) (hn : NV (model prog w) A Ok env (Str.ofString "range") (.type "range")) (h1 : EA (model prog w) A Ok (backTo pos (starEach [e₁, e₂] env)) [.int a, .int b])
    (hs : Builtin.Range.small a b 1 = true) (hz : 0 ≤ Builtin.Range.rangeSize a b 1) (hp : (backTo pos (starEach [e₁, e₂] env)).any (·.1) = false := by rfl) :
    EI prog w A Ok (.Name x p) (.Call (.Name (Str.ofString "range") fp) [e₁, e₂] [] pos) env [x] (rangeD a b 1) := fun F s Q E ft ok hQ => by
  refine wpAny_Call_NameR (hn _ F s _ E ok ?_)
  refine PySem.callWith_type hp (args_any hp (h1 F s _ E ft ok fun vs F₁ h₁ tk₁ l₁ r₁ => ?_))
  cases r₁ with | cons r r₁ => cases r₁ with | cons r' r₁ => cases r₁; cases r with | int _ t => cases r' with | int _ u =>
  refine call_range_2 ?_
  have x₁ := l₁.trans (Ext.heap (h' := h₁.push { cls := .type "range", data := .fields #[.int a t, .int b u, .int 1 tk₁] }) l₁.k (Le.push _ _))
  refine range_iter (x := x) (p := p) (F := F₁) hh x₁.k (Heap.get?_push_size _ rfl) hs hz fun I fp wr J P h' l C j0 hw hf hP => ?_
  exact hQ I fp wr J P F₁ h' _ (x₁.trans l) C j0 (fun b hb => ⟨x₁.l.none (hw b hb).1, (hw b hb).2⟩) hf hP

theorem ei_range3 (hh : A.handled = none) (hn : NV (model prog w) A Ok env (Str.ofString "range") (.type "range")) (h1 : EA (model prog w) A Ok (backTo pos (starEach [e₁, e₂, e₃] env)) [.int a, .int b, .int c])
    (hc : c ≠ 0) (hpl : Builtin.divisionGoesByPylong (b - a) c = false) (hs : Builtin.Range.small a b c = true) (hz : 0 ≤ Builtin.Range.rangeSize a b c) (hp : (backTo pos (starEach [e₁, e₂, e₃] env)).any (·.1) = false := by rfl) :
    EI prog w A Ok (.Name x p) (.Call (.Name (Str.ofString "range") fp) [e₁, e₂, e₃] [] pos) env [x] (rangeD a b c) := fun F s Q E ft ok hQ => by
  refine wpAny_Call_NameR (hn _ F s _ E ok ?_)
  refine PySem.callWith_type hp (args_any hp (h1 F s _ E ft ok fun vs F₁ h₁ tk₁ l₁ r₁ => ?_))
  cases r₁ with | cons r r₁ => cases r₁ with | cons r' r₁ => cases r₁ with | cons r'' r₁ => cases r₁; cases r with | int _ t => cases r' with | int _ u => cases r'' with | int _ v =>
  refine call_range_3 hc ?_ (.inl hpl)
  have x₁ := l₁.trans (Ext.heap (h' := h₁.push { cls := .type "range", data := .fields #[.int a t, .int b u, .int c v] }) l₁.k (Le.push _ _))
  refine range_iter (x := x) (p := p) (F := F₁) hh x₁.k (Heap.get?_push_size _ rfl) hs hz fun I fp wr J P h' l C j0 hw hf hP => ?_
  exact hQ I fp wr J P F₁ h' _ (x₁.trans l) C j0 (fun b hb => ⟨x₁.l.none (hw b hb).1, (hw b hb).2⟩) hf hP

/-- enumerate(list) with two names -/
def enumD (ds : List PyData) : List (List PyData) := ds.zipIdx.map fun q => [.int (q.2 : Nat), q.1]
theorem ei_enum {k : Nat} (hh : A.handled = none) (hn : NV (model prog w) A Ok env (Str.ofString "enumerate") (.type "enumerate")) (h1 : EA (model prog w) A Ok (backTo pos (starEach [e₁] env)) [.list ds])
    (hp : (backTo pos (starEach [e₁] env)).any (·.1) = false := by rfl) :
    EI prog w A Ok (.Tuple [.Name x p, .Name y q] k pt) (.Call (.Name (Str.ofString "enumerate") fp) [e₁] [] pos) env [x, y] (enumD ds) := fun F s Q E ft ok hQ => by
  refine wpAny_Call_NameR (hn _ F s _ E ok ?_)
  refine PySem.callWith_type hp (args_any hp (h1 F s _ E ft ok fun vs F₁ h₁ tk₁ l₁ r₁ => ?_))
  cases r₁ with | cons r r₁ => cases r₁; cases r with | @list l n vs _ g r =>
  have g₁ := l₁.k _ _ g
  have hl : h₁.IsList l vs.toArray := ⟨_, g₁, rfl, n, rfl⟩
  refine call_enumerate_list (s := { s with heap := h₁, toks := tk₁ }) hl fun h₂ he hit hsz hk => ?_
  refine wpAny_pyIter_enum (s := { s with heap := h₂, toks := tk₁ }) he ?_
  have hl2 : l < h₁.objs.size := Heap.lt_size g₁
  have W := WalksT.enumerate (prog := prog) (w := w) hh (h₁.objs.size + 1) h₁.objs.size l (Nat.succ_ne_self _) (Nat.ne_of_lt (Nat.lt_succ_of_lt hl2)) (Nat.ne_of_lt hl2) vs.toArray
  have C := cyc_pair (x := x) (y := y) (p := p) (q := q) (pt := pt) (k := k) hh W (fun i vals ⟨t, z, _, e⟩ => ⟨_, _, e⟩) (fun i h st b hb => by
    rcases List.mem_cons.mp hb with rfl | hb
    · obtain ⟨⟨old, g⟩, _⟩ := st; exact ⟨_, g⟩
    · rcases List.mem_cons.mp hb with rfl | hb
      · obtain ⟨_, ⟨o, g, _⟩, _⟩ := st; exact ⟨o, g⟩
      · rcases List.mem_cons.mp hb with rfl | hb
        · obtain ⟨_, _, ⟨o, g, _⟩⟩ := st; exact ⟨o, g⟩
        · cases hb)
  have len : vs.toArray.size = (enumD ds).length := by simp [enumD, r.length]
  rw [len] at C
  have off : ∀ b, h₁.objs.size ≤ b → s.heap.get? b = none ∧ F₁ b = none := fun b hb => by
    have h0 : h₁.get? b = none := by
      cases q : h₁.get? b with
      | none => rfl
      | some o => exact absurd (Heap.lt_size q) (Nat.not_lt.mpr hb)
    refine ⟨l₁.l.none h0, ?_⟩
    cases q : F₁ b with
    | none => rfl
    | some o => have := l₁.k _ _ q; rw [h0] at this; cases this
  refine hQ (h₁.objs.size + 1) _ _ _ _ F₁ h₂ tk₁ (l₁.trans (Ext.heap l₁.k hk)) C ⟨⟨_, he⟩, hit, hl.at fun o q => hk _ _ q⟩ (fun b hb => ?_) (fun b hb => ?_) (fun i us hu => ?_)
  · rcases List.mem_cons.mp hb with rfl | hb
    · exact off _ (by omega)
    · simp at hb; subst hb; exact off _ (Nat.le_refl _)
  · rcases List.mem_cons.mp hb with rfl | hb
    · exact .inl (by simp)
    · rcases List.mem_cons.mp hb with rfl | hb
      · exact .inl (by simp)
      · rcases List.mem_cons.mp hb with rfl | hb
        · exact .inr ⟨_, g⟩
        · cases hb
  · obtain ⟨v0, v1, rfl, t, z, hz, e⟩ := hu
    have e' : v0 = .int i t ∧ v1 = z := by simpa using e
    obtain ⟨rfl, rfl⟩ := e'
    obtain ⟨d, hd, rd⟩ := r.get' (k := i) (by simpa using hz)
    exact ⟨[.int i, d], by simp [enumD, hd], .cons (.int _ _) (.cons rd .nil)⟩
end
end Mine

end
section
open PySem PyProof.Rows PySem.W
set_option maxRecDepth 100000
set_option linter.unusedVariables false
namespace Mine

/-- the cells that a comprehension captures -/
def closOf (env : Env) : List (Str × NameKind) → List (Str × Addr) → List (Str × Addr)
  | [], cs => cs
  | (n, k) :: r, cs => closOf env r (if k == .free then (n, (env.cells.lookup n).getD 0) :: cs else cs)
theorem closureFor_eq {scope : Scope} {env : Env} (h : scope.names.all (fun x => !(x.2 == .free) || (env.cells.lookup x.1).isSome) = true) : closureFor scope env = pure (closOf env scope.names []) := by
  have key : ∀ (names : List (Str × NameKind)) (cs : List (Str × Addr)), names.all (fun x => !(x.2 == .free) || (env.cells.lookup x.1).isSome) = true →
      (forIn names cs fun x r => (if (x.2 == NameKind.free) = true then cellOf env x.1 >>= fun c => pure (ForInStep.yield ((x.1, c) :: r)) else pure (ForInStep.yield r) : Sem (ForInStep (List (Str × Addr))))) = pure (closOf env names cs) := by
    intro names
    induction names with
    | nil => intro cs _; rfl
    | cons x r ih =>
      intro cs ha
      obtain ⟨n, k⟩ := x
      rw [List.all_cons, Bool.and_eq_true] at ha
      rw [List.forIn_cons, closOf]
      by_cases hk : (k == NameKind.free) = true
      · simp only [hk, if_true]
        have hs : (env.cells.lookup n).isSome = true := by simpa [hk] using ha.1
        cases hc : env.cells.lookup n with
        | none => rw [hc] at hs; cases hs
        | some c =>
          have e : cellOf env n = pure c := by unfold cellOf; rw [hc]
          rw [e]
          exact ih _ ha.2
      · simp only [hk]
        exact ih _ ha.2
  unfold closureFor
  have := key scope.names [] h
  show (forIn scope.names [] _ >>= fun r => pure r) = _
  have e : (forIn scope.names ([] : List (Str × Addr)) fun (x : Str × NameKind) r =>
      (match x with | (name, kind) => if (kind == NameKind.free) = true then cellOf env name >>= fun c => pure (ForInStep.yield ((name, c) :: r)) else pure (ForInStep.yield r) : Sem (ForInStep (List (Str × Addr))))) = pure (closOf env scope.names []) := this
  first
    | exact e ▸ rfl
    | (rw [show (forIn scope.names ([] : List (Str × Addr)) _) = _ from e]; rfl)

/-- the turn's own names -/
def LB (F : FM) (m : Str → Option Value) : List Str → List PyData → Prop
  | x :: xs, d :: ds => (∃ v, m x = some v ∧ Rep F v d) ∧ LB F m xs ds
  | _, _ => True
def CS (Ok : Cond) (C : Addr) (xs : List Str) (ds : List PyData) : Cond := fun F h => Ok F h ∧ ∃ m, h.Ns C m ∧ LB F m xs ds
theorem LB.le {F F' : FM} {m : Str → Option Value} (k : FLe F F') : ∀ {xs : List Str} {ds : List PyData}, LB F m xs ds → LB F' m xs ds
  | [], _, _ => trivial
  | _ :: _, [], _ => trivial
  | _ :: _, _ :: _, h => ⟨let ⟨v, a, r⟩ := h.1; ⟨v, a, r.le k⟩, LB.le k h.2⟩
theorem CS.mono {Ok : Cond} {C : Addr} {xs : List Str} {ds : List PyData} (mo : Mono Ok) : Mono (CS Ok C xs ds) := fun F h F' h' ⟨o, m, n, l⟩ k => ⟨mo _ _ _ _ o k, m, n.keeps k.l, l.le k.f⟩
end Mine

end
section
open PySem PyProof.Rows PySem.W
set_option maxRecDepth 100000
set_option linter.unusedVariables false
namespace Mine

section
variable {prog : Program} {w : World} {A : Around} {Ok : Cond} {env : Env} {target iter elt : Expr} {ifs : List Expr} {scope : Scope} {cl : List (Str × Addr)} {pos : Pos} {xs : List Str} {dss : List (List PyData)} {M : Model}

theorem store_comp {ce : Env} {F : FM} {E : Value → Shared → Prop} {Q : Unit → Shared → Prop} (hk : ce.scope.kind = .function) : ∀ (xs : List Str) (vs : List Value) (ds : List PyData) (m : Str → Option Value) (s : Shared), xs.Nodup →
    (∀ x ∈ xs, ce.kindOf x = some .local) → s.heap.Ns ce.locals m → RepAll F vs ds →
    (∀ h' tk m', h'.Ns ce.locals m' → Heap.SameBut ce.locals s.heap h' → LB F m' xs ds → (∀ z, z ∉ xs → m' z = m z) → Q () { s with heap := h', toks := tk }) → StoreAll M A ce Q E xs vs s
  | [], vs, ds, m, s, _, _, n, r, hQ => by
    have := hQ s.heap s.toks m n (.refl ..) trivial (fun _ _ => rfl)
    cases vs <;> exact this
  | x :: xs, [], ds, m, s, _, _, n, r, hQ => by cases r; exact hQ s.heap s.toks m n (.refl ..) trivial (fun _ _ => rfl)
  | x :: xs, v :: vs, ds, m, s, hd, hl, n, r, hQ => by
    cases r with
    | @cons _ _ d ds r1 r =>
      have hx : x ∉ xs := (List.nodup_cons.mp hd).1
      refine wpAny_storeName_local (hl x (.head _)) n (fun h₁ n₁ s₁ => ?_) (by rw [hk]; rfl)
      refine store_comp hk xs vs ds _ { s with heap := h₁, toks := s.toks + 1 } (List.nodup_cons.mp hd).2 (fun y hy => hl y (.tail _ hy)) n₁ r fun h₂ tk₂ m₂ n₂ s₂ lb rest => ?_
      refine hQ h₂ tk₂ m₂ n₂ (s₁.trans s₂) ⟨⟨v, ?_, r1⟩, lb⟩ fun z hz => ?_
      · rw [rest x hx]; simp
      · rw [rest z (fun q => hz (.tail _ q))]
        have : z ≠ x := fun q => hz (q ▸ .head _)
        simp [this]

/-- the tests' tree -/
abbrev testTree (ifs : List Expr) (env : Env) : Sem Bool := forIn ifs true fun c r => if r = true then do let ok ← isTrue c env (eval c env); pure (ForInStep.yield ok) else pure (ForInStep.yield r)
theorem eb_tests_nil : EB (model prog w) A Ok (testTree [] env) true := fun F s Q E ft ok h => wpAny_tests_nil (h F s.heap s.toks (.refl ft))
theorem eb_tests_one {c : Expr} {b : Bool} (h : EB (model prog w) A Ok (isTrue c env (eval c env)) b) : EB (model prog w) A Ok (testTree [c] env) b := fun F s Q E ft ok k => wpAny_tests_one (h F s Q E ft ok k)

theorem compLoop_any {R : Result → Shared → Prop} {s : Shared} {it acc : Value} {env : Env} (I : Nat → Shared → Prop)
    (turn : ∀ n s, I n s → wpAny (model prog w) A (pyNext it) (fun r s₁ => match r with
      | none => R (.ok .next) s₁
      | some v => wpAny (model prog w) A (letOwnedTupleGo target it v) (fun _ s₁' => wpAny (model prog w) A (assign target env v) (fun _ s₂ =>
          wpAny (model prog w) A (testTree ifs env) (fun ok s₃ =>
            if ok = true then wpAny (model prog w) A (eval elt env) (fun x s₄ =>
              wpAny (model prog w) A (call (.builtin "list.append") [acc, x]) (fun _ s₅ => ∃ m, m < n ∧ I m s₅) (notedBy (model prog w) A env fun e s' => R (.error e) s') s₄) (notedBy (model prog w) A env fun e s' => R (.error e) s') s₃
            else ∃ m, m < n ∧ I m s₃) (notedBy (model prog w) A env fun e s' => R (.error e) s') s₂) (notedBy (model prog w) A env fun e s' => R (.error e) s') s₁') (notedBy (model prog w) A env fun e s' => R (.error e) s') s₁) (notedBy (model prog w) A env fun e s' => R (.error e) s') s)
    (n : Nat) (h : I n s) :
    codeAny (model prog w) A (.compLoop (.ListComp elt [⟨target, iter, ifs, 0⟩] scope pos) 0 it acc env) R s := by
  refine codeAny_loop rfl I (fun n s hI => ?_) n h
  show wpAny _ A ((compTurn (.ListComp elt [⟨target, iter, ifs, 0⟩] scope pos) 0 it acc env).onRaise (fun x => do noteFrame x env; theTreesLotGoes x)) _ _ s
  refine wpAny_noted ?_
  rw [compTurn_list]
  refine wpAny_bind (wpAny_standAt (wpAny_bind (wpAny_mono (turn n s hI) (fun r s₁ h₁ => ?_) fun _ _ h' => h')))
  cases r with
  | none => exact wpAny_pure h₁
  | some v =>
    refine wpAny_bind (wpAny_mono h₁ (fun _ s₁' h₁' => ?_) fun _ _ h' => h')
    refine wpAny_bind (wpAny_mono h₁' (fun _ s₂ h₂ => wpAny_bind (wpAny_mono h₂ (fun ok s₃ h₃ => ?_) fun _ _ h' => h')) fun _ _ h' => h')
    cases ok with
    | false => exact wpAny_pure ⟨rfl, h₃⟩
    | true =>
      exact wpAny_bind (wpAny_bind (wpAny_mono h₃ (fun x s₄ h₄ => wpAny_bind (wpAny_mono h₄ (fun _ s₅ h₅ => wpAny_pure (wpAny_pure ⟨rfl, h₅⟩)) fun _ _ h' => h')) fun _ _ h' => h'))

/-- what a comprehension's text must show -/
structure CompOk (scope : Scope) (xs : List Str) : Prop where
  cell : ∀ y ∈ scope.names, y.2 ≠ .cell
  kind : scope.kind = .function
  names : ∀ y ∈ scope.names, y.2 = .local → scope.names.lookup y.1 = some .local
  own : ∀ x ∈ xs, scope.names.lookup x = some .local
  nodup : xs.Nodup

theorem take_snoc (keep : List PyData → Bool) (f : List PyData → PyData) {i : Nat} {ds : List PyData} (h : dss[i]? = some ds) :
    ((dss.take (i + 1)).filter keep).map f = ((dss.take i).filter keep).map f ++ (if keep ds then [f ds] else []) := by
  rw [take_succ_filter keep dss i ds h, List.map_append]
  cases keep ds <;> rfl

theorem comp_core {F : FM} {s : Shared} {E : Value → Shared → Prop} {use : Option (Value → Sem Unit)} {Q : Value → Shared → Prop} (ck : CompOk scope xs) (mo : Mono Ok) (hi : EI prog w A Ok target iter env xs dss) (hlen : dss.length ≤ sizeLine)
    (hclos : closureFor scope env = pure cl) (keep : List PyData → Bool) (f : List PyData → PyData)
    (ht : ∀ C ds, ds ∈ dss → EB (model prog w) A (CS Ok C xs ds) (testTree ifs (compEnvC scope cl C env)) (keep ds))
    (he : ∀ C ds, ds ∈ dss → keep ds = true → EV (model prog w) A (CS Ok C xs ds) (eval elt (compEnvC scope cl C env)) (f ds))
    (ft : Fit F s.heap) (ok : Ok F s.heap)
    (hQ : ∀ D n vs C m F' h' tk, Ext F s.heap F' h' → s.heap.get? D = none → F' D = none → s.heap.get? C = none → F' C = none → D ≠ C → h'.Ns C m → h'.get? D = some (lst vs n) → RepAll F' vs ((dss.filter keep).map f) →
      compPost (model prog w) A E use Q (.ref D) C (.ok .next) { s with heap := h', toks := tk })
    (hs : ∀ x, foldedSetIterable iter env x = pure x) :
    wpAny (model prog w) A (comprehension (.ListComp elt [⟨target, iter, ifs, 0⟩] scope pos) scope env (firstIterPos [⟨target, iter, ifs, 0⟩] pos) (newList []) false (eval iter env) use) Q E s := by
  refine wpAny_comprehension_free rfl hs hclos ck.kind ck.names ?_
  refine hi F s _ E ft ok fun I fp wr J P F₁ h₁ tk₁ l₁ C j0 hw hfp hP => ?_
  refine wpAny_newObj_type (wpAny_newFunctionEnv ck.cell (by intro y hy; simp at hy) (fun h₂ hns hsb => ?_) ck.kind)
  dsimp only at hns hsb ⊢
  generalize hH : h₁.push { cls := .type "list", dict := none, data := .seq ([] : List Value).toArray } = H at hns hsb ⊢
  have hHs : H.objs.size = h₁.objs.size + 1 := by rw [← hH, Heap.size_push]
  have old : ∀ b o, h₁.get? b = some o → h₂.get? b = some o := fun b o q => by
    have hb := Heap.lt_size q
    refine hsb.extBut b o (by rw [hHs]; exact Nat.ne_of_lt (Nat.lt_succ_of_lt hb)) (Heap.get?_push_of_some _ (hH ▸ Heap.get?_push_of_some _ q))
  have hD : h₂.get? h₁.objs.size = some (lst [] 0) := hsb.extBut _ _ (by rw [hHs]; exact Nat.ne_of_lt (Nat.lt_succ_self _)) (Heap.get?_push_of_some _ (hH ▸ Heap.get?_push_size _ rfl))
  have fresh₁ : ∀ b, h₁.objs.size ≤ b → h₁.get? b = none ∧ F₁ b = none := fun b hb => by
    have h0 : h₁.get? b = none := by
      cases q : h₁.get? b with
      | none => rfl
      | some o => exact absurd (Heap.lt_size q) (Nat.not_lt.mpr hb)
    refine ⟨h0, ?_⟩
    cases q : F₁ b with
    | none => rfl
    | some o => have := l₁.k _ _ q; rw [h0] at this; cases this
  have fpIn : ∀ b ∈ fp, b < h₁.objs.size := fun b hb => by obtain ⟨o, q⟩ := C.here 0 h₁ j0 b hb; exact Heap.lt_size q
  have hDf : h₁.objs.size ∉ fp := fun hb => absurd (fpIn _ hb) (Nat.lt_irrefl _)
  have hCf : H.objs.size ∉ fp := fun hb => by have := fpIn _ hb; rw [hHs] at this; exact Nat.lt_irrefl _ (Nat.lt_of_succ_lt this)
  have hDC : h₁.objs.size ≠ H.objs.size := by rw [hHs]; exact Nat.ne_of_lt (Nat.lt_succ_self _)
  have hDw : h₁.objs.size ∉ wr := fun hb => hDf (C.sub _ hb)
  have hCw : H.objs.size ∉ wr := fun hb => hCf (C.sub _ hb)
  have x₂ : Ext F₁ h₁ F₁ h₂ := Ext.heap l₁.k old
  have ceK : (compEnvC scope cl H.objs.size env).scope.kind = .function := by simp [compEnvC, relabel, ck.kind]
  have ceL : ∀ x ∈ xs, (compEnvC scope cl H.objs.size env).kindOf x = some .local := fun x hx => lookup_relabel_local (ck.own x hx)
  have loop : ∀ s₃ : Shared, s₃ = { s with heap := h₂, toks := tk₁ + ([] : List (Str × Value)).length } →
      codeAny (model prog w) A (.compLoop (.ListComp elt [⟨target, iter, ifs, 0⟩] scope pos) 0 (.ref I) (.ref h₁.objs.size) (compEnvC scope cl H.objs.size env)) (compPost (model prog w) A E use Q (.ref h₁.objs.size) H.objs.size) s₃ := by
    rintro s₃ rfl
    refine compLoop_any (fun k s' => ∃ i F' h' tk vs n m, s' = { s with heap := h', toks := tk } ∧ i ≤ dss.length ∧ k = dss.length + 1 - i ∧ J i h' ∧ FLe F₁ F' ∧ Ext F s.heap F' h' ∧ (∀ b ∈ wr, F' b = none) ∧ F' h₁.objs.size = none ∧ F' H.objs.size = none ∧
        h'.Ns H.objs.size m ∧ h'.get? h₁.objs.size = some (lst vs n) ∧ RepAll F' vs (((dss.take i).filter keep).map f)) ?_ (dss.length + 1)
      ⟨0, F₁, h₂, _, [], 0, _, rfl, Nat.zero_le _, rfl, C.frame _ _ _ j0 (fun b _ o q => old b o q), .refl, l₁.trans x₂, fun b hb => (hw b hb).2, (fresh₁ _ (Nat.le_refl _)).2, (fresh₁ _ (by rw [hHs]; exact Nat.le_succ _)).2, hns, hD, by simp; exact .nil⟩
    rintro k s' ⟨i, F', h', tk, vs, n, m, rfl, hin, rfl, hJ, f', x', hF', hFD, hFC, hn, hd, hr⟩
    by_cases hlt : i < dss.length
    · refine wpAny_mono (C.item i { s with heap := h', toks := tk } (compEnvC scope cl H.objs.size env) ?q _ hlt hJ ?hst) (fun r s₁ h₁ => ?hend) fun _ _ z => z
      case hend =>
        cases r with
        | none => exact h₁.elim
        | some v => exact h₁
      intro us h₃ tk₃ hPv hJ₃ hk₃
      obtain ⟨ds, hds, rv⟩ := hP i us hPv
      have hmem : ds ∈ dss := List.mem_of_getElem? hds
      have n₃ : h₃.Ns H.objs.size m := hn.at' fun o q => hk₃ _ o hCw q
      refine store_comp ceK xs us ds m { s with heap := h₃, toks := tk₃ } ck.nodup ceL n₃ (rv.le f') fun h₄ tk₄ m₄ n₄ s₄ lb _ => ?_
      replace s₄ : Heap.SameBut H.objs.size h₃ h₄ := s₄
      have k₄ : ∀ b o, b ∉ wr → b ≠ H.objs.size → h'.get? b = some o → h₄.get? b = some o := fun b o hb hc q => (s₄.2 b hc).trans (hk₃ b o hb q)
      have x₄ : Ext F s.heap F' h₄ := ⟨x'.f, fun b o q => k₄ b o (fun hb => by rw [(hw b hb).1] at q; cases q) (fun hc => by have := fresh₁ b (by rw [hc, hHs]; exact Nat.le_succ _); rw [l₁.l _ _ q] at this; cases this.1) (x'.l b o q), x'.n,
        fun b o q => k₄ b o (fun hb => by rw [hF' b hb] at q; cases q) (fun hc => by rw [hc, hFC] at q; cases q) (x'.k b o q)⟩
      have j₄ : J (i + 1) h₄ := C.frame _ _ _ hJ₃ fun b hb o q => (s₄.2 b (fun hc => hCf (hc ▸ hb))).trans q
      have d₄ : h₄.get? h₁.objs.size = some (lst vs n) := k₄ _ _ hDw hDC hd
      have cs : CS Ok H.objs.size xs ds F' h₄ := ⟨mo _ _ _ _ ok x₄, m₄, n₄, lb⟩
      refine ht H.objs.size ds hmem F' { s with heap := h₄, toks := tk₄ } _ _ x₄.k cs fun F₅ h₅ tk₅ x₅ => ?_
      have offF : ∀ {F₆ h₆}, Ext F' h₄ F₆ h₆ → ∀ b, F' b = none → (∃ o, h₄.get? b = some o) → F₆ b = none := fun {F₆ h₆} x₆ b hb ⟨o, ho⟩ => by
        cases q : F₆ b with
        | none => rfl
        | some p => rcases x₆.n b p q with r | r
                    · rw [hb] at r; cases r
                    · rw [ho] at r; cases r
      have wrIn : ∀ b ∈ wr, ∃ o, h₄.get? b = some o := fun b hb => C.here _ _ j₄ b (C.sub b hb)
      have cIn : ∃ o, h₄.get? H.objs.size = some o := let ⟨o, _, _, q, _⟩ := n₄; ⟨o, q⟩
      cases hkp : keep ds with
      | false =>
        show ∃ m, m < _ ∧ _
        refine ⟨dss.length + 1 - (i + 1), by omega, i + 1, F₅, h₅, tk₅, vs, n, m₄, rfl, hlt, rfl, C.frame _ _ _ j₄ fun b _ o q => x₅.l b o q, f'.trans x₅.f, x₄.trans x₅, fun b hb => offF x₅ b (hF' b hb) (wrIn b hb), offF x₅ _ hFD ⟨_, d₄⟩, offF x₅ _ hFC cIn,
          n₄.keeps x₅.l, x₅.l _ _ d₄, ?_⟩
        rw [take_snoc keep f hds, hkp]
        simpa using hr.le x₅.f
      | true =>
        show wpAny _ _ (eval elt _) _ _ _
        refine he H.objs.size ds hmem hkp F₅ _ _ _ x₅.k ((CS.mono mo) _ _ _ _ cs x₅) fun v F₆ h₆ tk₆ x₆ r₆ => ?_
        have x₅₆ := x₅.trans x₆
        refine append_plain (s := { s with heap := h₆, toks := tk₆ }) (x₅₆.l _ _ d₄) ?_ fun h₇ n₇ d₇ s₇ => ?_
        · rw [hr.length, List.length_map]
          refine Nat.le_trans (List.length_filter_le _ _) ?_
          rw [List.length_take]; omega
        replace s₇ : Heap.SameBut h₁.objs.size h₆ h₇ := s₇
        have fD : F₆ h₁.objs.size = none := offF x₅₆ _ hFD ⟨_, d₄⟩
        have x₇ : Ext F s.heap F₆ h₇ := ⟨fun b o q => x₅₆.f _ _ (x'.f b o q), fun b o q => (s₇.2 b (fun hc => by have := fresh₁ b (by rw [hc]; exact Nat.le_refl _); rw [l₁.l _ _ q] at this; cases this.1)).trans ((x₄.trans x₅₆).l b o q), (x₄.trans x₅₆).n,
          fun b o q => (s₇.2 b (fun hc => by rw [hc, fD] at q; cases q)).trans (x₅₆.k b o q)⟩
        refine ⟨dss.length + 1 - (i + 1), by omega, i + 1, F₆, h₇, tk₆, vs ++ [v], n₇, m₄, rfl, hlt, rfl, C.frame _ _ _ j₄ fun b hb o q => (s₇.2 b (fun hc => hDf (hc ▸ hb))).trans (x₅₆.l b o q), f'.trans x₅₆.f, x₇, fun b hb => offF x₅₆ b (hF' b hb) (wrIn b hb), fD, offF x₅₆ _ hFC cIn,
          (n₄.keeps x₅₆.l).sameBut s₇ (Ne.symm hDC), d₇, ?_⟩
        rw [take_snoc keep f hds, hkp]
        exact (hr.le x₅₆.f).append (.cons r₆ .nil)
    · have : i = dss.length := by omega
      subst this
      refine C.done _ _ _ hJ fun h₃ tk₃ hk₃ => ?_
      have x₃ : Ext F s.heap F' h₃ := ⟨x'.f, fun b o q => hk₃ b o (fun hb => by rw [(hw b hb).1] at q; cases q) (x'.l b o q), x'.n, fun b o q => hk₃ b o (fun hb => by rw [hF' b hb] at q; cases q) (x'.k b o q)⟩
      refine hQ h₁.objs.size n vs H.objs.size m F' h₃ tk₃ x₃ (l₁.l.none (fresh₁ _ (Nat.le_refl _)).1) hFD (l₁.l.none (fresh₁ _ (by rw [hHs]; exact Nat.le_succ _)).1) hFC hDC (hn.at' fun o q => hk₃ _ o hCw q) (hk₃ _ _ hDw hd) ?_
      simpa using hr
  exact codeAny_compStart_list (loop _ rfl) (C.self 0 _ _ _ (C.frame _ _ _ j0 fun b _ o q => old b o q) (loop _ rfl))

theorem evm_comp (ck : CompOk scope xs) (mo : Mono Ok) (hi : EI prog w A Ok target iter env xs dss) (hlen : dss.length ≤ sizeLine) (hclos : closureFor scope env = pure cl) (keep : List PyData → Bool) (f : List PyData → PyData)
    (ht : ∀ C ds, ds ∈ dss → EB (model prog w) A (CS Ok C xs ds) (testTree ifs (compEnvC scope cl C env)) (keep ds))
    (he : ∀ C ds, ds ∈ dss → keep ds = true → EV (model prog w) A (CS Ok C xs ds) (eval elt (compEnvC scope cl C env)) (f ds))
    (hs : ∀ x, foldedSetIterable iter env x = pure x := by intro _; rfl) :
    EVM (model prog w) A Ok (eval (.ListComp elt [⟨target, iter, ifs, 0⟩] scope pos) env) ((dss.filter keep).map f) := fun F s Q E ft ok hQ => by
  rw [eval_ListComp]
  refine comp_core (use := none) ck mo hi hlen hclos keep f ht he ft ok (fun D n vs C m F' h' tk x hD hFD hC hFC hDC hn hd hr => ?_) hs
  refine ⟨m, hn, fun h'' s'' => ?_⟩
  replace s'' : Heap.SameBut C h' h'' := s''
  refine hQ D n vs F' h'' tk ⟨x.f, fun b o q => (s''.2 b (fun hc => by rw [hc, hC] at q; cases q)).trans (x.l b o q), x.n, fun b o q => (s''.2 b (fun hc => by rw [hc, hFC] at q; cases q)).trans (x.k b o q)⟩ hD hFD ((s''.2 D hDC).trans hd) hr
end
end Mine

end
section
open PySem PyProof.Rows PySem.W
set_option maxRecDepth 100000
set_option linter.unusedVariables false
namespace Mine

section
variable {prog : Program} {w : World} {A : Around} {M : Model} {G : Heap → Prop} {K F F' : FM} {h h' h₂ : Heap} {e : Env} {ρ ρ' : Rho} {xs : List Str} {wr : List Addr} {x : Str} {ds : List PyData}

theorem St.leave (S : St G (kplus K wr h) e ρ F h) (gK : ∀ h, Fit K h → G h) (hKw : ∀ b ∈ wr, K b = none) (hF : ∀ b ∈ wr, F b = none) (hw : ∀ b ∈ wr, ∃ o, h.get? b = some o) (hk : ∀ b o, b ∉ wr → h.get? b = some o → h₂.get? b = some o) : St G K e ρ F h₂ := by
  obtain ⟨m, cm, S⟩ := S
  have off : ∀ b, kplus K wr h b = none → b ∉ wr := fun b q hb => by
    unfold kplus at q; rw [if_pos hb] at q
    obtain ⟨o, p⟩ := hw b hb; rw [p] at q; cases q
  have kn : ∀ {b}, kplus K wr h b = none → K b = none := fun {b} q => by
    have := off b q; unfold kplus at q; rw [if_neg this] at q; exact q
  refine ⟨m, cm, S.kind, gK, S.ns.at' fun o q => hk _ o (off _ S.offL.1) q, ⟨fun x c q => ?_, S.cl.apart, S.cl.above⟩, fun b o q => hk b o (fun hb => by rw [hF b hb] at q; cases q) (S.fit b o q), fun b o q => ?_,
    ⟨kn S.offL.1, S.offL.2⟩, fun x c q => ⟨kn (S.offC x c q).1, (S.offC x c q).2⟩, S.imm, fun x ds q => ?_, S.apart⟩
  · obtain ⟨o, g, d⟩ := S.cl.cell x c q
    exact ⟨o, hk _ o (off _ (S.offC x c q).1) g, d⟩
  · have hb : b ∉ wr := fun hb => by rw [hKw b hb] at q; cases q
    exact hk b o hb (S.kept b o (by unfold kplus; rw [if_neg hb]; exact q))
  · obtain ⟨a, n, vs, i, j, f, g, r⟩ := S.mt x ds q
    exact ⟨a, n, vs, i, kn j, f, hk _ _ (off _ j) g, r⟩

/-- a new list becomes the name's own (the frame's other lists lie apart from it) -/
theorem store_mut' {E : Value → Shared → Prop} {s : Shared} {Q : Unit → Shared → Prop} {a : Addr} {n : Nat} {vs : List Value} {m cm : Str → Option Value} (S : Fx G K e ρ F s.heap m cm) (hx : okName e x = true)
    (hka : K a = none) (hf : F a = none) (old : ∀ y es, ρ.lookup y = some (.mut es) → val e m cm y ≠ some (.ref a)) (g : s.heap.get? a = some (lst vs n)) (r : RepAll F vs ds)
    (hQ : ∀ h' tk, St G K e ((x, .mut ds) :: ρ) F h' → Q () { s with heap := h', toks := tk }) : wpAny M A (storeName e x (.ref a)) Q E s := by
  refine store_raw S hx fun c h' m' cm' tk hs hc hk N C hv hr => hQ h' tk ⟨m', cm', ?_⟩
  have keep : ∀ b o, s.heap.get? b = some o → IsSeq o → h'.get? b = some o := fun b o q i => (hs.2 b (fun r => hc _ (r ▸ q) i)).trans q
  refine ⟨S.kind, S.gl, N, C, fun b o q => (hs.2 b (fun r => by rw [r, hk.2] at q; cases q)).trans (S.fit b o q), fun b o q => (hs.2 b (fun r => by rw [r, hk.1] at q; cases q)).trans (S.kept b o q), S.offL, S.offC,
    fun y f q => ?_, fun y fs q => ?_, fun y z fs gs b hn p q => ?_⟩
  · rcases lookup_ins q with ⟨_, q'⟩ | ⟨hy, q⟩
    · cases q'
    · obtain ⟨u, p, r⟩ := S.imm y f q
      exact ⟨u, (hr y hy).trans p, r⟩
  · rcases lookup_ins q with ⟨rfl, q'⟩ | ⟨hy, q⟩
    · cases q'; exact ⟨a, n, vs, hv, hka, hf, keep _ _ g lst_seq, r⟩
    · obtain ⟨b, k, us, i, j, f, p, r⟩ := S.mt y fs q
      exact ⟨b, k, us, (hr y hy).trans i, j, f, keep _ _ p lst_seq, r⟩
  · rcases lookup_ins p with ⟨rfl, p'⟩ | ⟨hy, p2⟩ <;> rcases lookup_ins q with ⟨rfl, q'⟩ | ⟨hz, q2⟩
    · exact absurd rfl hn
    · intro u v'; rw [hv] at u; cases u; rw [hr z hz] at v'; exact old z gs q2 v'
    · intro u v'; rw [hv] at v'; cases v'; rw [hr y hy] at u; exact old y fs p2 u
    · rw [hr y hy, hr z hz]; exact S.apart y z fs gs b hn p2 q2

variable {target iter elt : Expr} {ifs : List Expr} {scope : Scope} {cl : List (Str × Addr)} {pos spos py : Pos} {dss : List (List PyData)} {y : Str}
theorem ex_assign_compM (mu : Bool) (hsw : swapsWith (.ListComp elt [⟨target, iter, ifs, 0⟩] scope pos) (some (.Name y py)) spos.line e = pure true) (hy : okName e y = true) (ck : CompOk scope xs)
    (hi : ∀ K, EI prog w A (St G K e ρ) target iter e xs dss) (hlen : dss.length ≤ sizeLine) (hclos : closureFor scope e = pure cl) (keep : List PyData → Bool) (f : List PyData → PyData)
    (ht : ∀ K C ds, ds ∈ dss → EB (model prog w) A (CS (St G K e ρ) C xs ds) (testTree ifs (compEnvC scope cl C e)) (keep ds))
    (he : ∀ K C ds, ds ∈ dss → keep ds = true → EV (model prog w) A (CS (St G K e ρ) C xs ds) (eval elt (compEnvC scope cl C e)) (f ds))
    (hs : ∀ x, foldedSetIterable iter e x = pure x := by intro _; rfl) :
    EX (model prog w) A G e ρ (exec (.Assign [.Name y py] (.ListComp elt [⟨target, iter, ifs, 0⟩] scope pos) spos) e) (.next ((y, if mu then B.mut ((dss.filter keep).map f) else B.imm (.list ((dss.filter keep).map f))) :: ρ)) := fun K F s Q E S hQ => by
  rw [exec_Assign_Name_used _ _ _ _ hsw]
  refine wpAny_bind (wpAny_standAt (wpAny_bind ?_))
  show wpAny _ A (do let _ ← comprehension (.ListComp elt [⟨target, iter, ifs, 0⟩] scope pos) scope e _ (newList []) false (eval iter e) (some (assign (.Name y py) e))) _ _ s
  refine wpAny_bind (wpAny_mono (comp_core (use := some (assign (.Name y py) e)) (Q := fun _ s' => Q .next s') (F := F) ck St.mono (hi K) hlen hclos keep f (ht K) (he K) S.fit S ?_ hs) (fun _ s' hq => wpAny_pure (wpAny_pure hq)) fun _ _ z => z)
  intro D n vs C m F' h' tk x hD hFD hC hFC hDC hn hd hr
  have gK : ∀ h, Fit K h → G h := by obtain ⟨m, cm, S⟩ := S; exact S.gl
  have hKC : K C = none := by
    cases q : K C with
    | none => rfl
    | some o => have := S.kept _ _ q; rw [hC] at this; cases this
  have hKD : K D = none := by
    cases q : K D with
    | none => rfl
    | some o => have := S.kept _ _ q; rw [hD] at this; cases this
  have hw : ∀ b ∈ [C], s.heap.get? b = none ∧ F' b = none := fun b hb => by simp at hb; subst hb; exact ⟨hC, hFC⟩
  have S' := S.enter x hw
  have cIn : ∃ o, h'.get? C = some o := let ⟨o, _, _, q, _⟩ := hn; ⟨o, q⟩
  show wpAny _ A (assign (.Name y py) e (.ref D)) _ _ _
  refine wpAny_assign_Name ?_
  have fin : ∀ (F'' : FM) (ρ' : Rho) h₂ tk₂, F'' C = none → St G (kplus K [C] h') e ρ' F'' h₂ → (∀ h₃ tk₃, St G K e ρ' F'' h₃ → Q .next { s with heap := h₃, toks := tk₃ }) →
      ∃ m, h₂.Ns C m ∧ ∀ h₃, Heap.SameBut C h₂ h₃ → Q .next { s with heap := h₃, toks := tk₂ } := fun F'' ρ' h₂ tk₂ hC'' S₂ hq => by
    obtain ⟨o, ho⟩ := cIn
    have keepC : h₂.get? C = h'.get? C := by rw [ho]; exact S₂.kept C o (by unfold kplus; rw [if_pos (by simp)]; exact ho)
    refine ⟨m, hn.at' fun o q => keepC.trans q, fun h₃ s₃ => hq h₃ tk₂ ?_⟩
    have S₂' : St G (kplus K [C] h₂) e ρ' F'' h₂ := S₂.congrK fun b => by
      unfold kplus
      split
      · next hb => simp at hb; subst hb; rw [keepC]
      · rfl
    exact S₂'.leave gK (fun b hb => by simp at hb; subst hb; exact hKC) (fun b hb => by simp at hb; subst hb; exact hC'') (fun b hb => by simp at hb; subst hb; exact ⟨o, keepC.trans ho⟩)
      fun b o' hb q => (s₃.2 b (fun hc => hb (by simp [hc]))).trans q
  cases mu with
  | false =>
    have gi := fle_ins x.k hd
    have x2 := x.ins hD hd
    have S2 := S.enter (wr := [C]) x2 (fun b hb => by simp at hb; subst hb; exact ⟨hC, by unfold ins; rw [if_neg (Ne.symm hDC)]; exact hFC⟩)
    refine store_imm (s := { s with heap := h', toks := tk }) S2 hy (.list ins_self (hr.le gi)) fun h₂ tk₂ S₃ => ?_
    refine fin _ _ h₂ tk₂ (by unfold ins; rw [if_neg (Ne.symm hDC)]; exact hFC) S₃ fun h₃ tk₃ S₄ => ?_
    exact hQ _ h₃ tk₃ x2.f (x2.new S.kept) S₄
  | true =>
    obtain ⟨m₁, cm₁, S₁⟩ := S
    obtain ⟨m', cm', S''⟩ : ∃ m' cm', Fx G (kplus K [C] h') e ρ F' h' m' cm' ∧ m' = m' := let ⟨m', cm', q⟩ := S'; ⟨m', cm', q, rfl⟩
    have S₃ : Fx G (kplus K [C] h') e ρ F' h' m₁ cm₁ := by
      have S₀ := S₁.ext x
      have off : ∀ {b o}, s.heap.get? b = some o → b ∉ [C] := fun {b o} q hb => by simp at hb; subst hb; rw [hC] at q; cases q
      have kn : ∀ {b o}, s.heap.get? b = some o → K b = none → kplus K [C] h' b = none := fun {b o} q p => by unfold kplus; rw [if_neg (off q)]; exact p
      refine ⟨S₁.kind, fun h'' f => S₁.gl _ fun b o q => f b o ?_, S₀.ns, S₀.cl, S₀.fit, fun b o q => ?_, ⟨?_, S₀.offL.2⟩, fun x c q => ⟨?_, (S₀.offC x c q).2⟩, S₀.imm, fun x ds q => ?_, S₀.apart⟩
      · unfold kplus; rw [if_neg (off (S₁.kept _ _ q))]; exact q
      · unfold kplus at q
        split at q
        · exact q
        · exact S₀.kept b o q
      · obtain ⟨o, _, _, g, _⟩ := S₁.ns; exact kn g S₁.offL.1
      · obtain ⟨o, g, _⟩ := S₁.cl.cell x c q; exact kn g (S₁.offC x c q).1
      · obtain ⟨a, n, vs, i, j, f, g, r⟩ := S₁.mt x ds q
        obtain ⟨a', n', vs', i', j', f', g', r'⟩ := S₀.mt x ds q
        rw [i] at i'; cases i'
        exact ⟨a, n', vs', i, kn g j, f', g', r'⟩
    have hkD : kplus K [C] h' D = none := by unfold kplus; rw [if_neg (by simp; exact hDC)]; exact hKD
    refine store_mut' (s := { s with heap := h', toks := tk }) S₃ hy hkD hFD (fun y es q p => ?_) hd hr fun h₂ tk₂ S₄ => ?_
    · obtain ⟨b, k, us, i, _, _, gb, _⟩ := S₁.mt y es q
      rw [i] at p; cases p; rw [hD] at gb; cases gb
    · exact fin _ _ h₂ tk₂ hFC S₄ fun h₃ tk₃ S₅ => hQ _ h₃ tk₃ x.f (x.new S₁.kept) S₅
end
end Mine

end
section
open PySem PyProof.Rows PySem.W
set_option maxRecDepth 100000
set_option linter.unusedVariables false
namespace Mine

section
variable {prog : Program} {w : World} {A : Around} {M : Model} {Ok : Cond} {G : Heap → Prop} {K : FM} {e env : Env} {ρ : Rho} {x y : Str} {d d₁ d₂ : PyData} {ds es : List PyData} {pos p : Pos} {C : Addr} {xs : List Str} {scope : Scope} {cl : List (Str × Addr)} {a b : Value} {i j : Int} {vs : List Value}

theorem ev_cl0 (hk : (compEnvC scope cl C env).kindOf x = some .local) (hf : (compEnvC scope cl C env).scope.kind = .function) (hd : (x == ("__debug__" : Str)) = false) :
    EV M A (CS Ok C (x :: xs) (d :: ds)) (eval (.Name x pos) (compEnvC scope cl C env)) d := fun F s Q E ft ⟨_, m, n, ⟨v, a, r⟩, _⟩ hQ =>
  wpAny_Name (wpAny_loadName_local hf hk n a (hQ v F s.heap s.toks (.refl ft) r)) hd
theorem ev_cl1 {x' : Str} {d' : PyData} (hk : (compEnvC scope cl C env).kindOf x = some .local) (hf : (compEnvC scope cl C env).scope.kind = .function) (hd : (x == ("__debug__" : Str)) = false) :
    EV M A (CS Ok C (x' :: x :: xs) (d' :: d :: ds)) (eval (.Name x pos) (compEnvC scope cl C env)) d := fun F s Q E ft ⟨_, m, n, _, ⟨v, a, r⟩, _⟩ hQ =>
  wpAny_Name (wpAny_loadName_local hf hk n a (hQ v F s.heap s.toks (.refl ft) r)) hd

theorem val_cell {m cm : Str → Option Value} {v : Value} (hv : val e m cm x = some v) (hk' : e.kindOf x = some .cell) : cm x = some v ∧ ∃ c, e.cells.lookup x = some c := by
  unfold val at hv
  rw [hk'] at hv
  simp only at hv
  cases hc : e.cells.lookup x with
  | none => rw [hc] at hv; cases hv
  | some c => rw [hc] at hv; simp at hv; exact ⟨hv, c, rfl⟩
theorem load_free {E : Value → Shared → Prop} {s : Shared} {Q : Value → Shared → Prop} {F : FM} {m cm : Str → Option Value} {v : Value} (S : Fx G K e ρ F s.heap m cm) (hv : val e m cm x = some v) (hQ : Q v s) (hk : (compEnvC scope cl C e).kindOf x = some .cell)
    (hf : (compEnvC scope cl C e).scope.kind = .function) (hk' : e.kindOf x = some .cell) (hc : cl.lookup x = e.cells.lookup x) (hd : (x == ("__debug__" : Str)) = false) : wpAny M A (eval (.Name x pos) (compEnvC scope cl C e)) Q E s := by
  obtain ⟨h1, c, h2⟩ := val_cell hv hk'
  exact wpAny_Name (wpAny_loadName_cell hf hk (hc.trans h2) (h1 ▸ S.cl.cell x c h2) hQ) hd
/-- a captured name -/
theorem ev_free (hx : ρ.lookup x = some (.imm d)) (hk : (compEnvC scope cl C e).kindOf x = some .cell) (hf : (compEnvC scope cl C e).scope.kind = .function) (hk' : e.kindOf x = some .cell) (hc : cl.lookup x = e.cells.lookup x) (hd : (x == ("__debug__" : Str)) = false) :
    EV M A (CS (St G K e ρ) C xs ds) (eval (.Name x pos) (compEnvC scope cl C e)) d := fun F s Q E ft ⟨⟨m, cm, S⟩, _⟩ hQ => by
  obtain ⟨v, a, r⟩ := S.imm x d hx
  exact load_free S a (hQ v F s.heap s.toks (.refl ft) r) hk hf hk' hc hd

/-- the name stands for a list of the frame's own -/
def MV (M : Model) (A : Around) (Ok : Cond) (env : Env) (x : Str) (ds : List PyData) : Prop :=
  ∀ (pos : Pos) (F : FM) (s : Shared) (Q : Value → Shared → Prop) (E : Value → Shared → Prop), Ok F s.heap → (∀ a n vs, s.heap.get? a = some (lst vs n) → RepAll F vs ds → Q (.ref a) s) → wpAny M A (eval (.Name x pos) env) Q E s
theorem mv_var (hx : ρ.lookup x = some (.mut ds)) (hd : (x == ("__debug__" : Str)) = false) : MV M A (St G K e ρ) e x ds := fun pos F s Q E ⟨m, cm, S⟩ hQ => by
  obtain ⟨a, n, vs, i, j, f, g, r⟩ := S.mt x ds hx
  exact load_val S i (hQ a n vs g r) hd
theorem mv_free (hx : ρ.lookup x = some (.mut es)) (hk : (compEnvC scope cl C e).kindOf x = some .cell) (hf : (compEnvC scope cl C e).scope.kind = .function) (hk' : e.kindOf x = some .cell) (hc : cl.lookup x = e.cells.lookup x) (hd : (x == ("__debug__" : Str)) = false) :
    MV M A (CS (St G K e ρ) C xs ds) (compEnvC scope cl C e) x es := fun pos F s Q E ⟨⟨m, cm, S⟩, _⟩ hQ => by
  obtain ⟨a, n, vs, i, j, f, g, r⟩ := S.mt x es hx
  exact load_free S i (hQ a n vs g r) hk hf hk' hc hd

/-- an item of it -/
theorem ev_mut_item {idx : Expr} {k : Int} (mo : Mono Ok) (mv : MV (model prog w) A Ok env x ds) (hi : EV (model prog w) A Ok (eval idx env) (.int k)) (h0 : 0 ≤ k) (h1 : k < 2 ^ 63) (hk : ds[k.toNat]? = some d)
    (hs : ∀ o i, subscripted idx false o i = operate [o, i] (getItem o i) ∨ subscripted idx false o i = operate [i, o] (getItem o i) := by intro _ _; first | exact .inl rfl | exact .inr rfl) :
    EV (model prog w) A Ok (eval (.Subscript (.Name x p) idx pos) env) d := fun F s Q E ft ok hQ => by
  refine Subscript_ (mv p F s _ E ok fun a n vs g r => hi F s _ E ft ok fun b F₁ h₁ tk₁ l₁ r₁ => ?_)
  cases r₁ with | int _ t =>
  obtain ⟨v, hv, rv⟩ := r.get hk
  have g₁ := l₁.l _ _ g
  refine sub_tail list_getitem_lookup ⟨fun s' hs' => ⟨_, by rw [hs']; exact g₁, rfl⟩, fun b q => by cases q; exact ⟨_, g₁, rfl⟩⟩ (wpAny_getItem_list ⟨_, g₁, rfl, _, rfl⟩ h0 h1 (by simpa using hv) ?_) (hs _ _)
  exact hQ v F₁ h₁ tk₁ l₁ (rv.le l₁.f)

/-- the text differs from it, or not -/
theorem eb_ne_mut {l : Expr} {whole : Sem Value} (hu : A.units + 64 < cLine) (mo : Mono Ok) (hl : EV (model prog w) A Ok (eval l env) d₁) (mv : MV (model prog w) A Ok env x ds) (h1 : SeqAt.shaped d₁ = true) (h2 : SeqAt.shaped (.list ds) = true) :
    EB (model prog w) A Ok (isTrue (.Compare l [.NotEq] [.Name x p] pos) env whole) (!PyData.eqv d₁ (.list ds)) := fun F s Q E ft ok hQ => by
  refine wpAny_isTrue_Compare1 (hl F s _ E ft ok fun a F₁ h₁ tk₁ l₁ r₁ => mv p F₁ _ _ E (mo _ _ _ _ ok l₁) fun b n vs g r => ?_) (by with_unfolding_all rfl)
  have f1 := fle_ins l₁.k g
  have ft2 : Fit (ins F₁ b (lst vs n)) h₁ := fun c o q => by
    unfold ins at q
    split at q
    · next e => subst e; cases q; exact g
    · exact l₁.k c o q
  obtain ⟨as, ra⟩ := (r₁.le f1).reads ft2
  obtain ⟨bs, rb⟩ := (Rep.list ins_self (r.le f1) : Rep (ins F₁ b (lst vs n)) (.ref b) (.list ds)).reads ft2
  exact SeqAt.compareNe_shaped ra rb h1 h2 hu (wpAny_truthy_bool (hQ F₁ h₁ tk₁ l₁))

/-- a store into it -/
theorem ex_setitem {idx value : Expr} {k : Int} {p q : Pos} (hx : ρ.lookup x = some (.mut ds)) (hd : (x == ("__debug__" : Str)) = false) (hv : ∀ K, EV (model prog w) A (St G K e ρ) (eval value e) d) (hi : ∀ K, EV (model prog w) A (St G K e ρ) (eval idx e) (.int k))
    (h0 : 0 ≤ k) (h1 : k < 2 ^ 63) (hn : k < ds.length) (hs : swapsWith value (some (.Subscript (.Name x p) idx q)) pos.line e = pure false := by rfl) :
    EX (model prog w) A G e ρ (exec (.Assign [.Subscript (.Name x p) idx q] value pos) e) (.next ((x, .mut (ds.set k.toNat d)) :: ρ)) := fun K F s Q E S hQ => by
  refine wpAny_Assign_Subscript (hv K F s _ E S.fit S fun v F₁ h₁ tk₁ l₁ r₁ => ?_) hs
  have S₁ := St.mono _ _ _ _ S l₁
  obtain ⟨m, cm, T⟩ := S₁
  obtain ⟨a, n, vs, i, j, f, g, r⟩ := T.mt x ds hx
  refine load_val (s := { s with heap := h₁, toks := tk₁ }) T i ?_ hd
  refine hi K F₁ _ _ E l₁.k ⟨m, cm, T⟩ fun b F₂ h₂ tk₂ l₂ r₂ => ?_
  cases r₂ with | int _ t =>
  have T₂ := T.ext l₂
  obtain ⟨a', n', vs', i', j', f', g', r'⟩ := T₂.mt x ds hx
  rw [i] at i'; cases i'
  have hkn : k.toNat < vs'.length := by rw [r'.length]; omega
  refine ki_setAt (s := { s with heap := h₂, toks := tk₂ }) g' h0 h1 (by rw [List.size_toArray, r'.length]; exact hn) ?_
  have he : Obj.mapSeq (·.setIfInBounds k.toNat v) (lst vs' n') = lst (vs'.set k.toNat v) n' := by
    simp [Obj.mapSeq, lst]
  exact hQ F₂ _ tk₂ (l₁.f.trans l₂.f) ((l₁.trans l₂).new S.kept) ⟨m, cm, T₂.turned hx i j f' g' (Heap.SameBut.update ..) (by rw [← he]; exact Heap.get?_update_self _ g' rfl) (r'.set _ (r₁.le l₂.f))⟩
end
end Mine

end
section
open PySem PyProof.Rows PySem.W
set_option maxRecDepth 100000
set_option linter.unusedVariables false
namespace Mine

section
variable {prog : Program} {w : World} {A : Around} {M : Model} {Ok : Cond} {x y : Str} {d d₁ d₂ : PyData} {ds es : List PyData} {a b : Value} {i j : Int} {vs : List Value} {ns : List Int}

theorem tr_int : EB (model prog w) A (fun F h => Ok F h ∧ Rep F a (.int i)) (truthy a) (i != 0) := fun F s Q E ft ⟨_, r⟩ h => by
  cases r; exact PyProof.Rows.truthy_int (h F s.heap s.toks (.refl ft))
theorem op_is_bool {c c' : Bool} : EV (model prog w) A (fun F h => Ok F h ∧ Rep F a (.bool c) ∧ Rep F b (.bool c')) (compareOp .Is a b) (.bool (c == c')) := fun F s Q E ft ⟨_, r, q⟩ h => by
  cases r; cases q; exact is_bool (h _ F s.heap s.toks (.refl ft) (.bool _))
theorem op_isnot_bool {c c' : Bool} : EV (model prog w) A (fun F h => Ok F h ∧ Rep F a (.bool c) ∧ Rep F b (.bool c')) (compareOp .IsNot a b) (.bool (c != c')) := fun F s Q E ft ⟨_, r, q⟩ h => by
  cases r; cases q; exact isnot_bool (h _ F s.heap s.toks (.refl ft) (.bool _))
theorem op_in_ints : EV (model prog w) A (fun F h => Ok F h ∧ Rep F a (.int i) ∧ Rep F b (.list (ns.map .int))) (compareOp .In a b) (.bool (ns.any (· == i))) := fun F s Q E ft ⟨_, r, q⟩ h => by
  cases r
  cases q with | list g q =>
  exact in_list_ints ⟨_, ft _ _ g, rfl, _, rfl⟩ q.ints (h _ F s.heap s.toks (.refl ft) (.bool _))
theorem op_in_list (hu : A.units + 1 + min (PyData.depthAll ds) d.depth < cLine) (h1 : PyData.canLayAll0 ds = true) (h2 : d.canLay0 = true) :
    EV (model prog w) A (fun F h => Ok F h ∧ Rep F a d ∧ Rep F b (.list ds)) (compareOp .In a b) (.bool (ds.any fun z => PyData.eqv z d)) := fun F s Q E ft ⟨_, r, q⟩ h => by
  obtain ⟨as, ra⟩ := r.reads ft
  obtain ⟨bs, rb⟩ := q.reads ft
  exact SeqAt.in_list_reads rb ra h1 h2 hu (h _ F s.heap s.toks (.refl ft) (.bool _))

theorem gi_list_neg {k : Int} (h0 : k < 0) (h1 : -(ds.length : Int) ≤ k) (h2 : -(2 ^ 63) ≤ k) (hk : ds[(k + ds.length).toNat]? = some d) : EV (model prog w) A (fun F h => Ok F h ∧ Rep F a (.list ds) ∧ Rep F b (.int k)) (getItem a b) d := fun F s Q E ft ⟨_, r, q⟩ h => by
  cases q
  cases r with | list g r =>
  obtain ⟨v, hv, rv⟩ := r.get hk
  exact wpAny_getItem_list_neg ⟨_, ft _ _ g, rfl, _, rfl⟩ h0 (by simpa [r.length] using h1) h2 (by simpa [r.length] using hv) (h v F s.heap s.toks (.refl ft) rv)

theorem ca_len (hz : ds.length ≤ sizeLine) : EV (model prog w) A (fun F h => Ok F h ∧ RepAll F vs [.list ds]) (call (.builtin "len") vs) (.int ds.length) := fun F s Q E ft ⟨_, r⟩ h => by
  cases r with | cons r q =>
  cases q
  cases r with | @list l n us _ g r =>
  have := r.length
  refine Calls.call_len_list ⟨_, ft _ _ g, rfl, _, rfl⟩ ?_ ?_
  · rw [List.size_toArray, this]; rw [sizeLine_eq] at hz; omega
  · rw [List.size_toArray, this]; exact h _ F s.heap _ (.refl ft) (.int _ _)
theorem ca_len_str (hz : x.length ≤ sizeLine) : EV (model prog w) A (fun F h => Ok F h ∧ RepAll F vs [.str x]) (call (.builtin "len") vs) (.int x.length) := fun F s Q E ft ⟨_, r⟩ h => by
  cases r with | cons r q =>
  cases q
  cases r with | str _ t =>
  exact PySem.P.len_str (by rw [sizeLine_eq] at hz; omega) (h _ F s.heap _ (.refl ft) (.int _ _))
theorem ca_sum (hh : A.handled = none) : EV (model prog w) A (fun F h => Ok F h ∧ RepAll F vs [.list (ns.map .int)]) (call (.builtin "sum") vs) (.int ns.sum) := fun F s Q E ft ⟨_, r⟩ h => by
  cases r with | cons r q =>
  cases q
  cases r with | @list l n us _ g r =>
  have hi := r.ints
  obtain ⟨xs, e⟩ := hi.allInts.items
  have hn : xs.toList.map (·.1) = ns := by
    have h1 := nums_intItems xs
    rw [← e] at h1
    have h2 : numsOf us.toArray.toList = ns := hi.numsOf
    rw [h2] at h1; exact h1.symm
  refine sum_intListG hh (l := l) (xs := xs) ⟨_, ft _ _ g, rfl, n, by show Data.seq us.toArray n = _; rw [e]⟩ fun h' tk t' k => ?_
  rw [preSum_eq, List.take_of_length_le (by simp), hn]
  exact h _ F h' tk (Ext.heap ft k) (.int _ _)

theorem evm_mul_list {l r : Expr} {env : Env} {pos : Pos} {n : Nat} (mo : Mono Ok) (hl : EV (model prog w) A Ok (eval l env) (.list [.int i])) (hr : EV (model prog w) A Ok (eval r env) (.int n)) (hz : n ≤ 2 ^ 20) :
    EVM (model prog w) A Ok (eval (.BinOp l .Mult r pos) env) (List.replicate n (.int i)) := fun F s Q E ft ok hQ => by
  refine wpAny_BinOp (hl F s _ E ft ok fun a F₁ h₁ tk₁ l₁ r₁ => hr F₁ _ _ E l₁.k (mo _ _ _ _ ok l₁) fun b F₂ h₂ tk₂ l₂ r₂ => ?_)
  cases r₂ with | int _ u =>
  cases r₁ with | @list q k us _ g r₁ =>
  cases r₁ with | cons r1 r₁ =>
  cases r₁
  cases r1 with | int _ t =>
  have g₂ : h₂.get? q = some { cls := .type "list", dict := none, data := .seq [Value.int i t].toArray k, slots := #[] } := l₂.k _ _ (l₂.f _ _ g)
  have e : (List.foldl (fun x1 x2 => x1 ++ x2) (#[] : Array Value) (List.replicate (if (([Value.int i t] : List Value).toArray).isEmpty = true then 0 else n) [Value.int i t].toArray)) = (List.replicate n (Value.int i t)).toArray := by
    simp only [List.isEmpty_toArray, List.isEmpty_cons, Bool.false_eq_true, if_false]
    have : ∀ (n : Nat) (acc : Array Value), List.foldl (fun x1 x2 => x1 ++ x2) acc (List.replicate n [Value.int i t].toArray) = acc ++ (List.replicate n (Value.int i t)).toArray := by
      intro n
      induction n with
      | zero => intro acc; simp
      | succ n ih =>
        intro acc
        rw [List.replicate_succ, List.foldl_cons, ih, List.replicate_succ]
        apply Array.toList_inj.mp
        simp
    rw [this]; simp
  have x := l₁.trans l₂
  have rr : RepAll F₂ (List.replicate n (Value.int i t)) (List.replicate n (PyData.int i)) := by
    clear e hr hz hQ
    induction n with
    | zero => exact .nil
    | succ n ih => exact .cons (.int _ _) ih
  have fin : Q (.ref h₂.objs.size) { s with heap := h₂.push { cls := .type "list", data := .seq (List.foldl (fun x1 x2 => x1 ++ x2) (#[] : Array Value) (List.replicate (if (([Value.int i t] : List Value).toArray).isEmpty = true then 0 else n) [Value.int i t].toArray)) }, toks := tk₂ } := by
    rw [e]
    refine hQ h₂.objs.size 0 (List.replicate n (Value.int i t)) F₂ (h₂.push (lst (List.replicate n (Value.int i t)) 0)) tk₂ (x.trans (Ext.heap x.k (Le.push _ _))) (x.l.none (freshAt _)) ?_ (Heap.get?_push_size _ rfl) rr
    cases q : F₂ h₂.objs.size with
    | none => rfl
    | some o => have := x.k _ _ q; rw [freshAt] at this; cases this
  have hs : [Value.int i t].toArray.size = 1 := rfl
  have hz0 : ((n : Int)).toNat = n := Int.toNat_natCast n
  have hfin : ∀ z : Int, z = (n : Int) → z.toNat = n → wpAny (model prog w) A (binaryOp .Mult (.ref q) (.int z u)) Q E { s with heap := h₂, toks := tk₂ } := fun z hzn hzt => by
    have me := AutoListH.list___mul___list_int_3 q [Value.int i t].toArray k z u (by simp [Builtin.List.listFitsIndex]; omega) (by rw [hs, hzt]; omega) (by rw [hs, hzt]; simp [Builtin.List.listTooLong, sizeLine]; omega)
    refine wpAny_binaryOp_repeat_ref (s := { s with heap := h₂, toks := tk₂ }) (T := "list") (U := "int") (by decide) ⟨_, g₂, rfl⟩ (fun s' => typeIs_int s' _ u) noFill_list_mul PySem.F.fills_int_mul PySem.F.slot_int_rmul repeat_list PySem.F.slot_int_index.lookup ?_
    refine call_meets PySem.F.slot_int_rmul (typeIs_int _ _ u) PySem.F.entry_int_rmul (PySem.F.args_int_rmul_2 _ _) (int___rmul___int_list z u q [Value.int i t].toArray k) ?_
    refine ⟨g₂, rfl, ⟨_, g₂, rfl⟩, ?_⟩
    refine call_meets PySem.F.slot_list_mul ⟨_, g₂, rfl⟩ PySem.F.entry_list_mul (PySem.F.args_list_mul_2 _ _) me ⟨g₂, ?_⟩
    rw [hzt]
    exact fin
  exact hfin _ rfl hz0
end
end Mine

end
section
open PySem PyProof.Rows PySem.W
set_option maxRecDepth 100000
set_option linter.unusedVariables false
namespace Mine

/-- the entries of EXACT_TOKEN_TYPES -/
theorem obj58 (w : World) : ∃ ep, (KP w).lookup 58 = some { cls := .type "dict", data := .dict (es58 w.params).toArray ep } := ⟨_, by rfl⟩
def ent (P : Params) (e : Str × Tok × Int × Tok) : DictEntry := kE P e.1 e.2.1 (.int e.2.2.1 e.2.2.2)

/-- the number of a text -/
noncomputable def tokOf (k : Str) : Option Int := (kv58.find? fun e => e.1 == k).map fun e => e.2.2.1

section
variable {prog : Program} {w : World} {A : Around} {Ok : Cond} {env : Env} {x : Str} {i : Int} {e₁ e₂ : Expr} {p apos pos : Pos} {h : Heap}
theorem find58 (P : Params) (k : Str) : findBy Value.isStrOf (es58 P).toArray k = (kv58.find? fun e => e.1 == k).map fun e => Value.int e.2.2.1 e.2.2.2 := by
  unfold findBy
  rw [← Array.find?_toList]
  show ((kv58.map (ent P)).find? _).map _ = _
  rw [List.find?_map, Option.map_map]
  congr 1

theorem map58 (g : Gl w h) : h.MapOf (PySem.strKind prog w) 58 (fun k => (kv58.find? fun e => e.1 == k).map fun e => Value.int e.2.2.1 e.2.2.2) := by
  obtain ⟨ep, o⟩ := obj58 w
  refine ⟨_, _, ep, g.kin _ _ o, ⟨rfl, rfl, rfl⟩, rfl, fun e he => ?_, fun k => find58 _ k⟩
  have he' : e ∈ kv58.map (ent w.params) := List.mem_toArray.mp he
  obtain ⟨q, _, rfl⟩ := List.mem_map.mp he'
  exact ⟨q.1, strKind_is prog w q.1 q.2.1, rfl⟩

theorem ev_tok_get (mo : Mono Ok) (hg : ∀ F h, Ok F h → Gl w h) (hn : NV (model prog w) A Ok env (Str.ofString "EXACT_TOKEN_TYPES") (.ref 58)) (h1 : EV (model prog w) A Ok (eval e₁ env) (.str x)) (h2 : EV (model prog w) A Ok (eval e₂ env) (.int i))
    (hbase : attributeBase (.Name (Str.ofString "EXACT_TOKEN_TYPES") p) (Str.ofString "get") env (eval (.Name (Str.ofString "EXACT_TOKEN_TYPES") p) env) = eval (.Name (Str.ofString "EXACT_TOKEN_TYPES") p) env := by rfl)
    (hline : (apos.endLine == pos.line) = true := by rfl) (htrees : backTo pos (starEach [e₁, e₂] env) = [(false, eval e₁ env), (false, eval e₂ env)] := by rfl) :
    EV (model prog w) A Ok (eval (.Call (.Attribute (.Name (Str.ofString "EXACT_TOKEN_TYPES") p) (Str.ofString "get") apos) [e₁, e₂] [] pos) env) (.int ((tokOf x).getD i)) := fun F s Q E ft ok hQ => by
  refine wpAny_Call_method2_late hbase hline htrees (hn _ F s _ E ok ?_)
  have m := map58 (prog := prog) (hg _ _ ok)
  refine ⟨"dict", "dict.get", PySem.F.plainAttrs_dict, PySem.F.slot_dict_get, PySem.F.type_dict_get, m.typeIs, m.noDict, ?_⟩
  refine wpAny_dict_get2 (knd := PySem.strKind prog w) (by decide) (h1 F s _ E ft ok fun v F₁ h₁ tk₁ l₁ r₁ => h2 F₁ _ _ E l₁.k (mo _ _ _ _ ok l₁) fun u F₂ h₂ tk₂ l₂ r₂ => ?_)
  cases r₁ with | str _ t =>
  cases r₂ with | int _ t' =>
  refine ⟨x, _, strKind_is prog w x t, map58 (hg _ _ (mo _ _ _ _ ok (l₁.trans l₂))), ?_⟩
  unfold tokOf at hQ
  cases hf : kv58.find? (fun e => e.1 == x) with
  | none => rw [hf] at hQ; exact hQ _ F₂ h₂ _ (l₁.trans l₂) (.int _ _)
  | some e => rw [hf] at hQ; exact hQ _ F₂ h₂ _ (l₁.trans l₂) (.int _ _)

theorem ev_tok_item {k : Int} (mo : Mono Ok) (hg : ∀ F h, Ok F h → Gl w h) (hn : NV (model prog w) A Ok env (Str.ofString "EXACT_TOKEN_TYPES") (.ref 58)) (h1 : EV (model prog w) A Ok (eval e₁ env) (.str x)) (hk : tokOf x = some k)
    (hs : ∀ o i, subscripted e₁ false o i = operate [o, i] (getItem o i) ∨ subscripted e₁ false o i = operate [i, o] (getItem o i) := by intro _ _; first | exact .inl rfl | exact .inr rfl) :
    EV (model prog w) A Ok (eval (.Subscript (.Name (Str.ofString "EXACT_TOKEN_TYPES") p) e₁ pos) env) (.int k) := fun F s Q E ft ok hQ => by
  refine Subscript_ (hn _ F s _ E ok (h1 F s _ E ft ok fun v F₁ h₁ tk₁ l₁ r₁ => ?_))
  cases r₁ with | str _ t =>
  have m := map58 (prog := prog) (hg _ _ (mo _ _ _ _ ok l₁))
  unfold tokOf at hk
  cases hf : kv58.find? (fun e => e.1 == x) with
  | none => rw [hf] at hk; cases hk
  | some e =>
    rw [hf] at hk
    simp at hk
    subst hk
    refine sub_tail slot_dict_getitem.lookup ⟨fun s' hs' => by
        have m' := map58 (prog := prog) (h := s'.heap) (by rw [hs']; exact hg _ _ (mo _ _ _ _ ok l₁))
        exact m'.typeIs, m.noDict⟩ (wpAny_getItem_of (knd := PySem.strKind prog w) (strKind_is prog w x t) m (by rw [hf]; rfl) ?_) (hs _ _)
    exact hQ _ F₁ h₁ _ l₁ (.int _ _)
end
end Mine

end
section
open PySem PyProof.Rows PySem.W
set_option maxRecDepth 100000
set_option linter.unusedVariables false
namespace Mine

section
variable {prog : Program} {w : World} {A : Around} {G : Heap → Prop} {e : Env} {pos : Pos}
theorem ex_while {test : Expr} {body : List Stmt} {ρ : Nat → Rho} (n : Nat) (ht : ∀ i, i ≤ n → ∀ K, EB (model prog w) A (St G K e (ρ i)) (isTrue test e (eval test e)) (decide (i < n)))
    (hb : ∀ i, i < n → EX (model prog w) A G e (ρ i) (execs body e) (.next (ρ (i + 1)))) : EX (model prog w) A G e (ρ 0) (exec (.While test body [] pos) e) (.next (ρ n)) := fun K F s Q E S hQ => by
  refine wpAny_While (codeAny_whileLoop (fun k s' => ∃ i F' h' tk, s' = { s with heap := h', toks := tk } ∧ i ≤ n ∧ k = n - i ∧ St G K e (ρ i) F' h' ∧ FLe F F' ∧ New K F F') ?_ n ⟨0, F, s.heap, s.toks, rfl, Nat.zero_le _, rfl, S, .refl, .refl⟩)
  rintro k s' ⟨i, F', h', tk, rfl, hi, rfl, S', f', n'⟩
  refine ht i hi K F' _ _ _ S'.fit S' fun F₁ h₁ tk₁ l₁ => ?_
  have S₁ := St.mono _ _ _ _ S' l₁
  have n₁ := n'.trans (l₁.new S'.kept)
  by_cases h : i < n
  · rw [if_pos (by simpa using h)]
    refine hb i h K F₁ _ _ _ S₁ fun F₂ h₂ tk₂ f₂ n₂ S₂ => ?_
    exact ⟨n - (i + 1), by omega, i + 1, F₂, h₂, tk₂, rfl, h, rfl, S₂, (f'.trans l₁.f).trans f₂, n₁.trans n₂⟩
  · have : i = n := by omega
    subst this
    rw [if_neg (by simp)]
    exact wpAny_execs_nil (hQ F₁ h₁ tk₁ (f'.trans l₁.f) n₁ S₁)
end

/-- what the one names the other bears too -/
theorem sub_nil {ρ' : Rho} : ∀ y b, List.lookup y ([] : Rho) = some b → ρ'.lookup y = some b := fun _ _ q => by cases q
theorem sub_cons {ρ ρ' : Rho} {x : Str} {c : B} (h : ρ'.lookup x = some c) (r : ∀ y b, ρ.lookup y = some b → ρ'.lookup y = some b) : ∀ y b, List.lookup y ((x, c) :: ρ) = some b → ρ'.lookup y = some b := fun y b q => by
  rcases lookup_ins q with ⟨rfl, q'⟩ | ⟨_, q⟩
  · rw [q']; exact h
  · exact r y b q
end Mine

end
section
open PySem PyProof.Rows PySem.W
set_option maxRecDepth 100000
set_option linter.unusedVariables false
namespace Mine

/-- a slice of any list -/
def gslice {α : Type} (ds : List α) (lo hi st : Option Int) : List α :=
  (sliceRange (sliceBounds lo hi st ds.length).1 (sliceBounds lo hi st ds.length).2.1 (sliceBounds lo hi st ds.length).2.2).filterMap (ds[·]?)
theorem lslice_map {α : Type} (f : α → PyData) (l : List α) (lo hi st : Option Int) : lslice (l.map f) lo hi st = (gslice l lo hi st).map f := by
  unfold lslice gslice
  rw [List.length_map, List.map_filterMap]
  congr 1
  funext i
  simp

/-- _law_climb: the hosts, the rungs -/
def hseq (x : Str) : Nat → Str
  | 0 => x
  | n + 1 => sslice (rch (hseq x n)) (some 1) none none
def keyOf (x : Str) : Str := sslice (Txt.join (Str.ofString "") (gslice (Txt.split x dot) none (some (-1)) none)) none none (some (-1))
noncomputable def rungD (x : Str) (i : Nat) : PyData := .tuple [.str (rch (hseq x i)), .int ((tokOf (keyOf (hseq x (i + 1)))).getD 0)]
noncomputable def climbF (x : Str) (n : Nat) : List PyData := (List.range n).map (rungD x)

structure ReachOk (x : Str) : Prop where
  a : x.length ≤ 2 ^ 16
  z : (sslice x (some (Txt.find x dot + 1)) none none).length ≤ 2 ^ 20
  ok : ipOk x = true
structure KeyOk (x : Str) : Prop where
  s : (Txt.split x dot).length ≤ 2 ^ 16
  j : JoinOk (Str.ofString "") (gslice (Txt.split x dot) none (some (-1)) none) = true
  b : (Txt.join (Str.ofString "") (gslice (Txt.split x dot) none (some (-1)) none)).length ≤ 2 ^ 20
  c : (keyOf x).length ≤ 2 ^ 20
structure ClimbOk (x : Str) (n : Nat) : Prop where
  small : n ≤ 2 ^ 10
  up : ∀ i, i < n → (rch (hseq x i) != hseq x i) = true
  top : (rch (hseq x n) != hseq x n) = false
  r : ∀ i, i ≤ n → ReachOk (hseq x i)
  rl : ∀ i, i < n → (rch (hseq x i)).length ≤ 2 ^ 16
  k : ∀ i, i < n → KeyOk (hseq x (i + 1))

section
variable {prog : Program} {w : World} {A : Around} {vs : List Value} {x : Str}
def rhoC (x : Str) (i : Nat) (rungs : List PyData) : Rho := [(Str.ofString "rung", .imm (.str (rch (hseq x i)))), (Str.ofString "rungs", .mut rungs), (Str.ofString "here", .imm (.str (hseq x i)))]
theorem ev_climb {n : Nat} (hroom : A.depth + 2 < recursionLimit) (ok : ClimbOk x n) : EV (model prog w) A (fun F h => Gl w h ∧ RepAll F vs [.str x]) (call (.ref 88) vs) (.list (climbF x n)) := by
  refine fn_call1 (p := Str.ofString "host") (by omega) at_climb (by intros; rfl) (fun k => .inl (by rfl)) (by intros; rfl) (fun L cd => ?_) (by rfl) (by rfl) (by rfl)
  have hr : (A.deeper (fe 88 L cd)).depth + 1 < recursionLimit := by show A.depth + 1 + 1 < _; omega
  generalize A.deeper (fe 88 L cd) = A' at hr
  have reach : ∀ {ρ : Rho} {K : FM} {i : Nat} {p q z : Pos}, i ≤ n → ρ.lookup (Str.ofString "here") = some (.imm (.str (hseq x i))) →
      EV (model prog w) A' (St (Gl w) K (fe 88 L cd) ρ) (eval (.Call (.Name (Str.ofString "reach") p) [.Name (Str.ofString "here") q] [] z) (fe 88 L cd)) (.str (rch (hseq x i))) := fun {ρ K i p q z} hi hl =>
    ev_def St.mono (fun F h S => S.glob) (nv_global (fun F h S => S.glob) (by kernel_rfl) (by rfl) (by rfl) (by rfl) (by rfl)) at_reach (ea1 St.mono (ev_var hl (by rfl))) (fun vs => ev_reach hr (ok.r i hi).a (ok.r i hi).z (ok.r i hi).ok) (by rfl)
  show EX (model prog w) A' (Gl w) (fe 88 L cd) _ (execs (_ :: _ :: _ :: _ :: _) _) _
  refine ex_next (ex_assign_mut (fun K => evm_list (ds := []) ea_nil (by decide)) (by rfl)) ?_
  refine ex_next (ex_assign (fun K => ev_var (by rfl) (by rfl)) (by rfl)) ?_
  refine ex_next (ex_assign (fun K => reach (i := 0) (Nat.zero_le _) (by rfl)) (by rfl)) ?_
  refine ex_next (ρ' := rhoC x n (climbF x n)) (EX.weak (ρ := rhoC x 0 (climbF x 0)) (ex_while (ρ := fun i => rhoC x i (climbF x i)) n (fun i hi K => ?_) (fun i hi => ?_)) ?_) ?_
  · have e : decide (i < n) = (rch (hseq x i) != hseq x i) := by
      by_cases h : i < n
      · rw [ok.up i h]; simpa using h
      · have : i = n := by omega
        subst this; rw [ok.top]; simp
    rw [e]
    exact eb_compare St.mono (ev_var (by rfl) (by rfl)) (ev_var (by rfl) (by rfl)) (fun a c => op_ne_str)
  · have hk := ok.k i hi
    have ra := (ok.r (i + 1) hi).a
    have rl := ok.rl i hi
    show EX (model prog w) A' (Gl w) (fe 88 L cd) _ (execs [_, _, _] _) _
    refine ex_next (ex_assign (fun K => ev_slice_str St.mono (ev_var (by rfl) (by rfl)) (.some ev_int) .none .none (by rfl) (by rw [sizeLine_eq]; omega) (by show (hseq x (i + 1)).length ≤ _; rw [sizeLine_eq]; omega)) (by rfl)) ?_
    refine ex_next (ex_append (x := Str.ofString "rungs") (d := rungD x i) (by rfl) (fun K => ?_) ?_ (by rfl)) ?_
    · refine ev_tuple (ea2 St.mono (ev_var (by rfl) (by rfl)) ?_) (by show 2 ≤ sizeLine; decide)
      refine ev_tok_get St.mono (fun F h S => S.glob) (nv_global (fun F h S => S.glob) (by kernel_rfl) (by rfl) (by rfl) (by rfl) (by rfl)) ?_ ev_int
      refine ev_slice_str (x := Txt.join (Str.ofString "") (gslice (Txt.split (hseq x (i + 1)) dot) none (some (-1)) none)) St.mono ?_ .none .none (.some (ev_unary St.mono ev_int fun a => op_neg_int)) (by rfl) (by have := hk.b; rw [sizeLine_eq]; omega) (by have := hk.c; rw [sizeLine_eq]; exact Nat.le_trans this (by decide))
      refine m_join (x := Str.ofString "") (xs := gslice (Txt.split (hseq x (i + 1)) dot) none (some (-1)) none) ⟨by rfl, by rfl, by rfl, by rfl⟩ St.mono ev_str (ea1 St.mono ?_) hk.j
      rw [← lslice_map]
      refine ev_slice_list St.mono (m_split (y := dot) ⟨by rfl, by rfl, by rfl, by rfl⟩ St.mono (ev_var (by rfl) (by rfl)) (ea1 St.mono ev_str) (by decide +kernel) (by omega) (by have := hk.s; omega)) .none (.some (ev_unary St.mono ev_int fun a => op_neg_int)) .none (by intro h; cases h) (by rw [List.length_map, sizeLine_eq]; have := hk.s; omega)
    · have := ok.small
      show (climbF x i).length ≤ _
      unfold climbF; rw [List.length_map, List.length_range, sizeLine_eq]; omega
    refine ex_next (EX.forget (ex_assign (fun K => reach (i := i + 1) hi (by rfl)) (by rfl)) ?_) ex_nil
    have e : climbF x (i + 1) = climbF x i ++ [rungD x i] := by unfold climbF; rw [List.range_succ, List.map_append]; rfl
    show ∀ y b, (rhoC x (i + 1) (climbF x (i + 1))).lookup y = some b → _
    rw [e]
    exact sub_cons (by rfl) (sub_cons (by rfl) (sub_cons (by rfl) sub_nil))
  · exact sub_cons (by rfl) (sub_cons (by rfl) (sub_cons (by rfl) sub_nil))
  · exact ex_ret (ex_return_mut (by rfl) (by rfl))
end
end Mine

end
section
open PySem PyProof.Rows PySem.W PySem.Spec
set_option maxRecDepth 100000
set_option linter.unusedVariables false
namespace Mine

theorem RepAll.strsAre {F : FM} : ∀ {vs : List Value} {xs : List Str}, RepAll F vs (xs.map PyData.str) → StrsAre vs xs
  | vs, [], x => by cases x; exact .nil
  | vs, n :: ns, r => by
    cases r with | cons a r => cases a with | str _ t => exact .cons _ _ (RepAll.strsAre r)
theorem repStrsAre {F : FM} : ∀ {vs : List Value} {xs : List Str}, StrsAre vs xs → RepAll F vs (xs.map PyData.str)
  | _, _, .nil => .nil
  | _, _, .cons _ _ r => .cons (.str _ _) (repStrsAre r)

theorem sortedS_pairwise : ∀ (l : List Str), sortedS l = true → l.Pairwise (fun a b => ltCps b.cps.toList a.cps.toList = false) := by
  have key : ∀ (l : List Str) (p : Str), risingS p l = true → (∀ b ∈ l, ltCps b.cps.toList p.cps.toList = false) ∧ l.Pairwise (fun a b => ltCps b.cps.toList a.cps.toList = false) := by
    intro l
    induction l with
    | nil => intro p _; exact ⟨fun _ h => (by cases h), .nil⟩
    | cons x r ih =>
      intro p h
      rw [risingS, Bool.and_eq_true] at h
      obtain ⟨h1, h2⟩ := ih x h.2
      have hx : ltCps x.cps.toList p.cps.toList = false := by simpa using h.1
      refine ⟨fun b hb => ?_, .cons h1 h2⟩
      rcases List.mem_cons.mp hb with rfl | hb
      · exact hx
      · have hb' := h1 b hb
        rw [ltCps_eq] at hx hb' ⊢
        simp only [decide_eq_false_iff_not] at hx hb' ⊢
        exact fun h => absurd (List.le_trans (Std.not_lt.mp hx) (Std.not_lt.mp hb')) (Std.not_le.mpr h)
  intro l h
  cases l with
  | nil => exact .nil
  | cons x r => obtain ⟨h1, h2⟩ := key r x h; exact .cons h1 h2
theorem sorted_unique {ss a b : List Str} (pa : a.Perm ss) (sa : sortedS a = true) (pb : b.Perm ss) (sb : sortedS b = true) : a = b := by
  refine List.Perm.eq_of_pairwise (le := fun a b : Str => ltCps b.cps.toList a.cps.toList = false) (fun x y _ _ h1 h2 => ?_) (sortedS_pairwise a sa) (sortedS_pairwise b sb) (pa.trans pb.symm)
  rw [ltCps_eq] at h1 h2
  simp only [decide_eq_false_iff_not] at h1 h2
  apply Str.ext'
  exact Array.toList_inj.mp (List.le_antisymm (Std.not_lt.mp h1) (Std.not_lt.mp h2))

section
variable {prog : Program} {w : World} {A : Around} {Ok : Cond} {vs : List Value} {ss srt : List Str} {env : Env} {o e₁ : Expr} {apos pos : Pos} {y : Str}
theorem ca_sorted (h64 : ss.length < 64) (hp : srt.Perm ss) (hs : sortedS srt = true) : EV (model prog w) A (fun F h => Ok F h ∧ RepAll F vs [.list (ss.map .str)]) (call (.builtin "sorted") vs) (.list (srt.map .str)) := fun F s Q E ft ⟨_, r⟩ h => by
  cases r with | cons r q =>
  cases q
  cases r with | @list l n us _ g r =>
  refine sorted_strs ⟨_, ft _ _ g, rfl, n, rfl⟩ r.strsAre (by rw [r.length, List.length_map]; exact h64) fun out ss' a1 a2 a3 => ?_
  have e := sorted_unique a2 a3 hp hs
  subst e
  obtain ⟨k, hk⟩ := sortedAll_at s.heap us out
  have g' : (sortedAll s.heap us out).get? (s.heap.objs.size + 1) = some (lst out.toList k) := by rw [hk]
  have fr : s.heap.get? (s.heap.objs.size + 1) = none := by
    cases q : s.heap.get? (s.heap.objs.size + 1) with
    | none => rfl
    | some o => exact absurd (Heap.lt_size q) (Nat.not_lt.mpr (Nat.le_succ _))
  have ex := (Ext.heap ft (fun _ _ => sortedAll_old)).ins fr g'
  exact h _ _ _ s.toks ex (.list ins_self (repStrsAre a1))

theorem ca_index {v : Value} {j : Nat} (hj : ss.findIdx? (· == y) = some j) (hz : ss.length ≤ 2 ^ 20) :
    EV (model prog w) A (fun F h => Ok F h ∧ Rep F v (.list (ss.map .str)) ∧ RepAll F vs [.str y]) (call (.builtin "list.index") (v :: vs)) (.int j) := fun F s Q E ft ⟨_, r, r2⟩ h => by
  cases r2 with | cons r2 q =>
  cases q
  cases r2 with | str _ t =>
  cases r with | @list l n us _ g r =>
  have hl : us.length = ss.length := by rw [r.length, List.length_map]
  obtain ⟨h1, h2, h3⟩ := List.findIdx?_eq_some_iff_getElem.mp hj
  have val : ∀ m (hm : m < us.length), ∃ u, us[m] = .str ss[m] u := fun m hm => by
    obtain ⟨d, hd, rd⟩ := r.get' (k := m) (v := us[m]) (by simp)
    have hm' : m < ss.length := by omega
    simp [hm'] at hd
    subst hd
    generalize us[m] = z at rd
    cases rd with | str _ u => exact ⟨u, rfl⟩
  refine call_meets PySem.F.slot_list_index ⟨_, ft _ _ g, rfl⟩ PySem.F.entry_list_index (PySem.F.args_list_index_2 _ _)
    (MeetsSeq.list_index l us.toArray n (.str y t) (fun v => match v with | .str x _ => x.cps.toList == y.cps.toList | _ => false) (fun z hz => ?_) j (by simpa [hl] using h1) (by omega) ?_ (fun m hm hlt => ?_)) ⟨ft _ _ g, h _ F s.heap _ (.refl ft) (.int _ _)⟩
  · have hz' : z ∈ us := by simpa using hz
    obtain ⟨m, hm, rfl⟩ := List.mem_iff_getElem.mp hz'
    obtain ⟨u, e⟩ := val m hm
    rw [e]
    exact SeqRoads2.EqGives.str _ _ _ _
  · obtain ⟨u, e⟩ := val j (by omega)
    simp [e]
    simpa using congrArg (fun q : Str => q.cps) (eq_of_beq h2)
  · have hm' : m < us.length := by simpa using hm
    obtain ⟨u, e⟩ := val m hm'
    have := h3 m hlt
    simp [e]
    intro q
    apply this
    exact beq_iff_eq.mpr (Str.ext' q)
theorem m_index {j : Nat} (mk : MOk env o (Str.ofString "index") apos [e₁] pos) (mo : Mono Ok) (ho : EV (model prog w) A Ok (eval o env) (.list (ss.map .str))) (ha : EA (model prog w) A Ok (backTo pos (starEach [e₁] env)) [.str y])
    (hj : ss.findIdx? (· == y) = some j) (hz : ss.length ≤ 2 ^ 20) : EV (model prog w) A Ok (eval (.Call (.Attribute o (Str.ofString "index") apos) [e₁] [] pos) env) (.int j) :=
  ev_method PySem.F.plainAttrs_list PySem.F.slot_list_index PySem.F.type_list_index mo ho (fun F h v k r => hasType_list k r) ha (fun v vs => ca_index hj hz) mk.hp mk.hbase mk.hfew mk.hline
end
end Mine

end
section
open PySem PyProof.Rows PySem.W
set_option maxRecDepth 100000
set_option linter.unusedVariables false
namespace Mine

/-- the first sign of a text -/
def head1 (x : Str) : Str := ⟨#[x.cps.getD 0 0]⟩
/-- one text goes on from the other -/
def pref (c : Bool) (a b : Str) : Bool := c && ((head1 a != dot) && (Txt.startswith a b && true))
def E0 : Str := Str.ofString ""
def underF (c : Bool) (ss : List Str) (p : Nat) : List Nat := (List.range p).filter fun low => pref c (ss.getD p E0) (ss.getD low E0)
def nimStep (c : Bool) (ss : List Str) (p : Nat) (s : List Int × Int) : List Int × Int :=
  match (underF c ss p).getLast? with
  | none => (s.1, Builtin.bitXor s.2 (s.1.getD p 0 + 1))
  | some q => (s.1.set q (Builtin.bitXor (s.1.getD q 0) (s.1.getD p 0 + 1)), s.2)
def nimSt (c : Bool) (ss : List Str) : Nat → List Int × Int
  | 0 => (List.replicate ss.length 0, 0)
  | i + 1 => nimStep c ss (ss.length - 1 - i) (nimSt c ss i)
def nimF (c : Bool) (ss : List Str) : Int := (nimSt c ss ss.length).2

theorem nimStep_len {c : Bool} {ss : List Str} {p : Nat} {s : List Int × Int} : (nimStep c ss p s).1.length = s.1.length := by
  unfold nimStep; split <;> simp
theorem nimSt_len {c : Bool} {ss : List Str} : ∀ i, (nimSt c ss i).1.length = ss.length
  | 0 => by simp [nimSt]
  | i + 1 => by rw [nimSt, nimStep_len, nimSt_len i]

theorem rangeD0 (n : Nat) : rangeD 0 (n : Int) 1 = (List.range n).map fun i => [.int (i : Nat)] := by
  unfold rangeD
  have : (Builtin.Range.rangeSize 0 (n : Int) 1).toNat = n := by
    unfold Builtin.Range.rangeSize
    simp
    split <;> omega
  rw [this]
  congr 1
  funext i
  simp

theorem filter_rangeD0 {n : Nat} {keep : List PyData → Bool} {f : List PyData → PyData} :
    ((rangeD 0 (n : Int) 1).filter keep).map f = ((List.range n).filter fun i => keep [.int (i : Nat)]).map fun i => f [.int (i : Nat)] := by
  rw [rangeD0, List.filter_map, List.map_map]; rfl
theorem mem_rangeD0 {n : Nat} {ds : List PyData} (h : ds ∈ rangeD 0 (n : Int) 1) : ∃ i, i < n ∧ ds = [.int (i : Nat)] := by
  rw [rangeD0] at h
  obtain ⟨i, hi, rfl⟩ := List.mem_map.mp h
  exact ⟨i, by simpa using hi, rfl⟩
/-- the int of a turn -/
def turnN (ds : List PyData) : Nat := match ds with
  | [.int i] => i.toNat
  | _ => 0
def at0 (ds : List PyData) : PyData := ds.getD 0 .none
theorem len_rangeD0 (n : Nat) : (rangeD 0 (n : Int) 1).length = n := by rw [rangeD0]; simp

theorem small0 {n : Nat} (h : n ≤ 64) : Builtin.Range.small 0 (n : Int) 1 = true := by
  have : ∀ k : Fin 65, Builtin.Range.small 0 ((k.1 : Nat) : Int) 1 = true := by decide +kernel
  exact this ⟨n, by omega⟩
theorem size0 {n : Nat} : 0 ≤ Builtin.Range.rangeSize 0 (n : Int) 1 := by
  unfold Builtin.Range.rangeSize; simp; split <;> omega
/-- what a downward range gives -/
theorem rangeDown (n : Nat) : rangeD ((n : Int) - 1) (-1) (-1) = (List.range n).map fun i => [.int ((n : Int) - 1 - (i : Nat))] := by
  unfold rangeD
  have : (Builtin.Range.rangeSize ((n : Int) - 1) (-1) (-1)).toNat = n := by
    unfold Builtin.Range.rangeSize
    simp
    split <;> omega
  rw [this]
  congr 1
  funext i
  congr 2
  omega

theorem EV.to {M : Model} {A : Around} {Ok : Cond} {t : Sem Value} {d d' : PyData} (x : EV M A Ok t d) (e : d = d') : EV M A Ok t d' := e ▸ x
theorem EB.to {M : Model} {A : Around} {Ok : Cond} {t : Sem Bool} {d d' : Bool} (x : EB M A Ok t d) (e : d = d') : EB M A Ok t d' := e ▸ x
theorem EX.to {M : Model} {A : Around} {G : Heap → Prop} {e : Env} {ρ : Rho} {t : Sem Flow} {o o' : Out} (x : EX M A G e ρ t o) (h : o = o') : EX M A G e ρ t o' := h ▸ x

def compOkB (scope : Scope) (xs : List Str) : Bool :=
  scope.names.all (fun y => !(y.2 == .cell)) && (scope.kind == .function) && scope.names.all (fun y => !(y.2 == .local) || (scope.names.lookup y.1 == some .local)) && xs.all (fun x => scope.names.lookup x == some .local) && decide xs.Nodup
theorem compOk_of {scope : Scope} {xs : List Str} (h : compOkB scope xs = true) : CompOk scope xs := by
  unfold compOkB at h
  simp only [Bool.and_eq_true, List.all_eq_true, decide_eq_true_eq] at h
  obtain ⟨⟨⟨⟨h1, h2⟩, h3⟩, h4⟩, h5⟩ := h
  refine ⟨fun y hy q => ?_, eq_of_beq h2, fun y hy q => ?_, fun x hx => eq_of_beq (h4 x hx), h5⟩
  · have := h1 y hy; rw [q] at this; cases this
  · have := h3 y hy
    rw [q] at this
    simp only [beq_self_eq_true, Bool.not_true, Bool.false_or] at this
    exact eq_of_beq this

section
variable {prog : Program} {w : World} {A : Around} {Ok : Cond} {env : Env} {value idx : Expr} {pos : Pos} {ds : List PyData} {d : PyData} {x : Str} {k : Nat}
theorem ev_item {k : Nat} (mo : Mono Ok) (hv : EV (model prog w) A Ok (eval value env) (.list ds)) (hi : EV (model prog w) A Ok (eval idx env) (.int (k : Nat))) (hz : k < 2 ^ 20) (hk : ds[k]? = some d)
    (hs : ∀ o i, subscripted idx false o i = operate [o, i] (getItem o i) ∨ subscripted idx false o i = operate [i, o] (getItem o i) := by intro _ _; first | exact .inl rfl | exact .inr rfl) :
    EV (model prog w) A Ok (eval (.Subscript value idx pos) env) d :=
  ev_subscript list_getitem_lookup mo hv hi (fun F h v k r => hasType_list k r) (fun a b => gi_list (by omega) (by omega) (by simpa using hk)) hs
theorem ev_head {j : Nat} {q : Pos} (mo : Mono Ok) (hv : EV (model prog w) A Ok (eval value env) (.str x)) (hx : 0 < x.cps.size) :
    EV (model prog w) A Ok (eval (.Subscript value (.Constant (.int 0) j q) pos) env) (.str (head1 x)) := by
  refine ev_subscript PySem.F.slot_str_getitem.lookup mo hv ev_int (fun F h v _ r => hasType_str r) (fun a b => gi_str (c := x.cps.getD 0 0) (by decide) ?_)
  rw [show seqIndex? (0 : Int) x.length = some 0 from seq0 hx]; simp [Array.getD, hx]
end

theorem lay_ints : ∀ ns : List Int, PyData.canLayAll0 (ns.map .int) = true ∧ PyData.depthAll (ns.map .int) = 0
  | [] => ⟨rfl, rfl⟩
  | n :: ns => by
    obtain ⟨h1, h2⟩ := lay_ints ns
    exact ⟨by simp [PyData.canLayAll0, PyData.canLay0, h1], by simp [PyData.depthAll, PyData.depth, h2]⟩
theorem shaped_ints (ns : List Int) : SeqAt.shaped (.list (ns.map .int)) = true := by
  obtain ⟨h1, h2⟩ := lay_ints ns
  simp [SeqAt.shaped, PyData.canLay0, PyData.depth, h1, h2]
theorem shaped_nil : SeqAt.shaped (.list []) = true := shaped_ints []
theorem eqv_ints : ∀ a b : List Int, PyData.eqv (.list (a.map .int)) (.list (b.map .int)) = (a == b)
  | [], [] => rfl
  | [], _ :: _ => rfl
  | _ :: _, [] => rfl
  | x :: a, y :: b => by
    have := eqv_ints a b
    simp only [PyData.eqv] at this
    simp [PyData.eqv, PyData.eqvAll, this]
theorem eqv_nil {ds : List PyData} : PyData.eqv (.list ds) (.list []) = ds.isEmpty := by cases ds <;> rfl
theorem natInts {l : List Nat} : (l.map fun k => PyData.int (k : Nat)) = (l.map fun k : Nat => (k : Int)).map PyData.int := by rw [List.map_map]; rfl

section
variable {prog : Program} {w : World} {A : Around} {vs : List Value} {c : Bool} {ss : List Str}
def rhoN (c : Bool) (ss : List Str) (i : Nat) : Rho := [(Str.ofString "upon", .mut ((nimSt c ss i).1.map .int)), (Str.ofString "total", .imm (.int (nimSt c ss i).2)), (Str.ofString "stand", .imm (.list (ss.map .str))), (Str.ofString "stacked", .imm (.bool c))]
theorem ev_nim (hh : A.handled = none) (hu : A.units + 70 < cLine) (hroom : A.depth + 1 < recursionLimit) (hn : ss.length ≤ 8) (h0 : ∀ x ∈ ss, 0 < x.cps.size) :
    EV (model prog w) A (fun F h => Gl w h ∧ RepAll F vs [.list (ss.map .str), .bool c]) (call (.ref 93) vs) (.int (nimF c ss)) := by
  refine fn_call2 (p := Str.ofString "stand") (q := Str.ofString "stacked") (by omega) at_nim (by intros; rfl) (fun k z hz => by rcases hz with rfl | rfl <;> exact .inr ⟨by rfl, by rfl⟩) (by intros; exact ⟨by rfl, by rfl⟩) (fun L cd => ?_) (by rfl) (by rfl) (by rfl)
  have hh' : (A.deeper (fe 93 L cd)).handled = none := hh
  have hu' : (A.deeper (fe 93 L cd)).units + 64 < cLine := by show A.units + 3 + 64 < cLine; omega
  generalize A.deeper (fe 93 L cd) = A' at hh' hu'
  show EX (model prog w) A' (Gl w) (fe 93 L cd) _ (execs (_ :: _ :: _ :: _ :: _) _) _
  have len : ∀ {ρ : Rho} {K : FM} {p q z : Pos}, ρ.lookup (Str.ofString "stand") = some (.imm (.list (ss.map .str))) →
      EV (model prog w) A' (St (Gl w) K (fe 93 L cd) ρ) (eval (.Call (.Name (Str.ofString "len") p) [.Name (Str.ofString "stand") q] [] z) (fe 93 L cd)) (.int (ss.length : Nat)) := fun {ρ K p q z} hl =>
    (ev_call_builtin St.mono (nv_builtin (fun F h S => S.glob) (by kernel_rfl) (by kernel_rfl!) (by decide +kernel) (by rfl) (by rfl) (by rfl) (by rfl) (by rfl)) (ea1 St.mono (ev_var hl (by rfl))) (fun vs => ca_len (by rw [List.length_map, sizeLine_eq]; omega))).to (by rw [List.length_map])
  refine ex_next (ex_assign_mut (fun K => evm_mul_list (n := ss.length) (i := 0) St.mono (ev_list (ea1 St.mono ev_int) (by show 1 ≤ sizeLine; decide)) (len (by rfl)) (by omega)) (by rfl)) ?_
  refine ex_next (ex_assign (fun K => ev_int) (by rfl)) ?_
  have e0 : rangeD ((ss.length : Int) - 1) (-1) (-1) = (List.range ss.length).map fun i => [.int ((ss.length : Int) - 1 - (i : Nat))] := rangeDown _
  have el : (rangeD ((ss.length : Int) - 1) (-1) (-1)).length = ss.length := by rw [e0]; simp
  refine ex_next (ρ' := rhoN c ss ss.length) (EX.weak (ρ := rhoN c ss 0) ((ex_for (ρ := rhoN c ss) (dss := rangeD ((ss.length : Int) - 1) (-1) (-1)) (xs := [Str.ofString "place"]) (fun K => ?_) (fun x hx => ?_) (fun i ds hi => ?_)).to (by rw [el])) ?_) ?_
  · refine ei_range3 hh' (nv_builtin (fun F h S => S.glob) (by kernel_rfl) (by kernel_rfl!) (by decide +kernel) (by rfl) (by rfl) (by rfl) (by rfl) (by rfl))
      (ea3 St.mono (ev_binop St.mono (len (by rfl)) ev_int (fun a b => op_sub_int)) (ev_unary St.mono ev_int fun a => op_neg_int) (ev_unary St.mono ev_int fun a => op_neg_int)) (by decide) ?_ ?_ ?_
    · have : ∀ k : Fin 9, Builtin.divisionGoesByPylong (-1 - (((k.1 : Nat) : Int) - 1)) (-1) = false := by decide +kernel
      exact this ⟨ss.length, by omega⟩
    · have : ∀ k : Fin 9, Builtin.Range.small (((k.1 : Nat) : Int) - 1) (-1) (-1) = true := by decide +kernel
      exact this ⟨ss.length, by omega⟩
    · have : ∀ k : Fin 9, 0 ≤ Builtin.Range.rangeSize (((k.1 : Nat) : Int) - 1) (-1) (-1) := by decide +kernel
      exact this ⟨ss.length, by omega⟩
  · simp at hx; subst hx; rfl
  · rw [e0] at hi
    obtain ⟨hin, rfl⟩ : i < ss.length ∧ [PyData.int ((ss.length : Int) - 1 - (i : Nat))] = ds := by
      rw [List.getElem?_map] at hi
      cases q : (List.range ss.length)[i]? with
      | none => rw [q] at hi; cases hi
      | some k =>
        rw [q] at hi
        obtain ⟨q1, q2⟩ := List.getElem?_eq_some_iff.mp q
        simp at q1 q2; subst q2
        exact ⟨q1, Option.some.inj hi⟩
    have hp : (ss.length : Int) - 1 - (i : Nat) = ((ss.length - 1 - i : Nat) : Int) := by omega
    rw [hp]
    generalize hpp : ss.length - 1 - i = p
    have hpl : p < ss.length := by omega
    have hlen := nimSt_len (c := c) (ss := ss) i
    have item : ∀ {k : Nat}, k < ss.length → (ss.map PyData.str)[k]? = some (.str (ss.getD k E0)) := fun {k} hk => by
      simp [hk]
    have upi : ∀ {k : Nat}, k < ss.length → ((nimSt c ss i).1.map PyData.int)[k]? = some (.int ((nimSt c ss i).1.getD k 0)) := fun {k} hk => by
      have : k < (nimSt c ss i).1.length := by omega
      simp [this]
    have pos0 : ∀ {k : Nat}, k < ss.length → 0 < (ss.getD k E0).cps.size := fun {k} hk => by
      have : ss.getD k E0 = ss[k] := by simp [hk]
      rw [this]; exact h0 _ (List.getElem_mem hk)
    show EX (model prog w) A' (Gl w) (fe 93 L cd) _ (execs [_, _] _) _
    refine ex_next (ρ' := (Str.ofString "under", .imm (.list ((underF c ss p).map fun k => .int (k : Nat)))) :: (Str.ofString "place", .imm (.int (p : Nat))) :: rhoN c ss i) ((ex_assign_compM (xs := [Str.ofString "low"]) (dss := rangeD 0 (p : Int) 1) false (by rfl) (by rfl) ?_
      (fun K => ?_) (by rw [len_rangeD0, sizeLine_eq]; omega) (closureFor_eq (by rfl)) (fun ds => pref c (ss.getD p E0) (ss.getD (turnN ds) E0)) at0 (fun K C ds hds => ?_) (fun K C ds hds _ => ?_)).to ?_) ?_
    · exact compOk_of (by rfl)
    · exact ei_range1 hh' (nv_builtin (fun F h S => S.glob) (by kernel_rfl) (by kernel_rfl!) (by decide +kernel) (by rfl) (by rfl) (by rfl) (by rfl) (by rfl)) (ea1 St.mono (ev_var (by rfl) (by rfl))) (small0 (by omega)) size0
    · obtain ⟨k, hk, rfl⟩ := mem_rangeD0 hds
      have hkl : k < ss.length := by omega
      show EB _ _ _ _ (pref c (ss.getD p E0) (ss.getD k E0))
      have mo : Mono (CS (St (Gl w) K (fe 93 L cd) ((Str.ofString "place", .imm (.int (p : Nat))) :: rhoN c ss i)) C [Str.ofString "low"] [.int (k : Nat)]) := CS.mono St.mono
      refine eb_tests_one (eb_boolop (eb_and_cons mo (eb_value mo (ev_free (d := .bool c) (by rfl) (by rfl) (by rfl) (by rfl) (by rfl) (by rfl)) (fun a => tr_bool)) fun _ => eb_and_cons mo ?_ fun _ => eb_and_cons mo ?_ fun _ => eb_and_nil))
      · exact eb_compare mo (ev_head mo (ev_item mo (ev_free (by rfl) (by rfl) (by rfl) (by rfl) (by rfl) (by rfl)) (ev_free (d := .int (p : Nat)) (by rfl) (by rfl) (by rfl) (by rfl) (by rfl) (by rfl)) (by omega) (item hpl)) (pos0 hpl)) ev_str (fun a c => op_ne_str)
      · exact eb_value mo (m_startswith ⟨by rfl, by rfl, by rfl, by rfl⟩ mo (ev_item mo (ev_free (by rfl) (by rfl) (by rfl) (by rfl) (by rfl) (by rfl)) (ev_free (d := .int (p : Nat)) (by rfl) (by rfl) (by rfl) (by rfl) (by rfl) (by rfl)) (by omega) (item hpl))
          (ea1 mo (ev_item mo (ev_free (by rfl) (by rfl) (by rfl) (by rfl) (by rfl) (by rfl)) (ev_cl0 (by rfl) (by rfl) (by rfl)) (by omega) (item hkl)))) (fun a => tr_bool)
    · obtain ⟨k, hk, rfl⟩ := mem_rangeD0 hds
      exact ev_cl0 (by rfl) (by rfl) (by rfl)
    · rw [filter_rangeD0]; rfl
    have lay : SeqAt.shaped (.list ((underF c ss p).map fun k => PyData.int (k : Nat))) = true := by rw [natInts]; exact shaped_ints _
    refine ex_next (ρ' := rhoN c ss (i + 1)) (ex_if (b := (underF c ss p).isEmpty) (fun K => (eb_compare (d₁ := .list ((underF c ss p).map fun k => .int (k : Nat))) (d₂ := .list []) St.mono (ev_var (by rfl) (by rfl)) (ev_list ea_nil (by decide)) (fun a b => op_eq hu' lay shaped_nil)).to (by rw [eqv_nil]; cases underF c ss p <;> rfl)) (fun hb => ?_) (fun hb => ?_)) ex_nil
    · have hl : (underF c ss p).getLast? = none := by rw [List.isEmpty_iff.mp hb]; rfl
      have e : nimSt c ss (i + 1) = ((nimSt c ss i).1, Builtin.bitXor (nimSt c ss i).2 ((nimSt c ss i).1.getD p 0 + 1)) := by rw [nimSt, hpp, nimStep, hl]
      show EX (model prog w) A' (Gl w) (fe 93 L cd) _ (execs [_] _) _
      refine ex_next (EX.forget (ex_assign (fun K => ev_binop St.mono (ev_var (d := .int (nimSt c ss i).2) (by rfl) (by rfl)) (ev_binop St.mono (ev_mut_item (k := (p : Nat)) St.mono (mv_var (by rfl) (by rfl)) (ev_var (by rfl) (by rfl)) (by omega) (by omega) (upi hpl)) ev_int (fun a b => op_add_int)) (fun a b => op_xor_int)) (by rfl)) ?_) ex_nil
      unfold rhoN
      rw [e]
      exact sub_cons (by rfl) (sub_cons (by rfl) (sub_cons (by rfl) (sub_cons (by rfl) sub_nil)))
    · cases hl : (underF c ss p).getLast? with
      | none => rw [List.getLast?_eq_none_iff] at hl; rw [hl] at hb; cases hb
      | some q =>
        have e : nimSt c ss (i + 1) = ((nimSt c ss i).1.set q (Builtin.bitXor ((nimSt c ss i).1.getD q 0) ((nimSt c ss i).1.getD p 0 + 1)), (nimSt c ss i).2) := by rw [nimSt, hpp, nimStep, hl]
        have hq : q < p := by
          have := List.mem_of_getLast? hl
          unfold underF at this
          simpa using (List.mem_filter.mp this).1
        have hql : q < ss.length := by omega
        have hne : underF c ss p ≠ [] := fun h => by rw [h] at hl; cases hl
        have hlast : ∀ {K : FM} {q1 q2 q3 q4 : Pos} {j : Nat}, EV (model prog w) A' (St (Gl w) K (fe 93 L cd) ((Str.ofString "under", .imm (.list ((underF c ss p).map fun k => .int (k : Nat)))) :: (Str.ofString "place", .imm (.int (p : Nat))) :: rhoN c ss i))
            (eval (.Subscript (.Name (Str.ofString "under") q1) (.UnaryOp .USub (.Constant (.int 1) j q2) q3) q4) (fe 93 L cd)) (.int (q : Nat)) := fun {K q1 q2 q3 q4 j} => by
          have h1 : 0 < (underF c ss p).length := List.length_pos_iff.mpr hne
          have h2 : (underF c ss p).length ≤ 8 := by
            unfold underF
            refine Nat.le_trans (List.length_filter_le _ _) ?_
            rw [List.length_range]; omega
          refine ev_subscript list_getitem_lookup St.mono (ev_var (by rfl) (by rfl)) (ev_unary St.mono ev_int fun a => op_neg_int) (fun F h v k r => hasType_list k r) (fun a b => gi_list_neg (by omega) (by rw [List.length_map]; omega) (by omega) ?_)
          rw [List.length_map, List.getElem?_map]
          have h3 : (-1 + ((underF c ss p).length : Int)).toNat = (underF c ss p).length - 1 := by omega
          rw [h3, ← List.getLast?_eq_getElem?, hl]; rfl
        show EX (model prog w) A' (Gl w) (fe 93 L cd) _ (execs [_] _) _
        refine ex_next (EX.forget (ex_setitem (x := Str.ofString "upon") (k := (q : Nat)) (by rfl) (by rfl) (fun K => ev_binop St.mono (ev_mut_item (k := (q : Nat)) St.mono (mv_var (by rfl) (by rfl)) hlast (by omega) (by omega) (upi hql))
          (ev_binop St.mono (ev_mut_item (k := (p : Nat)) St.mono (mv_var (by rfl) (by rfl)) (ev_var (by rfl) (by rfl)) (by omega) (by omega) (upi hpl)) ev_int (fun a b => op_add_int)) (fun a b => op_xor_int)) (fun K => hlast) (by omega) (by omega) (by rw [List.length_map, hlen]; omega)) ?_) ex_nil
        unfold rhoN
        rw [e]
        have e2 : (((nimSt c ss i).1.map PyData.int).set ((q : Nat) : Int).toNat (.int (Builtin.bitXor ((nimSt c ss i).1.getD q 0) ((nimSt c ss i).1.getD p 0 + 1)))) = ((nimSt c ss i).1.set q (Builtin.bitXor ((nimSt c ss i).1.getD q 0) ((nimSt c ss i).1.getD p 0 + 1))).map PyData.int := by
          rw [List.map_set]; rfl
        exact sub_cons (congrArg (fun z => some (B.mut z)) e2) (sub_cons (by rfl) (sub_cons (by rfl) (sub_cons (by rfl) sub_nil)))
  · have e : (List.replicate ss.length (PyData.int 0)) = (nimSt c ss 0).1.map PyData.int := by
      show _ = (List.replicate ss.length (0 : Int)).map _
      rw [List.map_replicate]
    rw [e]
    exact sub_cons (by rfl) (sub_cons (by rfl) (sub_cons (by rfl) (sub_cons (by rfl) sub_nil)))
  · exact ex_ret (ex_return fun K => ev_var (by rfl) (by rfl))
end
end Mine

end
section
open PySem PyProof.Rows PySem.W PySem.Spec
set_option maxRecDepth 100000
set_option linter.unusedVariables false
namespace Mine

/-- the number of the places where f holds -/
def sumbits (f : Nat → Bool) : Nat → Nat
  | 0 => 0
  | n + 1 => sumbits f n + (if f n = true then 2 ^ n else 0)
theorem sumbits_lt (f : Nat → Bool) : ∀ n, sumbits f n < 2 ^ n
  | 0 => by simp [sumbits]
  | n + 1 => by
    have := sumbits_lt f n
    rw [sumbits, Nat.pow_succ]
    split <;> omega
theorem testBit_sumbits (f : Nat → Bool) (o : Nat) : ∀ n, (sumbits f n).testBit o = (decide (o < n) && f o)
  | 0 => by simp [sumbits]
  | n + 1 => by
    have ih := testBit_sumbits f o n
    have lt := sumbits_lt f n
    rw [sumbits]
    by_cases hf : f n = true
    · rw [if_pos hf, Nat.add_comm]
      by_cases ho : o = n
      · subst ho
        rw [Nat.testBit_two_pow_add_eq, Nat.testBit_lt_two_pow lt, hf]
        simp
      · by_cases hl : o < n
        · rw [Nat.testBit_two_pow_add_gt hl, ih]
          have : o < n + 1 := by omega
          simp [hl, this]
        · have h1 : 2 ^ n + sumbits f n < 2 ^ o := by
            have : 2 ^ (n + 1) ≤ 2 ^ o := Nat.pow_le_pow_right (by decide) (by omega)
            rw [Nat.pow_succ] at this
            omega
          rw [Nat.testBit_lt_two_pow h1]
          have : ¬ o < n + 1 := by omega
          simp [this]
    · rw [if_neg hf, Nat.add_zero, ih]
      by_cases ho : o = n
      · subst ho
        have : f o = false := by simpa using hf
        simp [this]
      · have : (o < n) ↔ (o < n + 1) := by omega
        simp [this]
theorem sumbits_sum (f : Nat → Bool) : ∀ n, (((List.range n).filter f).map fun o => ((1 : Int) * 2 ^ ((o : Nat) : Int).toNat)).sum = ((sumbits f n : Nat) : Int)
  | 0 => by simp [sumbits]
  | n + 1 => by
    rw [List.range_succ, List.filter_append, List.map_append, List.sum_append, sumbits_sum f n, sumbits]
    by_cases hf : f n = true
    · simp [hf]
    · have : f n = false := by simpa using hf
      simp [this]

def subM (m u : Nat) : Nat := m ^^^ (m &&& u)
theorem subM_int {m u : Nat} (hm : m < 32) (hu : u < 32) : Builtin.bitAnd (m : Int) (Builtin.bitNot (u : Int)) = ((subM m u : Nat) : Int) := by
  have : ∀ m u : Fin 32, Builtin.bitAnd ((m.1 : Nat) : Int) (Builtin.bitNot ((u.1 : Nat) : Int)) = ((subM m.1 u.1 : Nat) : Int) := by decide +kernel
  exact this ⟨m, hm⟩ ⟨u, hu⟩
theorem subM_bit (m u o : Nat) : (subM m u).testBit o = (m.testBit o && !u.testBit o) := by
  unfold subM
  rw [Nat.testBit_xor, Nat.testBit_and]
  cases m.testBit o <;> cases u.testBit o <;> rfl
theorem subM_le (m u : Nat) : subM m u ≤ m := by
  refine Nat.le_of_testBit ?_
  intro i h
  rw [subM_bit, Bool.and_eq_true] at h
  exact h.1
theorem subM_lt {m u p : Nat} (h1 : m.testBit p = true) (h2 : u.testBit p = true) : subM m u < m := by
  refine Nat.lt_of_le_of_ne (subM_le m u) fun e => ?_
  have := subM_bit m u p
  rw [e, h1, h2] at this
  cases this
theorem bit_int {m p : Nat} (hm : m < 32) (hp : p < 5) : (Builtin.bitAnd (((m : Nat) : Int).fdiv (2 ^ ((p : Nat) : Int).toNat)) 1 != 0) = m.testBit p := by
  have : ∀ (m : Fin 32) (p : Fin 5), (Builtin.bitAnd (((m.1 : Nat) : Int).fdiv (2 ^ ((p.1 : Nat) : Int).toNat)) 1 != 0) = m.1.testBit p.1 := by decide +kernel
  exact this ⟨m, hm⟩ ⟨p, hp⟩
theorem shl_int (n : Nat) : (1 : Int) * 2 ^ ((n : Nat) : Int).toNat = ((2 ^ n : Nat) : Int) := by simp

theorem rangeD1 (N : Nat) : rangeD 1 (N : Int) 1 = (List.range (N - 1)).map fun i => [.int ((i + 1 : Nat) : Int)] := by
  unfold rangeD
  have : (Builtin.Range.rangeSize 1 (N : Int) 1).toNat = N - 1 := by
    unfold Builtin.Range.rangeSize
    simp
    split <;> omega
  rw [this]
  congr 1
  funext i
  congr 2
  omega
theorem rangeDown0 (n : Nat) : rangeD ((n : Int) - 1) 0 (-1) = (List.range (n - 1)).map fun i => [.int ((n - 1 - i : Nat) : Int)] := by
  unfold rangeD
  have : (Builtin.Range.rangeSize ((n : Int) - 1) 0 (-1)).toNat = n - 1 := by
    unfold Builtin.Range.rangeSize
    simp
    split <;> omega
  rw [this]
  apply List.map_congr_left
  intro i hi
  simp at hi
  congr 2
  omega
theorem getElem?_range_map {α : Type} {n i : Nat} {f : Nat → α} {d : α} (h : ((List.range n).map f)[i]? = some d) : i < n ∧ f i = d := by
  rw [List.getElem?_map] at h
  cases q : (List.range n)[i]? with
  | none => rw [q] at h; cases h
  | some k =>
    rw [q] at h
    obtain ⟨q1, q2⟩ := List.getElem?_eq_some_iff.mp q
    simp at q1 q2; subst q2
    exact ⟨q1, Option.some.inj h⟩
theorem small1 {n : Nat} (h : n ≤ 5) : Builtin.Range.small 1 ((2 ^ n : Nat) : Int) 1 = true ∧ Builtin.Range.small 0 ((2 ^ n : Nat) : Int) 1 = true := by
  have : ∀ k : Fin 6, Builtin.Range.small 1 ((2 ^ k.1 : Nat) : Int) 1 = true ∧ Builtin.Range.small 0 ((2 ^ k.1 : Nat) : Int) 1 = true := by decide +kernel
  exact this ⟨n, by omega⟩
theorem size1 {N : Nat} : 0 ≤ Builtin.Range.rangeSize 1 (N : Int) 1 := by
  unfold Builtin.Range.rangeSize; simp; split <;> omega
end Mine

end
section
open PySem PyProof.Rows PySem.W PySem.Spec
set_option maxRecDepth 100000
set_option linter.unusedVariables false
namespace Mine

def tops : List Str := [Str.ofString "local", Str.ofString "com", Str.ofString "c7", Str.ofString "7", Str.ofString ""]
def stk (top : Str) : Bool := [Str.ofString "local", Str.ofString "com", Str.ofString "c7"].any (· == top)
def prefA (c : Bool) (x y : Str) : Bool := c && ((head1 y != dot) && (Txt.startswith x y && true))
def cutA (h : Str) : Str := sslice h none (some (-2)) none
def cutB (h : Str) : Str := sslice h (some (-2)) none none
def domF (h : Str) : Str := (dot ++ cutA h) ++ Txt.upper (cutB h)
def preT (x : Str) (k : Nat) : Str := sslice x none (some (k : Int)) none
def idxOf (x : Str) : Option Nat := rowL.findIdx? (· == x)
def free (x top : Str) : Bool := stk top && ((head1 x != dot) && true)
def dueT (x top : Str) (k : Nat) : PyData := .tuple [.str (dot ++ hostF (preT x k) top), .int (7 + ((idxOf (preT x k)).getD 0 : Nat))]
def dueC (x top : Str) : List PyData := (List.range (x.length - 1)).map fun i => dueT x top (x.length - 1 - i)
def dueL (x top : Str) : List PyData :=
  if free x top = true then dueC x top ++ (if (top == Str.ofString "local") = true then [.tuple [.str (Str.ofString ".local"), .int 0]] else []) else []
/-- what is asked of a text -/
structure TOk (x top : Str) : Prop where
  pos : 0 < x.cps.size
  len : x.length ≤ 8
  host : HostOk x top
  hl : (hostF x top).length ≤ 2 ^ 10
  ca : (cutA (hostF x top)).length ≤ 2 ^ 10
  cb : (cutB (hostF x top)).length ≤ 2 ^ 10
  pre : free x top = true → ∀ k, 1 ≤ k → k < x.length → HostOk (preT x k) top ∧ (hostF (preT x k) top).length ≤ 2 ^ 10 ∧ (preT x k).length ≤ 2 ^ 10 ∧ (idxOf (preT x k)).isSome = true
  climb : ∃ m, ClimbOk (hostF x top) m ∧ PyData.eqv (.list (climbF (hostF x top) m)) (.list (dueL x top)) = true ∧ SeqAt.shaped (.list (climbF (hostF x top) m)) = true ∧ SeqAt.shaped (.list (dueL x top)) = true
  idx : ∃ j, idxOf x = some j ∧ tokOf x = some (7 + (j : Int))
  up : DmOk (Txt.upper (hostF x top)) (hostF x top) ∧ dm (Txt.upper (hostF x top)) (hostF x top) = true
  no : ∀ one ∈ [dot, top, dot ++ hostF x top], DmOk (hostF x top) one ∧ dm (hostF x top) one = false
  self : DmOk (hostF x top) (hostF x top) ∧ dm (hostF x top) (hostF x top) = true
  selfd : DmOk (dot ++ hostF x top) (dot ++ hostF x top) ∧ dm (dot ++ hostF x top) (dot ++ hostF x top) = true
/-- what is asked of two texts of the table -/
structure POk (x y top : Str) : Prop where
  d1 : DmOk (Txt.upper (hostF x top)) (domF (hostF y top))
  e1 : dm (Txt.upper (hostF x top)) (domF (hostF y top)) = prefA (stk top) x y
  d2 : DmOk (hostF x top) (hostF y top)
  e2 : dm (hostF x top) (hostF y top) = false
  d3 : DmOk (dot ++ hostF x top) (dot ++ hostF y top)
  e3 : dm (dot ++ hostF x top) (dot ++ hostF y top) = false

def upB (T : List Str) (top : Str) (p o : Nat) : Bool := o == p || prefA (stk top) (T.getD o E0) (T.getD p E0)
def uN (T : List Str) (top : Str) (p : Nat) : Nat := sumbits (upB T top p) T.length
def bitsN (n m : Nat) : List Nat := (List.range n).filter fun p => m.testBit p
def nimM (T : List Str) (top : Str) (m : Nat) : Int := nimF (stk top) ((bitsN T.length m).map fun p => T.getD p E0)
def winM (T : List Str) (top : Str) (m : Nat) : List Nat := (bitsN T.length m).filter fun p => nimM T top (subM m (uN T top p)) == 0

structure Good (T : List Str) (top : Str) : Prop where
  n1 : 1 ≤ T.length
  n5 : T.length ≤ 5
  t : ∀ p, p < T.length → TOk (T.getD p E0) top
  p : ∀ o p, o < T.length → p < T.length → o ≠ p → POk (T.getD o E0) (T.getD p E0) top
  nim : ∀ m, m < 2 ^ T.length → (winM T top m).isEmpty = (nimM T top m == 0)

section
variable {T : List Str} {top : Str} {m p o : Nat}
theorem pow32 (g : Good T top) : 2 ^ T.length ≤ 32 := by
  have : 2 ^ T.length ≤ 2 ^ 5 := Nat.pow_le_pow_right (by decide) g.n5
  exact this
theorem uN_lt (g : Good T top) : uN T top p < 32 := Nat.lt_of_lt_of_le (sumbits_lt _ _) (pow32 g)
theorem uN_self (hp : p < T.length) : (uN T top p).testBit p = true := by
  unfold uN
  rw [testBit_sumbits]
  simp [hp, upB]
theorem mem_bitsN {n : Nat} (h : p ∈ bitsN n m) : p < n ∧ m.testBit p = true := by
  unfold bitsN at h
  simpa using h
end

/-- the statements of law -/
noncomputable def stAt (k : Nat) : Stmt := match (fb 98)[k]? with
  | some s => s
  | none => .Pass ⟨0, 0, 0, 0⟩
def rho0 (T : List Str) (top : Str) : Rho := [(Str.ofString "hosts", .imm (.list ((T.map fun x => hostF x top).map .str))), (Str.ofString "stacked", .imm (.bool (stk top))), (Str.ofString "top", .imm (.str top)),
  (Str.ofString "many", .imm (.int (T.length : Nat))), (Str.ofString "texts", .imm (.list (T.map .str))), (Str.ofString "row", .imm (.list (rowL.map .str)))]
def fallsD (T : List Str) (top : Str) (i : Nat) : List PyData := (List.range i).map fun p => .int (uN T top p : Nat)
def rho1 (T : List Str) (top : Str) (i : Nat) : Rho := (Str.ofString "falls", .mut (fallsD T top i)) :: (Str.ofString "above", .mut (fallsD T top i)) :: rho0 T top
end Mine

end
section
open PySem PyProof.Rows PySem.W PySem.Spec
set_option maxRecDepth 100000
set_option linter.unusedVariables false
namespace Mine

section
variable {prog : Program} {w : World} {A : Around} {T : List Str} {top : Str} {L : Addr} {cd : Value}
theorem list_at {α : Type} {f : Str → α} {p : Nat} (hp : p < T.length) : (T.map f)[p]? = some (f (T.getD p E0)) := by
  simp [hp]
theorem texts_at {p : Nat} (hp : p < T.length) : (T.map PyData.str)[p]? = some (.str (T.getD p E0)) := list_at hp
theorem hosts_at {p : Nat} (hp : p < T.length) : ((T.map fun x => hostF x top).map PyData.str)[p]? = some (.str (hostF (T.getD p E0) top)) := by
  rw [List.map_map]; exact list_at (f := PyData.str ∘ fun x => hostF x top) hp

theorem intBeq (o i : Nat) : (((o : Nat) : Int) == ((i : Nat) : Int)) = (o == i) := by
  rw [Bool.eq_iff_iff, beq_iff_eq, beq_iff_eq]; omega
theorem upper_len {x : Str} (h : x.length ≤ 2 ^ 10) : (Txt.upper x).length ≤ 2 ^ 12 := by have := upper_size x; omega

theorem law_loop1 (hh : A.handled = none) (hr : A.depth + 1 < recursionLimit) (g : Good T top) :
    EX (model prog w) A (Gl w) (fe 98 L cd) (rho1 T top 0) (exec (stAt 12) (fe 98 L cd)) (.next (rho1 T top T.length)) := by
  have n5 := g.n5
  have e0 : rangeD 0 (T.length : Int) 1 = (List.range T.length).map fun i => [.int (i : Nat)] := rangeD0 _
  have el : (rangeD 0 (T.length : Int) 1).length = T.length := len_rangeD0 _
  show EX (model prog w) A (Gl w) (fe 98 L cd) _ (exec (.For _ _ [_, _, _] [] _) _) _
  refine (ex_for (ρ := rho1 T top) (dss := rangeD 0 (T.length : Int) 1) (xs := [Str.ofString "place"]) (fun K => ?_) (fun x hx => ?_) (fun i ds hi => ?_)).to (by rw [el])
  · exact ei_range1 hh (nv_builtin (fun F h S => S.glob) (by kernel_rfl) (by kernel_rfl!) (by decide +kernel) (by rfl) (by rfl) (by rfl) (by rfl) (by rfl)) (ea1 St.mono (ev_var (by rfl) (by rfl))) (small0 (by omega)) size0
  · simp at hx; subst hx; rfl
  rw [e0] at hi
  obtain ⟨hin, rfl⟩ := getElem?_range_map hi
  have t := g.t i hin
  have hl := t.hl
  have ca := t.ca
  have cb := t.cb
  have dl : dot.length = 1 := by decide +kernel
  have ul := upper_size (cutB (hostF (T.getD i E0) top))
  generalize hH : hostF (T.getD i E0) top = H at hl ca cb ul
  have host : ∀ {K : FM} {ρ : Rho} {p q r : Pos}, ρ.lookup (Str.ofString "hosts") = some (.imm (.list ((T.map fun x => hostF x top).map .str))) → ρ.lookup (Str.ofString "place") = some (.imm (.int (i : Nat))) →
      EV (model prog w) A (St (Gl w) K (fe 98 L cd) ρ) (eval (.Subscript (.Name (Str.ofString "hosts") p) (.Name (Str.ofString "place") q) r) (fe 98 L cd)) (.str H) := fun {K ρ p q r} h1 h2 =>
    ev_item St.mono (ev_var h1 (by rfl)) (ev_var h2 (by rfl)) (by omega) (by rw [← hH]; exact hosts_at hin)
  refine ex_next (ex_assign (d := .str (domF H)) (fun K => ?_) (by rfl)) ?_
  · refine ev_binop St.mono (ev_binop St.mono (ev_str (x := dot)) (ev_slice_str St.mono (host (by rfl) (by rfl)) .none (.some (ev_unary St.mono ev_int fun a => op_neg_int)) .none (by rfl) (by rw [sizeLine_eq]; omega) ?_) (fun a b => op_add_str ?_)) (m_upper ⟨by rfl, by rfl, by rfl, by rfl⟩ St.mono (ev_slice_str St.mono (host (by rfl) (by rfl)) (.some (ev_unary St.mono ev_int fun a => op_neg_int)) .none .none (by rfl) (by rw [sizeLine_eq]; omega) ?_) ?_) (fun a b => op_add_str ?_)
    · show (cutA H).length ≤ _; rw [sizeLine_eq]; omega
    · show dot.length + (cutA H).length ≤ _; rw [sizeLine_eq]; omega
    · show (cutB H).length ≤ _; rw [sizeLine_eq]; omega
    · show (cutB H).length ≤ _; omega
    · show (dot ++ cutA H).length + (Txt.upper (cutB H)).length ≤ _
      have : (dot ++ cutA H).length = dot.length + (cutA H).length := by show (dot.cps ++ (cutA H).cps).size = _; rw [Array.size_append]; rfl
      rw [this, sizeLine_eq]; omega
  subst hH
  have fin : ∀ y b, (rho1 T top (i + 1)).lookup y = some b → ((Str.ofString "above", B.mut (fallsD T top i ++ [.int (uN T top i : Nat)])) :: (Str.ofString "falls", B.mut (fallsD T top i ++ [.int (uN T top i : Nat)])) :: (Str.ofString "domain", B.imm (.str (domF (hostF (T.getD i E0) top)))) :: (Str.ofString "place", B.imm (.int (i : Nat))) :: rho1 T top i).lookup y = some b := by
    have e : fallsD T top (i + 1) = fallsD T top i ++ [.int (uN T top i : Nat)] := by unfold fallsD; rw [List.range_succ, List.map_append]; rfl
    unfold rho1
    rw [e]
    exact sub_cons (by rfl) (sub_cons (by rfl) (sub_cons (by rfl) (sub_cons (by rfl) (sub_cons (by rfl) (sub_cons (by rfl) (sub_cons (by rfl) (sub_cons (by rfl) sub_nil)))))))
  have small : (fallsD T top i).length ≤ sizeLine := by unfold fallsD; rw [List.length_map, List.length_range, sizeLine_eq]; omega
  have sumE : ∀ (keep : Nat → Bool), (∀ o, o < T.length → keep o = upB T top i o) →
      (((List.range T.length).filter keep).map fun o => ((1 : Int) * 2 ^ ((o : Nat) : Int).toNat)).sum = ((uN T top i : Nat) : Int) := fun keep hk => by
    have : (List.range T.length).filter keep = (List.range T.length).filter (upB T top i) := List.filter_congr fun o ho => hk o (by simpa using ho)
    rw [this, sumbits_sum]; rfl
  have datE : ∀ (keep : List PyData → Bool), ((rangeD 0 (T.length : Int) 1).filter keep).map (fun ds => PyData.int ((1 : Int) * 2 ^ ((turnN ds : Nat) : Int).toNat)) =
      (((List.range T.length).filter fun o => keep [.int (o : Nat)]).map fun o => ((1 : Int) * 2 ^ ((o : Nat) : Int).toNat)).map PyData.int := fun keep => by
    rw [filter_rangeD0, List.map_map]; rfl
  refine ex_next (ex_append (x := Str.ofString "falls") (ds := fallsD T top i) (d := .int (uN T top i : Nat)) (by rfl) (fun K => ?_) small (by rfl)) ?_
  · refine (ev_call_builtin St.mono (nv_builtin (fun F h S => S.glob) (by kernel_rfl) (by kernel_rfl!) (by decide +kernel) (by rfl) (by rfl) (by rfl) (by rfl) (by rfl)) (ea1 St.mono ((evm_comp (xs := [Str.ofString "other"]) (dss := rangeD 0 (T.length : Int) 1) (compOk_of (by rfl)) St.mono ?_ (by rw [el, sizeLine_eq]; omega) (closureFor_eq (by rfl))
      (fun ds => upB T top i (turnN ds)) (fun ds => PyData.int ((1 : Int) * 2 ^ ((turnN ds : Nat) : Int).toNat)) (fun C ds hds => ?_) (fun C ds hds _ => ?_)).ev.to (by rw [datE]; rfl))) (fun vs => ca_sum hh)).to (congrArg PyData.int (sumE _ fun o _ => rfl))
    · exact ei_range1 hh (nv_builtin (fun F h S => S.glob) (by kernel_rfl) (by kernel_rfl!) (by decide +kernel) (by rfl) (by rfl) (by rfl) (by rfl) (by rfl)) (ea1 St.mono (ev_var (by rfl) (by rfl))) (small0 (by omega)) size0
    · obtain ⟨o, ho, rfl⟩ := mem_rangeD0 hds
      refine (eb_tests_one (eb_boolop (eb_or_cons (b := ((o : Nat) : Int) == ((i : Nat) : Int)) (c := prefA (stk top) (T.getD o E0) (T.getD i E0)) (CS.mono St.mono) (eb_compare (CS.mono St.mono) (ev_cl0 (by rfl) (by rfl) (by rfl)) (ev_free (by rfl) (by rfl) (by rfl) (by rfl) (by rfl) (by rfl)) (fun a c => op_eq_int)) fun hb => ?_))).to ?_
      · have hne : o ≠ i := fun q => by subst q; simp at hb
        have pk := g.p o i ho hin hne
        refine (eb_or_cons (b := dm (Txt.upper (hostF (T.getD o E0) top)) (domF (hostF (T.getD i E0) top)) == true) (CS.mono St.mono) (eb_compare (CS.mono St.mono) (ev_def (CS.mono St.mono) (fun F h S => S.1.glob) (nv_global (fun F h S => S.1.glob) (by kernel_rfl) (by rfl) (by rfl) (by rfl) (by rfl)) at_dm
          (ea2 (CS.mono St.mono) (m_upper ⟨by rfl, by rfl, by rfl, by rfl⟩ (CS.mono St.mono) (ev_item (CS.mono St.mono) (ev_free (by rfl) (by rfl) (by rfl) (by rfl) (by rfl) (by rfl)) (ev_cl0 (by rfl) (by rfl) (by rfl)) (by omega) (hosts_at ho)) (by have := (g.t o ho).hl; omega))
            (ev_free (by rfl) (by rfl) (by rfl) (by rfl) (by rfl) (by rfl))) (fun vs => ev_dm hr pk.d1) (by rfl)) ev_bool (fun a c => op_is_bool)) fun _ => eb_or_nil).to ?_
        rw [pk.e1]; cases prefA (stk top) (T.getD o E0) (T.getD i E0) <;> rfl
      · show _ = upB T top i o
        unfold upB
        rw [intBeq]
    · obtain ⟨o, ho, rfl⟩ := mem_rangeD0 hds
      exact ev_binop (CS.mono St.mono) ev_int (ev_cl0 (by rfl) (by rfl) (by rfl)) (fun a b => op_shl_int (by omega) (by omega) (by decide))
  refine ex_next (EX.forget (ex_append (x := Str.ofString "above") (ds := fallsD T top i) (d := .int (uN T top i : Nat)) (by rfl) (fun K => ?_) small (by rfl)) fin) ex_nil
  refine (ev_call_builtin St.mono (nv_builtin (fun F h S => S.glob) (by kernel_rfl) (by kernel_rfl!) (by decide +kernel) (by rfl) (by rfl) (by rfl) (by rfl) (by rfl)) (ea1 St.mono ((evm_comp (xs := [Str.ofString "other"]) (dss := rangeD 0 (T.length : Int) 1) (compOk_of (by rfl)) St.mono ?_ (by rw [el, sizeLine_eq]; omega) (closureFor_eq (by rfl))
      (fun ds => upB T top i (turnN ds)) (fun ds => PyData.int ((1 : Int) * 2 ^ ((turnN ds : Nat) : Int).toNat)) (fun C ds hds => ?_) (fun C ds hds _ => ?_)).ev.to (by rw [datE]; rfl))) (fun vs => ca_sum hh)).to (congrArg PyData.int (sumE _ fun o _ => rfl))
  · exact ei_range1 hh (nv_builtin (fun F h S => S.glob) (by kernel_rfl) (by kernel_rfl!) (by decide +kernel) (by rfl) (by rfl) (by rfl) (by rfl) (by rfl)) (ea1 St.mono (ev_var (by rfl) (by rfl))) (small0 (by omega)) size0
  · obtain ⟨o, ho, rfl⟩ := mem_rangeD0 hds
    have text : ∀ {K : FM} {C : Addr} {k : Nat} {ρ : Rho} {e₁ : Expr} {p q : Pos} {ce : Env}, k < T.length → EV (model prog w) A (CS (St (Gl w) K (fe 98 L cd) ρ) C [Str.ofString "other"] [.int (o : Nat)]) (eval e₁ ce) (.int (k : Nat)) →
        EV (model prog w) A (CS (St (Gl w) K (fe 98 L cd) ρ) C [Str.ofString "other"] [.int (o : Nat)]) (eval (.Name (Str.ofString "texts") p) ce) (.list (T.map .str)) →
        (∀ o i, subscripted e₁ false o i = operate [o, i] (getItem o i) ∨ subscripted e₁ false o i = operate [i, o] (getItem o i)) →
        EV (model prog w) A (CS (St (Gl w) K (fe 98 L cd) ρ) C [Str.ofString "other"] [.int (o : Nat)]) (eval (.Subscript (.Name (Str.ofString "texts") p) e₁ q) ce) (.str (T.getD k E0)) := fun hk h1 h2 hs =>
      ev_item (CS.mono St.mono) h2 h1 (by omega) (texts_at hk) hs
    refine (eb_tests_one (eb_boolop (eb_or_cons (b := ((o : Nat) : Int) == ((i : Nat) : Int)) (CS.mono St.mono) (eb_compare (CS.mono St.mono) (ev_cl0 (by rfl) (by rfl) (by rfl)) (ev_free (by rfl) (by rfl) (by rfl) (by rfl) (by rfl) (by rfl)) (fun a c => op_eq_int)) fun _ =>
      eb_or_cons (b := prefA (stk top) (T.getD o E0) (T.getD i E0)) (CS.mono St.mono) (eb_boolop (eb_and_cons (CS.mono St.mono) (eb_value (CS.mono St.mono) (ev_free (d := .bool (stk top)) (by rfl) (by rfl) (by rfl) (by rfl) (by rfl) (by rfl)) (fun a => tr_bool)) fun _ => eb_and_cons (CS.mono St.mono) ?_ fun _ => eb_and_cons (CS.mono St.mono) ?_ fun _ => eb_and_nil)) fun _ => eb_or_nil))).to ?_
    · exact eb_compare (CS.mono St.mono) (ev_head (CS.mono St.mono) (text hin (ev_free (by rfl) (by rfl) (by rfl) (by rfl) (by rfl) (by rfl)) (ev_free (by rfl) (by rfl) (by rfl) (by rfl) (by rfl) (by rfl)) (by intro _ _; first | exact .inl rfl | exact .inr rfl)) t.pos) ev_str (fun a c => op_ne_str)
    · exact eb_value (CS.mono St.mono) (m_startswith ⟨by rfl, by rfl, by rfl, by rfl⟩ (CS.mono St.mono) (text ho (ev_cl0 (by rfl) (by rfl) (by rfl)) (ev_free (by rfl) (by rfl) (by rfl) (by rfl) (by rfl) (by rfl)) (by intro _ _; first | exact .inl rfl | exact .inr rfl))
        (ea1 (CS.mono St.mono) (text hin (ev_free (by rfl) (by rfl) (by rfl) (by rfl) (by rfl) (by rfl)) (ev_free (by rfl) (by rfl) (by rfl) (by rfl) (by rfl) (by rfl)) (by intro _ _; first | exact .inl rfl | exact .inr rfl)))) (fun a => tr_bool)
    · show _ = upB T top i o
      unfold upB
      rw [Bool.or_false, intBeq]
  · obtain ⟨o, ho, rfl⟩ := mem_rangeD0 hds
    exact ev_binop (CS.mono St.mono) ev_int (ev_cl0 (by rfl) (by rfl) (by rfl)) (fun a b => op_shl_int (by omega) (by omega) (by decide))
end
end Mine

end
section
open PySem PyProof.Rows PySem.W PySem.Spec
set_option maxRecDepth 100000
set_option linter.unusedVariables false
namespace Mine

def natsD (l : List Nat) : List PyData := l.map fun p => .int (p : Nat)
def winsD (T : List Str) (top : Str) (k : Nat) : List PyData := (List.range k).map fun m => .list (natsD (winM T top m))
def nimsD (T : List Str) (top : Str) (k : Nat) : List PyData := (List.range k).map fun m => .int (nimM T top m)
def rho2 (T : List Str) (top : Str) (i : Nat) : Rho := (Str.ofString "nims", .mut (nimsD T top i)) :: (Str.ofString "wins", .mut (winsD T top i)) :: rho1 T top T.length

theorem filter_nats {l : List Nat} {keep : List PyData → Bool} {f : List PyData → PyData} :
    (((natsD l).map fun d => [d]).filter keep).map f = (l.filter fun i => keep [.int (i : Nat)]).map fun i => f [.int (i : Nat)] := by
  unfold natsD
  rw [List.map_map, List.filter_map, List.map_map]; rfl
theorem mem_nats {l : List Nat} {ds : List PyData} (h : ds ∈ (natsD l).map fun d => [d]) : ∃ i, i ∈ l ∧ ds = [.int (i : Nat)] := by
  unfold natsD at h
  rw [List.map_map] at h
  obtain ⟨i, hi, rfl⟩ := List.mem_map.mp h
  exact ⟨i, hi, rfl⟩
theorem len_nats {l : List Nat} : ((natsD l).map fun d => [d]).length = l.length := by unfold natsD; simp
theorem shaped_nats (l : List Nat) : SeqAt.shaped (.list (natsD l)) = true := by unfold natsD; rw [natInts]; exact shaped_ints _
theorem range_at {α : Type} {f : Nat → α} {k n : Nat} (h : k < n) : ((List.range n).map f)[k]? = some (f k) := by simp [h]

section
variable {prog : Program} {w : World} {A : Around} {T : List Str} {top : Str} {L : Addr} {cd : Value}
theorem bits_len {n m : Nat} : (bitsN n m).length ≤ n := by
  unfold bitsN
  exact Nat.le_trans (List.length_filter_le _ _) (by rw [List.length_range]; exact Nat.le_refl _)
theorem eqv_refl_nats (l : List Nat) : PyData.eqv (.list (natsD l)) (.list (natsD l)) = true := by
  unfold natsD; rw [natInts, eqv_ints]; simp

theorem law_loop2 (hh : A.handled = none) (hu : A.units + 80 < cLine) (hr : A.depth + 1 < recursionLimit) (g : Good T top) :
    EX (model prog w) A (Gl w) (fe 98 L cd) (rho2 T top 1) (exec (stAt 15) (fe 98 L cd)) (.next (rho2 T top (2 ^ T.length))) := by
  have n5 := g.n5
  have n32 := pow32 g
  have npos : 0 < 2 ^ T.length := Nat.pow_pos (by decide)
  have e0 : rangeD 1 ((2 ^ T.length : Nat) : Int) 1 = (List.range (2 ^ T.length - 1)).map fun i => [.int ((i + 1 : Nat) : Int)] := rangeD1 _
  have el : (rangeD 1 ((2 ^ T.length : Nat) : Int) 1).length = 2 ^ T.length - 1 := by rw [e0]; simp
  show EX (model prog w) A (Gl w) (fe 98 L cd) _ (exec (.For _ _ [_, _, _] [] _) _) _
  refine (ex_for (ρ := fun i => rho2 T top (i + 1)) (dss := rangeD 1 ((2 ^ T.length : Nat) : Int) 1) (xs := [Str.ofString "mask"]) (fun K => ?_) (fun x hx => ?_) (fun i ds hi => ?_)).to (by rw [el, Nat.sub_add_cancel npos])
  · exact ei_range2 hh (nv_builtin (fun F h S => S.glob) (by kernel_rfl) (by kernel_rfl!) (by decide +kernel) (by rfl) (by rfl) (by rfl) (by rfl) (by rfl)) (ea2 St.mono ev_int ((ev_binop St.mono ev_int (ev_var (d := .int (T.length : Nat)) (by rfl) (by rfl)) (fun a b => op_shl_int (by omega) (by omega) (by decide))).to (congrArg PyData.int (shl_int _)))) (small1 n5).1 size1
  · simp at hx; subst hx; rfl
  rw [e0] at hi
  obtain ⟨hin, rfl⟩ := getElem?_range_map hi
  have hm : i + 1 < 2 ^ T.length := by omega
  generalize hmm : i + 1 = m at hm ⊢
  have m32 : m < 32 := by omega
  show EX (model prog w) A (Gl w) (fe 98 L cd) ((Str.ofString "mask", B.imm (.int (m : Nat))) :: rho2 T top m) _ (.next (rho2 T top (m + 1)))
  refine ex_next (ρ' := (Str.ofString "here", .imm (.list (natsD (bitsN T.length m)))) :: (Str.ofString "mask", B.imm (.int (m : Nat))) :: rho2 T top m) ((ex_assign_compM (xs := [Str.ofString "place"]) (dss := rangeD 0 (T.length : Int) 1) false (by rfl) (by rfl) (compOk_of (by rfl))
      (fun K => ?_) (by rw [len_rangeD0, sizeLine_eq]; omega) (closureFor_eq (by rfl)) (fun ds => m.testBit (turnN ds)) at0 (fun K C ds hds => ?_) (fun K C ds hds _ => ?_)).to ?_) ?_
  · exact ei_range1 hh (nv_builtin (fun F h S => S.glob) (by kernel_rfl) (by kernel_rfl!) (by decide +kernel) (by rfl) (by rfl) (by rfl) (by rfl) (by rfl)) (ea1 St.mono (ev_var (by rfl) (by rfl))) (small0 (by omega)) size0
  · obtain ⟨k, hk, rfl⟩ := mem_rangeD0 hds
    exact (eb_tests_one (eb_value (CS.mono St.mono) (ev_binop (CS.mono St.mono) (ev_binop (CS.mono St.mono) (ev_free (d := .int (m : Nat)) (by rfl) (by rfl) (by rfl) (by rfl) (by rfl) (by rfl)) (ev_cl0 (by rfl) (by rfl) (by rfl)) (fun a b => op_shr_int (by omega))) ev_int (fun a b => op_and_int)) (fun a => tr_int))).to (bit_int m32 (by omega))
  · obtain ⟨k, hk, rfl⟩ := mem_rangeD0 hds
    exact ev_cl0 (by rfl) (by rfl) (by rfl)
  · rw [filter_rangeD0]; rfl
  have blen : ((natsD (bitsN T.length m)).map fun d => [d]).length ≤ sizeLine := by rw [len_nats, sizeLine_eq]; have := bits_len (n := T.length) (m := m); omega
  have wl : (winsD T top m).length = m := by unfold winsD; simp
  have nl : (nimsD T top m).length = m := by unfold nimsD; simp
  refine ex_next (ex_append (x := Str.ofString "wins") (ds := winsD T top m) (d := .list (natsD (winM T top m))) (by rfl) (fun K => ?_) (by rw [wl, sizeLine_eq]; omega) (by rfl)) ?_
  · refine (evm_comp (xs := [Str.ofString "place"]) (dss := (natsD (bitsN T.length m)).map fun d => [d]) (compOk_of (by rfl)) St.mono (ei_list hh (ev_var (by rfl) (by rfl))) blen (closureFor_eq (by rfl))
      (fun ds => nimM T top (subM m (uN T top (turnN ds))) == 0) at0 (fun C ds hds => ?_) (fun C ds hds _ => ?_)).ev.to ?_
    · obtain ⟨k, hk, rfl⟩ := mem_nats hds
      obtain ⟨hkn, hkb⟩ := mem_bitsN hk
      have lt : subM m (uN T top k) < m := subM_lt hkb (uN_self hkn)
      have idx := subM_int m32 (uN_lt (p := k) g)
      have mo : Mono (CS (St (Gl w) K (fe 98 L cd) ((Str.ofString "here", B.imm (.list (natsD (bitsN T.length m)))) :: (Str.ofString "mask", B.imm (.int (m : Nat))) :: rho2 T top m)) C [Str.ofString "place"] [.int (k : Nat)]) := CS.mono St.mono
      refine (eb_tests_one (eb_compare (d₁ := .list (natsD (winM T top (subM m (uN T top k))))) (d₂ := .list []) mo (ev_mut_item (k := (subM m (uN T top k) : Nat)) mo (mv_free (es := winsD T top m) (by rfl) (by rfl) (by rfl) (by rfl) (by rfl) (by rfl))
        ((ev_binop mo (ev_free (d := .int (m : Nat)) (by rfl) (by rfl) (by rfl) (by rfl) (by rfl) (by rfl)) (ev_unary mo (ev_mut_item (k := (k : Nat)) (d := .int (uN T top k : Nat)) mo (mv_free (es := fallsD T top T.length) (by rfl) (by rfl) (by rfl) (by rfl) (by rfl) (by rfl)) (ev_cl0 (by rfl) (by rfl) (by rfl)) (by omega) (by omega) ?_) (fun a => op_inv_int)) (fun a b => op_and_int)).to (congrArg PyData.int idx))
        (by omega) (by omega) ?_) (ev_list ea_nil (by decide)) (fun a c => op_eq (by omega) (shaped_nats _) shaped_nil))).to ?_
      · rw [Int.toNat_natCast]; exact range_at hkn
      · rw [Int.toNat_natCast]; exact range_at lt
      · rw [eqv_nil]
        have := g.nim _ (Nat.lt_trans lt hm)
        show (natsD (winM T top (subM m (uN T top k)))).isEmpty = (nimM T top (subM m (uN T top k)) == 0)
        rw [← this]
        unfold natsD
        cases winM T top (subM m (uN T top k)) <;> rfl
    · obtain ⟨k, hk, rfl⟩ := mem_nats hds
      exact ev_cl0 (by rfl) (by rfl) (by rfl)
    · rw [filter_nats]; rfl
  refine ex_next (EX.forget (ex_append (x := Str.ofString "nims") (ds := nimsD T top m) (d := .int (nimM T top m)) (by rfl) (fun K => ?_) (by rw [nl, sizeLine_eq]; omega) (by rfl)) ?_) ex_nil
  · refine ev_def St.mono (fun F h S => S.glob) (nv_global (fun F h S => S.glob) (by kernel_rfl) (by rfl) (by rfl) (by rfl) (by rfl)) at_nim (ea2 St.mono ((evm_comp (xs := [Str.ofString "place"]) (dss := (natsD (bitsN T.length m)).map fun d => [d]) (compOk_of (by rfl)) St.mono (ei_list hh (ev_var (by rfl) (by rfl))) blen (closureFor_eq (by rfl))
      (fun _ => true) (fun ds => .str (T.getD (turnN ds) E0)) (fun C ds hds => eb_tests_nil) (fun C ds hds _ => ?_)).ev.to (d' := .list (((bitsN T.length m).map fun p => T.getD p E0).map .str)) ?_) (ev_var (by rfl) (by rfl)))
      (fun vs => ev_nim hh (by omega) (by omega) (by rw [List.length_map]; have := bits_len (n := T.length) (m := m); omega) (fun x hx => ?_)) (by rfl)
    · obtain ⟨k, hk, rfl⟩ := mem_nats hds
      obtain ⟨hkn, hkb⟩ := mem_bitsN hk
      exact ev_item (CS.mono St.mono) (ev_free (by rfl) (by rfl) (by rfl) (by rfl) (by rfl) (by rfl)) (ev_cl0 (by rfl) (by rfl) (by rfl)) (by omega) (texts_at hkn)
    · rw [filter_nats, List.map_map, List.filter_eq_self.mpr (fun _ _ => rfl)]; rfl
    · obtain ⟨p, hp, rfl⟩ := List.mem_map.mp hx
      exact (g.t p (mem_bitsN hp).1).pos
  · have e1 : winsD T top (m + 1) = winsD T top m ++ [.list (natsD (winM T top m))] := by unfold winsD; rw [List.range_succ, List.map_append]; rfl
    have e2 : nimsD T top (m + 1) = nimsD T top m ++ [.int (nimM T top m)] := by unfold nimsD; rw [List.range_succ, List.map_append]; rfl
    unfold rho2
    rw [e1, e2]
    exact sub_cons (by rfl) (sub_cons (by rfl) (sub_cons (by rfl) (sub_cons (by rfl) (sub_cons (by rfl) (sub_cons (by rfl) (sub_cons (by rfl) (sub_cons (by rfl) (sub_cons (by rfl) (sub_cons (by rfl) sub_nil)))))))))
end
end Mine

end
section
open PySem PyProof.Rows PySem.W PySem.Spec
set_option maxRecDepth 100000
set_option linter.unusedVariables false
namespace Mine

section
variable {prog : Program} {w : World} {A : Around} {T : List Str} {top : Str} {L : Addr} {cd : Value}
theorem law_loop3 (hh : A.handled = none) (hu : A.units + 80 < cLine) (hr : A.depth + 1 < recursionLimit) (g : Good T top) :
    EX (model prog w) A (Gl w) (fe 98 L cd) (rho2 T top (2 ^ T.length)) (exec (stAt 16) (fe 98 L cd)) (.next (rho2 T top (2 ^ T.length))) := by
  have n5 := g.n5
  have n32 := pow32 g
  have npos : 0 < 2 ^ T.length := Nat.pow_pos (by decide)
  have el : (rangeD 0 ((2 ^ T.length : Nat) : Int) 1).length = 2 ^ T.length := len_rangeD0 _
  show EX (model prog w) A (Gl w) (fe 98 L cd) _ (exec (.For _ _ [_] [] _) _) _
  refine (ex_for (ρ := fun i => rho2 T top (2 ^ T.length)) (dss := rangeD 0 ((2 ^ T.length : Nat) : Int) 1) (xs := [Str.ofString "mask"]) (fun K => ?_) (fun x hx => ?_) (fun i ds hi => ?_))
  · exact ei_range1 hh (nv_builtin (fun F h S => S.glob) (by kernel_rfl) (by kernel_rfl!) (by decide +kernel) (by rfl) (by rfl) (by rfl) (by rfl) (by rfl)) (ea1 St.mono ((ev_binop St.mono ev_int (ev_var (d := .int (T.length : Nat)) (by rfl) (by rfl)) (fun a b => op_shl_int (by omega) (by omega) (by decide))).to (congrArg PyData.int (shl_int _)))) (small1 n5).2 size0
  · simp at hx; subst hx; rfl
  obtain ⟨m, hm, rfl⟩ := mem_rangeD0 (List.mem_of_getElem? hi)
  have m32 : m < 32 := by omega
  show EX (model prog w) A (Gl w) (fe 98 L cd) ((Str.ofString "mask", B.imm (.int (m : Nat))) :: rho2 T top (2 ^ T.length)) _ _
  refine ex_next (ρ' := (Str.ofString "mask", B.imm (.int (m : Nat))) :: rho2 T top (2 ^ T.length)) (ex_if (b := false) (fun K => ?_) (fun q => by cases q) (fun _ => ex_nil)) (EX.forget ex_nil ?_)
  · refine (eb_compare (d₁ := .list (natsD (winM T top m))) (d₂ := .list (natsD (winM T top m))) St.mono (ev_mut_item (k := (m : Nat)) St.mono (mv_var (by rfl) (by rfl)) (ev_var (by rfl) (by rfl)) (by omega) (by omega) (by rw [Int.toNat_natCast]; exact range_at hm)) ?_
      (fun a c => op_ne (by omega) (shaped_nats _) (shaped_nats _))).to (by rw [eqv_refl_nats]; rfl)
    refine (evm_comp (xs := [Str.ofString "place"]) (dss := rangeD 0 (T.length : Int) 1) (compOk_of (by rfl)) St.mono (ei_range1 hh (nv_builtin (fun F h S => S.glob) (by kernel_rfl) (by kernel_rfl!) (by decide +kernel) (by rfl) (by rfl) (by rfl) (by rfl) (by rfl)) (ea1 St.mono (ev_var (by rfl) (by rfl))) (small0 (by omega)) size0)
      (by rw [len_rangeD0, sizeLine_eq]; omega) (closureFor_eq (by rfl)) (fun ds => m.testBit (turnN ds) && ((nimM T top (subM m (uN T top (turnN ds))) == 0) && true)) at0 (fun C ds hds => ?_) (fun C ds hds _ => ?_)).ev.to ?_
    · obtain ⟨k, hk, rfl⟩ := mem_rangeD0 hds
      have mo : Mono (CS (St (Gl w) K (fe 98 L cd) ((Str.ofString "mask", B.imm (.int (m : Nat))) :: rho2 T top (2 ^ T.length))) C [Str.ofString "place"] [.int (k : Nat)]) := CS.mono St.mono
      have lt : subM m (uN T top k) < 2 ^ T.length := Nat.lt_of_le_of_lt (subM_le _ _) hm
      have idx := subM_int m32 (uN_lt (p := k) g)
      refine eb_tests_one (eb_boolop (eb_and_cons mo (EB.to (eb_value mo (ev_binop mo (ev_binop mo (ev_free (d := .int (m : Nat)) (by rfl) (by rfl) (by rfl) (by rfl) (by rfl) (by rfl)) (ev_cl0 (by rfl) (by rfl) (by rfl)) (fun a b => op_shr_int (by omega))) ev_int (fun a b => op_and_int)) (fun a => tr_int)) (bit_int m32 (by omega))) fun _ =>
        eb_and_cons mo (EB.to (d' := nimM T top (subM m (uN T top k)) == 0) (eb_compare mo (ev_def mo (fun F h S => S.1.glob) (nv_global (fun F h S => S.1.glob) (by kernel_rfl) (by rfl) (by rfl) (by rfl) (by rfl)) at_iseof (ea1 mo (ev_mut_item (k := (subM m (uN T top k) : Nat)) (d := .int (nimM T top (subM m (uN T top k)))) mo (mv_free (es := nimsD T top (2 ^ T.length)) (by rfl) (by rfl) (by rfl) (by rfl) (by rfl) (by rfl))
          ((ev_binop mo (ev_free (d := .int (m : Nat)) (by rfl) (by rfl) (by rfl) (by rfl) (by rfl) (by rfl)) (ev_unary mo (ev_mut_item (k := (k : Nat)) (d := .int (uN T top k : Nat)) mo (mv_free (es := fallsD T top T.length) (by rfl) (by rfl) (by rfl) (by rfl) (by rfl) (by rfl)) (ev_cl0 (by rfl) (by rfl) (by rfl)) (by omega) (by omega) ?_) (fun a => op_inv_int)) (fun a b => op_and_int)).to (congrArg PyData.int idx))
          (by omega) (by omega) ?_)) (fun vs => ev_iseof (by omega)) (by rfl)) ev_bool (fun a c => op_is_bool)) ?_) fun _ => eb_and_nil))
      · rw [Int.toNat_natCast]; exact range_at hk
      · rw [Int.toNat_natCast]; exact range_at lt
      · cases nimM T top (subM m (uN T top k)) == 0 <;> rfl
    · obtain ⟨k, hk, rfl⟩ := mem_rangeD0 hds
      exact ev_cl0 (by rfl) (by rfl) (by rfl)
    · rw [filter_rangeD0]
      unfold winM bitsN natsD
      rw [List.filter_filter]
      have : (List.range T.length).filter (fun i => m.testBit (turnN [PyData.int (i : Nat)]) && ((nimM T top (subM m (uN T top (turnN [PyData.int (i : Nat)]))) == 0) && true)) = (List.range T.length).filter (fun a => (nimM T top (subM m (uN T top a)) == 0) && m.testBit a) :=
        List.filter_congr fun o _ => by
          show (m.testBit o && ((nimM T top (subM m (uN T top o)) == 0) && true)) = _
          rw [Bool.and_true, Bool.and_comm]
      rw [this]; rfl
  · unfold rho2
    exact sub_cons (by rfl) (sub_cons (by rfl) (sub_cons (by rfl) (sub_cons (by rfl) (sub_cons (by rfl) (sub_cons (by rfl) (sub_cons (by rfl) (sub_cons (by rfl) (sub_cons (by rfl) (sub_cons (by rfl) sub_nil)))))))))
end
end Mine

end
section
open PySem PyProof.Rows PySem.W PySem.Spec
set_option maxRecDepth 100000
set_option linter.unusedVariables false
namespace Mine

theorem enum_at {T : List Str} {i : Nat} {ds : List PyData} (h : (enumD (T.map .str))[i]? = some ds) : i < T.length ∧ ds = [.int (i : Nat), .str (T.getD i E0)] := by
  unfold enumD at h
  rw [List.getElem?_map, List.getElem?_zipIdx] at h
  cases q : (T.map PyData.str)[i]? with
  | none => rw [q] at h; cases h
  | some d =>
    rw [q] at h
    obtain ⟨h1, h2⟩ := List.getElem?_eq_some_iff.mp q
    rw [List.length_map] at h1
    refine ⟨h1, ?_⟩
    rw [texts_at h1] at q
    cases q
    have := Option.some.inj h
    rw [← this]
    simp
theorem add_len (x y : Str) : (x ++ y).length = x.length + y.length := by show (x.cps ++ y.cps).size = _; rw [Array.size_append]; rfl
theorem sub_over {ρ : Rho} {x : Str} {b c : B} : ∀ y d, List.lookup y ((x, b) :: ρ) = some d → List.lookup y ((x, b) :: (x, c) :: ρ) = some d := fun y d q => by
  rcases lookup_ins q with ⟨rfl, q'⟩ | ⟨h, q⟩
  · rw [q', List.lookup_cons]; simp
  · have : (y == x) = false := by simpa using h
    rw [List.lookup_cons, this, List.lookup_cons, this]
    exact q
theorem dot_len : dot.length = 1 := by decide +kernel
theorem downOk {n : Nat} (h : n ≤ 8) : Builtin.divisionGoesByPylong (0 - ((n : Int) - 1)) (-1) = false ∧ Builtin.Range.small ((n : Int) - 1) 0 (-1) = true ∧ 0 ≤ Builtin.Range.rangeSize ((n : Int) - 1) 0 (-1) := by
  have : ∀ k : Fin 9, Builtin.divisionGoesByPylong (0 - (((k.1 : Nat) : Int) - 1)) (-1) = false ∧ Builtin.Range.small (((k.1 : Nat) : Int) - 1) 0 (-1) = true ∧ 0 ≤ Builtin.Range.rangeSize (((k.1 : Nat) : Int) - 1) 0 (-1) := by decide +kernel
  exact this ⟨n, by omega⟩

section
variable {prog : Program} {w : World} {A : Around} {T : List Str} {top : Str} {L : Addr} {cd : Value}
set_option maxHeartbeats 4000000 in
theorem law_loop4 (hh : A.handled = none) (hu : A.units + 80 < cLine) (hr : A.depth + 2 < recursionLimit) (g : Good T top) :
    EX (model prog w) A (Gl w) (fe 98 L cd) (rho2 T top (2 ^ T.length)) (exec (stAt 17) (fe 98 L cd)) (.next (rho2 T top (2 ^ T.length))) := by
  have n5 := g.n5
  generalize hN : 2 ^ T.length = N
  show EX (model prog w) A (Gl w) (fe 98 L cd) _ (exec (.For _ _ [_, _, _, _, _, _] [] _) _) _
  refine (ex_for (ρ := fun i => rho2 T top N) (dss := enumD (T.map .str)) (xs := [Str.ofString "place", Str.ofString "text"]) (fun K => ?_) (fun x hx => ?_) (fun i ds hi => ?_))
  · exact ei_enum hh (nv_builtin (fun F h S => S.glob) (by kernel_rfl) (by kernel_rfl!) (by decide +kernel) (by rfl) (by rfl) (by rfl) (by rfl) (by rfl)) (ea1 St.mono (ev_var (by rfl) (by rfl)))
  · simp at hx; rcases hx with rfl | rfl <;> rfl
  obtain ⟨hin, rfl⟩ := enum_at hi
  clear hi
  have t := g.t i hin
  have hl := t.hl
  have tl := t.len
  have dl := dot_len
  generalize hX : T.getD i E0 = x at t hl tl
  generalize hH : hostF x top = H at hl
  let R : Rho := (Str.ofString "text", B.imm (.str x)) :: (Str.ofString "place", B.imm (.int (i : Nat))) :: rho2 T top N
  show EX (model prog w) A (Gl w) (fe 98 L cd) R _ _
  have hostAt : ∀ {Ok : Cond} {env : Env} {p q : Pos} {e₁ : Expr} {k : Nat}, Mono Ok → k < T.length → EV (model prog w) A Ok (eval (.Name (Str.ofString "hosts") p) env) (.list ((T.map fun x => hostF x top).map .str)) → EV (model prog w) A Ok (eval e₁ env) (.int (k : Nat)) →
      (∀ o i, subscripted e₁ false o i = operate [o, i] (getItem o i) ∨ subscripted e₁ false o i = operate [i, o] (getItem o i)) → EV (model prog w) A Ok (eval (.Subscript (.Name (Str.ofString "hosts") p) e₁ q) env) (.str (hostF (T.getD k E0) top)) := fun mo hk h1 h2 hs =>
    ev_item mo h1 h2 (by omega) (hosts_at hk) hs
  have hostI : ∀ {Ok : Cond} {env : Env} {p q : Pos} {e₁ : Expr}, Mono Ok → EV (model prog w) A Ok (eval (.Name (Str.ofString "hosts") p) env) (.list ((T.map fun x => hostF x top).map .str)) → EV (model prog w) A Ok (eval e₁ env) (.int (i : Nat)) →
      (∀ o i, subscripted e₁ false o i = operate [o, i] (getItem o i) ∨ subscripted e₁ false o i = operate [i, o] (getItem o i)) → EV (model prog w) A Ok (eval (.Subscript (.Name (Str.ofString "hosts") p) e₁ q) env) (.str H) := fun {Ok env p q e₁} mo h1 h2 hs => (hostAt (q := q) mo hin h1 h2 hs).to (by rw [hX, hH])
  refine ex_next (ρ' := (Str.ofString "due", B.mut []) :: R) (ex_assign_mut (fun K => evm_list (ds := []) ea_nil (by decide)) (by rfl)) ?_
  refine ex_next (ρ' := (Str.ofString "due", B.mut (dueL x top)) :: R) (ex_if (b := free x top) (fun K => ?_) (fun hb => ?_) (fun hb => ?_)) ?_
  · exact eb_boolop (eb_and_cons St.mono (eb_value St.mono (ev_var (d := .bool (stk top)) (by rfl) (by rfl)) (fun a => tr_bool)) fun _ => eb_and_cons St.mono (eb_compare St.mono (ev_head St.mono (ev_var (by rfl) (by rfl)) t.pos) ev_str (fun a c => op_ne_str)) fun _ => eb_and_nil)
  · -- the beginnings
    have pre := t.pre hb
    show EX (model prog w) A (Gl w) (fe 98 L cd) _ (execs [_, _] _) _
    refine ex_next (ρ' := (Str.ofString "due", B.mut (dueC x top)) :: R) (EX.forget (ρ' := (Str.ofString "due", B.mut (dueC x top)) :: (Str.ofString "due", B.mut []) :: R) ((ex_assign_compM (xs := [Str.ofString "size"]) (dss := rangeD ((x.length : Int) - 1) 0 (-1)) true (by rfl) (by rfl) (compOk_of (by rfl))
      (fun K => ?_) (by rw [rangeDown0, List.length_map, List.length_range, sizeLine_eq]; omega) (closureFor_eq (by rfl)) (fun _ => true) (fun ds => dueT x top (turnN ds)) (fun K C ds hds => eb_tests_nil) (fun K C ds hds _ => ?_)).to ?_) ?_) ?_
    · obtain ⟨d1, d2, d3⟩ := downOk tl
      exact ei_range3 hh (nv_builtin (fun F h S => S.glob) (by kernel_rfl) (by kernel_rfl!) (by decide +kernel) (by rfl) (by rfl) (by rfl) (by rfl) (by rfl))
        (ea3 St.mono (ev_binop St.mono (ev_call_builtin St.mono (nv_builtin (fun F h S => S.glob) (by kernel_rfl) (by kernel_rfl!) (by decide +kernel) (by rfl) (by rfl) (by rfl) (by rfl) (by rfl)) (ea1 St.mono (ev_var (by rfl) (by rfl))) (fun vs => ca_len_str (by rw [sizeLine_eq]; omega))) ev_int (fun a b => op_sub_int)) ev_int (ev_unary St.mono ev_int fun a => op_neg_int)) (by decide) d1 d2 d3
    · rw [rangeDown0] at hds
      obtain ⟨j, hj, rfl⟩ := List.mem_map.mp hds
      have hj : j < x.length - 1 := by simpa using hj
      generalize hk : x.length - 1 - j = k
      obtain ⟨p1, p2, p3, p4⟩ := pre k (by omega) (by omega)
      obtain ⟨z, hz⟩ := Option.isSome_iff_exists.mp p4
      have mo : Mono (CS (St (Gl w) K (fe 98 L cd) ((Str.ofString "due", B.mut []) :: R)) C [Str.ofString "size"] [.int (k : Nat)]) := CS.mono St.mono
      have beg : ∀ {p q r s : Pos} {ce : Env}, EV (model prog w) A (CS (St (Gl w) K (fe 98 L cd) ((Str.ofString "due", B.mut []) :: R)) C [Str.ofString "size"] [.int (k : Nat)]) (eval (.Name (Str.ofString "text") p) ce) (.str x) →
          EV (model prog w) A (CS (St (Gl w) K (fe 98 L cd) ((Str.ofString "due", B.mut []) :: R)) C [Str.ofString "size"] [.int (k : Nat)]) (eval (.Name (Str.ofString "size") q) ce) (.int (k : Nat)) →
          EV (model prog w) A (CS (St (Gl w) K (fe 98 L cd) ((Str.ofString "due", B.mut []) :: R)) C [Str.ofString "size"] [.int (k : Nat)]) (eval (.Subscript (.Name (Str.ofString "text") p) (.Slice none (some (.Name (Str.ofString "size") q)) none r) s) ce) (.str (preT x k)) := fun h1 h2 =>
        ev_slice_str mo h1 .none (.some h2) .none (by rfl) (by rw [sizeLine_eq]; omega) (by show (preT x k).length ≤ _; rw [sizeLine_eq]; omega)
      show EV _ _ _ _ (.tuple [.str (dot ++ hostF (preT x k) top), .int (7 + ((idxOf (preT x k)).getD 0 : Nat))])
      rw [hz]
      refine ev_tuple (ea2 mo (ev_binop mo (ev_str (x := dot)) (ev_def mo (fun F h S => S.1.glob) (nv_global (fun F h S => S.1.glob) (by kernel_rfl) (by rfl) (by rfl) (by rfl) (by rfl)) at_host (ea2 mo (beg (ev_free (by rfl) (by rfl) (by rfl) (by rfl) (by rfl) (by rfl)) (ev_cl0 (by rfl) (by rfl) (by rfl))) (ev_free (by rfl) (by rfl) (by rfl) (by rfl) (by rfl) (by rfl))) (fun vs => ev_host hh (by omega) p1) (by rfl)) (fun a b => op_add_str (by rw [sizeLine_eq]; omega)))
        (ev_binop mo ev_int (m_index (ss := rowL) ⟨by rfl, by rfl, by rfl, by rfl⟩ mo (ev_free (by rfl) (by rfl) (by rfl) (by rfl) (by rfl) (by rfl)) (ea1 mo (beg (ev_free (by rfl) (by rfl) (by rfl) (by rfl) (by rfl) (by rfl)) (ev_cl0 (by rfl) (by rfl) (by rfl)))) hz rowL_len) (fun a b => op_add_int))) (by show 2 ≤ sizeLine; decide)
    · congr 3
      rw [List.filter_eq_self.mpr (fun _ _ => rfl), rangeDown0, List.map_map]
      rfl
    · exact sub_over
    have e : dueL x top = dueC x top ++ (if (top == Str.ofString "local") = true then [.tuple [.str (Str.ofString ".local"), .int 0]] else []) := by unfold dueL; rw [if_pos hb]
    have cl : (dueC x top).length ≤ sizeLine := by unfold dueC; rw [List.length_map, List.length_range, sizeLine_eq]; omega
    refine ex_next (ρ' := (Str.ofString "due", B.mut (dueL x top)) :: R) (ex_if (b := top == Str.ofString "local") (fun K => eb_compare St.mono (ev_var (d := .str top) (by rfl) (by rfl)) ev_str (fun a c => op_eq_str)) (fun hc => ?_) (fun hc => ?_)) ex_nil
    · rw [if_pos hc] at e
      show EX (model prog w) A (Gl w) (fe 98 L cd) _ (execs [_] _) _
      rw [e]
      exact ex_next (EX.forget (ex_append (x := Str.ofString "due") (ds := dueC x top) (d := .tuple [.str (Str.ofString ".local"), .int 0]) (by rfl) (fun K => ev_tuple (ea2 St.mono ev_str ev_int) (by show 2 ≤ sizeLine; decide)) cl (by rfl)) sub_over) ex_nil
    · rw [if_neg (by rw [hc]; simp), List.append_nil] at e
      rw [e]
      exact ex_nil
  · have e : dueL x top = [] := by unfold dueL; rw [if_neg (by rw [hb]; simp)]
    rw [e]
    exact ex_nil
  have hup := t.up
  have hno := t.no
  have hself := t.self
  have hselfd := t.selfd
  obtain ⟨m, cok, ceq, cs1, cs2⟩ := t.climb
  rw [hH] at hup hno hself hselfd cok ceq cs1
  obtain ⟨j, hj, htok⟩ := t.idx
  show EX (model prog w) A (Gl w) (fe 98 L cd) ((Str.ofString "due", B.mut (dueL x top)) :: R) (execs [_, _, _, _] _) _
  refine ex_next (ρ' := (Str.ofString "due", B.mut (dueL x top)) :: R) (ex_if (b := false) (fun K => ?_) (fun q => by cases q) (fun _ => ex_nil)) ?_
  · refine EB.to (eb_boolop (eb_or_cons St.mono (eb_ne_mut (d₁ := .list (climbF H m)) (ds := dueL x top) (by omega) St.mono (ev_def St.mono (fun F h S => S.glob) (nv_global (fun F h S => S.glob) (by kernel_rfl) (by rfl) (by rfl) (by rfl) (by rfl)) at_climb (ea1 St.mono (hostI St.mono (ev_var (by rfl) (by rfl)) (ev_var (by rfl) (by rfl)) (by intro _ _; first | exact .inl rfl | exact .inr rfl))) (fun vs => ev_climb hr cok) (by rfl)) (mv_var (by rfl) (by rfl)) cs1 cs2) fun _ =>
      eb_or_cons St.mono (eb_compare St.mono (ev_tok_item St.mono (fun F h S => S.glob) (nv_global (fun F h S => S.glob) (by kernel_rfl) (by rfl) (by rfl) (by rfl) (by rfl)) (ev_var (by rfl) (by rfl)) htok)
        (ev_binop St.mono ev_int (m_index (ss := rowL) ⟨by rfl, by rfl, by rfl, by rfl⟩ St.mono (ev_var (by rfl) (by rfl)) (ea1 St.mono (ev_var (by rfl) (by rfl))) hj rowL_len) (fun a b => op_add_int)) (fun a c => op_ne_int)) fun _ => eb_or_nil)) ?_
    rw [ceq]
    simp
  refine ex_next (ρ' := (Str.ofString "due", B.mut (dueL x top)) :: R) (ex_if (b := false) (fun K => ?_) (fun q => by cases q) (fun _ => ex_nil)) ?_
  · refine EB.to (eb_compare St.mono (ev_def St.mono (fun F h S => S.glob) (nv_global (fun F h S => S.glob) (by kernel_rfl) (by rfl) (by rfl) (by rfl) (by rfl)) at_dm (ea2 St.mono (m_upper ⟨by rfl, by rfl, by rfl, by rfl⟩ St.mono (hostI St.mono (ev_var (by rfl) (by rfl)) (ev_var (by rfl) (by rfl)) (by intro _ _; first | exact .inl rfl | exact .inr rfl)) (by omega))
      (hostI St.mono (ev_var (by rfl) (by rfl)) (ev_var (by rfl) (by rfl)) (by intro _ _; first | exact .inl rfl | exact .inr rfl))) (fun vs => ev_dm (by omega) hup.1) (by rfl)) ev_bool (fun a c => op_isnot_bool)) ?_
    rw [hup.2]; rfl
  refine ex_next (ρ' := (Str.ofString "due", B.mut (dueL x top)) :: R) (ex_if (b := false) (fun K => ?_) (fun q => by cases q) (fun _ => ex_nil)) ?_
  · refine EB.to (eb_compare (d₁ := .list []) (d₂ := .list []) St.mono (EV.to (evm_comp (xs := [Str.ofString "one"]) (dss := ([dot, top, dot ++ H].map PyData.str).map fun d => [d]) (compOk_of (by rfl)) St.mono (ei_list hh (ev_list (ea3 St.mono (ev_str (x := dot)) (ev_var (by rfl) (by rfl)) (ev_binop St.mono (ev_str (x := dot)) (hostI St.mono (ev_var (by rfl) (by rfl)) (ev_var (by rfl) (by rfl)) (by intro _ _; first | exact .inl rfl | exact .inr rfl)) (fun a b => op_add_str (by rw [sizeLine_eq]; omega)))) (by show 3 ≤ sizeLine; decide)))
      (by show 3 ≤ sizeLine; decide) (closureFor_eq (by rfl)) (fun _ => false) (fun _ => .int 1) (fun C ds hds => ?_) (fun C ds hds q => by cases q)).ev ?_) (ev_list ea_nil (by decide)) (fun a c => op_ne (by omega) shaped_nil shaped_nil)) (by rfl)
    · rw [List.map_map] at hds
      obtain ⟨one, hone, rfl⟩ := List.mem_map.mp hds
      obtain ⟨h1, h2⟩ := hno one hone
      refine EB.to (eb_tests_one (eb_compare (CS.mono St.mono) (ev_def (CS.mono St.mono) (fun F h S => S.1.glob) (nv_global (fun F h S => S.1.glob) (by kernel_rfl) (by rfl) (by rfl) (by rfl) (by rfl)) at_dm (ea2 (CS.mono St.mono) (hostI (CS.mono St.mono) (ev_free (by rfl) (by rfl) (by rfl) (by rfl) (by rfl) (by rfl)) (ev_free (by rfl) (by rfl) (by rfl) (by rfl) (by rfl) (by rfl)) (by intro _ _; first | exact .inl rfl | exact .inr rfl))
        (ev_cl0 (d := .str one) (by rfl) (by rfl) (by rfl))) (fun vs => ev_dm (by omega) h1) (by rfl)) ev_bool (fun a c => op_isnot_bool))) ?_
      rw [h2]; rfl
    · rfl
  refine ex_next (ρ' := (Str.ofString "due", B.mut (dueL x top)) :: R) (ex_if (b := false) (fun K => ?_) (fun q => by cases q) (fun _ => ex_nil)) (EX.forget ex_nil ?_)
  · -- the one ahead of it
    have key : ∃ k, k < T.length ∧ (∀ {Ok : Cond} {env : Env} {p q r s u : Pos} {z : Nat}, Mono Ok → EV (model prog w) A Ok (eval (.Name (Str.ofString "hosts") p) env) (.list ((T.map fun x => hostF x top).map .str)) → EV (model prog w) A Ok (eval (.Name (Str.ofString "place") q) env) (.int (i : Nat)) →
          EV (model prog w) A Ok (eval (.Subscript (.Name (Str.ofString "hosts") p) (.BinOp (.Name (Str.ofString "place") q) .Sub (.Constant (.int 1) z r) s) u) env) (.str (hostF (T.getD k E0) top))) ∧
        (T.length = 1 ∧ k = i ∨ T.length ≠ 1 ∧ k ≠ i) := by
      rcases Nat.eq_zero_or_pos i with h0 | h0
      · refine ⟨T.length - 1, by omega, fun {Ok env p q r s u z} mo h1 h2 => ?_, by omega⟩
        refine ev_subscript list_getitem_lookup mo h1 (ev_binop mo h2 ev_int (fun a b => op_sub_int)) (fun F h v k r => hasType_list k r) (fun a b => gi_list_neg (by omega) (by rw [List.length_map, List.length_map]; omega) (by omega) ?_)
        rw [List.length_map, List.length_map]
        have : ((i : Int) - 1 + (T.length : Int)).toNat = T.length - 1 := by omega
        rw [this]
        exact hosts_at (by omega)
      · refine ⟨i - 1, by omega, fun {Ok env p q r s u z} mo h1 h2 => ?_, by omega⟩
        exact ev_item mo h1 (EV.to (ev_binop mo h2 ev_int (fun a b => op_sub_int)) (congrArg PyData.int (show (i : Int) - 1 = ((i - 1 : Nat) : Int) by omega))) (by omega) (hosts_at (by omega))
    obtain ⟨k, hk, item, cs⟩ := key
    have facts : DmOk H (hostF (T.getD k E0) top) ∧ dm H (hostF (T.getD k E0) top) = (T.length == 1) ∧ DmOk (dot ++ H) (dot ++ hostF (T.getD k E0) top) ∧ dm (dot ++ H) (dot ++ hostF (T.getD k E0) top) = (T.length == 1) := by
      rcases cs with ⟨h1, rfl⟩ | ⟨h1, h2⟩
      · rw [hX, hH, h1]
        exact ⟨hself.1, hself.2, hselfd.1, hselfd.2⟩
      · have pk := g.p i k hin hk (Ne.symm h2)
        rw [hX] at pk
        have e1 := pk.e2
        have e2 := pk.e3
        have d1 := pk.d2
        have d2 := pk.d3
        rw [hH] at e1 e2 d1 d2
        have : (T.length == 1) = false := by simpa using h1
        rw [this]
        exact ⟨d1, e1, d2, e2⟩
    obtain ⟨f1, f2, f3, f4⟩ := facts
    have kl := (g.t k hk).hl
    have many : ∀ {K : FM} {ρ : Rho} {p q r : Pos} {z : Nat}, ρ.lookup (Str.ofString "many") = some (.imm (.int (T.length : Nat))) →
        EV (model prog w) A (St (Gl w) K (fe 98 L cd) ρ) (eval (.Compare (.Name (Str.ofString "many") p) [.Eq] [.Constant (.int 1) z q] r) (fe 98 L cd)) (.bool (T.length == 1)) := fun {K ρ p q r z} h =>
      EV.to (ev_compare St.mono (ev_var h (by rfl)) ev_int (fun a c => op_eq_int)) (congrArg PyData.bool (intBeq T.length 1))
    refine EB.to (eb_boolop (eb_or_cons St.mono (eb_compare St.mono (ev_def St.mono (fun F h S => S.glob) (nv_global (fun F h S => S.glob) (by kernel_rfl) (by rfl) (by rfl) (by rfl) (by rfl)) at_dm (ea2 St.mono (hostI St.mono (ev_var (by rfl) (by rfl)) (ev_var (by rfl) (by rfl)) (by intro _ _; first | exact .inl rfl | exact .inr rfl))
        (item St.mono (ev_var (by rfl) (by rfl)) (ev_var (by rfl) (by rfl)))) (fun vs => ev_dm (by omega) f1) (by rfl)) (many (by rfl)) (fun a c => op_isnot_bool)) fun _ =>
      eb_or_cons St.mono (eb_compare St.mono (ev_def St.mono (fun F h S => S.glob) (nv_global (fun F h S => S.glob) (by kernel_rfl) (by rfl) (by rfl) (by rfl) (by rfl)) at_dm (ea2 St.mono (ev_binop St.mono (ev_str (x := dot)) (hostI St.mono (ev_var (by rfl) (by rfl)) (ev_var (by rfl) (by rfl)) (by intro _ _; first | exact .inl rfl | exact .inr rfl)) (fun a b => op_add_str (by rw [sizeLine_eq]; omega)))
        (ev_binop St.mono (ev_str (x := dot)) (item St.mono (ev_var (by rfl) (by rfl)) (ev_var (by rfl) (by rfl))) (fun a b => op_add_str (by rw [sizeLine_eq]; omega)))) (fun vs => ev_dm (by omega) f3) (by rfl)) (many (by rfl)) (fun a c => op_isnot_bool)) fun _ => eb_or_nil)) ?_
    rw [f2, f4]
    cases T.length == 1 <;> rfl
  · show ∀ y b, (rho2 T top N).lookup y = some b → _
    unfold rho2
    exact sub_cons (by rfl) (sub_cons (by rfl) (sub_cons (by rfl) (sub_cons (by rfl) (sub_cons (by rfl) (sub_cons (by rfl) (sub_cons (by rfl) (sub_cons (by rfl) (sub_cons (by rfl) (sub_cons (by rfl) sub_nil)))))))))
end
end Mine

end
section
open PySem PyProof.Rows PySem.W PySem.Spec
set_option maxRecDepth 100000
set_option linter.unusedVariables false
namespace Mine

theorem gslice_len {α : Type} (l : List α) (hi : Int) : (gslice l none (some hi) none).length ≤ l.length := by
  unfold gslice
  refine Nat.le_trans (List.length_filterMap_le _ _) (sliceRange_length_le _ _ _ _ (fun hc => ⟨?_, ?_⟩) fun hc => ?_)
  · simp [sliceBounds]
  · simp [sliceBounds]; omega
  · exact absurd (by simp [sliceBounds]) hc

/-- what law draws -/
def drawnF (ns : List Int) : List Int := gslice ns none (some 60) none
def partS (d : List Int) (t : Int) : Int := (gslice d (some t) none (some 7)).sum
def sumsF (d : List Int) : List Int := [27 + partS d 0, 0 + partS d 1, 1 + partS d 2, 2 + partS d 3, 3 + partS d 4, 5 + partS d 5, 0 + partS d 6]
def firstF (d : List Int) : Int := (27 + partS d 0).fmod 41
def placesF (d : List Int) : List Int := [(0 + partS d 1).fmod 8, (1 + partS d 2).fmod 8, (2 + partS d 3).fmod 8, (3 + partS d 4).fmod 8, (5 + partS d 5).fmod 8]
def pickL (W : List Str) (pl : List Int) : List Str := (W.zipIdx.filter fun q => pl.any (· == (q.2 : Int))).map (·.1)
def topF (d : List Int) : Str := tops.getD ((0 + partS d 6).fmod 5).toNat E0

theorem ea5 {M : Model} {A : Around} {Ok : Cond} {env : Env} {pos : Pos} {e₁ e₂ e₃ e₄ e₅ : Expr} {d₁ d₂ d₃ d₄ d₅ : PyData} (mo : Mono Ok) (h₁ : EV M A Ok (eval e₁ env) d₁) (h₂ : EV M A Ok (eval e₂ env) d₂) (h₃ : EV M A Ok (eval e₃ env) d₃) (h₄ : EV M A Ok (eval e₄ env) d₄) (h₅ : EV M A Ok (eval e₅ env) d₅)
    (ht : backTo pos (starEach [e₁, e₂, e₃, e₄, e₅] env) = [(false, eval e₁ env), (false, eval e₂ env), (false, eval e₃ env), (false, eval e₄ env), (false, eval e₅ env)] := by rfl) :
    EA M A Ok (backTo pos (starEach [e₁, e₂, e₃, e₄, e₅] env)) [d₁, d₂, d₃, d₄, d₅] := by
  rw [ht]; exact ea_cons mo h₁ (ea_cons mo h₂ (ea_cons mo h₃ (ea_cons mo h₄ (ea_cons mo h₅ ea_nil))))
theorem ea7 {M : Model} {A : Around} {Ok : Cond} {env : Env} {pos : Pos} {e₁ e₂ e₃ e₄ e₅ e₆ e₇ : Expr} {d₁ d₂ d₃ d₄ d₅ d₆ d₇ : PyData} (mo : Mono Ok) (h₁ : EV M A Ok (eval e₁ env) d₁) (h₂ : EV M A Ok (eval e₂ env) d₂) (h₃ : EV M A Ok (eval e₃ env) d₃) (h₄ : EV M A Ok (eval e₄ env) d₄) (h₅ : EV M A Ok (eval e₅ env) d₅)
    (h₆ : EV M A Ok (eval e₆ env) d₆) (h₇ : EV M A Ok (eval e₇ env) d₇)
    (ht : backTo pos (starEach [e₁, e₂, e₃, e₄, e₅, e₆, e₇] env) = [(false, eval e₁ env), (false, eval e₂ env), (false, eval e₃ env), (false, eval e₄ env), (false, eval e₅ env), (false, eval e₆ env), (false, eval e₇ env)] := by rfl) :
    EA M A Ok (backTo pos (starEach [e₁, e₂, e₃, e₄, e₅, e₆, e₇] env)) [d₁, d₂, d₃, d₄, d₅, d₆, d₇] := by
  rw [ht]; exact ea_cons mo h₁ (ea_cons mo h₂ (ea_cons mo h₃ (ea_cons mo h₄ (ea_cons mo h₅ (ea_cons mo h₆ (ea_cons mo h₇ ea_nil))))))

def pairF (d : List Int) (ds : List PyData) : PyData := match ds with
  | [.int t, .int b] => .int (b + partS d t)
  | _ => .none
def modF (ds : List PyData) : PyData := match ds with
  | [.int i] => .int (i.fmod 8)
  | _ => .none
def inF (pl : List Int) (ds : List PyData) : Bool := match ds with
  | [.int i, _] => pl.any (· == i)
  | _ => false
def at1 (ds : List PyData) : PyData := ds.getD 1 .none
theorem enum_mem {l : List PyData} {ds : List PyData} (h : ds ∈ enumD l) : ∃ (t : Nat) (d : PyData), d ∈ l ∧ ds = [.int (t : Nat), d] := by
  unfold enumD at h
  obtain ⟨⟨d, t⟩, hq, rfl⟩ := List.mem_map.mp h
  exact ⟨t, d, List.fst_mem_of_mem_zipIdx hq, rfl⟩
theorem pick_eq (W : List Str) (pl : List Int) : ((enumD (W.map .str)).filter (inF pl)).map at1 = (pickL W pl).map .str := by
  unfold enumD pickL
  rw [List.zipIdx_map, List.map_map, List.filter_map, List.map_map, List.map_map]
  rfl

section
variable {prog : Program} {w : World} {A : Around} {L : Addr} {cd : Value}
set_option maxHeartbeats 4000000 in
theorem law_body {ns : List Int} {srt : List Str} (hh : A.handled = none) (hu : A.units + 80 < cLine) (hr : A.depth + 2 < recursionLimit) (hn : ns.length ≤ 63) (hp : srt.Perm rowL) (hs : sortedS srt = true)
    (g : Good (pickL (gslice srt (some (firstF (drawnF ns))) (some (firstF (drawnF ns) + 8)) none) (placesF (drawnF ns))) (topF (drawnF ns))) :
    EX (model prog w) A (Gl w) (fe 98 L cd) [(Str.ofString "script", .imm (.list (ns.map .int)))] (execs (fb 98) (fe 98 L cd)) (.ret (.bool true)) := by
  have dlen : (drawnF ns).length ≤ 63 := Nat.le_trans (gslice_len ns 60) hn
  have rlen : rowL.length = 48 := by decide +kernel
  have slen : srt.length = 48 := hp.length_eq.trans rlen
  have e : fb 98 = [stAt 0, stAt 1, stAt 2, stAt 3, stAt 4, stAt 5, stAt 6, stAt 7, stAt 8, stAt 9, stAt 10, stAt 11, stAt 12, stAt 13, stAt 14, stAt 15, stAt 16, stAt 17, stAt 18] := by rfl
  rw [e]
  generalize hd : drawnF ns = d at g dlen
  refine ex_next (ρ' := [(Str.ofString "drawn", .imm (.list (d.map .int))), (Str.ofString "script", .imm (.list (ns.map .int)))]) ?_ ?_
  · show EX (model prog w) A (Gl w) (fe 98 L cd) _ (exec (.Assign [.Name _ _] _ _) _) _
    exact (ex_assign (fun K => EV.to (ev_slice_list St.mono (ev_var (by rfl) (by rfl)) .none (.some ev_int) .none (by intro h; cases h) (by rw [List.length_map, sizeLine_eq]; omega)) (congrArg PyData.list ((lslice_map _ _ _ _ _).trans (congrArg _ hd)))) (by rfl))
  refine ex_next (ρ' := [(Str.ofString "sums", .imm (.list ((sumsF d).map .int))), (Str.ofString "drawn", .imm (.list (d.map .int))), (Str.ofString "script", .imm (.list (ns.map .int)))]) ?_ ?_
  · show EX (model prog w) A (Gl w) (fe 98 L cd) _ (exec (.Assign [.Name _ _] _ _) _) _
    refine (ex_assign_compM (xs := [Str.ofString "turn", Str.ofString "base"]) (dss := enumD ([27, 0, 1, 2, 3, 5, 0].map .int)) false (by rfl) (by rfl) (compOk_of (by rfl)) (fun K => ?_) (by decide) (closureFor_eq (by rfl)) (fun _ => true) (pairF d) (fun K C ds hds => eb_tests_nil) (fun K C ds hds _ => ?_))
    · exact ei_enum hh (nv_builtin (fun F h S => S.glob) (by kernel_rfl) (by kernel_rfl!) (by decide +kernel) (by rfl) (by rfl) (by rfl) (by rfl) (by rfl)) (ea1 St.mono (ev_list (ea7 St.mono ev_int ev_int ev_int ev_int ev_int ev_int ev_int) (by show 7 ≤ sizeLine; decide)))
    · obtain ⟨t, b, hb, rfl⟩ := enum_mem hds
      obtain ⟨b, _, rfl⟩ := List.mem_map.mp hb
      show EV _ _ _ _ (.int (b + partS d (t : Nat)))
      refine ev_binop (CS.mono St.mono) (ev_cl1 (by rfl) (by rfl) (by rfl)) (ev_call_builtin (CS.mono St.mono) (nv_builtin (fun F h S => S.1.glob) (by kernel_rfl) (by kernel_rfl!) (by decide +kernel) (by rfl) (by rfl) (by rfl) (by rfl) (by rfl)) (ea1 (CS.mono St.mono) (EV.to (d' := .list ((gslice d (some ((t : Nat) : Int)) none (some 7)).map .int)) (ev_slice_list (CS.mono St.mono) (ev_free (d := .list (d.map .int)) (by rfl) (by rfl) (by rfl) (by rfl) (by rfl) (by rfl)) (.some (ev_cl0 (by rfl) (by rfl) (by rfl))) .none (.some ev_int) (by intro h; cases h) (by rw [List.length_map, sizeLine_eq]; omega)) (congrArg PyData.list (lslice_map _ _ _ _ _)))) (fun vs => ca_sum hh)) (fun a b => op_add_int)
  refine ex_next (ρ' := [(Str.ofString "row", .imm (.list (rowL.map .str))), (Str.ofString "sums", .imm (.list ((sumsF d).map .int))), (Str.ofString "drawn", .imm (.list (d.map .int))), (Str.ofString "script", .imm (.list (ns.map .int)))]) ?_ ?_
  · show EX (model prog w) A (Gl w) (fe 98 L cd) _ (exec (.Assign [.Name _ _] _ _) _) _
    exact ex_assign (fun K => ev_def St.mono (fun F h S => S.glob) (nv_global (fun F h S => S.glob) (by kernel_rfl) (by rfl) (by rfl) (by rfl) (by rfl)) at_row ea_nil (fun vs => ev_row (by omega)) (by rfl)) (by rfl)
  refine ex_next (ρ' := [(Str.ofString "first", .imm (.int (firstF d))), (Str.ofString "row", .imm (.list (rowL.map .str))), (Str.ofString "sums", .imm (.list ((sumsF d).map .int))), (Str.ofString "drawn", .imm (.list (d.map .int))), (Str.ofString "script", .imm (.list (ns.map .int)))]) ?_ ?_
  · show EX (model prog w) A (Gl w) (fe 98 L cd) _ (exec (.Assign [.Name _ _] _ _) _) _
    exact ex_assign (fun K => ev_binop St.mono (ev_item (k := 0) (d := .int (27 + partS d 0)) St.mono (ev_var (by rfl) (by rfl)) ev_int (by decide) (by rfl)) ev_int (fun a b => op_mod_int (by decide))) (by rfl)
  refine ex_next (ρ' := [(Str.ofString "places", .imm (.list ((placesF d).map .int))), (Str.ofString "first", .imm (.int (firstF d))), (Str.ofString "row", .imm (.list (rowL.map .str))), (Str.ofString "sums", .imm (.list ((sumsF d).map .int))), (Str.ofString "drawn", .imm (.list (d.map .int))), (Str.ofString "script", .imm (.list (ns.map .int)))]) ?_ ?_
  · show EX (model prog w) A (Gl w) (fe 98 L cd) _ (exec (.Assign [.Name _ _] _ _) _) _
    refine ex_assign (fun K => EV.to (evm_comp (xs := [Str.ofString "number"]) (dss := ([0 + partS d 1, 1 + partS d 2, 2 + partS d 3, 3 + partS d 4, 5 + partS d 5].map PyData.int).map fun d => [d]) (compOk_of (by rfl)) St.mono (ei_list hh (EV.to (ev_slice_list St.mono (ev_var (d := .list ((sumsF d).map .int)) (by rfl) (by rfl)) (.some ev_int) (.some ev_int) .none (by intro h; cases h) (by show 7 ≤ sizeLine; decide)) (congrArg PyData.list ((lslice_map _ _ _ _ _).trans (by rfl)))))
      (by show 5 ≤ sizeLine; decide) (closureFor_eq (by rfl)) (fun _ => true) modF (fun C ds hds => eb_tests_nil) (fun C ds hds _ => ?_)).ev (by rfl)) (by rfl)
    rw [List.map_map] at hds
    obtain ⟨z, _, rfl⟩ := List.mem_map.mp hds
    exact ev_binop (CS.mono St.mono) (ev_cl0 (d := .int z) (by rfl) (by rfl) (by rfl)) ev_int (fun a b => op_mod_int (by decide))
  generalize hW : gslice srt (some (firstF d)) (some (firstF d + 8)) none = W at g
  generalize hT : pickL W (placesF d) = T at g
  have wlen : W.length ≤ 2 ^ 10 := by
    rw [← hW]
    unfold gslice
    refine Nat.le_trans (List.length_filterMap_le _ _) (Nat.le_trans (sliceRange_length_le _ _ _ srt.length (fun hc => ⟨?_, ?_⟩) fun hc => ?_) (by omega))
    · simp [sliceBounds]; omega
    · simp [sliceBounds]; omega
    · exact absurd (by simp [sliceBounds]) hc
  refine ex_next (ρ' := [(Str.ofString "texts", .imm (.list (T.map .str))), (Str.ofString "row", .imm (.list (rowL.map .str))), (Str.ofString "sums", .imm (.list ((sumsF d).map .int)))]) (EX.forget (ρ' := [(Str.ofString "texts", .imm (.list (T.map .str))), (Str.ofString "places", .imm (.list ((placesF d).map .int))), (Str.ofString "first", .imm (.int (firstF d))), (Str.ofString "row", .imm (.list (rowL.map .str))), (Str.ofString "sums", .imm (.list ((sumsF d).map .int))), (Str.ofString "drawn", .imm (.list (d.map .int))), (Str.ofString "script", .imm (.list (ns.map .int)))]) ?_ (sub_cons (by rfl) (sub_cons (by rfl) (sub_cons (by rfl) sub_nil)))) ?_
  · show EX (model prog w) A (Gl w) (fe 98 L cd) _ (exec (.Assign [.Name _ _] _ _) _) _
    refine ex_assign (fun K => EV.to (evm_comp (xs := [Str.ofString "place", Str.ofString "text"]) (dss := enumD (W.map .str)) (compOk_of (by rfl)) St.mono (ei_enum hh (nv_builtin (fun F h S => S.glob) (by kernel_rfl) (by kernel_rfl!) (by decide +kernel) (by rfl) (by rfl) (by rfl) (by rfl) (by rfl)) (ea1 St.mono (EV.to (ev_slice_list (ds := srt.map .str) St.mono
        (ev_call_builtin St.mono (nv_builtin (fun F h S => S.glob) (by kernel_rfl) (by kernel_rfl!) (by decide +kernel) (by rfl) (by rfl) (by rfl) (by rfl) (by rfl)) (ea1 St.mono (ev_var (d := .list (rowL.map .str)) (by rfl) (by rfl))) (fun vs => ca_sorted (by omega) hp hs)) (.some (ev_var (d := .int (firstF d)) (by rfl) (by rfl))) (.some (ev_binop St.mono (ev_var (d := .int (firstF d)) (by rfl) (by rfl)) ev_int (fun a b => op_add_int))) .none (by intro h; cases h) (by rw [List.length_map, sizeLine_eq]; omega)) (congrArg PyData.list ((lslice_map _ _ _ _ _).trans (congrArg _ hW))))))
      (by unfold enumD; rw [List.length_map, List.length_zipIdx, List.length_map, sizeLine_eq]; omega) (closureFor_eq (by rfl)) (inF (placesF d)) at1 (fun C ds hds => ?_) (fun C ds hds _ => ?_)).ev (congrArg PyData.list ((pick_eq _ _).trans (congrArg _ hT)))) (by rfl)
    · obtain ⟨t, b, hb, rfl⟩ := enum_mem hds
      exact eb_tests_one (eb_compare (CS.mono St.mono) (ev_cl0 (by rfl) (by rfl) (by rfl)) (ev_free (d := .list ((placesF d).map .int)) (by rfl) (by rfl) (by rfl) (by rfl) (by rfl) (by rfl)) (fun a c => op_in_ints))
    · obtain ⟨t, b, hb, rfl⟩ := enum_mem hds
      exact ev_cl1 (by rfl) (by rfl) (by rfl)
  have n5 := g.n5
  refine ex_next (ρ' := [(Str.ofString "many", .imm (.int (T.length : Nat))), (Str.ofString "texts", .imm (.list (T.map .str))), (Str.ofString "row", .imm (.list (rowL.map .str))), (Str.ofString "sums", .imm (.list ((sumsF d).map .int)))]) ?_ ?_
  · show EX (model prog w) A (Gl w) (fe 98 L cd) _ (exec (.Assign [.Name _ _] _ _) _) _
    exact ex_assign (fun K => EV.to (ev_call_builtin St.mono (nv_builtin (fun F h S => S.glob) (by kernel_rfl) (by kernel_rfl!) (by decide +kernel) (by rfl) (by rfl) (by rfl) (by rfl) (by rfl)) (ea1 St.mono (ev_var (d := .list (T.map .str)) (by rfl) (by rfl))) (fun vs => ca_len (by rw [List.length_map, sizeLine_eq]; omega))) (by rw [List.length_map])) (by rfl)
  generalize hz : (0 + partS d 6).fmod 5 = z
  have z0 : 0 ≤ z ∧ z < 5 := by rw [← hz]; exact ⟨Int.fmod_nonneg_of_pos _ (by decide), Int.fmod_lt_of_pos _ (by decide)⟩
  have htop : topF d = tops.getD z.toNat E0 := by unfold topF; rw [hz]
  rw [htop] at g
  have zl : z.toNat < tops.length := by show z.toNat < 5; omega
  have topok : PyData.strOk (tops.getD z.toNat E0) = true := by
    have : ∀ k : Fin 5, PyData.strOk (tops.getD k.1 E0) = true := by decide +kernel
    exact this ⟨z.toNat, zl⟩
  generalize hq : tops.getD z.toNat E0 = top at g topok
  refine ex_next (ρ' := [(Str.ofString "top", .imm (.str top)), (Str.ofString "many", .imm (.int (T.length : Nat))), (Str.ofString "texts", .imm (.list (T.map .str))), (Str.ofString "row", .imm (.list (rowL.map .str))), (Str.ofString "sums", .imm (.list ((sumsF d).map .int)))]) ?_ ?_
  · show EX (model prog w) A (Gl w) (fe 98 L cd) _ (exec (.Assign [.Name _ _] _ _) _) _
    refine ex_assign (fun K => ev_item (ds := tops.map .str) (k := z.toNat) St.mono (ev_list (ea5 St.mono ev_str ev_str ev_str ev_str ev_str) (by show 5 ≤ sizeLine; decide)) (EV.to (ev_binop St.mono (ev_item (k := 6) (d := .int (0 + partS d 6)) St.mono (ev_var (d := .list ((sumsF d).map .int)) (by rfl) (by rfl)) ev_int (by decide) (by rfl)) ev_int (fun a b => op_mod_int (by decide))) (congrArg PyData.int (hz.trans (by omega)))) (by omega) ?_) (by rfl)
    rw [← hq]
    exact texts_at zl
  refine ex_next (ρ' := [(Str.ofString "stacked", .imm (.bool (stk top))), (Str.ofString "top", .imm (.str top)), (Str.ofString "many", .imm (.int (T.length : Nat))), (Str.ofString "texts", .imm (.list (T.map .str))), (Str.ofString "row", .imm (.list (rowL.map .str))), (Str.ofString "sums", .imm (.list ((sumsF d).map .int)))]) ?_ ?_
  · show EX (model prog w) A (Gl w) (fe 98 L cd) _ (exec (.Assign [.Name _ _] _ _) _) _
    exact ex_assign (fun K => EV.to (ev_compare St.mono (ev_var (d := .str top) (by rfl) (by rfl)) (ev_list (ea3 St.mono ev_str ev_str ev_str) (by show 3 ≤ sizeLine; decide)) (fun a c => op_in_list (d := .str top) (by simp [PyData.depthAll, PyData.depth]; omega) (by simp only [PyData.canLayAll0, PyData.canLay0]; decide +kernel) (by simp only [PyData.canLay0]; exact topok))) (by unfold stk; simp [PyData.eqv])) (by rfl)
  refine ex_next (ρ' := rho0 T top) (EX.forget (ρ' := [(Str.ofString "hosts", .imm (.list ((T.map fun x => hostF x top).map .str))), (Str.ofString "stacked", .imm (.bool (stk top))), (Str.ofString "top", .imm (.str top)), (Str.ofString "many", .imm (.int (T.length : Nat))), (Str.ofString "texts", .imm (.list (T.map .str))), (Str.ofString "row", .imm (.list (rowL.map .str))), (Str.ofString "sums", .imm (.list ((sumsF d).map .int)))]) ?_ (sub_cons (by rfl) (sub_cons (by rfl) (sub_cons (by rfl) (sub_cons (by rfl) (sub_cons (by rfl) (sub_cons (by rfl) sub_nil))))))) ?_
  · show EX (model prog w) A (Gl w) (fe 98 L cd) _ (exec (.Assign [.Name _ _] _ _) _) _
    refine ex_assign (fun K => EV.to (evm_comp (xs := [Str.ofString "text"]) (dss := (T.map PyData.str).map fun d => [d]) (compOk_of (by rfl)) St.mono (ei_list hh (ev_var (d := .list (T.map .str)) (by rfl) (by rfl))) (by rw [List.length_map, List.length_map, sizeLine_eq]; omega) (closureFor_eq (by rfl)) (fun _ => true)
      (fun ds => match ds with | [.str x] => .str (hostF x top) | _ => .none) (fun C ds hds => eb_tests_nil) (fun C ds hds _ => ?_)).ev ?_) (by rfl)
    · rw [List.map_map] at hds
      obtain ⟨x, hx, rfl⟩ := List.mem_map.mp hds
      obtain ⟨p, hp, rfl⟩ := List.mem_iff_getElem.mp hx
      have t := g.t p hp
      have ex : T.getD p E0 = T[p] := by simp [hp]
      rw [ex] at t
      show EV _ _ _ _ (.str (hostF T[p] top))
      exact ev_def (CS.mono St.mono) (fun F h S => S.1.glob) (nv_global (fun F h S => S.1.glob) (by kernel_rfl) (by rfl) (by rfl) (by rfl) (by rfl)) at_host (ea2 (CS.mono St.mono) (ev_cl0 (by rfl) (by rfl) (by rfl)) (ev_free (d := .str top) (by rfl) (by rfl) (by rfl) (by rfl) (by rfl) (by rfl))) (fun vs => ev_host hh (by omega) t.host) (by rfl)
    · rw [List.filter_eq_self.mpr (fun _ _ => rfl), List.map_map, List.map_map, List.map_map]
      rfl
  refine ex_next (ρ' := (Str.ofString "falls", .mut []) :: rho0 T top) (ex_assign_mut (fun K => evm_list (ds := []) ea_nil (by decide)) (by rfl)) ?_
  refine ex_next (ρ' := rho1 T top 0) (EX.forget (ρ' := (Str.ofString "above", .mut []) :: (Str.ofString "falls", .mut []) :: rho0 T top) (ex_assign_mut (fun K => evm_list (ds := []) ea_nil (by decide)) (by rfl)) (sub_cons (by rfl) (sub_cons (by rfl) (sub_cons (by rfl) (sub_cons (by rfl) (sub_cons (by rfl) (sub_cons (by rfl) (sub_cons (by rfl) (sub_cons (by rfl) sub_nil))))))))) ?_
  refine ex_next (law_loop1 hh (by omega) g) ?_
  refine ex_next (ρ' := (Str.ofString "wins", .mut (winsD T top 1)) :: rho1 T top T.length) ?_ ?_
  · show EX (model prog w) A (Gl w) (fe 98 L cd) _ (exec (.Assign [.Name _ _] _ _) _) _
    have e1 : winsD T top 1 = [.list []] := by
      show [PyData.list (natsD (winM T top 0))] = _
      have : winM T top 0 = [] := by
        unfold winM bitsN
        rw [List.filter_filter]
        refine List.filter_eq_nil_iff.mpr fun a _ => ?_
        simp
      rw [this]; rfl
    rw [e1]
    exact ex_assign_mut (fun K => evm_list (ea1 St.mono (ev_list ea_nil (by decide))) (by show 1 ≤ sizeLine; decide)) (by rfl)
  refine ex_next (ρ' := rho2 T top 1) ?_ ?_
  · show EX (model prog w) A (Gl w) (fe 98 L cd) _ (exec (.Assign [.Name _ _] _ _) _) _
    have e1 : nimsD T top 1 = [.int 0] := by
      show [PyData.int (nimM T top 0)] = _
      have : bitsN T.length 0 = [] := by
        unfold bitsN
        refine List.filter_eq_nil_iff.mpr fun a _ => ?_
        simp
      unfold nimM
      rw [this]; rfl
    unfold rho2
    rw [e1]
    exact ex_assign_mut (fun K => evm_list (ea1 St.mono ev_int) (by show 1 ≤ sizeLine; decide)) (by rfl)
  refine ex_next (law_loop2 hh hu (by omega) g) ?_
  refine ex_next (law_loop3 hh hu (by omega) g) ?_
  refine ex_next (law_loop4 hh hu hr g) ?_
  show EX (model prog w) A (Gl w) (fe 98 L cd) _ (execs (.Return (some (.Constant (.bool true) _ _)) _ :: _) _) _
  exact ex_return_bool rfl
end
end Mine

end
section
open PySem PyProof.Rows PySem.W PySem.Spec
set_option maxRecDepth 100000
set_option linter.unusedVariables false
namespace Mine

section
variable {w : World} {A : Around} {vs : List Value}
theorem ev_law {prog : Program} {ns : List Int} {srt : List Str} (hh : A.handled = none) (hu : A.units + 90 < cLine) (hr : A.depth + 3 < recursionLimit) (hn : ns.length ≤ 63) (hp : srt.Perm rowL) (hs : sortedS srt = true)
    (g : Good (pickL (gslice srt (some (firstF (drawnF ns))) (some (firstF (drawnF ns) + 8)) none) (placesF (drawnF ns))) (topF (drawnF ns))) :
    EV (model prog w) A (fun F h => Gl w h ∧ RepAll F vs [.list (ns.map .int)]) (call (.ref 98) vs) (.bool true) := by
  refine fn_call1 (p := Str.ofString "script") (by omega) at_law (by intros; rfl) (fun k => .inl (by rfl)) (by intros; rfl) (fun L cd => ?_) (by rfl) (by rfl) (by rfl)
  have hh' : (A.deeper (fe 98 L cd)).handled = none := hh
  have hr' : (A.deeper (fe 98 L cd)).depth + 2 < recursionLimit := by show A.depth + 1 + 2 < _; omega
  have hu' : (A.deeper (fe 98 L cd)).units + 80 < cLine := by show A.units + 3 + 80 < cLine; omega
  exact law_body hh' hu' hr' hn hp hs g
end
noncomputable def recAt (a : Addr) : DefRec := ⟨fn a, fp a, fb a, fs a, fq a⟩
theorem recs_eq : recsOf qv = fAddrs.map recAt := by kernel_rfl
theorem fns_ns (P : Params) : ∀ a ∈ fAddrs, nsIn (kfrag P) mainGlobals (fn a) = some (some (.ref a)) := by
  intro a ha
  simp only [fAddrs, List.mem_cons, List.not_mem_nil, or_false] at ha
  rcases ha with rfl | rfl | rfl | rfl | rfl | rfl | rfl | rfl | rfl <;> rfl

theorem law_holds {srt : List Str} (hp : srt.Perm rowL) (hs : sortedS srt = true)
    (good : ∀ d : List Int, Good (pickL (gslice srt (some (firstF d)) (some (firstF d + 8)) none) (placesF d)) (topF d)) : PySem.Challenge.rw_rs0131_01.Holds := by
  refine head (by rfl) (by rfl) (by rfl) ?_
  intro w s₀ s₁ mg mb G Y fa o pm cd doc dV kV ho hd hcd hD hmg hg args vals as hpre hlay hrd hwl hlo
  clear hD hcd hd
  have KX : (kfrag w.params).In s₁.heap := kIn_of (K := kfrag) (as := [3, 35, 36, 58]) (e := fun _ => rfl) Y
  clear Y
  refine Ground.open G ?_
  intro T B D TE TW
  have gl : Gl w s₁.heap := ⟨KX, ⟨mg, T.g⟩, ⟨mb, T.b, T.builtins⟩, T.nolimit, fun a ha => by
    obtain ⟨a', o, pm, cd, doc, e1, e2, e3, e4⟩ := T.fn (recAt a) (by rw [recs_eq]; exact List.mem_map_of_mem ha)
    have e0 := mg_of KX T.g (fns_ns w.params a ha)
    have e1' : mg (fn a) = some (.ref a') := e1
    rw [e0] at e1'
    cases e1'
    exact ⟨o, pm, cd, doc, e2, e3, e4⟩⟩
  have hfa : fa = 98 := by
    have := mg_of KX T.g (n := Str.ofString "law") (e := (by rfl : nsIn (kfrag w.params) mainGlobals (Str.ofString "law") = some (some (.ref 98))))
    have h2 : mg (Str.ofString "law") = some (.ref fa) := hmg
    rw [this] at h2; cases h2; rfl
  subst hfa
  clear T B D TE TW G hmg ho
  wrow_args hpre hlay hrd hwl hlo
  rename_i ns _ _ _ _ _ _ _ a us _ hL _ hW _ hI _ hcond _
  have hn : ns.length ≤ 63 := by omega
  have g0 : s₁.heap.get? a = some (lst us 0) := by
    generalize ofPy (PyData.list (List.map PyData.int ns)) = wd at hW
    cases hW with
    | list h1 h2 =>
      obtain ⟨o, h3, _, n, h4⟩ := hL
      rw [h1] at h3
      cases h3
      obtain ⟨e, _⟩ := Data.seq.inj h4
      obtain rfl := List.toArray_inj e
      exact h1
    | _ => (obtain ⟨o, h3, h5, n, h4⟩ := hL; simp_all)
  let F : FM := fun b => if b = a then some (lst us 0) else none
  have ft : Fit F s₁.heap := fun b p q => by
    by_cases e : b = a
    · subst e
      have : some (lst us 0) = some p := by simpa [F] using q
      rw [g0, this]
    · have : (none : Option Obj) = some p := by simpa [F, e] using q
      cases this
  have rp : RepAll F [Value.ref a] [.list (ns.map .int)] := .cons (.list (n := 0) (vs := us) (by simp [F]) (repInts hI)) .nil
  show wpAny (model PySem.Challenge.pw_rs0131_01 w) callerA (call (.ref 98) [Value.ref a]) _ _ s₁
  refine ev_law (w := w) (A := callerA) (by rfl) (by decide) (by decide) hn hp hs (good _) F s₁ _ _ ft ⟨gl, rp⟩ fun v F' h' tk x r => ?_
  cases r
  refine GoodW.toG ⟨.inl ⟨_, .bool true, [], rfl, fun cls => ?_, .bool true, ?_, fun _ => ⟨List.nodup_nil, fun a h => by cases h⟩⟩, x.l, rfl, hg⟩
  · rfl
  · wrow_post
end Mine

end
section
open PySem PyProof.Rows PySem.W PySem.Spec
set_option maxRecDepth 100000
set_option linter.unusedVariables false
namespace Mine
def srtL : List Str := [⟨#[33]⟩, ⟨#[33, 61]⟩, ⟨#[37]⟩, ⟨#[37, 61]⟩, ⟨#[38]⟩, ⟨#[38, 61]⟩, ⟨#[40]⟩, ⟨#[41]⟩, ⟨#[42]⟩, ⟨#[42, 42]⟩, ⟨#[42, 42, 61]⟩, ⟨#[42, 61]⟩, ⟨#[43]⟩, ⟨#[43, 61]⟩, ⟨#[44]⟩, ⟨#[45]⟩, ⟨#[45, 61]⟩, ⟨#[45, 62]⟩, ⟨#[46]⟩, ⟨#[46, 46, 46]⟩, ⟨#[47]⟩, ⟨#[47, 47]⟩, ⟨#[47, 47, 61]⟩, ⟨#[47, 61]⟩, ⟨#[58]⟩, ⟨#[58, 61]⟩, ⟨#[59]⟩, ⟨#[60]⟩, ⟨#[60, 60]⟩, ⟨#[60, 60, 61]⟩, ⟨#[60, 61]⟩, ⟨#[61]⟩, ⟨#[61, 61]⟩, ⟨#[62]⟩, ⟨#[62, 61]⟩, ⟨#[62, 62]⟩, ⟨#[62, 62, 61]⟩, ⟨#[64]⟩, ⟨#[64, 61]⟩, ⟨#[91]⟩, ⟨#[93]⟩, ⟨#[94]⟩, ⟨#[94, 61]⟩, ⟨#[123]⟩, ⟨#[124]⟩, ⟨#[124, 61]⟩, ⟨#[125]⟩, ⟨#[126]⟩]
theorem srt_sorted : sortedS srtL = true := by decide +kernel
set_option maxHeartbeats 1000000 in
theorem srt_perm : srtL.Perm rowL := by decide +kernel
end Mine

end
section
open PySem PyProof.Rows
set_option maxRecDepth 100000
set_option linter.unusedVariables false
namespace Mine
open Builtin Builtin.Re

/-- the search begins at s -/
def SR (x : Array Nat) (n s : Nat) (first : Bool) (seen : Sre.Seen) : Sre.M :=
  { code := ipCode, text := x, lim := n, start := s, lastStart := n, pc := 9, pos := s, handed := s, outermost := first, marks := #[],
    frames := [{ wait := .nextStart, pc := 9, pos := s, outermost := first }], weight := 1, seen := seen }
/-- it has failed there -/
def SF (x : Array Nat) (n s p c : Nat) (first : Bool) (seen : Sre.Seen) : Sre.M :=
  { code := ipCode, text := x, lim := n, start := s, lastStart := n, pc := c, pos := p, handed := s, outermost := first, marks := #[],
    frames := [{ wait := .nextStart, pc := 9, pos := s, outermost := first }], weight := 1, seen := seen, answer := some false }
/-- the dot is found -/
def SD (x : Array Nat) (n s : Nat) (first : Bool) (seen : Sre.Seen) : Sre.M :=
  { code := ipCode, text := x, lim := n, start := s, lastStart := n, pc := 11, pos := s + 1, handed := s, outermost := first, marks := #[],
    frames := [{ wait := .nextStart, pc := 9, pos := s, outermost := first }], weight := 1, seen := seen }
variable {x : Array Nat} {n s p c : Nat} {f : Bool} {sn : Sre.Seen}

theorem SR_exec : (SR x n s f sn).step = (if s ≥ n then SF x n s s 9 f (sn.add 16) else if (x.getD s 0 == 46) = true then SD x n s f (sn.add 16) else SF x n s s 9 f (sn.add 16)) := by
  show (if (SR x n s f sn).pos ≥ (SR x n s f sn).lim then _ else _) = _
  show (if s ≥ n then _ else _) = _
  by_cases h : s ≥ n
  · rw [if_pos h, if_pos h]; rfl
  · rw [if_neg h, if_neg h]
    show (match (Except.ok (x.getD s 0 == 46, sn.add 16) : Except String (Bool × Sre.Seen)) with
      | .error why => _
      | .ok (false, seen) => _
      | .ok (true, seen) => _) = _
    cases hx : x.getD s 0 == 46 <;> rfl
theorem SF_lt (h : s < n) : (SF x n s p c f sn).step = SR x n (s + 1) false sn := by
  show (if s < n then _ else _) = _
  rw [if_pos h]; rfl
theorem SF_end (h : ¬ s < n) : (SF x n s p c f sn).step.step.outcome = some .failed := by
  have e : (SF x n s p c f sn).step = { SF x n s s 9 f sn with frames := [], weight := 0 } := by
    show (if s < n then _ else _) = _
    rw [if_neg h]; rfl
  rw [e]; rfl
theorem SD_short (h : ¬ s + 1 < n) : (SD x n s f sn).step = SF x n s (s + 1) 11 f (sn.add 24) := by
  have hr : ((1 : Nat) : Int) > ((n : Int) - ((s + 1 : Nat) : Int)) := by omega
  show (if ((1 : Nat) : Int) > ((n : Int) - ((s + 1 : Nat) : Int)) then _ else _) = _
  rw [if_pos hr]; rfl
theorem in_dig (c : Nat) (sn : Sre.Seen) : ∃ sn', Sre.accepts ipCode 15 c sn = .ok (Sre.isDigit c, sn') := by
  cases h : Sre.isDigit c with
  | true => 
    refine ⟨(sn.add 8).add (55 + 0), ?_⟩
    show (do if ← Sre.category 0 c then pure (true, (sn.add 8).add (55 + 0)) else _ : Except String (Bool × Sre.Seen)) = _
    have : Sre.category 0 c = .ok true := by unfold Sre.category; show Except.ok (Sre.isDigit c != false) = _; rw [h]; rfl
    rw [this]; rfl
  | false => 
    refine ⟨((sn.add 8).add (55 + 0)).add 0, ?_⟩
    show (do if ← Sre.category 0 c then pure (true, (sn.add 8).add (55 + 0)) else _ : Except String (Bool × Sre.Seen)) = _
    have : Sre.category 0 c = .ok false := by unfold Sre.category; show Except.ok (Sre.isDigit c != false) = _; rw [h]; rfl
    rw [this]; rfl
theorem room_min (h : s + 1 < n) : min 4294967295 ((n : Int) - ((s + 1 : Nat) : Int)).toNat = (min 4294967295 (n - (s + 1)) - 1) + 1 := by
  have : ((n : Int) - ((s + 1 : Nat) : Int)).toNat = n - (s + 1) := by omega
  rw [this]; omega
theorem SD_run (h : s + 1 < n) : (SD x n s f sn).step = (match Sre.run ipCode x 15 ((min 4294967295 (n - (s + 1)) - 1) + 1) (s + 1) 0 ((sn.add 24).add 13) with
      | .error why => ({ SD x n s f (sn.add 24) with } : Sre.M).stick why
      | .ok (k, seen) => if k < 1 then ({ SD x n s f seen with } : Sre.M).say false else ({ SD x n s f seen with pos := s + 1 + k } : Sre.M).afterRun .giveBack k (({ SD x n s f seen with pos := s + 1 + k } : Sre.M).keep false)) := by
  have hr : ¬ ((1 : Nat) : Int) > ((n : Int) - ((s + 1 : Nat) : Int)) := by omega
  show (if ((1 : Nat) : Int) > ((n : Int) - ((s + 1 : Nat) : Int)) then _ else (match Sre.run ipCode x 15 (min 4294967295 ((n : Int) - ((s + 1 : Nat) : Int)).toNat) (s + 1) 0 ((sn.add 24).add 13) with
      | .error why => _
      | .ok (k, seen) => _)) = _
  rw [if_neg hr, room_min h]; rfl
theorem SD_no (h : s + 1 < n) (hd : Sre.isDigit (x.getD (s + 1) 0) = false) : ∃ sn', (SD x n s f sn).step = SF x n s (s + 1) 11 f sn' := by
  obtain ⟨sn', e⟩ := in_dig (x.getD (s + 1) 0) ((sn.add 24).add 13)
  refine ⟨sn', ?_⟩
  have r : ∀ k, Sre.run ipCode x 15 (k + 1) (s + 1) 0 ((sn.add 24).add 13) = .ok (0, sn') := fun k => by
    rw [Sre.run, e, hd]; rfl
  rw [SD_run h, r]
  rfl
theorem SD_yes (hd : Sre.isDigit (x.getD (s + 1) 0) = true) : (SD x (s + 2) s f sn).step.step.step.step.step.step.outcome = some .matched := by
  obtain ⟨sn', e⟩ := in_dig (x.getD (s + 1) 0) ((sn.add 24).add 13)
  have r : Sre.run ipCode x 15 (0 + 1) (s + 1) 0 ((sn.add 24).add 13) = .ok (1, sn') := by
    rw [Sre.run, e, hd]; rfl
  have k0 : min 4294967295 (s + 2 - (s + 1)) - 1 = 0 := by omega
  have st : (SD x (s + 2) s f sn).step = ({ SD x (s + 2) s f sn' with pos := s + 2 } : Sre.M).afterRun .giveBack 1 (({ SD x (s + 2) s f sn' with pos := s + 2 } : Sre.M).keep false) := by
    rw [SD_run (by omega), k0, r]; rfl
  rw [st]
  have a : (({ SD x (s + 2) s f sn' with pos := s + 2 } : Sre.M).afterRun .giveBack 1 (({ SD x (s + 2) s f sn' with pos := s + 2 } : Sre.M).keep false)).step =
      { ({ SD x (s + 2) s f sn' with pos := s + 2 } : Sre.M).afterRun .giveBack 1 (({ SD x (s + 2) s f sn' with pos := s + 2 } : Sre.M).keep false) with pc := 23, seen := (sn'.add 6).add (43 + 5) } := by
    show (if ((s + 2 == s + 2) || _) = true then _ else _) = _
    rw [if_pos (by simp)]; rfl
  rw [a]
  cases f <;> rfl

theorem runFor_succ (m : Sre.M) (k : Nat) : m.runFor (k + 1) = m.step.runFor k := by
  rw [Sre.M.runFor]
  split
  · next h =>
    have : m.step = m := by unfold Sre.M.step; rw [if_pos h]
    rw [this, runFor_done h]
  · rfl
theorem runFor_zero (m : Sre.M) : m.runFor 0 = m := rfl
/-- a dot and a figure stand at t -/
def dig (x : Array Nat) (t : Nat) : Bool := x.getD t 0 == 46 && Sre.isDigit (x.getD (t + 1) 0)
def won (b : Bool) : Option Sre.Outcome := some (if b then .matched else .failed)
theorem SR_go : ∀ (k s : Nat) (f : Bool) (sn : Sre.Seen), s + k = n → (∀ t, t + 2 < n → dig x t = false) →
    ∃ j, j ≤ 3 * k + 7 ∧ ((SR x n s f sn).runFor j).outcome = won (decide (s + 2 ≤ n) && dig x (n - 2))
  | 0, s, f, sn, hk, hc => by
    refine ⟨3, by omega, ?_⟩
    have h1 : ¬ s + 2 ≤ n := by omega
    have h2 : s ≥ n := by omega
    rw [runFor_succ, runFor_succ, runFor_succ, runFor_zero, SR_exec, if_pos h2, SF_end (by omega)]
    simp [h1, won]
  | k + 1, s, f, sn, hk, hc => by
    have h2 : ¬ s ≥ n := by omega
    have next : ∀ (q : Nat) (sn' : Sre.Seen), q ≤ 3 → (SR x n s f sn).runFor q = SR x n (s + 1) false sn' → (s + 2 = n → dig x s = false) →
        ∃ j, j ≤ 3 * (k + 1) + 7 ∧ ((SR x n s f sn).runFor j).outcome = won (decide (s + 2 ≤ n) && dig x (n - 2)) := fun q sn' hq e hd => by
      obtain ⟨j, hj, ho⟩ := SR_go k (s + 1) false sn' (by omega) hc
      refine ⟨q + j, by omega, ?_⟩
      rw [runFor_add, e, ho]
      by_cases h3 : s + 1 + 2 ≤ n
      · have : s + 2 ≤ n := by omega
        simp [h3, this]
      · by_cases h4 : s + 2 = n
        · have h5 : n - 2 = s := by omega
          rw [h5, hd h4]; simp
        · have : ¬ s + 2 ≤ n := by omega
          simp [h3, this]
    cases hx : x.getD s 0 == 46 with
    | false =>
      refine next 2 (sn.add 16) (by omega) ?_ (fun _ => by unfold dig; rw [hx]; rfl)
      rw [runFor_succ, runFor_succ, runFor_zero, SR_exec, if_neg h2, hx]
      exact SF_lt (by omega)
    | true =>
      have e1 : (SR x n s f sn).step = SD x n s f (sn.add 16) := by rw [SR_exec, if_neg h2, hx]; rfl
      by_cases h3 : s + 1 < n
      · cases hd : Sre.isDigit (x.getD (s + 1) 0) with
        | false =>
          obtain ⟨sn', e2⟩ := SD_no (f := f) (sn := sn.add 16) h3 hd
          refine next 3 sn' (by omega) ?_ (fun _ => by unfold dig; rw [hd, Bool.and_false])
          rw [runFor_succ, runFor_succ, runFor_succ, runFor_zero, e1, e2]
          exact SF_lt (by omega)
        | true =>
          have hds : dig x s = true := by unfold dig; rw [hx, hd]; rfl
          have h4 : n = s + 2 := by
            by_cases h5 : s + 2 < n
            · rw [hc s h5] at hds; cases hds
            · omega
          subst h4
          refine ⟨7, by omega, ?_⟩
          rw [runFor_succ, e1, runFor_succ, runFor_succ, runFor_succ, runFor_succ, runFor_succ, runFor_succ, runFor_zero, SD_yes hd]
          have h5 : s + 2 - 2 = s := by omega
          rw [h5, hds]
          simp [won]
      · refine next 3 ((sn.add 16).add 24) (by omega) ?_ (fun q => by omega)
        rw [runFor_succ, runFor_succ, runFor_succ, runFor_zero, e1, SD_short h3]
        exact SF_lt (by omega)

def hitQ (x : Str) : Bool := decide (2 ≤ x.cps.size) && dig x.cps (x.cps.size - 2)
def cleanQ (x : Str) : Bool := (List.range (x.cps.size - 2)).all fun t => !dig x.cps t
theorem ip_scan {x : Str} (hc : cleanQ x = true) (hn : x.cps.size ≤ 100) : ipOk x = true ∧ ipHit x = hitQ x := by
  have key : (ipEnd x).outcome = won (hitQ x) := by
    by_cases h : x.cps.size < 2
    · have e : (ipM x).step.outcome = some .failed := by
        have : ipM x = ({ SR x.cps x.cps.size 0 true (({} : Sre.Seen).add 14) with frames := [], weight := 0, answer := some false, lastStart := 0 } : Sre.M) := by
          show (if (decide (0 > x.cps.size) || decide (x.cps.size - 0 < 2)) = true then _ else _) = _
          rw [if_pos (by simp; omega)]; rfl
        rw [this]; rfl
      have h2 : hitQ x = false := by unfold hitQ; simp; omega
      unfold ipEnd
      rw [show 400 = 399 + 1 from rfl, runFor_succ, runFor_done (by rw [e]; rfl), e, h2]; rfl
    · have e : ipM x = SR x.cps x.cps.size 0 true (({} : Sre.Seen).add 14) := by
        show (if (decide (0 > x.cps.size) || decide (x.cps.size - 0 < 2)) = true then _ else _) = _
        rw [if_neg (by simp; omega)]; rfl
      obtain ⟨j, hj, ho⟩ := SR_go (x := x.cps) (n := x.cps.size) x.cps.size 0 true (({} : Sre.Seen).add 14) (by omega) (fun t ht => by
        unfold cleanQ at hc
        rw [List.all_eq_true] at hc
        have := hc t (by simp; omega)
        simpa using this)
      unfold ipEnd
      have : 400 = j + (400 - j) := by omega
      rw [this, runFor_add, e, runFor_done (by rw [ho]; rfl), ho]
      unfold hitQ
      simp
  unfold ipOk ipHit
  rw [key]
  unfold won
  cases hitQ x <;> exact ⟨rfl, rfl⟩
end Mine

end
section
open PySem PyProof.Rows PySem.W PySem.Spec
set_option maxRecDepth 100000
set_option linter.unusedVariables false
namespace Mine

def dotQ : Str := ⟨#[46]⟩
def nilQ : Str := ⟨#[]⟩
def locQ : Str := ⟨#[108, 111, 99, 97, 108]⟩
def topsQ : List Str := [locQ, ⟨#[99, 111, 109]⟩, ⟨#[99, 55]⟩, ⟨#[55]⟩, ⟨#[]⟩]
theorem dot_eq : dot = dotQ := by decide +kernel
theorem nil_eq : Str.ofString "" = nilQ := by decide +kernel
theorem loc_eq : Str.ofString "local" = locQ := by decide +kernel
theorem tops_eq : tops = topsQ := by decide +kernel
def stkQ (top : Str) : Bool := [locQ, (⟨#[99, 111, 109]⟩ : Str), ⟨#[99, 55]⟩].any (· == top)
theorem stk_eq (top : Str) : stk top = stkQ top := by
  have h1 : Str.ofString "com" = ⟨#[99, 111, 109]⟩ := by decide +kernel
  have h2 : Str.ofString "c7" = ⟨#[99, 55]⟩ := by decide +kernel
  unfold stk stkQ
  rw [loc_eq, h1, h2]
def freeQ (x top : Str) : Bool := stkQ top && !(head1 x == dotQ)
theorem free_eq (x top : Str) : free x top = freeQ x top := by
  unfold free freeQ
  rw [stk_eq, dot_eq, Bool.and_true]; rfl

/-- small letters and signs alone -/
def low (h : Str) : Bool := h.cps.toList.all fun c => decide (c < 128) && (lo1 c == c)
theorem low_at {h : Str} (l : low h = true) : ∀ c ∈ h.cps.toList, c < 128 ∧ lo1 c = c := fun c hc => by
  unfold low at l
  rw [List.all_eq_true] at l
  have := l c hc
  rw [Bool.and_eq_true] at this
  exact ⟨of_decide_eq_true this.1, eq_of_beq this.2⟩
theorem map_id_arr {a : Array Nat} {f : Nat → Nat} (h : ∀ c ∈ a.toList, f c = c) : a.map f = a := by
  apply Array.toList_inj.mp
  rw [Array.toList_map]
  calc a.toList.map f = a.toList.map id := List.map_congr_left h
    _ = a.toList := List.map_id _
theorem low_lower {h : Str} (l : low h = true) : Txt.lower h = h := by
  rw [lower_ascii fun c hc => (low_at l c hc).1]
  exact congrArg Str.mk (map_id_arr fun c hc => (low_at l c hc).2)
theorem up_low : ∀ c, c < 128 → lo1 c = c → up1 c < 128 ∧ lo1 (up1 c) = c := by decide +kernel
theorem low_upper {h : Str} (l : low h = true) : Txt.upper h = ⟨h.cps.map up1⟩ := upper_ascii fun c hc => (low_at l c hc).1
theorem low_lower_upper {h : Str} (l : low h = true) : Txt.lower (Txt.upper h) = h := by
  rw [low_upper l, lower_ascii]
  · apply congrArg Str.mk
    show (h.cps.map up1).map lo1 = h.cps
    rw [Array.map_map]
    exact map_id_arr fun c hc => (up_low c (low_at l c hc).1 (low_at l c hc).2).2
  · intro c hc
    have hc' : c ∈ h.cps.toList.map up1 := by rw [← Array.toList_map]; exact hc
    obtain ⟨d, hd, rfl⟩ := List.mem_map.mp hc'
    exact (up_low d (low_at l d hd).1 (low_at l d hd).2).1
theorem low_app {a b : Str} (la : low a = true) (lb : low b = true) : low (a ++ b) = true := by
  unfold low at *
  show (a.cps ++ b.cps).toList.all _ = true
  rw [Array.toList_append, List.all_append, la, lb]; rfl
theorem low_app' {a b : Str} (l : low (a ++ b) = true) : low a = true ∧ low b = true := by
  unfold low at *
  have : ((a.cps ++ b.cps).toList.all fun c => decide (c < 128) && (lo1 c == c)) = true := l
  rw [Array.toList_append, List.all_append, Bool.and_eq_true] at this
  exact this
theorem lower_app_upper {a b : Str} (la : low a = true) (lb : low b = true) : Txt.lower (a ++ Txt.upper b) = a ++ b := by
  have hu := low_upper lb
  rw [hu, lower_ascii]
  · apply congrArg Str.mk
    show ((a.cps ++ b.cps.map up1).map lo1) = a.cps ++ b.cps
    rw [Array.map_append, Array.map_map]
    congr 1
    · exact map_id_arr fun c hc => (low_at la c hc).2
    · exact map_id_arr fun c hc => (up_low c (low_at lb c hc).1 (low_at lb c hc).2).2
  · intro c hc
    have hc' : c ∈ (a.cps ++ b.cps.map up1).toList := hc
    rw [Array.toList_append, Array.toList_map] at hc'
    rcases List.mem_append.mp hc' with h | h
    · exact (low_at la c h).1
    · obtain ⟨d, hd, rfl⟩ := List.mem_map.mp h
      exact (up_low d (low_at lb d hd).1 (low_at lb d hd).2).1
theorem str_app_assoc (a b c : Str) : (a ++ b) ++ c = a ++ (b ++ c) := congrArg Str.mk (Array.append_assoc ..)
theorem low_dom {h : Str} (l : low h = true) (ld : low dot = true) (e : cutA h ++ cutB h = h) : Txt.lower (domF h) = dot ++ h := by
  have l' : low (cutA h ++ cutB h) = true := by rw [e]; exact l
  obtain ⟨la, lb⟩ := low_app' l'
  unfold domF
  rw [lower_app_upper (low_app ld la) lb, str_app_assoc, e]

def tl (h : Str) : Str := sslice h (some 1) none none
theorem dm_eq {A B a b : Str} (ha : Txt.lower A = a) (hb : Txt.lower B = b) : dm A B = (a == b || (hdn a && !(Txt.rfind a b == -1 || (Txt.rfind a b == 0 || false)) && Txt.startswith b dot && hdn (tl b))) := by
  subst ha hb; rfl
theorem dmOk {A B a b : Str} (ha : Txt.lower A = a) (hb : Txt.lower B = b) (h1 : A.length ≤ 2 ^ 16) (h2 : B.length ≤ 2 ^ 16) (ca : cleanQ a = true) (na : a.length ≤ 100) (cb : cleanQ (tl b) = true) (nb : (tl b).length ≤ 100) : DmOk A B :=
  ⟨h1, h2, by rw [hb]; exact Nat.le_trans nb (by decide), by rw [ha]; exact (ip_scan ca na).1, by rw [hb]; exact (ip_scan cb nb).1⟩

/-- is_HDN by a scan -/
def hdnQ (x : Str) : Bool := !hitQ x && !(x == nilQ) && !((⟨#[x.cps.getD 0 0]⟩ : Str) == dotQ || (⟨#[x.cps.getD (x.cps.size - 1) 0]⟩ : Str) == dotQ)
theorem hdn_eq {x : Str} (c : cleanQ x = true) (n : x.length ≤ 100) : hdn x = hdnQ x := by
  unfold hdn hdnQ
  rw [(ip_scan c n).2, dot_eq, nil_eq]
def rchQ (h : Str) : Str :=
  if 0 ≤ Txt.find h dotQ then (if (hdnQ h && (decide (0 ≤ Txt.find (sslice h (some (Txt.find h dotQ + 1)) none none) dotQ) || (sslice h (some (Txt.find h dotQ + 1)) none none == locQ))) = true then dotQ ++ sslice h (some (Txt.find h dotQ + 1)) none none else h) else h
theorem rch_eq {x : Str} (c : cleanQ x = true) (n : x.length ≤ 100) : rch x = rchQ x := by
  unfold rch rchQ rchC
  rw [hdn_eq c n, dot_eq, loc_eq, Bool.or_false, Bool.and_true]
def hseqQ (x : Str) : Nat → Str
  | 0 => x
  | n + 1 => tl (rchQ (hseqQ x n))
theorem hseq_eq {x : Str} {m : Nat} (h : ∀ i, i ≤ m → cleanQ (hseqQ x i) = true ∧ (hseqQ x i).length ≤ 100) : ∀ i, i ≤ m → hseq x i = hseqQ x i
  | 0, _ => rfl
  | i + 1, hi => by
    have ih := hseq_eq h i (by omega)
    obtain ⟨h1, h2⟩ := h i (by omega)
    show sslice (rch (hseq x i)) (some 1) none none = tl (rchQ (hseqQ x i))
    rw [ih, rch_eq h1 h2]; rfl
def keyQ (x : Str) : Str := sslice (Txt.join nilQ (gslice (Txt.split x dotQ) none (some (-1)) none)) none none (some (-1))
theorem key_eq (x : Str) : keyOf x = keyQ x := by unfold keyOf keyQ; rw [nil_eq, dot_eq]

/-- lists of pairs of a text and a number -/
def pairsD (l : List (Str × Int)) : List PyData := l.map fun p => .tuple [.str p.1, .int p.2]
theorem pairs_lay : ∀ l : List (Str × Int), l.all (fun p => PyData.strOk p.1) = true → PyData.canLayAll0 (pairsD l) = true ∧ PyData.depthAll (pairsD l) ≤ 1
  | [], _ => ⟨rfl, by simp [pairsD, PyData.depthAll]⟩
  | (x, i) :: l, h => by
    rw [List.all_cons, Bool.and_eq_true] at h
    obtain ⟨h1, h2⟩ := pairs_lay l h.2
    have hx : PyData.strOk x = true := h.1
    have e : pairsD ((x, i) :: l) = .tuple [.str x, .int i] :: pairsD l := rfl
    rw [e]
    refine ⟨by simp [PyData.canLayAll0, PyData.canLay0, hx, h1], ?_⟩
    simp only [PyData.depthAll, PyData.depth]
    omega
theorem pairs_shaped {l : List (Str × Int)} (h : l.all (fun p => PyData.strOk p.1) = true) : SeqAt.shaped (.list (pairsD l)) = true := by
  obtain ⟨h1, h2⟩ := pairs_lay l h
  unfold SeqAt.shaped
  rw [Bool.and_eq_true]
  refine ⟨by simp only [PyData.canLay0]; exact h1, ?_⟩
  have : (PyData.list (pairsD l)).depth ≤ 64 := by simp only [PyData.depth]; omega
  simpa using this
theorem pairs_eqv (l : List (Str × Int)) : PyData.eqv (.list (pairsD l)) (.list (pairsD l)) = true := by
  simp only [PyData.eqv]
  induction l with
  | nil => rfl
  | cons p l ih =>
    have e : pairsD (p :: l) = .tuple [.str p.1, .int p.2] :: pairsD l := rfl
    rw [e]
    simp [PyData.eqvAll, PyData.eqv, ih]
end Mine

end
section
open PySem PyProof.Rows PySem.W PySem.Spec
set_option maxRecDepth 100000
set_option linter.unusedVariables false
namespace Mine

def rowE : List Str := [⟨#[40]⟩, ⟨#[41]⟩, ⟨#[91]⟩, ⟨#[93]⟩, ⟨#[58]⟩, ⟨#[44]⟩, ⟨#[59]⟩, ⟨#[43]⟩, ⟨#[45]⟩, ⟨#[42]⟩, ⟨#[47]⟩, ⟨#[124]⟩, ⟨#[38]⟩, ⟨#[60]⟩, ⟨#[62]⟩, ⟨#[61]⟩, ⟨#[46]⟩, ⟨#[37]⟩, ⟨#[123]⟩, ⟨#[125]⟩, ⟨#[61, 61]⟩, ⟨#[33, 61]⟩, ⟨#[60, 61]⟩, ⟨#[62, 61]⟩, ⟨#[126]⟩, ⟨#[94]⟩, ⟨#[60, 60]⟩, ⟨#[62, 62]⟩, ⟨#[42, 42]⟩, ⟨#[43, 61]⟩, ⟨#[45, 61]⟩, ⟨#[42, 61]⟩, ⟨#[47, 61]⟩, ⟨#[37, 61]⟩, ⟨#[38, 61]⟩, ⟨#[124, 61]⟩, ⟨#[94, 61]⟩, ⟨#[60, 60, 61]⟩, ⟨#[62, 62, 61]⟩, ⟨#[42, 42, 61]⟩, ⟨#[47, 47]⟩, ⟨#[47, 47, 61]⟩, ⟨#[64]⟩, ⟨#[64, 61]⟩, ⟨#[45, 62]⟩, ⟨#[46, 46, 46]⟩, ⟨#[58, 61]⟩, ⟨#[33]⟩]
noncomputable def kvE : List (Str × Int) := kv58.map fun e => (e.1, e.2.2.1)
set_option maxHeartbeats 1000000 in
theorem row_eq : rowL = rowE := by decide +kernel
theorem kv_eq : kv58.map (fun e => (e.1, e.2.2.1)) = kvE := by rfl
def idxQ (x : Str) : Option Nat := rowE.findIdx? (· == x)
theorem idx_eq (x : Str) : idxOf x = idxQ x := by unfold idxOf idxQ; rw [row_eq]
noncomputable def tokQ (x : Str) : Option Int := (kvE.find? fun e => e.1 == x).map (·.2)
theorem tok_eq (x : Str) : tokOf x = tokQ x := by
  unfold tokOf tokQ
  rw [← kv_eq, List.find?_map, Option.map_map]
  rfl

def hostQ (x top : Str) : Str := ⟨((x.cps.toList.reverse.flatMap fun c => [c, 46]) ++ top.cps.toList).toArray⟩
def hostB (x top : Str) : Bool := decide ((sslice x none none (some (-1))).length ≤ 60) && (JoinOk dotQ (signs (sslice x none none (some (-1))) ++ [top]) && (Txt.join dotQ (signs (sslice x none none (some (-1))) ++ [top]) == hostQ x top))
theorem host_of {x top : Str} (h : hostB x top = true) (hx : x.length ≤ 60) : HostOk x top ∧ hostF x top = hostQ x top := by
  unfold hostB at h
  simp only [Bool.and_eq_true, decide_eq_true_eq] at h
  obtain ⟨h1, h2, h3⟩ := h
  refine ⟨⟨by omega, by omega, by rw [dot_eq]; exact h2⟩, ?_⟩
  unfold hostF
  rw [dot_eq]
  exact eq_of_beq h3
def dueP (x top : Str) : List (Str × Int) :=
  if freeQ x top = true then ((List.range (x.length - 1)).map fun i => (dotQ ++ hostQ (preT x (x.length - 1 - i)) top, (7 + (((idxQ (preT x (x.length - 1 - i))).getD 0 : Nat) : Int) : Int))) ++ (if (top == locQ) = true then [((⟨#[46, 108, 111, 99, 97, 108]⟩ : Str), (0 : Int))] else []) else []
noncomputable def climbP (h : Str) (m : Nat) : List (Str × Int) := (List.range m).map fun i => (rchQ (hseqQ h i), (tokQ (keyQ (hseqQ h (i + 1)))).getD 0)
def keyB (z : Str) : Bool := decide ((Txt.split z dotQ).length ≤ 60) && (JoinOk nilQ (gslice (Txt.split z dotQ) none (some (-1)) none) && (decide ((Txt.join nilQ (gslice (Txt.split z dotQ) none (some (-1)) none)).length ≤ 60) && decide ((keyQ z).length ≤ 60)))
def stepB (h : Str) (m i : Nat) : Bool := cleanQ (hseqQ h i) && (decide ((hseqQ h i).length ≤ 60) && (decide ((sslice (hseqQ h i) (some (Txt.find (hseqQ h i) dotQ + 1)) none none).length ≤ 60) && (decide ((rchQ (hseqQ h i)).length ≤ 60) && (((rchQ (hseqQ h i) != hseqQ h i) == decide (i < m)) && (decide (i = m) || keyB (hseqQ h (i + 1)))))))
noncomputable def climbB (x top : Str) (m : Nat) : Bool := (List.range (m + 1)).all (stepB (hostQ x top) m) && ((climbP (hostQ x top) m == dueP x top) && (dueP x top).all fun p => PyData.strOk p.1)
def preB (x top : Str) : Bool := !freeQ x top || (List.range (x.length - 1)).all fun i => decide ((preT x (i + 1)).length ≤ 60) && (hostB (preT x (i + 1)) top && (decide ((hostQ (preT x (i + 1)) top).length ≤ 60) && (idxQ (preT x (i + 1))).isSome))
noncomputable def idxB (x : Str) : Bool := match idxQ x with
  | some j => tokQ x == some (7 + (j : Int))
  | none => false
def sizeB (x top : Str) : Bool := decide (0 < x.cps.size) && (decide (x.length ≤ 8) && (decide ((hostQ x top).length ≤ 60) && (decide ((cutA (hostQ x top)).length ≤ 60) && (decide ((cutB (hostQ x top)).length ≤ 60) && (cutA (hostQ x top) ++ cutB (hostQ x top) == hostQ x top)))))
def signB (x top : Str) : Bool := low (hostQ x top) && (cleanQ (hostQ x top) && (cleanQ (dotQ ++ hostQ x top) && (cleanQ (tl (hostQ x top)) && (decide ((tl (hostQ x top)).length ≤ 60) && (tl (dotQ ++ hostQ x top) == hostQ x top)))))
def hdnB (x top : Str) : Bool := (hdnQ (hostQ x top) == freeQ x top) && (!(Txt.startswith (hostQ x top) dotQ && hdnQ (tl (hostQ x top))) && (!(hostQ x top == dotQ) && !(hostQ x top == top)))
def topB (top : Str) : Bool := low top && (!Txt.startswith top dotQ && (cleanQ (tl top) && (decide ((tl top).length ≤ 60) && decide (top.length ≤ 60))))
noncomputable def txtB (x top : Str) : Bool := hostB x top && (sizeB x top && (signB x top && (hdnB x top && (idxB x && (preB x top && climbB x top (dueP x top).length)))))
end Mine

end
section
open PySem PyProof.Rows PySem.W PySem.Spec
set_option maxRecDepth 100000
set_option linter.unusedVariables false
namespace Mine

theorem low_dot : low dot = true := by decide +kernel
theorem dot_clean : cleanQ (tl dot) = true ∧ (tl dot).length ≤ 100 ∧ hdnQ (tl dot) = false := by decide +kernel
theorem beq_false_of {a b : Str} (h : a.length ≠ b.length) : (a == b) = false := by
  rw [beq_eq_false_iff_ne]; rintro rfl; exact h rfl
theorem app_len (a b : Str) : (a ++ b).length = a.length + b.length := by show (a.cps ++ b.cps).size = _; rw [Array.size_append]; rfl
/-- what stands longer does not stand in it -/
theorem rfind_long {x y : Str} (h : x.length < y.length) : Txt.rfind x y = -1 := by
  unfold Txt.rfind
  rcases StrLaws.last_spec x y with ⟨e, _⟩ | ⟨i, _, hi, _⟩
  · rw [e]
  · have := hi.1
    omega
theorem hdn_dot (h : Str) : hdn (dot ++ h) = false := by
  unfold hdn
  have e : (⟨#[(dot ++ h).cps.getD 0 0]⟩ : Str) = dot := by
    rw [dot_eq]
    show (⟨#[((#[46] : Array Nat) ++ h.cps).getD 0 0]⟩ : Str) = dotQ
    have : ((#[46] : Array Nat) ++ h.cps).getD 0 0 = 46 := by simp [Array.getD]
    rw [this]; rfl
  rw [e]; simp

section
variable {x top : Str}
/-- the parts of the check -/
structure Txt1 (x top : Str) : Prop where
  hok : HostOk x top
  he : hostF x top = hostQ x top
  pos : 0 < x.cps.size
  len : x.length ≤ 8
  hl : (hostQ x top).length ≤ 60
  ca : (cutA (hostQ x top)).length ≤ 60
  cb : (cutB (hostQ x top)).length ≤ 60
  cut : cutA (hostQ x top) ++ cutB (hostQ x top) = hostQ x top
  lo : low (hostQ x top) = true
  cl : cleanQ (hostQ x top) = true
  cd : cleanQ (dot ++ hostQ x top) = true
  ct : cleanQ (tl (hostQ x top)) = true
  tn : (tl (hostQ x top)).length ≤ 60
  td : tl (dot ++ hostQ x top) = hostQ x top
  hd : hdn (hostQ x top) = freeQ x top
  nd : (Txt.startswith (hostQ x top) dot && hdn (tl (hostQ x top))) = false
  n1 : (hostQ x top == dot) = false
  n2 : (hostQ x top == top) = false
theorem txt1_of (h1 : hostB x top = true) (h2 : sizeB x top = true) (h3 : signB x top = true) (h4 : hdnB x top = true) : Txt1 x top := by
  unfold sizeB at h2
  unfold signB at h3
  unfold hdnB at h4
  simp only [Bool.and_eq_true, decide_eq_true_eq] at h2 h3 h4
  obtain ⟨a1, a2, a3, a4, a5, a6⟩ := h2
  obtain ⟨b1, b2, b3, b4, b5, b6⟩ := h3
  obtain ⟨c1, c2, c3, c4⟩ := h4
  obtain ⟨d1, d2⟩ := host_of h1 (by omega)
  refine ⟨d1, d2, a1, a2, a3, a4, a5, eq_of_beq a6, b1, b2, by rw [dot_eq]; exact b3, b4, b5, by rw [dot_eq]; exact eq_of_beq b6, ?_, ?_, ?_, by simpa using c4⟩
  · rw [hdn_eq b2 (by omega)]; exact eq_of_beq c1
  · rw [hdn_eq b4 (by omega), dot_eq]
    cases hz : (Txt.startswith (hostQ x top) dotQ && hdnQ (tl (hostQ x top))) with
    | false => rfl
    | true => rw [hz] at c2; cases c2
  · rw [dot_eq]; simpa using c3

structure Top1 (top : Str) : Prop where
  lo : low top = true
  ns : Txt.startswith top dot = false
  ct : cleanQ (tl top) = true
  tn : (tl top).length ≤ 60
  n : top.length ≤ 60
theorem top1_of (h : topB top = true) : Top1 top := by
  unfold topB at h
  simp only [Bool.and_eq_true, decide_eq_true_eq] at h
  obtain ⟨a1, a2, a3, a4, a5⟩ := h
  exact ⟨a1, by rw [dot_eq]; simpa using a2, a3, a4, a5⟩

theorem due_of (t : Txt1 x top) (hp : preB x top = true) : dueL x top = pairsD (dueP x top) ∧ (free x top = true → ∀ k, 1 ≤ k → k < x.length → HostOk (preT x k) top ∧ (hostF (preT x k) top).length ≤ 2 ^ 10 ∧ (preT x k).length ≤ 2 ^ 10 ∧ (idxOf (preT x k)).isSome = true) := by
  rw [free_eq]
  unfold preB at hp
  cases hf : freeQ x top with
  | false =>
    refine ⟨?_, fun q => by cases q⟩
    unfold dueL dueP
    rw [free_eq, hf]; rfl
  | true =>
    rw [hf] at hp
    have key : ∀ k, 1 ≤ k → k < x.length → (preT x k).length ≤ 60 ∧ (HostOk (preT x k) top ∧ hostF (preT x k) top = hostQ (preT x k) top) ∧ (hostQ (preT x k) top).length ≤ 60 ∧ (idxQ (preT x k)).isSome = true := fun k h1 h2 => by
      have := List.all_eq_true.mp (by simpa using hp : ((List.range (x.length - 1)).all fun i => decide ((preT x (i + 1)).length ≤ 60) && (hostB (preT x (i + 1)) top && (decide ((hostQ (preT x (i + 1)) top).length ≤ 60) && (idxQ (preT x (i + 1))).isSome))) = true) (k - 1) (by simp; omega)
      rw [show k - 1 + 1 = k from by omega] at this
      simp only [Bool.and_eq_true, decide_eq_true_eq] at this
      obtain ⟨a1, a2, a3, a4⟩ := this
      exact ⟨a1, host_of a2 a1, a3, a4⟩
    refine ⟨?_, fun _ k h1 h2 => ?_⟩
    · unfold dueL dueP
      rw [free_eq, hf, if_pos rfl, if_pos rfl, loc_eq]
      unfold pairsD
      rw [List.map_append]
      congr 1
      · unfold dueC
        rw [List.map_map]
        refine List.map_congr_left fun i hi => ?_
        have hi : i < x.length - 1 := by simpa using hi
        obtain ⟨_, ⟨_, e⟩, _, _⟩ := key (x.length - 1 - i) (by omega) (by omega)
        show dueT x top (x.length - 1 - i) = _
        unfold dueT
        rw [e, dot_eq, idx_eq]; rfl
      · have : Str.ofString ".local" = ⟨#[46, 108, 111, 99, 97, 108]⟩ := by decide +kernel
        rw [this]
        split <;> rfl
    · obtain ⟨a1, ⟨a2, a3⟩, a4, a5⟩ := key k h1 h2
      exact ⟨a2, by rw [a3]; omega, by omega, by rw [idx_eq]; exact a5⟩

theorem climb_of {m : Nat} (hm : m ≤ 60) (t : Txt1 x top) (hc : climbB x top m = true) : ClimbOk (hostQ x top) m ∧ climbF (hostQ x top) m = pairsD (dueP x top) ∧ (dueP x top).all (fun p => PyData.strOk p.1) = true := by
  unfold climbB at hc
  simp only [Bool.and_eq_true] at hc
  obtain ⟨h1, h2, h3⟩ := hc
  have step : ∀ i, i ≤ m → cleanQ (hseqQ (hostQ x top) i) = true ∧ (hseqQ (hostQ x top) i).length ≤ 60 ∧ (sslice (hseqQ (hostQ x top) i) (some (Txt.find (hseqQ (hostQ x top) i) dotQ + 1)) none none).length ≤ 60 ∧ (rchQ (hseqQ (hostQ x top) i)).length ≤ 60 ∧
      (rchQ (hseqQ (hostQ x top) i) != hseqQ (hostQ x top) i) = decide (i < m) ∧ (i = m ∨ keyB (hseqQ (hostQ x top) (i + 1)) = true) := fun i hi => by
    have := List.all_eq_true.mp h1 i (by simp; omega)
    unfold stepB at this
    simp only [Bool.and_eq_true, decide_eq_true_eq, Bool.or_eq_true] at this
    obtain ⟨a1, a2, a3, a4, a5, a6⟩ := this
    exact ⟨a1, a2, a3, a4, eq_of_beq a5, a6⟩
  have seq := hseq_eq (x := hostQ x top) (m := m) fun i hi => ⟨(step i hi).1, Nat.le_trans (step i hi).2.1 (by decide)⟩
  have rch : ∀ i, i ≤ m → rch (hseq (hostQ x top) i) = rchQ (hseqQ (hostQ x top) i) := fun i hi => by
    rw [seq i hi, rch_eq (step i hi).1 (Nat.le_trans (step i hi).2.1 (by decide))]
  refine ⟨⟨by omega, fun i hi => ?_, ?_, fun i hi => ⟨?_, ?_, ?_⟩, fun i hi => ?_, fun i hi => ?_⟩, ?_, h3⟩
  · rw [rch i (by omega), seq i (by omega), (step i (by omega)).2.2.2.2.1]; simpa using hi
  · rw [rch m (Nat.le_refl _), seq m (Nat.le_refl _), (step m (Nat.le_refl _)).2.2.2.2.1]; simp
  · rw [seq i hi]; have := (step i hi).2.1; omega
  · rw [seq i hi, dot_eq]; have := (step i hi).2.2.1; omega
  · rw [seq i hi]; exact (ip_scan (step i hi).1 (Nat.le_trans (step i hi).2.1 (by decide))).1
  · rw [rch i (by omega)]; have := (step i (by omega)).2.2.2.1; omega
  · have kb := ((step i (by omega)).2.2.2.2.2).resolve_left (by omega)
    rw [seq (i + 1) hi]
    unfold keyB at kb
    simp only [Bool.and_eq_true, decide_eq_true_eq] at kb
    obtain ⟨a1, a2, a3, a4⟩ := kb
    refine ⟨by rw [dot_eq]; omega, by rw [dot_eq, nil_eq]; exact a2, by rw [dot_eq, nil_eq]; omega, by rw [key_eq]; omega⟩
  · have e : climbP (hostQ x top) m = dueP x top := eq_of_beq h2
    rw [← e]
    unfold climbF climbP pairsD
    rw [List.map_map]
    refine List.map_congr_left fun i hi => ?_
    have hi : i < m := by simpa using hi
    unfold rungD
    have e2 := seq (i + 1) hi
    rw [rch i (by omega), e2, key_eq, tok_eq]
    simp only [Function.comp_apply]

theorem tok_of (ht : topB top = true) (h : txtB x top = true) : TOk x top ∧ Txt1 x top := by
  unfold txtB at h
  simp only [Bool.and_eq_true] at h
  obtain ⟨h1, h2, h3, h4, h5, h6, h7⟩ := h
  have t := txt1_of h1 h2 h3 h4
  have tp := top1_of ht
  obtain ⟨du, pre⟩ := due_of t h6
  have dl : (dueP x top).length ≤ 60 := by
    unfold dueP
    split
    · rw [List.length_append, List.length_map, List.length_range]
      have := t.len
      split <;> simp <;> omega
    · simp
  obtain ⟨cok, ce, cs⟩ := climb_of dl t h7
  have hl := t.hl
  have ll := low_lower t.lo
  have lu := low_lower_upper t.lo
  have ld : Txt.lower (dot ++ hostQ x top) = dot ++ hostQ x top := low_lower (low_app low_dot t.lo)
  have ul := upper_size (hostQ x top)
  have al := app_len dot (hostQ x top)
  have d1 : dot.length = 1 := by decide +kernel
  have tn := t.tn
  refine ⟨⟨t.pos, t.len, t.hok, by rw [t.he]; omega, by rw [t.he]; have := t.ca; omega, by rw [t.he]; have := t.cb; omega, pre, ?_, ?_, ?_, ?_, ?_, ?_⟩, t⟩
  · rw [t.he, du]
    exact ⟨_, cok, by rw [ce]; exact pairs_eqv _, by rw [ce]; exact pairs_shaped cs, pairs_shaped cs⟩
  · unfold idxB at h5
    rw [idx_eq, tok_eq]
    cases hj : idxQ x with
    | none => rw [hj] at h5; cases h5
    | some j => rw [hj] at h5; exact ⟨j, rfl, eq_of_beq h5⟩
  · rw [t.he]
    refine ⟨dmOk lu ll (by omega) (by omega) t.cl (by omega) t.ct (by omega), ?_⟩
    rw [dm_eq lu ll]; simp
  · rw [t.he]
    intro one ho
    rcases List.mem_cons.mp ho with rfl | ho
    · refine ⟨dmOk ll (low_lower low_dot) (by omega) (by omega) t.cl (by omega) dot_clean.1 dot_clean.2.1, ?_⟩
      rw [dm_eq ll (low_lower low_dot), t.n1, hdn_eq dot_clean.1 dot_clean.2.1, dot_clean.2.2]
      simp
    rcases List.mem_cons.mp ho with rfl | ho
    · have := tp.n
      have := tp.tn
      refine ⟨dmOk ll (low_lower tp.lo) (by omega) (by omega) t.cl (by omega) tp.ct (by omega), ?_⟩
      rw [dm_eq ll (low_lower tp.lo), t.n2, tp.ns]
      simp
    · simp only [List.mem_singleton] at ho
      subst ho
      refine ⟨dmOk ll ld (by omega) (by omega) t.cl (by omega) (by rw [t.td]; exact t.cl) (by rw [t.td]; omega), ?_⟩
      rw [dm_eq ll ld, rfind_long (by omega), beq_false_of (by omega)]
      simp
  · rw [t.he]
    refine ⟨dmOk ll ll (by omega) (by omega) t.cl (by omega) t.ct (by omega), ?_⟩
    rw [dm_eq ll ll]; simp
  · rw [t.he]
    refine ⟨dmOk ld ld (by omega) (by omega) t.cd (by omega) (by rw [t.td]; exact t.cl) (by rw [t.td]; omega), ?_⟩
    rw [dm_eq ld ld]; simp
end
end Mine

end
section
open PySem PyProof.Rows PySem.W PySem.Spec
set_option maxRecDepth 100000
set_option linter.unusedVariables false
namespace Mine

def prefQ (c : Bool) (x y : Str) : Bool := c && (!(head1 y == dotQ) && Txt.startswith x y)
theorem pref_eq (c : Bool) (x y : Str) : prefA c x y = prefQ c x y := by
  unfold prefA prefQ
  rw [dot_eq, Bool.and_true]; rfl
def farQ (a b : Str) : Bool := if a.length < b.length then false else !(Txt.rfind a b == -1 || Txt.rfind a b == 0)
theorem far_eq (a b : Str) : (!(Txt.rfind a b == -1 || (Txt.rfind a b == 0 || false))) = farQ a b := by
  unfold farQ
  split
  · next h => rw [rfind_long h]; rfl
  · rw [Bool.or_false]
def pairB (x y top : Str) : Bool := !(hostQ x top == hostQ y top) && ((hostQ x top == dotQ ++ hostQ y top || (freeQ x top && (freeQ y top && farQ (hostQ x top) (dotQ ++ hostQ y top)))) == prefQ (stkQ top) x y)
def pairsB (top : Str) : List Str → Bool
  | [] => true
  | x :: l => (l.take 7).all (fun y => pairB x y top && pairB y x top) && pairsB top l
theorem pairs_at {top : Str} : ∀ {l : List Str} {i j : Nat}, pairsB top l = true → i < j → j ≤ i + 7 → j < l.length → pairB (l.getD i E0) (l.getD j E0) top = true ∧ pairB (l.getD j E0) (l.getD i E0) top = true
  | [], i, j, _, _, _, h => by simp at h
  | x :: l, 0, 0, _, h, _, _ => by omega
  | x :: l, 0, j + 1, hp, _, h2, h3 => by
    unfold pairsB at hp
    rw [Bool.and_eq_true] at hp
    have hj : j < l.length := by simpa using h3
    have hm : l.getD j E0 ∈ l.take 7 := by
      have e : l.getD j E0 = (l.take 7)[j]'(by rw [List.length_take]; omega) := by simp [hj]
      rw [e]; exact List.getElem_mem _
    have := List.all_eq_true.mp hp.1 _ hm
    rw [Bool.and_eq_true] at this
    simpa using this
  | x :: l, i + 1, 0, _, h, _, _ => by omega
  | x :: l, i + 1, j + 1, hp, h1, h2, h3 => by
    unfold pairsB at hp
    rw [Bool.and_eq_true] at hp
    have := pairs_at (i := i) (j := j) hp.2 (by omega) (by omega) (by simpa using h3)
    simpa using this

section
variable {x y top : Str}
theorem pok_of (tx : Txt1 x top) (ty : Txt1 y top) (sw : Txt.startswith (dot ++ hostQ y top) dot = true) (h : pairB x y top = true) : POk x y top := by
  unfold pairB at h
  rw [Bool.and_eq_true] at h
  obtain ⟨h1, h2⟩ := h
  have hne : (hostQ x top == hostQ y top) = false := by simpa using h1
  have hx := tx.hl
  have hy := ty.hl
  have lx := low_lower tx.lo
  have ly := low_lower ty.lo
  have lu := low_lower_upper tx.lo
  have ldx : Txt.lower (dot ++ hostQ x top) = dot ++ hostQ x top := low_lower (low_app low_dot tx.lo)
  have ldy : Txt.lower (dot ++ hostQ y top) = dot ++ hostQ y top := low_lower (low_app low_dot ty.lo)
  have ldom := low_dom ty.lo low_dot ty.cut
  have ul := upper_size (hostQ x top)
  have ucl := upper_size (cutB (hostQ y top))
  have ca := ty.ca
  have cb := ty.cb
  have d1 : dot.length = 1 := by decide +kernel
  have ax := app_len dot (hostQ x top)
  have ay := app_len dot (hostQ y top)
  have dl : (domF (hostQ y top)).length ≤ 2 ^ 16 := by
    unfold domF
    rw [app_len, app_len]; omega
  refine ⟨?_, ?_, ?_, ?_, ?_, ?_⟩ <;> rw [tx.he, ty.he]
  · exact dmOk lu ldom (by omega) dl tx.cl (by omega) (by rw [ty.td]; exact ty.cl) (by rw [ty.td]; omega)
  · rw [dm_eq lu ldom, tx.hd, ty.td, ty.hd, sw, far_eq, stk_eq, pref_eq, ← eq_of_beq h2, dot_eq]
    cases hostQ x top == dotQ ++ hostQ y top <;> cases freeQ x top <;> cases freeQ y top <;> cases farQ (hostQ x top) (dotQ ++ hostQ y top) <;> rfl
  · exact dmOk lx ly (by omega) (by omega) tx.cl (by omega) ty.ct (by have := ty.tn; omega)
  · have nd := ty.nd
    rw [dm_eq lx ly, hne, Bool.and_assoc, nd]; simp
  · exact dmOk ldx ldy (by omega) (by omega) tx.cd (by omega) (by rw [ty.td]; exact ty.cl) (by rw [ty.td]; omega)
  · have hne2 : (dot ++ hostQ x top == dot ++ hostQ y top) = false := by
      rw [beq_eq_false_iff_ne] at hne ⊢
      intro e
      apply hne
      have : dot.cps ++ (hostQ x top).cps = dot.cps ++ (hostQ y top).cps := congrArg Str.cps e
      have := (Array.append_right_inj dot.cps).mp this
      exact Str.ext' this
    rw [dm_eq ldx ldy, hne2, hdn_dot]; simp
end
end Mine

end
section
open PySem PyProof.Rows PySem.W PySem.Spec
set_option maxRecDepth 100000
set_option linter.unusedVariables false
namespace Mine

def ancM : List Nat := [1, 3, 4, 12, 16, 48, 64, 128, 256, 768, 1792, 2304, 4096, 12288, 16384, 32768, 98304, 163840, 0, 0, 1048576, 3145728, 7340032, 9437184, 16777216, 50331648, 67108864, 134217728, 402653184, 939524096, 1207959552, 2147483648, 6442450944, 8589934592, 25769803776, 42949672960, 111669149696, 137438953472, 412316860416, 549755813888, 1099511627776, 2199023255552, 6597069766656, 8796093022208, 17592186044416, 52776558133248, 70368744177664, 140737488355328]
/-- the nim-sum over any relation -/
def istep (under : Nat → List Nat) (p : Nat) (s : List Int × Int) : List Int × Int :=
  match (under p).getLast? with
  | none => (s.1, Builtin.bitXor s.2 (s.1.getD p 0 + 1))
  | some q => (s.1.set q (Builtin.bitXor (s.1.getD q 0) (s.1.getD p 0 + 1)), s.2)
def ist (under : Nat → List Nat) (n : Nat) : Nat → List Int × Int
  | 0 => (List.replicate n 0, 0)
  | i + 1 => istep under (n - 1 - i) (ist under n i)
theorem nimSt_eq (c : Bool) (ss : List Str) : ∀ i, nimSt c ss i = ist (underF c ss) ss.length i
  | 0 => rfl
  | i + 1 => by rw [nimSt, ist, nimSt_eq c ss i]; rfl
theorem ist_congr {u v : Nat → List Nat} {n : Nat} (h : ∀ p, p < n → u p = v p) : ∀ i, i ≤ n → ist u n i = ist v n i
  | 0, _ => rfl
  | i + 1, hi => by
    rw [ist, ist, ist_congr h i (by omega)]
    unfold istep
    rw [h _ (by omega)]
def relU (r : Nat → Nat → Bool) (l : List Nat) (p : Nat) : List Nat := (List.range p).filter fun k => r (l.getD p 0) (l.getD k 0)
def nimI (r : Nat → Nat → Bool) (l : List Nat) : Int := (ist (relU r l) l.length l.length).2
theorem getD_map_lt {α β : Type} {l : List α} {f : α → β} {p : Nat} (d : α) (e : β) (h : p < l.length) : (l.map f).getD p e = f (l.getD p d) := by simp [h]
theorem nimF_map (S : Nat → Str) (c : Bool) (l : List Nat) : nimF c (l.map S) = nimI (fun i j => pref c (S i) (S j)) l := by
  unfold nimF nimI
  rw [nimSt_eq, List.length_map, ist_congr (n := l.length) (fun p hp => ?_) _ (Nat.le_refl _)]
  unfold underF relU
  refine List.filter_congr fun k hk => ?_
  have hk : k < p := by simpa using hk
  rw [getD_map_lt 0 E0 hp, getD_map_lt 0 E0 (Nat.lt_trans hk hp)]
theorem getD_ne {l : List Nat} (nd : l.Nodup) {p k : Nat} (hp : p < l.length) (hk : k < p) : l.getD p 0 ≠ l.getD k 0 := by
  have hk' : k < l.length := Nat.lt_trans hk hp
  have e1 : l.getD p 0 = l[p] := by simp [hp]
  have e2 : l.getD k 0 = l[k] := by simp [hk']
  rw [e1, e2]
  intro h
  exact List.pairwise_iff_getElem.mp nd k p hk' hp hk h.symm
theorem getD_mem {l : List Nat} {p : Nat} (hp : p < l.length) : l.getD p 0 ∈ l := by
  have e1 : l.getD p 0 = l[p] := by simp [hp]
  rw [e1]; exact List.getElem_mem _
theorem nimI_congr {r r' : Nat → Nat → Bool} {l : List Nat} (nd : l.Nodup) (h : ∀ a ∈ l, ∀ b ∈ l, a ≠ b → r a b = r' a b) : nimI r l = nimI r' l := by
  unfold nimI
  rw [ist_congr (n := l.length) (fun p hp => ?_) _ (Nat.le_refl _)]
  unfold relU
  refine List.filter_congr fun k hk => ?_
  have hk : k < p := by simpa using hk
  exact h _ (getD_mem hp) _ (getD_mem (Nat.lt_trans hk hp)) (getD_ne nd hp hk)

theorem nimI_map (f : Nat → Nat) (r : Nat → Nat → Bool) (l : List Nat) : nimI r (l.map f) = nimI (fun a b => r (f a) (f b)) l := by
  unfold nimI
  rw [List.length_map, ist_congr (n := l.length) (fun p hp => ?_) _ (Nat.le_refl _)]
  unfold relU
  refine List.filter_congr fun k hk => ?_
  have hk : k < p := by simpa using hk
  rw [getD_map_lt 0 0 hp, getD_map_lt 0 0 (Nat.lt_trans hk hp)]

def chkL (r : Nat → Nat → Bool) (l : List Nat) : Bool := (l.filter fun q => nimI r (l.filter fun i => !(i == q || r i q)) == 0).isEmpty == (nimI r l == 0)
theorem chk_congr {r r' ra : Nat → Nat → Bool} {l : List Nat} (nd : l.Nodup) (h : ∀ a ∈ l, ∀ b ∈ l, a ≠ b → r a b = r' a b) (ha : ∀ a ∈ l, ∀ b ∈ l, a ≠ b → ra a b = r' a b) (hc : chkL r' l = true) :
    (l.filter fun q => nimI r (l.filter fun i => !(i == q || ra i q)) == 0).isEmpty = (nimI r l == 0) := by
  have e : (l.filter fun q => nimI r (l.filter fun i => !(i == q || ra i q)) == 0) = l.filter fun q => nimI r' (l.filter fun i => !(i == q || r' i q)) == 0 := by
    refine List.filter_congr fun q hq => ?_
    have e1 : (l.filter fun i => !(i == q || ra i q)) = l.filter fun i => !(i == q || r' i q) := by
      refine List.filter_congr fun i hi => ?_
      by_cases hiq : i = q
      · subst hiq; simp
      · rw [ha i hi q hq hiq]
    rw [e1, nimI_congr (nd.filter _) fun a ham b hbm hab => h a (List.mem_filter.mp ham).1 b (List.mem_filter.mp hbm).1 hab]
  rw [e, nimI_congr nd h]
  exact eq_of_beq hc

/-- a relation on five -/
def rB (b10 b20 b21 b30 b31 b32 b40 b41 b42 b43 : Bool) (a b : Nat) : Bool := match a, b with
  | 1, 0 => b10 | 2, 0 => b20 | 2, 1 => b21 | 3, 0 => b30 | 3, 1 => b31 | 3, 2 => b32 | 4, 0 => b40 | 4, 1 => b41 | 4, 2 => b42 | 4, 3 => b43
  | _, _ => false
/-- what goes on from a text stands behind it without a gap -/
def tree (r : Nat → Nat → Bool) : Bool := (List.range 5).all fun a => (List.range a).all fun b => (List.range b).all fun c => (!r a c || r b c) && (!(r a b && r b c) || r a c)

set_option maxHeartbeats 4000000 in
theorem five : ∀ b10 b20 b21 b30 b31 b32 b40 b41 b42 b43 : Bool, tree (rB b10 b20 b21 b30 b31 b32 b40 b41 b42 b43) = true → ((List.range 6).all fun n => chkL (rB b10 b20 b21 b30 b31 b32 b40 b41 b42 b43) (List.range n)) = true := by decide +kernel
end Mine

end
section
open PySem PyProof.Rows PySem.W PySem.Spec
set_option maxRecDepth 100000
set_option linter.unusedVariables false
namespace Mine

def relE (i j : Nat) : Bool := (ancM.getD i 0).testBit j
def tabB : Nat → List Str → Bool
  | _, [] => true
  | i, x :: l => ((l.take 7).zipIdx.all fun q => !pref true x q.1 && (!prefA true x q.1 && ((pref true q.1 x == relE (i + q.2 + 1) i) && (prefA true q.1 x == relE (i + q.2 + 1) i)))) && tabB (i + 1) l
theorem tab_at : ∀ {l : List Str} {k i j : Nat}, tabB k l = true → i < j → j ≤ i + 7 → j < l.length →
    pref true (l.getD i E0) (l.getD j E0) = false ∧ prefA true (l.getD i E0) (l.getD j E0) = false ∧ pref true (l.getD j E0) (l.getD i E0) = relE (k + j) (k + i) ∧ prefA true (l.getD j E0) (l.getD i E0) = relE (k + j) (k + i)
  | [], _, i, j, _, _, _, h => by simp at h
  | x :: l, k, 0, 0, _, h, _, _ => by omega
  | x :: l, k, 0, j + 1, hp, _, h2, h3 => by
    unfold tabB at hp
    rw [Bool.and_eq_true] at hp
    have hj : j < l.length := by simpa using h3
    have hm : (l.getD j E0, j) ∈ (l.take 7).zipIdx := by
      have hj' : j < (l.take 7).length := by rw [List.length_take]; omega
      have e : (l.getD j E0, j) = (l.take 7).zipIdx[j]'(by rw [List.length_zipIdx]; exact hj') := by simp [hj]
      rw [e]; exact List.getElem_mem _
    have := List.all_eq_true.mp hp.1 _ hm
    simp only [Bool.and_eq_true] at this
    obtain ⟨a1, a2, a3, a4⟩ := this
    have b3 := eq_of_beq a3
    have b4 := eq_of_beq a4
    refine ⟨by simpa using a1, by simpa using a2, ?_, ?_⟩
    · simpa [Nat.add_assoc] using b3
    · simpa [Nat.add_assoc] using b4
  | x :: l, k, i + 1, 0, _, h, _, _ => by omega
  | x :: l, k, i + 1, j + 1, hp, h1, h2, h3 => by
    unfold tabB at hp
    rw [Bool.and_eq_true] at hp
    have := tab_at (k := k + 1) (i := i) (j := j) hp.2 (by omega) (by omega) (by simpa using h3)
    have e1 : k + 1 + j = k + (j + 1) := by omega
    have e2 : k + 1 + i = k + (i + 1) := by omega
    rw [e1, e2] at this
    simpa using this
theorem tab_ok : tabB 0 srtL = true := by decide +kernel
def triB : Bool := (List.range 48).all fun i => (List.range 7).all fun d => (List.range d).all fun e => (!relE (i + d + 1) i || relE (i + e + 1) i) && (!(relE (i + d + 1) (i + e + 1) && relE (i + e + 1) i) || relE (i + d + 1) i)
theorem tri_ok : triB = true := by decide +kernel
theorem tri_at {i j k : Nat} (h1 : i < k) (h2 : k < j) (h3 : j ≤ i + 7) (h4 : i < 48) : (relE j i = true → relE k i = true) ∧ (relE j k = true → relE k i = true → relE j i = true) := by
  have := List.all_eq_true.mp tri_ok i (by simpa using h4)
  have := List.all_eq_true.mp this (j - i - 1) (by simp; omega)
  have := List.all_eq_true.mp this (k - i - 1) (by simp; omega)
  rw [show i + (j - i - 1) + 1 = j by omega, show i + (k - i - 1) + 1 = k by omega, Bool.and_eq_true] at this
  obtain ⟨a, b⟩ := this
  constructor
  · intro q; rw [q] at a; simpa using a
  · intro q q2; rw [q, q2] at b; simpa using b

theorem fx0 : (srtL.all fun x => txtB x (topsQ.getD 0 E0)) = true := by decide +kernel
theorem fx1 : (srtL.all fun x => txtB x (topsQ.getD 1 E0)) = true := by decide +kernel
theorem fx2 : (srtL.all fun x => txtB x (topsQ.getD 2 E0)) = true := by decide +kernel
theorem fx3 : (srtL.all fun x => txtB x (topsQ.getD 3 E0)) = true := by decide +kernel
theorem fx4 : (srtL.all fun x => txtB x (topsQ.getD 4 E0)) = true := by decide +kernel
theorem px0 : pairsB (topsQ.getD 0 E0) srtL = true := by decide +kernel
theorem px1 : pairsB (topsQ.getD 1 E0) srtL = true := by decide +kernel
theorem px2 : pairsB (topsQ.getD 2 E0) srtL = true := by decide +kernel
theorem px3 : pairsB (topsQ.getD 3 E0) srtL = true := by decide +kernel
theorem px4 : pairsB (topsQ.getD 4 E0) srtL = true := by decide +kernel
theorem sx : (topsQ.all fun t => srtL.all fun x => Txt.startswith (dotQ ++ hostQ x t) dotQ) = true := by decide +kernel
theorem tx : topsQ.all topB = true := by decide +kernel
theorem five_cases {t : Nat} (h : t < 5) : t = 0 ∨ t = 1 ∨ t = 2 ∨ t = 3 ∨ t = 4 := by omega
theorem fx {t : Nat} (h : t < 5) : (srtL.all fun x => txtB x (topsQ.getD t E0)) = true := by
  rcases five_cases h with rfl | rfl | rfl | rfl | rfl
  · exact fx0
  · exact fx1
  · exact fx2
  · exact fx3
  · exact fx4
theorem px {t : Nat} (h : t < 5) : pairsB (topsQ.getD t E0) srtL = true := by
  rcases five_cases h with rfl | rfl | rfl | rfl | rfl
  · exact px0
  · exact px1
  · exact px2
  · exact px3
  · exact px4
theorem top_mem {t : Nat} (h : t < 5) : topsQ.getD t E0 ∈ topsQ := by
  rcases five_cases h with rfl | rfl | rfl | rfl | rfl <;> decide
theorem srt_len : srtL.length = 48 := by decide
theorem srt_mem {i : Nat} (h : i < 48) : srtL.getD i E0 ∈ srtL := by
  have hl : i < srtL.length := by rw [srt_len]; exact h
  have e : srtL.getD i E0 = srtL[i] := by simp [hl]
  rw [e]; exact List.getElem_mem _
theorem tok_at {i t : Nat} (hi : i < 48) (ht : t < 5) : TOk (srtL.getD i E0) (topsQ.getD t E0) ∧ Txt1 (srtL.getD i E0) (topsQ.getD t E0) :=
  tok_of (List.all_eq_true.mp tx _ (top_mem ht)) (List.all_eq_true.mp (fx ht) _ (srt_mem hi))
theorem sw_at {i t : Nat} (hi : i < 48) (ht : t < 5) : Txt.startswith (dot ++ hostQ (srtL.getD i E0) (topsQ.getD t E0)) dot = true := by
  rw [dot_eq]
  exact List.all_eq_true.mp (List.all_eq_true.mp sx _ (top_mem ht)) _ (srt_mem hi)
theorem pok_at {i j t : Nat} (ht : t < 5) (hi : i < 48) (hj : j < 48) (h : i ≠ j) (h1 : i ≤ j + 7) (h2 : j ≤ i + 7) : POk (srtL.getD i E0) (srtL.getD j E0) (topsQ.getD t E0) := by
  have p : pairB (srtL.getD i E0) (srtL.getD j E0) (topsQ.getD t E0) = true := by
    rcases Nat.lt_or_gt_of_ne h with q | q
    · exact (pairs_at (px ht) q h2 (by rw [srt_len]; exact hj)).1
    · exact (pairs_at (px ht) q h1 (by rw [srt_len]; exact hi)).2
  exact pok_of (tok_at hi ht).2 (tok_at hj ht).2 (sw_at hj ht) p
end Mine

end
section
open PySem PyProof.Rows PySem.W PySem.Spec
set_option maxRecDepth 100000
set_option linter.unusedVariables false
namespace Mine

theorem rB_eq {ρ : Nat → Nat → Bool} {a b : Nat} (h1 : b < a) (h2 : a < 5) : rB (ρ 1 0) (ρ 2 0) (ρ 2 1) (ρ 3 0) (ρ 3 1) (ρ 3 2) (ρ 4 0) (ρ 4 1) (ρ 4 2) (ρ 4 3) a b = ρ a b := by
  have : (a = 1 ∧ b = 0) ∨ (a = 2 ∧ b = 0) ∨ (a = 2 ∧ b = 1) ∨ (a = 3 ∧ b = 0) ∨ (a = 3 ∧ b = 1) ∨ (a = 3 ∧ b = 2) ∨ (a = 4 ∧ b = 0) ∨ (a = 4 ∧ b = 1) ∨ (a = 4 ∧ b = 2) ∨ (a = 4 ∧ b = 3) := by omega
  rcases this with ⟨rfl, rfl⟩ | ⟨rfl, rfl⟩ | ⟨rfl, rfl⟩ | ⟨rfl, rfl⟩ | ⟨rfl, rfl⟩ | ⟨rfl, rfl⟩ | ⟨rfl, rfl⟩ | ⟨rfl, rfl⟩ | ⟨rfl, rfl⟩ | ⟨rfl, rfl⟩ <;> rfl
theorem rB_up {ρ : Nat → Nat → Bool} {a b : Nat} (h1 : a < b) : rB (ρ 1 0) (ρ 2 0) (ρ 2 1) (ρ 3 0) (ρ 3 1) (ρ 3 2) (ρ 4 0) (ρ 4 1) (ρ 4 2) (ρ 4 3) a b = false := by
  unfold rB
  split <;> first | rfl | omega
/-- the table as an index list -/
structure Idx (T : List Str) (ix : Nat → Nat) : Prop where
  n5 : T.length ≤ 5
  at' : ∀ p, p < T.length → T.getD p E0 = srtL.getD (ix p) E0
  up : ∀ a b, a < b → b < T.length → ix a < ix b
  near : ∀ a b, a < T.length → b < T.length → ix b ≤ ix a + 7
  lt : ∀ a, a < T.length → ix a < 48

section
variable {T : List Str} {ix : Nat → Nat} {c : Bool}
theorem rel_at (I : Idx T ix) (c : Bool) {a b : Nat} (h : a < b) (hb : b < T.length) :
    pref c (T.getD a E0) (T.getD b E0) = false ∧ prefA c (T.getD a E0) (T.getD b E0) = false ∧ pref c (T.getD b E0) (T.getD a E0) = (c && relE (ix b) (ix a)) ∧ prefA c (T.getD b E0) (T.getD a E0) = (c && relE (ix b) (ix a)) := by
  have ha : a < T.length := by omega
  obtain ⟨h1, h2, h3, h4⟩ := tab_at (i := ix a) (j := ix b) tab_ok (I.up a b h hb) (I.near a b ha hb) (by rw [srt_len]; exact I.lt b hb)
  rw [I.at' a ha, I.at' b hb]
  rw [Nat.zero_add, Nat.zero_add] at h3 h4
  cases c with
  | false => exact ⟨rfl, rfl, rfl, rfl⟩
  | true => rw [h1, h2, h3, h4]; exact ⟨rfl, rfl, by simp, by simp⟩

theorem nim_full (I : Idx T ix) (c : Bool) : ((List.range T.length).filter fun q => nimI (fun a b => pref c (T.getD a E0) (T.getD b E0)) ((List.range T.length).filter fun i => !(i == q || prefA c (T.getD i E0) (T.getD q E0))) == 0).isEmpty = (nimI (fun a b => pref c (T.getD a E0) (T.getD b E0)) (List.range T.length) == 0) := by
  have n5 := I.n5
  let ρ : Nat → Nat → Bool := fun a b => decide (a < T.length) && (c && relE (ix a) (ix b))
  have mem : ∀ a ∈ List.range T.length, a < T.length := fun a h => by simpa using h
  have tr : tree (rB (ρ 1 0) (ρ 2 0) (ρ 2 1) (ρ 3 0) (ρ 3 1) (ρ 3 2) (ρ 4 0) (ρ 4 1) (ρ 4 2) (ρ 4 3)) = true := by
    unfold tree
    refine List.all_eq_true.mpr fun a ha => List.all_eq_true.mpr fun b hb => List.all_eq_true.mpr fun d hd => ?_
    have ha : a < 5 := by simpa using ha
    have hb : b < a := by simpa using hb
    have hd : d < b := by simpa using hd
    rw [rB_eq (by omega) ha, rB_eq (by omega) (by omega), rB_eq hb ha]
    show ((!(decide (a < T.length) && (c && relE (ix a) (ix d))) || (decide (b < T.length) && (c && relE (ix b) (ix d)))) && (!((decide (a < T.length) && (c && relE (ix a) (ix b))) && (decide (b < T.length) && (c && relE (ix b) (ix d)))) || (decide (a < T.length) && (c && relE (ix a) (ix d))))) = true
    by_cases hal : a < T.length
    · have hbl : b < T.length := by omega
      have hdl : d < T.length := by omega
      obtain ⟨t1, t2⟩ := tri_at (i := ix d) (k := ix b) (j := ix a) (I.up d b hd hbl) (I.up b a hb hal) (I.near d a hdl hal) (I.lt d hdl)
      simp only [hal, hbl, decide_true, Bool.true_and]
      cases c with
      | false => rfl
      | true =>
        simp only [Bool.true_and]
        cases h1 : relE (ix a) (ix d) <;> cases h2 : relE (ix b) (ix d) <;> cases h3 : relE (ix a) (ix b) <;> simp_all
    · simp [hal]
  have chk := five (ρ 1 0) (ρ 2 0) (ρ 2 1) (ρ 3 0) (ρ 3 1) (ρ 3 2) (ρ 4 0) (ρ 4 1) (ρ 4 2) (ρ 4 3) tr
  have chk := List.all_eq_true.mp chk T.length (by simp; omega)
  have same : ∀ a ∈ List.range T.length, ∀ b ∈ List.range T.length, a ≠ b → pref c (T.getD a E0) (T.getD b E0) = rB (ρ 1 0) (ρ 2 0) (ρ 2 1) (ρ 3 0) (ρ 3 1) (ρ 3 2) (ρ 4 0) (ρ 4 1) (ρ 4 2) (ρ 4 3) a b ∧ prefA c (T.getD a E0) (T.getD b E0) = rB (ρ 1 0) (ρ 2 0) (ρ 2 1) (ρ 3 0) (ρ 3 1) (ρ 3 2) (ρ 4 0) (ρ 4 1) (ρ 4 2) (ρ 4 3) a b := fun a ha b hb hab => by
    have hal := mem a ha
    have hbl := mem b hb
    rcases Nat.lt_or_gt_of_ne hab with q | q
    · obtain ⟨h1, h2, _, _⟩ := rel_at I c q hbl
      rw [rB_up q]; exact ⟨h1, h2⟩
    · obtain ⟨_, _, h3, h4⟩ := rel_at I c q hal
      rw [rB_eq q (by omega), h3, h4]
      have : ρ a b = (c && relE (ix a) (ix b)) := by show (decide (a < T.length) && _) = _; simp [hal]
      rw [this]; exact ⟨rfl, rfl⟩
  exact chk_congr (r := fun a b => pref c (T.getD a E0) (T.getD b E0)) (ra := fun a b => prefA c (T.getD a E0) (T.getD b E0)) List.nodup_range (fun a ha b hb hab => (same a ha b hb hab).1) (fun a ha b hb hab => (same a ha b hb hab).2) chk

theorem idx_sub (I : Idx T ix) {l : List Nat} (pw : l.Pairwise (· < ·)) (mem : ∀ a ∈ l, a < T.length) (hl : l.length ≤ 5) : Idx (l.map fun p => T.getD p E0) (fun a => ix (l.getD a 0)) where
  n5 := by rw [List.length_map]; exact hl
  at' := fun p hp => by
    rw [List.length_map] at hp
    rw [getD_map_lt 0 E0 hp]
    exact I.at' _ (mem _ (getD_mem hp))
  up := fun a b h hb => by
    rw [List.length_map] at hb
    have ha : a < l.length := by omega
    refine I.up _ _ ?_ (mem _ (getD_mem hb))
    have e1 : l.getD a 0 = l[a] := by simp [ha]
    have e2 : l.getD b 0 = l[b] := by simp [hb]
    rw [e1, e2]
    exact List.pairwise_iff_getElem.mp pw a b ha hb h
  near := fun a b ha hb => by
    rw [List.length_map] at ha hb
    exact I.near _ _ (mem _ (getD_mem ha)) (mem _ (getD_mem hb))
  lt := fun a ha => by
    rw [List.length_map] at ha
    exact I.lt _ (mem _ (getD_mem ha))

theorem nim_sub (I : Idx T ix) (c : Bool) {l : List Nat} (pw : l.Pairwise (· < ·)) (mem : ∀ a ∈ l, a < T.length) (hl : l.length ≤ 5) :
    (l.filter fun q => nimI (fun a b => pref c (T.getD a E0) (T.getD b E0)) (l.filter fun i => !(i == q || prefA c (T.getD i E0) (T.getD q E0))) == 0).isEmpty = (nimI (fun a b => pref c (T.getD a E0) (T.getD b E0)) l == 0) := by
  have full := nim_full (idx_sub I pw mem hl) c
  rw [List.length_map] at full
  have el : l = (List.range l.length).map fun a => l.getD a 0 := by
    apply List.ext_getElem
    · simp
    · intro i h1 h2; simp [h1]
  have tg : ∀ a ∈ List.range l.length, (l.map fun p => T.getD p E0).getD a E0 = T.getD (l.getD a 0) E0 := fun a ha => getD_map_lt 0 E0 (by simpa using ha)
  have inj : ∀ a ∈ List.range l.length, ∀ b ∈ List.range l.length, (l.getD a 0 == l.getD b 0) = (a == b) := fun a ha b hb => by
    have ha : a < l.length := by simpa using ha
    have hb : b < l.length := by simpa using hb
    have nd : l.Nodup := pw.imp fun h => Nat.ne_of_lt h
    rcases Nat.lt_trichotomy a b with h | h | h
    · have := getD_ne nd hb h
      rw [beq_eq_false_iff_ne.mpr (Ne.symm this), beq_eq_false_iff_ne.mpr (Nat.ne_of_lt h)]
    · subst h; simp
    · have := getD_ne nd ha h
      rw [beq_eq_false_iff_ne.mpr this, beq_eq_false_iff_ne.mpr (Nat.ne_of_gt h)]
  have nm : ∀ K : List Nat, K.Nodup → (∀ a ∈ K, a ∈ List.range l.length) → nimI (fun a b => pref c (T.getD a E0) (T.getD b E0)) (K.map fun a => l.getD a 0) = nimI (fun a b => pref c ((l.map fun p => T.getD p E0).getD a E0) ((l.map fun p => T.getD p E0).getD b E0)) K := fun K nd hK => by
    rw [nimI_map]
    exact nimI_congr nd fun a ha b hb _ => by rw [tg a (hK a ha), tg b (hK b hb)]
  have r1 := nm _ List.nodup_range fun a h => h
  rw [← el] at r1
  rw [r1, ← full]
  have fm : ∀ P : Nat → Bool, l.filter P = ((List.range l.length).filter fun a => P (l.getD a 0)).map fun a => l.getD a 0 := fun P => by
    have h := List.filter_map (f := fun a => l.getD a 0) (p := P) (l := List.range l.length)
    rw [← el] at h
    exact h
  have flt : ∀ q ∈ List.range l.length, (l.filter fun i => !(i == l.getD q 0 || prefA c (T.getD i E0) (T.getD (l.getD q 0) E0))) = ((List.range l.length).filter fun i => !(i == q || prefA c ((l.map fun p => T.getD p E0).getD i E0) ((l.map fun p => T.getD p E0).getD q E0))).map fun a => l.getD a 0 := fun q hq => by
    rw [fm]
    congr 1
    refine List.filter_congr fun i hi => ?_
    show (!(l.getD i 0 == l.getD q 0 || prefA c (T.getD (l.getD i 0) E0) (T.getD (l.getD q 0) E0))) = _
    rw [inj i hi q hq, tg i hi, tg q hq]
  rw [fm, List.isEmpty_map]
  congr 1
  refine List.filter_congr fun q hq => ?_
  show (nimI _ (l.filter fun i => !(i == l.getD q 0 || prefA c (T.getD i E0) (T.getD (l.getD q 0) E0))) == 0) = _
  rw [flt q hq, nm _ (List.Pairwise.filter _ List.nodup_range) fun a h => (List.mem_filter.mp h).1]

theorem nim_of (I : Idx T ix) (top : Str) {m : Nat} (hm : m < 2 ^ T.length) : (winM T top m).isEmpty = (nimM T top m == 0) := by
  have n5 := I.n5
  generalize hc : stk top = c
  have mem : ∀ a ∈ bitsN T.length m, a < T.length := fun a h => (mem_bitsN h).1
  have N : ∀ k, nimM T top k = nimI (fun a b => pref c (T.getD a E0) (T.getD b E0)) (bitsN T.length k) := fun k => by
    unfold nimM
    rw [hc]
    exact nimF_map (fun p => T.getD p E0) c _
  have sub : ∀ p, p < T.length → bitsN T.length (subM m (uN T top p)) = (bitsN T.length m).filter fun o => !(o == p || prefA c (T.getD o E0) (T.getD p E0)) := fun p hp => by
    unfold bitsN
    rw [List.filter_filter]
    refine List.filter_congr fun o ho => ?_
    have ho : o < T.length := by simpa using ho
    rw [subM_bit]
    unfold uN
    rw [testBit_sumbits]
    unfold upB
    rw [hc]
    simp only [ho, decide_true, Bool.true_and]
    exact Bool.and_comm _ _
  have key := nim_sub I c (l := bitsN T.length m) (List.Pairwise.filter _ List.pairwise_lt_range) mem (Nat.le_trans bits_len n5)
  rw [N, ← key]
  unfold winM
  congr 1
  refine List.filter_congr fun p hp => ?_
  rw [N, sub p (mem p hp)]

theorem good_of (I : Idx T ix) (h1 : 1 ≤ T.length) {t : Nat} (ht : t < 5) : Good T (topsQ.getD t E0) where
  n1 := h1
  n5 := I.n5
  t := fun p hp => by rw [I.at' p hp]; exact (tok_at (I.lt p hp) ht).1
  p := fun o p ho hp hne => by
    rw [I.at' o ho, I.at' p hp]
    refine pok_at ht (I.lt o ho) (I.lt p hp) ?_ (I.near p o hp ho) (I.near o p ho hp)
    rcases Nat.lt_or_gt_of_ne hne with q | q
    · exact Nat.ne_of_lt (I.up o p q hp)
    · exact Nat.ne_of_gt (I.up p o q ho)
  nim := fun m hm => nim_of I _ hm
end
end Mine

end
section
open PySem PyProof.Rows PySem.W PySem.Spec
set_option maxRecDepth 100000
set_option linter.unusedVariables false
namespace Mine

theorem win_eq : ∀ f : Fin 41, gslice srtL (some ((f.1 : Nat) : Int)) (some (((f.1 : Nat) : Int) + 8)) none = (List.range 8).map fun j => srtL.getD (f.1 + j) E0 := by decide +kernel
theorem zip8 : (List.range 8).zipIdx = (List.range 8).map fun j => (j, j) := by decide
def pickI (pl : List Int) : List Nat := (List.range 8).filter fun j => pl.any (· == (j : Int))
theorem pick_map (g : Nat → Str) (pl : List Int) : pickL ((List.range 8).map g) pl = (pickI pl).map g := by
  unfold pickL pickI
  rw [List.zipIdx_map, zip8, List.map_map, List.filter_map, List.map_map]
  rfl
theorem one_le (z : Int) : ((List.range 8).filter fun j : Nat => z == (j : Int)).length ≤ 1 := by
  by_cases h : 0 ≤ z ∧ z < 8
  · have : ∀ k : Fin 8, ((List.range 8).filter fun j : Nat => ((k.1 : Nat) : Int) == (j : Int)).length ≤ 1 := by decide
    have e : z = ((z.toNat : Nat) : Int) := by omega
    rw [e]
    exact this ⟨z.toNat, by omega⟩
  · have : ((List.range 8).filter fun j : Nat => z == (j : Int)) = [] := List.filter_eq_nil_iff.mpr fun j hj => by
      have hj : j < 8 := by simpa using hj
      simp; omega
    rw [this]; simp
theorem filter_or_len {α : Type} (p q : α → Bool) : ∀ l : List α, (l.filter fun x => p x || q x).length ≤ (l.filter p).length + (l.filter q).length
  | [] => by simp
  | x :: l => by
    have := filter_or_len p q l
    rw [List.filter_cons, List.filter_cons, List.filter_cons]
    cases p x <;> cases q x <;> simp <;> omega
theorem pick_len : ∀ pl : List Int, (pickI pl).length ≤ pl.length
  | [] => by unfold pickI; simp
  | z :: pl => by
    have ih := pick_len pl
    have h1 := one_le z
    have h2 := filter_or_len (fun j : Nat => z == (j : Int)) (fun j : Nat => pl.any (· == (j : Int))) (List.range 8)
    have e : pickI (z :: pl) = (List.range 8).filter fun j : Nat => (z == (j : Int)) || pl.any (· == (j : Int)) := by
      unfold pickI
      rfl
    rw [e, List.length_cons]
    unfold pickI at ih
    omega
theorem pick_pos {pl : List Int} {z : Int} (hz : z ∈ pl) (h0 : 0 ≤ z) (h8 : z < 8) : 1 ≤ (pickI pl).length := by
  have : z.toNat ∈ pickI pl := by
    unfold pickI
    refine List.mem_filter.mpr ⟨by simp; omega, ?_⟩
    rw [List.any_eq_true]
    exact ⟨z, hz, by simp; omega⟩
  exact List.length_pos_of_mem this
theorem pick_lt {pl : List Int} {a b : Nat} (h : a < b) (hb : b < (pickI pl).length) : (pickI pl).getD a 0 < (pickI pl).getD b 0 := by
  have ha : a < (pickI pl).length := by omega
  have pw : (pickI pl).Pairwise (· < ·) := List.Pairwise.filter _ List.pairwise_lt_range
  have e1 : (pickI pl).getD a 0 = (pickI pl)[a] := by simp [ha]
  have e2 : (pickI pl).getD b 0 = (pickI pl)[b] := by simp [hb]
  rw [e1, e2]
  exact List.pairwise_iff_getElem.mp pw a b ha hb h
theorem pick_eight {pl : List Int} {a : Nat} (ha : a < (pickI pl).length) : (pickI pl).getD a 0 < 8 := by
  have e1 : (pickI pl).getD a 0 = (pickI pl)[a] := by simp [ha]
  rw [e1]
  have : (pickI pl)[a] ∈ pickI pl := List.getElem_mem _
  generalize (pickI pl)[a] = y at this
  unfold pickI at this
  have := (List.mem_filter.mp this).1
  simpa using this

theorem good_all (d : List Int) : Good (pickL (gslice srtL (some (firstF d)) (some (firstF d + 8)) none) (placesF d)) (topF d) := by
  have f0 : 0 ≤ firstF d ∧ firstF d < 41 := ⟨Int.fmod_nonneg_of_pos _ (by decide), Int.fmod_lt_of_pos _ (by decide)⟩
  have z0 : 0 ≤ (0 + partS d 6).fmod 5 ∧ (0 + partS d 6).fmod 5 < 5 := ⟨Int.fmod_nonneg_of_pos _ (by decide), Int.fmod_lt_of_pos _ (by decide)⟩
  have htop : topF d = topsQ.getD ((0 + partS d 6).fmod 5).toNat E0 := by unfold topF; rw [tops_eq]
  have pl5 : (placesF d).length = 5 := rfl
  have pm : (0 + partS d 1).fmod 8 ∈ placesF d := .head _
  have p0 : 0 ≤ (0 + partS d 1).fmod 8 ∧ (0 + partS d 1).fmod 8 < 8 := ⟨Int.fmod_nonneg_of_pos _ (by decide), Int.fmod_lt_of_pos _ (by decide)⟩
  rw [htop]
  generalize firstF d = f at f0
  generalize placesF d = pl at pl5 pm
  generalize hk : f.toNat = k
  have hf : f = ((k : Nat) : Int) := by omega
  have k41 : k < 41 := by omega
  rw [hf, win_eq ⟨k, k41⟩, pick_map]
  have len : ((pickI pl).map fun j => srtL.getD (k + j) E0).length = (pickI pl).length := List.length_map _
  have l5 := pick_len pl
  refine good_of (ix := fun p => k + (pickI pl).getD p 0) ⟨by rw [len]; omega, fun p hp => ?_, fun a b h hb => ?_, fun a b ha hb => ?_, fun a ha => ?_⟩ (by rw [len]; exact pick_pos pm p0.1 p0.2) (by omega)
  · rw [len] at hp
    exact getD_map_lt 0 E0 hp
  · rw [len] at hb
    have := pick_lt h hb
    show k + _ < k + _
    omega
  · rw [len] at ha hb
    have h1 := pick_eight ha
    have h2 := pick_eight hb
    show k + _ ≤ k + _ + 7
    omega
  · rw [len] at ha
    have h1 := pick_eight ha
    show k + _ < 48
    omega
end Mine
end
theorem PySem.Challenge.cw_rs0131_01_holds : PySem.Challenge.rw_rs0131_01.Holds :=
  Mine.law_holds Mine.srt_perm Mine.srt_sorted Mine.good_all
