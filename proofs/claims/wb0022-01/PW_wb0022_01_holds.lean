import PyProof.Rows.All
import Wide.All
import OpenK.AllK
import Wide.FinOn
import PySem.Challenge.RW_wb0022_01
set_option Elab.async false
local macro_rules | `(tactic| walk_at $s:str) => `(tactic| k_extra $s)
section
theorem Mine.regHn_0 : True := by
  k_with_none
  trivial
open PySem PySem.W PyProof.Rows
set_option Elab.async false
namespace Mine
set_option maxRecDepth 100000
set_option maxHeartbeats 8000000
noncomputable abbrev R0 : OpenRow := PySem.Challenge.rw_wb0022_01.row
noncomputable def st (i : Nat) : Stmt := (R0.prog.main.body[i]?).getD (.Pass default)
noncomputable def fnObj (i : Nat) (mod : String) (tok : Tok) (c : Addr) : Obj := match st i with
  | .FunctionDef n a b _ _ _ sc _ _ _ => { cls := .type "function", data := .func { name := n, qualname := n, params := a, body := .stmts b, scope := sc, globals := 3, closure := [], defaults := .none, kwdefaults := .none, pyModule := .str (Str.ofString mod) tok, code := .ref c } }
  | _ => default
noncomputable def de (P : Params) (k : String) (t : Tok) (v : Value) : DictEntry := ⟨PyData.keyHash P (Str.ofString k), .str (Str.ofString k) t, v⟩
/-- what the walk reads of the heap that the top leaves -/
noncomputable def K0 : Params → Frag := fun P =>
(nat_lit 2, { cls := Value.none, data := Data.dict #[] }) ::
(nat_lit 3, { cls := .type "dict", data := .dict #[
  de P "__name__" 165 (Value.str (Str.ofString "law_wb0022_01") 433),
  de P "__doc__" 166 (Value.none),
  de P "__package__" 167 (Value.none),
  de P "__loader__" 168 (Value.builtin "__main__.__loader__#opaque"),
  de P "__spec__" 169 (Value.none),
  de P "__annotations__" 170 (Value.ref 6),
  de P "__builtins__" 171 (Value.ref 4),
  de P "__file__" 173 (Value.str (Str.ofString "/claim/cut.py") 172),
  de P "__cached__" 174 (Value.none),
  de P "_wall" 193 (Value.ref 21),
  de P "_plain_name" 204 (Value.ref 28),
  de P "ABCMeta" 230 (Value.ref 45),
  de P "_ABCLike" 273 (Value.ref 78),
  de P "_abc_plain_meta" 280 (Value.ref 87),
  de P "fspath" 292 (Value.ref 94),
  de P "commonprefix" 305 (Value.ref 101),
  de P "_splitext" 319 (Value.ref 108),
  de P "_kind" 330 (Value.ref 143),
  de P "kind_path" 331 (Value.ref 115),
  de P "_fspath" 340 (Value.ref 122),
  de P "basename" 348 (Value.ref 129),
  de P "func_strip_path" 360 (Value.ref 136),
  de P "kind_posixpath" 372 (Value.ref 143),
  de P "_c_path" 385 (Value.ref 150),
  de P "_shelf_fresh" 392 (Value.ref 157),
  de P "_splitroot" 401 (Value.ref 164),
  de P "_normpath" 416 (Value.ref 171),
  de P "normpath" 424 (Value.ref 178),
  de P "shift_path_info" 432 (Value.ref 183),
  de P "_law_word" 440 (Value.ref 188),
  de P "_law_due" 446 (Value.ref 193),
  de P "_law_which" 457 (Value.ref 200),
  de P "_law_shifted" 469 (Value.ref 207),
  de P "_law_taken" 482 (Value.ref 214),
  de P "_law_forward" 494 (Value.ref 221),
  de P "_law_backward" 507 (Value.ref 228),
  de P "law" 513 (Value.ref 233)] 37 }) ::
(nat_lit 100, { cls := Value.type "code", data := Data.fields #[Value.str (Str.ofString "commonprefix") 295, Value.str (Str.ofString "commonprefix") 296, Value.str (Str.ofString "/claim/cut.py") 297, Value.int 52 0, Value.int 1 0, Value.int 0 0, Value.int 0 0, Value.int 3 0, Value.ref 95, Value.bool true, Value.int 181 0, Value.ref 96, Value.none, Value.ref 97, Value.ref 98, Value.ref 99, Value.int 303 0, Value.int 52 0, Value.str (Str.ofString "/claim/cut.py") 304] }) ::
(nat_lit 101, fnObj 11 "cpy313.genericpath" 293 100) ::
(nat_lit 107, { cls := Value.type "code", data := Data.fields #[Value.str (Str.ofString "_splitext") 306, Value.str (Str.ofString "_splitext") 307, Value.str (Str.ofString "/claim/cut.py") 308, Value.int 63 0, Value.int 4 0, Value.int 0 0, Value.int 0 0, Value.int 3 0, Value.ref 102, Value.bool true, Value.int 181 0, Value.ref 103, Value.none, Value.ref 104, Value.ref 105, Value.ref 106, Value.int 317 0, Value.int 63 0, Value.str (Str.ofString "/claim/cut.py") 318] }) ::
(nat_lit 108, fnObj 12 "cpy313.genericpath" 293 107) ::
(nat_lit 114, { cls := Value.type "code", data := Data.fields #[Value.str (Str.ofString "_kind") 322, Value.str (Str.ofString "_kind") 323, Value.str (Str.ofString "/claim/cut.py") 324, Value.int 77 0, Value.int 2 0, Value.int 0 0, Value.int 0 0, Value.int 3 0, Value.ref 109, Value.bool true, Value.int 181 0, Value.ref 110, Value.none, Value.ref 111, Value.ref 112, Value.ref 113, Value.int 328 0, Value.int 77 0, Value.str (Str.ofString "/claim/cut.py") 329] }) ::
(nat_lit 115, fnObj 14 "os.path" 320 114) ::
(nat_lit 121, { cls := Value.type "code", data := Data.fields #[Value.str (Str.ofString "_fspath") 332, Value.str (Str.ofString "_fspath") 333, Value.str (Str.ofString "/claim/cut.py") 334, Value.int 99 0, Value.int 2 0, Value.int 0 0, Value.int 0 0, Value.int 3 0, Value.ref 116, Value.bool true, Value.int 181 0, Value.ref 117, Value.none, Value.ref 118, Value.ref 119, Value.ref 120, Value.int 338 0, Value.int 99 0, Value.str (Str.ofString "/claim/cut.py") 339] }) ::
(nat_lit 122, fnObj 16 "os.path" 320 121) ::
(nat_lit 128, { cls := Value.type "code", data := Data.fields #[Value.str (Str.ofString "basename") 341, Value.str (Str.ofString "basename") 342, Value.str (Str.ofString "/claim/cut.py") 343, Value.int 104 0, Value.int 1 0, Value.int 0 0, Value.int 0 0, Value.int 3 0, Value.ref 123, Value.bool true, Value.int 181 0, Value.ref 124, Value.none, Value.ref 125, Value.ref 126, Value.ref 127, Value.int 346 0, Value.int 104 0, Value.str (Str.ofString "/claim/cut.py") 347] }) ::
(nat_lit 129, fnObj 17 "os.path" 320 128) ::
(nat_lit 135, { cls := Value.type "code", data := Data.fields #[Value.str (Str.ofString "func_strip_path") 351, Value.str (Str.ofString "func_strip_path") 352, Value.str (Str.ofString "/claim/cut.py") 353, Value.int 109 0, Value.int 1 0, Value.int 0 0, Value.int 0 0, Value.int 3 0, Value.ref 130, Value.bool true, Value.int 181 0, Value.ref 131, Value.none, Value.ref 132, Value.ref 133, Value.ref 134, Value.int 358 0, Value.int 109 0, Value.str (Str.ofString "/claim/cut.py") 359] }) ::
(nat_lit 136, fnObj 19 "cpy313.pstats" 349 135) ::
(nat_lit 142, { cls := Value.type "code", data := Data.fields #[Value.str (Str.ofString "_kind") 363, Value.str (Str.ofString "_kind") 364, Value.str (Str.ofString "/claim/cut.py") 365, Value.int 113 0, Value.int 2 0, Value.int 0 0, Value.int 0 0, Value.int 3 0, Value.ref 137, Value.bool true, Value.int 181 0, Value.ref 138, Value.none, Value.ref 139, Value.ref 140, Value.ref 141, Value.int 369 0, Value.int 113 0, Value.str (Str.ofString "/claim/cut.py") 370] }) ::
(nat_lit 143, fnObj 21 "posixpath" 361 142) ::
(nat_lit 149, { cls := Value.type "code", data := Data.fields #[Value.str (Str.ofString "_c_path") 373, Value.str (Str.ofString "_c_path") 374, Value.str (Str.ofString "/claim/cut.py") 375, Value.int 135 0, Value.int 5 0, Value.int 0 0, Value.int 0 0, Value.int 3 0, Value.ref 144, Value.bool true, Value.int 181 0, Value.ref 145, Value.none, Value.ref 146, Value.ref 147, Value.ref 148, Value.int 383 0, Value.int 135 0, Value.str (Str.ofString "/claim/cut.py") 384] }) ::
(nat_lit 150, fnObj 23 "posixpath" 361 149) ::
(nat_lit 156, { cls := Value.type "code", data := Data.fields #[Value.str (Str.ofString "_shelf_fresh") 386, Value.str (Str.ofString "_shelf_fresh") 387, Value.str (Str.ofString "/claim/cut.py") 388, Value.int 146 0, Value.int 1 0, Value.int 0 0, Value.int 0 0, Value.int 3 0, Value.ref 151, Value.bool true, Value.int 181 0, Value.ref 152, Value.none, Value.ref 153, Value.ref 154, Value.ref 155, Value.int 390 0, Value.int 146 0, Value.str (Str.ofString "/claim/cut.py") 391] }) ::
(nat_lit 157, fnObj 24 "posixpath" 361 156) ::
(nat_lit 163, { cls := Value.type "code", data := Data.fields #[Value.str (Str.ofString "_splitroot") 393, Value.str (Str.ofString "_splitroot") 394, Value.str (Str.ofString "/claim/cut.py") 395, Value.int 148 0, Value.int 1 0, Value.int 0 0, Value.int 0 0, Value.int 3 0, Value.ref 158, Value.bool true, Value.int 181 0, Value.ref 159, Value.none, Value.ref 160, Value.ref 161, Value.ref 162, Value.int 399 0, Value.int 148 0, Value.str (Str.ofString "/claim/cut.py") 400] }) ::
(nat_lit 164, fnObj 25 "posixpath" 361 163) ::
(nat_lit 170, { cls := Value.type "code", data := Data.fields #[Value.str (Str.ofString "_normpath") 402, Value.str (Str.ofString "_normpath") 403, Value.str (Str.ofString "/claim/cut.py") 404, Value.int 157 0, Value.int 1 0, Value.int 0 0, Value.int 0 0, Value.int 3 0, Value.ref 165, Value.bool true, Value.int 181 0, Value.ref 166, Value.none, Value.ref 167, Value.ref 168, Value.ref 169, Value.int 414 0, Value.int 157 0, Value.str (Str.ofString "/claim/cut.py") 415] }) ::
(nat_lit 171, fnObj 26 "posixpath" 361 170) ::
(nat_lit 177, { cls := Value.type "code", data := Data.fields #[Value.str (Str.ofString "normpath") 417, Value.str (Str.ofString "normpath") 418, Value.str (Str.ofString "/claim/cut.py") 419, Value.int 178 0, Value.int 0 0, Value.int 0 0, Value.int 0 0, Value.int 15 0, Value.ref 172, Value.bool true, Value.int 181 0, Value.ref 173, Value.none, Value.ref 174, Value.ref 175, Value.ref 176, Value.int 422 0, Value.int 178 0, Value.str (Str.ofString "/claim/cut.py") 423] }) ::
(nat_lit 178, fnObj 27 "posixpath" 361 177) ::
(nat_lit 182, { cls := Value.type "code", data := Data.fields #[Value.str (Str.ofString "shift_path_info") 427, Value.str (Str.ofString "shift_path_info") 428, Value.str (Str.ofString "/claim/cut.py") 429, Value.int 181 0, Value.int 1 0, Value.int 0 0, Value.int 0 0, Value.int 3 0, Value.ref 179, Value.bool true, Value.int 181 0, Value.ref 180, Value.none, Value.none, Value.none, Value.ref 181, Value.int 430 0, Value.int 181 0, Value.str (Str.ofString "/claim/cut.py") 431] }) ::
(nat_lit 183, fnObj 29 "cpy313.wsgiref.util" 425 182) ::
(nat_lit 187, { cls := Value.type "code", data := Data.fields #[Value.str (Str.ofString "_law_word") 435, Value.str (Str.ofString "_law_word") 436, Value.str (Str.ofString "/claim/cut.py") 437, Value.int 201 0, Value.int 1 0, Value.int 0 0, Value.int 0 0, Value.int 3 0, Value.ref 184, Value.bool true, Value.int 181 0, Value.ref 185, Value.none, Value.none, Value.none, Value.ref 186, Value.int 438 0, Value.int 201 0, Value.str (Str.ofString "/claim/cut.py") 439] }) ::
(nat_lit 188, fnObj 31 "law_wb0022_01" 433 187) ::
(nat_lit 192, { cls := Value.type "code", data := Data.fields #[Value.str (Str.ofString "_law_due") 441, Value.str (Str.ofString "_law_due") 442, Value.str (Str.ofString "/claim/cut.py") 443, Value.int 203 0, Value.int 2 0, Value.int 0 0, Value.int 0 0, Value.int 3 0, Value.ref 189, Value.bool true, Value.int 181 0, Value.ref 190, Value.none, Value.none, Value.none, Value.ref 191, Value.int 444 0, Value.int 203 0, Value.str (Str.ofString "/claim/cut.py") 445] }) ::
(nat_lit 193, fnObj 32 "law_wb0022_01" 433 192) ::
(nat_lit 199, { cls := Value.type "code", data := Data.fields #[Value.str (Str.ofString "_law_which") 447, Value.str (Str.ofString "_law_which") 448, Value.str (Str.ofString "/claim/cut.py") 449, Value.int 209 0, Value.int 2 0, Value.int 0 0, Value.int 0 0, Value.int 3 0, Value.ref 194, Value.bool true, Value.int 181 0, Value.ref 195, Value.none, Value.ref 196, Value.ref 197, Value.ref 198, Value.int 455 0, Value.int 209 0, Value.str (Str.ofString "/claim/cut.py") 456] }) ::
(nat_lit 200, fnObj 33 "law_wb0022_01" 433 199) ::
(nat_lit 206, { cls := Value.type "code", data := Data.fields #[Value.str (Str.ofString "_law_shifted") 458, Value.str (Str.ofString "_law_shifted") 459, Value.str (Str.ofString "/claim/cut.py") 460, Value.int 218 0, Value.int 2 0, Value.int 0 0, Value.int 0 0, Value.int 3 0, Value.ref 201, Value.bool true, Value.int 181 0, Value.ref 202, Value.none, Value.ref 203, Value.ref 204, Value.ref 205, Value.int 467 0, Value.int 218 0, Value.str (Str.ofString "/claim/cut.py") 468] }) ::
(nat_lit 207, fnObj 34 "law_wb0022_01" 433 206) ::
(nat_lit 213, { cls := Value.type "code", data := Data.fields #[Value.str (Str.ofString "_law_taken") 470, Value.str (Str.ofString "_law_taken") 471, Value.str (Str.ofString "/claim/cut.py") 472, Value.int 227 0, Value.int 2 0, Value.int 0 0, Value.int 0 0, Value.int 3 0, Value.ref 208, Value.bool true, Value.int 181 0, Value.ref 209, Value.none, Value.ref 210, Value.ref 211, Value.ref 212, Value.int 480 0, Value.int 227 0, Value.str (Str.ofString "/claim/cut.py") 481] }) ::
(nat_lit 214, fnObj 35 "law_wb0022_01" 433 213) ::
(nat_lit 220, { cls := Value.type "code", data := Data.fields #[Value.str (Str.ofString "_law_forward") 483, Value.str (Str.ofString "_law_forward") 484, Value.str (Str.ofString "/claim/cut.py") 485, Value.int 239 0, Value.int 3 0, Value.int 0 0, Value.int 0 0, Value.int 3 0, Value.ref 215, Value.bool true, Value.int 181 0, Value.ref 216, Value.none, Value.ref 217, Value.ref 218, Value.ref 219, Value.int 492 0, Value.int 239 0, Value.str (Str.ofString "/claim/cut.py") 493] }) ::
(nat_lit 221, fnObj 36 "law_wb0022_01" 433 220) ::
(nat_lit 227, { cls := Value.type "code", data := Data.fields #[Value.str (Str.ofString "_law_backward") 495, Value.str (Str.ofString "_law_backward") 496, Value.str (Str.ofString "/claim/cut.py") 497, Value.int 247 0, Value.int 3 0, Value.int 0 0, Value.int 0 0, Value.int 3 0, Value.ref 222, Value.bool true, Value.int 181 0, Value.ref 223, Value.none, Value.ref 224, Value.ref 225, Value.ref 226, Value.int 505 0, Value.int 247 0, Value.str (Str.ofString "/claim/cut.py") 506] }) ::
(nat_lit 228, fnObj 37 "law_wb0022_01" 433 227) ::
(nat_lit 232, { cls := Value.type "code", data := Data.fields #[Value.str (Str.ofString "law") 508, Value.str (Str.ofString "law") 509, Value.str (Str.ofString "/claim/cut.py") 510, Value.int 258 0, Value.int 1 0, Value.int 0 0, Value.int 0 0, Value.int 3 0, Value.ref 229, Value.bool true, Value.int 181 0, Value.ref 230, Value.none, Value.none, Value.none, Value.ref 231, Value.int 511 0, Value.int 258 0, Value.str (Str.ofString "/claim/cut.py") 512] }) ::
(nat_lit 233, fnObj 38 "law_wb0022_01" 433 232) :: []
noncomputable def as0 : List Addr := [2, 3, 100, 101, 107, 108, 114, 115, 121, 122, 128, 129, 135, 136, 142, 143, 149, 150, 156, 157, 163, 164, 170, 171, 177, 178, 182, 183, 187, 188, 192, 193, 199, 200, 206, 207, 213, 214, 220, 221, 227, 228, 232, 233]
theorem as0_eq (P : Params) : as0 = (K0 P).map (·.1) := by kernel_rfl
noncomputable def vw : Program := view R0.prog [0, 2, 4, 6, 7, 9, 11, 12, 15, 16, 17, 19, 21, 22, 23, 24, 25, 26, 27, 29, 31, 32, 33, 34, 35, 36, 37, 38]
noncomputable abbrev loose0 : List Str := [Str.ofString "kind_path", Str.ofString "kind_posixpath"]
noncomputable abbrev hook0 : Hook := kHook K0 as0 as0_eq
-- the looks, in the library's quick words (its equations te..; their twins are the kernel's to run)
theorem ws_row : PySem.Challenge.rw_wb0022_01.row.wellSaid = true := (congrFun PySem.W.Fast.te17960256430627541270 _).trans (by kernel_rfl)
theorem ws : PySem.Challenge.rw_wb0022_01.wellSaid = true := by
  unfold OpenLaw.wellSaid
  repeat' (with_reducible refine look_both ?_ ?_)
  all_goals (first | with_reducible exact ws_row | kernel_rfl)
theorem left0 : LeftO R0.prog vw loose0 (fun s => xlAt vw [] s && recOk (RowW.records R0.toRowW) s) (Hook.obs hook0) (Hook.val hook0) 2946 := fun w => by
  unfold openEnds fencedOpening topFrom
  rewrite [PySem.W.Fast.te4187177175401517315, PySem.W.Fast.te14364793385576792824, PySem.W.Fast.te14082659384304107361]
  kernel_rfl
end Mine
end
section
theorem Mine.regB_0 : True := by
  k_with_none
  trivial
open PySem PySem.W PySem.Calls PyProof.Rows
set_option Elab.async false
set_option maxRecDepth 100000
namespace Mine

noncomputable abbrev P0 : Program := PySem.Challenge.rw_wb0022_01.row.prog
noncomputable abbrev L0 := looseW vw [Str.ofString "kind_path", Str.ofString "kind_posixpath"]

structure Wd (w : World) (mean : ExcName → Option Value) (mg mb : Str → Option Value) (h : Heap) : Prop where
  X : (K0 w.params).In h
  T : Top vw L0 mean mg mb h

theorem Wd.keeps {w : World} {mean : ExcName → Option Value} {mg mb : Str → Option Value} {h h' : Heap} (W : Wd w mean mg mb h) (k : ∀ b o, h.get? b = some o → h'.get? b = some o) : Wd w mean mg mb h' :=
  ⟨W.X.keeps k, W.T.keeps k⟩

abbrev lv (d u : Nat) : Around := { handled := none, depth := d, frames := none, guards := none, units := u }

theorem codeAny_lv {M : Model} {A : Around} {d u : Nat} {c : Code} {R : Result → Shared → Prop} {s : Shared} (h : codeAny M (lv d u) c R s)
    (hh : A.handled = none) (hd : A.depth ≤ d) (hu : A.units ≤ u) : codeAny M A c R s := by
  intro Γ p hc hΓ
  refine h Γ p hc ⟨?_, ?_, ?_, ?_, ?_⟩
  · rw [hΓ.1, hh]
  · exact Nat.le_trans hΓ.2.1 hd
  · intro l hl; cases hl
  · intro l hl; cases hl
  · exact Nat.le_trans hΓ.2.2.2.2 hu

theorem enter {prog : Program} {w : World} {A : Around} {s : Shared} {K : Frag} {R : Result → Shared → Prop} {name qual : Str} {params : Arguments} {body : List Stmt} {scope : Scope} {dV kV doc pm cdv ct oc : Value} {an od : Option Addr} {osl : Array (Option Value)} {f : Addr} {args : Args} {binds : List (Str × Value)}
    {h₀ : Heap} {news : List (Addr × Obj)}
    (X : K.In h₀) (hlim : h₀.NoLimit) (st : h₀.StaysIn s.heap) (hsz : h₀.objs.size ≤ s.heap.objs.size) (N : ∀ p ∈ news, s.heap.get? p.1 = some p.2 ∧ h₀.get? p.1 = none)
    (ho : K.lookup f = some ⟨oc, od, .func (fnOf name qual params body scope dV kV doc pm an cdv ct), osl⟩) (hcd : codeIn K cdv qual = true) (hroom : A.depth < recursionLimit)
    (hbind : BindsTo s (fnOf name qual params body scope dV kV doc pm an cdv ct) args binds) (hloc : ∀ y ∈ binds, scope.names.lookup y.1 = some .local)
    (h : ∀ L h₁, Fr h₀ L h₁ (fun y => binds.reverse.lookup y) → News h₀ L h₁ news → (∀ p ∈ news, p.1 < L) →
      wpAny (model prog w) (A.deeper (envOf qual scope L f cdv)) (execs body (envOf qual scope L f cdv))
        (fun fl s' => R (.ok (.ret (match fl with | .ret v => v | _ => .none))) s')
        (fun _ _ => False)
        { s with heap := h₁, toks := s.toks + binds.length })
    (hco : scope.isCoroutine = false) (hgen : scope.isGenerator = false) (hk : scope.kind = .function)
    (hcell : ∀ x ∈ scope.names, x.2 ≠ .cell) : codeAny (model prog w) A (.call (.ref f) args) R s := by
  have X' := X.keeps st
  refine codeAny_call_def hroom (X' _ _ ho) rfl (hlim.keeps st) (codeRec_of X' hcd) rfl hbind hcell hloc (fun h₁ hns hkeep => ?_) hco hgen hk
  have hlt : ∀ p ∈ news, p.1 < s.heap.objs.size := fun p hp => Heap.lt_size (N p hp).1
  have F : Fr h₀ s.heap.objs.size h₁ (fun y => binds.reverse.lookup y) := ⟨hns, fun b o e => hkeep b o (st b o e), hsz⟩
  have N' : News h₀ s.heap.objs.size h₁ news := fun p hp => ⟨hkeep _ _ (N p hp).1, Nat.ne_of_lt (hlt p hp), (N p hp).2⟩
  exact wpAny_mono (h _ h₁ F N' hlt) (fun _ _ x => x) (fun _ _ x => x.elim)

set_option maxHeartbeats 4000000
set_option pp.deepTerms false
set_option pp.maxSteps 3000


theorem frStay {h₀ h h' : Heap} {L : Addr} {m : Str → Option Value} (F : Fr h₀ L h m) (k : h.StaysIn h') : Fr h₀ L h' m := ⟨F.ns.keeps k, fun b o e => k b o (F.keep b o e), F.above⟩
theorem newsStay {h₀ h h' : Heap} {L : Addr} {news : List (Addr × Obj)} (N : News h₀ L h news) (k : h.StaysIn h') : News h₀ L h' news := fun p hp => ⟨k _ _ (N p hp).1, (N p hp).2⟩

theorem hide_stays (h : Heap) (l : List Addr) : (hideAll h l).StaysIn h := fun _ _ e => of_hideAll l e
theorem hide_keeps {hb h : Heap} {l : List Addr} (st : hb.StaysIn h) (n : ∀ a ∈ l, hb.get? a = none) : hb.StaysIn (hideAll h l) := fun b o e => hideAll_get l (st b o e) fun q => by rw [n b q] at e; cases e

/-- what stays but for the addresses of a list -/
def But (l : List Addr) (h h' : Heap) : Prop := ∀ b o, b ∉ l → h.get? b = some o → h'.get? b = some o
theorem but_hide {h h' : Heap} {l : List Addr} (st : (hideAll h l).StaysIn h') : But l h h' := fun b o n e => st b o (hideAll_get l e n)
theorem but_nil {h h' : Heap} (st : But [] h h') : h.StaysIn h' := fun b o e => st b o (by simp) e

def AllNe (d : Addr) : List (Addr × Obj) → Prop
  | [] => True
  | p :: r => @Ne Nat p.1 d ∧ AllNe d r
theorem allNe_of {d : Addr} : ∀ {l : List (Addr × Obj)}, (∀ p ∈ l, p.1 ≠ d) → AllNe d l
  | [], _ => trivial
  | p :: _, h => ⟨h p (.head _), allNe_of fun q hq => h q (.tail _ hq)⟩
theorem newsNew {h₀ h h' : Heap} {L r : Addr} {o : Obj} {m : Str → Option Value} {news : List (Addr × Obj)} (F : Fr h₀ L h m) (N : News h₀ L h news) (st : h.StaysIn h') (fr : h.get? r = none) (hr : h'.get? r = some o) :
    News h₀ L h' ((r, o) :: news) ∧ AllNe r news := by
  refine ⟨fun p hp => ?_, allNe_of fun p hp e => ?_⟩
  · rcases List.mem_cons.mp hp with rfl | hp
    · refine ⟨hr, fun e => ?_, ?_⟩
      · obtain ⟨o', _, _, ho, _⟩ := F.ns
        rw [← e, fr] at ho; cases ho
      · cases q : h₀.get? r with
        | none => rfl
        | some o' => rw [F.keep _ _ q] at fr; cases fr
    · exact ⟨st _ _ (N p hp).1, (N p hp).2⟩
  · rw [← e, (N p hp).1] at fr; cases fr

theorem fillB : PySem.Challenge.rw_wb0022_01 = PySem.Challenge.rw_wb0022_01 ∧ K0 = K0 := by
  k_fill
  exact ⟨rfl, rfl⟩

end Mine
end
section
theorem Mine.regL_0 : True := by
  k_with_none
  trivial
open PySem PySem.W PySem.Calls PyProof.Rows
set_option Elab.async false
set_option maxRecDepth 100000
namespace Mine
set_option maxHeartbeats 4000000

/-- what is hidden from the walk's lookers -/
structure Hid (P : Prop) : Prop where
  out : P

/-- a goal at which the walk is to halt -/
def Stop (P : Prop) : Prop := P
theorem stop_of {P : Prop} (h : Stop P) : P := h
theorem stop_go {P : Prop} (h : P) : Stop P := h

theorem stays_hidden {h h' : Heap} {L : Addr} {m : Str → Option Value} {l : List Addr} {news : List (Addr × Obj)} (F : Fr (hideAll h l) L h' m) (N : News (hideAll h l) L h' news)
    (hn : ∀ a ∈ l, ∀ o, h.get? a = some o → (a, o) ∈ news) : h.StaysIn h' := fun b o e => by
  by_cases hb : b ∈ l
  · exact (N _ (hn b hb o e)).1
  · exact F.keep _ _ (hideAll_get l e hb)

theorem fr_named {h₀ h : Heap} {L : Addr} {m : Str → Option Value} (F : Fr h₀ L h m) {P : Prop} (k : ∀ m₀, m = m₀ → Fr h₀ L h m₀ → P) : P := k m rfl F
def adrOf : List (Addr × Obj) → Nat → Addr
  | [], _ => 0
  | p :: _, 0 => p.1
  | _ :: r, i + 1 => adrOf r i
def adrAt {h₀ h : Heap} {L : Addr} {news : List (Addr × Obj)} (_ : News h₀ L h news) (i : Nat) : Addr := adrOf news i
theorem news_head {h₀ h : Heap} {L : Addr} {p : Addr × Obj} {r : List (Addr × Obj)} (N : News h₀ L h (p :: r)) : News h₀ L h [p] := fun q hq => N q (List.mem_cons.mpr (.inl (List.mem_singleton.mp hq)))
theorem strsAre_get {vs : List Value} {ys : List Str} (h : StrsAre vs ys) : ∀ {i : Nat} {v : Value}, vs[i]? = some v → ∃ y t, ys[i]? = some y ∧ v = .str y t := by
  induction h with
  | nil => intro i v e; simp at e
  | cons y t h ih =>
    intro i v e
    cases i with
    | zero => simp at e; exact ⟨y, t, by simp, e.symm⟩
    | succ i => simpa using ih (by simpa using e)
theorem strsAre_snoc {vs : List Value} {ys : List Str} (h : StrsAre vs ys) (y : Str) (t : Tok) : StrsAre (vs ++ [.str y t]) (ys ++ [y]) := by
  induction h with
  | nil => exact .cons y t .nil
  | cons z u h ih => exact .cons z u ih
theorem strsAre_length {vs : List Value} {ys : List Str} (h : StrsAre vs ys) : vs.length = ys.length := by
  induction h with
  | nil => rfl
  | cons y t h ih => simp [ih]

section
variable {prog : Program} {w : World} {A : Around} {E : Value → Shared → Prop} {s : Shared} {env : Env} {h₀ : Heap} {x : Str} {body : List Stmt} {Q : Flow → Shared → Prop}

theorem iter_rangeI {r : Addr} {a₀ b₀ : Int} {t₀ u₀ v₀ : Tok} {n : Nat} {m₀ : Str → Option Value} {news : List (Addr × Obj)}
    (J : Nat → (Str → Option Value) → List (Addr × Obj) → Prop)
    (hh : A.handled = none) (hr : IsRange s.heap r a₀ b₀ 1 t₀ u₀ v₀) (hsmall : Builtin.Range.small a₀ b₀ 1 = true) (hn : Builtin.Range.rangeSize a₀ b₀ 1 = (n : Int)) (F : Fr h₀ env.locals s.heap m₀) (N : News h₀ env.locals s.heap news) (hJ : J 0 m₀ news)
    (turn : ∀ i t m₁ nx h tk own, i < n → OwnOff own (news.map (·.1)) → J i m₁ nx → Fr h₀ env.locals h (fun y => if y = x then some (.int (a₀ + (i : Nat)) t) else m₁ y) → News h₀ env.locals h (nx ++ own) →
      wpAny (model prog w) A (execs body env) (InvPostN h₀ env.locals (J (i + 1)) own (news.map (·.1)) { s with heap := h, toks := tk } Q) E { s with heap := h, toks := tk })
    (done : ∀ m₁ nx h tk, J n m₁ nx → Fr h₀ env.locals h m₁ → News h₀ env.locals h nx → Q .next { s with heap := h, toks := tk }) :
    wpAny (model prog w) A (pyIter (.ref r)) (fun it s₂ => LoopAtV prog w A h₀ env x body Q E it s₂) E s := by
  refine wpAny_pyIter_range hr hsmall ?_
  have W : Walks prog w A s.heap.objs.size [s.heap.objs.size] [s.heap.objs.size] n (fun i v => ∃ t, v = .int (a₀ + i * 1) t)
      (fun i h => IsRangeIter h s.heap.objs.size (a₀ + (i : Nat) * 1) ((n : Int) - (i : Nat)) 1) := Walks.range hh _ a₀ 1 n
  refine loop_invN (fun i m nx => J i m nx) W ?_ ?_ ?_ ?_ (by show IsRangeIter _ _ _ _ _; rw [hn]; simpa using Heap.get?_push_size _ rfl) (F.push _) (fun p hp => ⟨Heap.get?_push_of_some _ (N p hp).1, (N p hp).2⟩) hJ ?_ done
  · intro hm
    exact absurd F.ns.lt ((List.mem_singleton.mp hm) ▸ Nat.lt_irrefl _)
  · intro b hb
    rw [List.mem_singleton.mp hb]
    exact next_is_new F
  · intro p hp hI
    exact absurd (Heap.lt_size (N p hp).1) ((List.mem_singleton.mp hI) ▸ Nat.lt_irrefl _)
  · intro p hp hI
    exact absurd (Heap.lt_size (N p hp).1) ((List.mem_singleton.mp hI) ▸ Nat.lt_irrefl _)
  · rintro i v m₁ news₁ h tk own hi ⟨t, rfl⟩ _ hsep hR F₁ N₁
    have e : a₀ + (i : Int) * 1 = a₀ + (i : Nat) := by omega
    rw [e] at F₁
    exact turn i t m₁ news₁ h tk own hi hsep hR F₁ N₁

/-- a loop over a list that the frame does not change; the list stands outside the ledger that is told -/
theorem iter_listI {l : Addr} {items : Array Value} {m₀ : Str → Option Value} {news : List (Addr × Obj)}
    (J : Nat → (Str → Option Value) → List (Addr × Obj) → Prop)
    (hh : A.handled = none) (hl : s.heap.IsList l items) (hlL : l ≠ env.locals) (hln : ∀ p ∈ news, p.1 ≠ l) (F : Fr h₀ env.locals s.heap m₀) (N : News h₀ env.locals s.heap news) (hJ : J 0 m₀ news)
    (turn : ∀ i v m₁ nx h tk own, items[i]? = some v → OwnOff own (news.map (·.1)) → J i m₁ nx → Fr h₀ env.locals h (fun y => if y = x then some v else m₁ y) → News h₀ env.locals h (nx ++ own) →
      wpAny (model prog w) A (execs body env) (InvPostN h₀ env.locals (J (i + 1)) own (news.map (·.1)) { s with heap := h, toks := tk } Q) E { s with heap := h, toks := tk })
    (done : ∀ m₁ nx h tk, J items.size m₁ nx → Fr h₀ env.locals h m₁ → News h₀ env.locals h nx → Q .next { s with heap := h, toks := tk }) :
    wpAny (model prog w) A (pyIter (.ref l)) (fun it s₂ => LoopAtV prog w A h₀ env x body Q E it s₂) E s := by
  refine wpAny_pyIter_list hl ?_
  obtain ⟨ol, hol, hlr⟩ := id hl
  have hlt : l < s.heap.objs.size := Heap.lt_size hol
  have hne : l ≠ s.heap.objs.size := Nat.ne_of_lt hlt
  have W := Walks.list (prog := prog) (w := w) hh s.heap.objs.size l hne items
  refine loop_invN (fun i m nx => J i m nx) W ?_ ?_ ?_ ?_ ⟨⟨_, Heap.get?_push_size _ rfl, rfl, rfl⟩, hl.at fun o e => Heap.get?_push_of_some _ e⟩ (F.push _) (fun p hp => ⟨Heap.get?_push_of_some _ (N p hp).1, (N p hp).2⟩) hJ ?_ done
  · intro hm
    rcases List.mem_cons.mp hm with e | hm
    · exact absurd F.ns.lt (e ▸ Nat.lt_irrefl _)
    · exact hlL (List.mem_singleton.mp hm).symm
  · intro b hb
    rw [List.mem_singleton.mp hb]
    exact next_is_new F
  · intro p hp hI
    exact absurd (Heap.lt_size (N p hp).1) ((List.mem_singleton.mp hI) ▸ Nat.lt_irrefl _)
  · intro p hp hI
    rcases List.mem_cons.mp hI with e | hI
    · exact absurd (Heap.lt_size (N p hp).1) (e ▸ Nat.lt_irrefl _)
    · exact hln p hp (List.mem_singleton.mp hI)
  · rintro i v m₁ news₁ h tk own hi hP _ hsep hR F₁ N₁
    exact turn i v m₁ news₁ h tk own hP hsep hR F₁ N₁
end


section
variable {prog : Program} {w : World} {A : Around} {h₀ : Heap} {L : Addr} {m : Str → Option Value} {env : Env} {elt ct : Expr} {x : Str} {scope : Scope} {cl : List (Str × Addr)} {s : Shared} {S : List (Addr × Obj) → Prop} {P : Nat → Value → Prop} {Fin : List Value → List (Addr × Obj) → Prop} {news : List (Addr × Obj)}
open LCg LCt

theorem restU {n : Nat} (R : Nat → List Value → Prop) (h0 : R 0 [])
    (turn : ∀ i v I oI C oC D m₂ ys h tk (E' : Value → Shared → Prop), i < n → P i v → R i ys → NsObj oC m₂ → m₂ x = some v → Fr h₀ L h m → News h₀ L h ((I, oI) :: (C, oC) :: (D, lst ys) :: news) → Off3 I C D news → ((@Ne Nat I C) ∧ (@Ne Nat I D) ∧ (@Ne Nat C D)) →
      wpAny (model prog w) A (eval elt (compEnvC scope cl C env)) (CompEnd h₀ L m { s with heap := h, toks := tk } I oI C oC D (lst ys) S (fun y news' => news' = news ∧ R (i + 1) (ys ++ [y]))) E' { s with heap := h, toks := tk })
    (fin : ∀ ys, R n ys → Fin ys news) : CompRest prog w A h₀ L m env elt x scope cl s S P Fin n 0 [] news := by
  have key : ∀ (j i : Nat) (ys : List Value), i + j = n → R i ys → CompRest prog w A h₀ L m env elt x scope cl s S P Fin j i ys news := by
    intro j
    induction j with
    | zero =>
      intro i ys hi hy
      obtain rfl : i = n := by omega
      exact CompRest.zero (fin ys hy)
    | succ j ih =>
      intro i ys hi hy
      refine CompRest.succ ?_
      intro v I oI C oC D m₂ h tk E' hv hC hx F N off ne
      refine wpAny_mono (turn i v I oI C oC D m₂ ys h tk E' (by omega) hv hy hC hx F N off ne) (fun y s₂ hq => ?_) fun _ _ e => e
      obtain ⟨h', tk', nw, e, F', N', off', hS, hn, hr⟩ := hq
      subst hn
      exact ⟨h', tk', nw, e, F', N', off', hS, ih (i + 1) _ (by omega) hr⟩
  exact key n 0 [] (by omega) h0

theorem restT {n : Nat} (R : Nat → List Value → Prop) (h0 : R 0 [])
    (turn : ∀ i v I oI C oC D m₂ ys h tk (E' : Value → Shared → Prop), i < n → P i v → R i ys → NsObj oC m₂ → m₂ x = some v → Fr h₀ L h m → News h₀ L h ((I, oI) :: (C, oC) :: (D, lst ys) :: news) → Off3 I C D news → ((@Ne Nat I C) ∧ (@Ne Nat I D) ∧ (@Ne Nat C D)) →
      wpAny (model prog w) A (isTrue ct (compEnvC scope cl C env) (eval ct (compEnvC scope cl C env))) (fun ok s' => if ok = true then
        wpAny (model prog w) A (eval elt (compEnvC scope cl C env)) (CompEnd h₀ L m { s with heap := h, toks := tk } I oI C oC D (lst ys) S (fun y news' => news' = news ∧ R (i + 1) (ys ++ [y]))) E' s'
        else CompEnd h₀ L m { s with heap := h, toks := tk } I oI C oC D (lst ys) S (fun _ news' => news' = news ∧ R (i + 1) ys) Value.none s') E' { s with heap := h, toks := tk })
    (fin : ∀ ys, R n ys → Fin ys news) : CompRestT prog w A h₀ L m env ct elt x scope cl s S P Fin n 0 [] news := by
  have key : ∀ (j i : Nat) (ys : List Value), i + j = n → R i ys → CompRestT prog w A h₀ L m env ct elt x scope cl s S P Fin j i ys news := by
    intro j
    induction j with
    | zero =>
      intro i ys hi hy
      obtain rfl : i = n := by omega
      exact CompRestT.zero (fin ys hy)
    | succ j ih =>
      intro i ys hi hy
      refine CompRestT.succ ?_
      intro v I oI C oC D m₂ h tk E' hv hC hx F N off ne
      refine wpAny_mono (turn i v I oI C oC D m₂ ys h tk E' (by omega) hv hy hC hx F N off ne) (fun ok s₂ hq => ?_) fun _ _ e => e
      have conv : ∀ {ys' : Value → List Value} {y s₃}, CompEnd h₀ L m { s with heap := h, toks := tk } I oI C oC D (lst ys) S (fun y news' => news' = news ∧ R (i + 1) (ys' y)) y s₃ →
          CompEnd h₀ L m { s with heap := h, toks := tk } I oI C oC D (lst ys) S (fun y news' => CompRestT prog w A h₀ L m env ct elt x scope cl s S P Fin j (i + 1) (ys' y) news') y s₃ := by
        rintro ys' y s₃ ⟨h', tk', nw, e, F', N', off', hS, hn, hr⟩
        subst hn
        exact ⟨h', tk', nw, e, F', N', off', hS, ih (i + 1) _ (by omega) hr⟩
      cases ok with
      | true =>
        simp only [if_true] at hq ⊢
        exact wpAny_mono hq (fun y s₃ h₃ => conv (ys' := fun y => ys ++ [y]) h₃) fun _ _ e => e
      | false =>
        simp only [Bool.false_eq_true, if_false] at hq ⊢
        exact conv (ys' := fun _ => ys) hq
  exact key n 0 [] (by omega) h0
end

end Mine
end
section
open PySem PySem.W PySem.Calls PyProof.Rows
set_option Elab.async false
set_option maxRecDepth 100000
namespace Mine
set_option maxHeartbeats 4000000
set_option pp.deepTerms false
set_option pp.maxSteps 3000
theorem regF1_1 : True := by
  k_with_none
  k_with "my enter" => (((case kX => k_asm); (case kL => exact Top.nolimit (by assumption)); (case kS => exact fun _ _ e => e); (case kZ => exact Nat.le_refl _); (case kN => exact fun _ h => nomatch h); (case k6 => k_is); (case k7 => k_is); (case k8 => decide); (case k9 => exact BindsTo.of_eq rfl); (case kB => exact locs rfl); (case c2 => exact rfl); (case c3 => exact rfl); (case c4 => exact rfl); (case c5 => decide); k_whole; intro zL' zh' zF' zN' zl1; (try dsimp only [List.reverse_cons, List.reverse_nil, List.nil_append, List.cons_append])))
  trivial


theorem fillF1 : PySem.Challenge.rw_wb0022_01 = PySem.Challenge.rw_wb0022_01 ∧ K0 = K0 := by
  k_fill
  exact ⟨rfl, rfl⟩

variable {w : World} {mean : ExcName → Option Value} {mg mb : Str → Option Value} {s : Shared} {R : Result → Shared → Prop}

theorem c_kind {nm p : Str} {t1 t2 : Tok}
    (W : Wd w mean mg mb s.heap)
    (ret : ∀ h' tk' t, s.heap.StaysIn h' → R (.ok (.ret (.str (Str.ofString "") t))) { s with heap := h', toks := tk' }) :
    codeAny (model P0 w) (lv 400 1000) (.call (.ref 115) ⟨[.str nm t1, .str p t2], []⟩) R s := by
  have KX := W.X
  have KT := W.T
  refine' enter (news := []) (binds := [(Str.ofString "name", .str nm t1), (Str.ofString "x", .str p t2)]) ?kX ?kL ?kS ?kZ ?kN ?k6 ?k7 ?k8 ?k9 ?kB ?_ ?c2 ?c3 ?c4 ?c5
  k_dflt walk_at "my enter"
  k_fold
  k_steps
  exact ret _ _ _ (Fr.keep (by assumption))

theorem regF1_2 : True := by
  k_with "my back0" => ((intro zh' ztk' zst'; (have zF' := frStay (by assumption) zst'); (have zN' := newsStay (by assumption) zst'); (try k_sweep); (try dsimp only)))
  k_with "my back1" => ((intro zh' ztk' zt' zst'; (have zF' := frStay (by assumption) zst'); (have zN' := newsStay (by assumption) zst'); (try k_sweep); (try dsimp only)))
  k_with "call ref" => ((k_here; refine wpAny_call (codeAny_lv (c_kind (Wd.keeps (by assumption) (Fr.keep (by assumption))) ?_) rfl (Nat.le_of_ble_eq_true rfl) (Nat.le_of_ble_eq_true rfl)); walk_at "my back1"))
  trivial


theorem c_fspath {nm p : Str} {t1 t2 : Tok}
    (W : Wd w mean mg mb s.heap)
    (ret : ∀ h' tk', s.heap.StaysIn h' → R (.ok (.ret (.str p t2))) { s with heap := h', toks := tk' }) :
    codeAny (model P0 w) (lv 390 900) (.call (.ref 122) ⟨[.str nm t1, .str p t2], []⟩) R s := by
  have KX := W.X
  have KT := W.T
  refine' enter (news := []) (binds := [(Str.ofString "name", .str nm t1), (Str.ofString "x", .str p t2)]) ?kX ?kL ?kS ?kZ ?kN ?k6 ?k7 ?k8 ?k9 ?kB ?_ ?c2 ?c3 ?c4 ?c5
  k_dflt walk_at "my enter"
  k_fold
  k_steps
  exact ret _ _ (Fr.keep (by assumption))

theorem regF1_3 : True := by
  k_with "call ref" => ((k_here; refine wpAny_call (codeAny_lv (c_fspath (Wd.keeps (by assumption) (Fr.keep (by assumption))) ?_) rfl (Nat.le_of_ble_eq_true rfl) (Nat.le_of_ble_eq_true rfl)); walk_at "my back0"))
  trivial


theorem c_basename {p : Str} {t2 : Tok}
    (W : Wd w mean mg mb s.heap) (hp : p.length ≤ 1000)
    (ret : ∀ h' tk' t, s.heap.StaysIn h' → R (.ok (.ret (.str (Txt.slice p (some (Txt.rfind p (Str.ofString "/") + 1)) none) t))) { s with heap := h', toks := tk' }) :
    codeAny (model P0 w) (lv 380 800) (.call (.ref 129) ⟨[.str p t2], []⟩) R s := by
  have KX := W.X
  have KT := W.T
  refine' enter (news := []) (binds := [(Str.ofString "p", .str p t2)]) ?kX ?kL ?kS ?kZ ?kN ?k6 ?k7 ?k8 ?k9 ?kB ?_ ?c2 ?c3 ?c4 ?c5
  k_dflt walk_at "my enter"
  k_fold
  k_steps
  exact ret _ _ _ (Fr.keep (by assumption))

theorem regF1_4 : True := by
  k_with "call ref" => ((k_here; refine wpAny_call (codeAny_lv (c_basename (Wd.keeps (by assumption) (Fr.keep (by assumption))) (by assumption) ?_) rfl (Nat.le_of_ble_eq_true rfl) (Nat.le_of_ble_eq_true rfl)); walk_at "my back1"))
  trivial


theorem c_strip {a : Addr} {o : Obj} {n : Nat} {p : Str} {t2 : Tok} {v1 v2 : Value}
    (W : Wd w mean mg mb s.heap) (hp : p.length ≤ 1000) (ha : s.heap.get? a = some o) (hc : o.cls = .type "tuple") (hd : o.data = .seq #[.str p t2, v1, v2] n)
    (ret : ∀ h' tk' r t, s.heap.StaysIn h' → s.heap.get? r = none → h'.get? r = some { cls := .type "tuple", data := .seq #[.str (Txt.slice p (some (Txt.rfind p (Str.ofString "/") + 1)) none) t, v1, v2] } →
      R (.ok (.ret (.ref r))) { s with heap := h', toks := tk' }) :
    codeAny (model P0 w) (lv 370 700) (.call (.ref 136) ⟨[.ref a], []⟩) R s := by
  have KX := W.X
  have KT := W.T
  have hT : IsTup s.heap a #[.str p t2, v1, v2] := ⟨o, ha, hc, n, hd⟩
  refine' enter (news := []) (binds := [(Str.ofString "func_name", .ref a)]) ?kX ?kL ?kS ?kZ ?kN ?k6 ?k7 ?k8 ?k9 ?kB ?_ ?c2 ?c3 ?c4 ?c5
  k_dflt walk_at "my enter"
  k_fold
  k_steps
  exact ret _ _ _ _ (Fr.keep (by assumption)) ((‹News _ _ _ _› _ (.head _)).2.2) ((‹News _ _ _ _› _ (.head _)).1)
end Mine
end
section
open PySem PySem.W PySem.Calls PyProof.Rows
set_option Elab.async false
set_option maxRecDepth 100000
namespace Mine
set_option maxHeartbeats 4000000
set_option pp.deepTerms false
set_option pp.maxSteps 3000
theorem regF2_1 : True := by
  k_with_none
  k_with "my enter" => (((case kX => k_asm); (case kL => exact Top.nolimit (by assumption)); (case kS => exact fun _ _ e => e); (case kZ => exact Nat.le_refl _); (case kN => exact fun _ h => nomatch h); (case k6 => k_is); (case k7 => k_is); (case k8 => decide); (case k9 => exact BindsTo.of_eq rfl); (case kB => exact locs rfl); (case c2 => exact rfl); (case c3 => exact rfl); (case c4 => exact rfl); (case c5 => decide); k_whole; intro zL' zh' zF' zN' zl1; (try dsimp only [List.reverse_cons, List.reverse_nil, List.nil_append, List.cons_append])))
  trivial



theorem fillF2 : PySem.Challenge.rw_wb0022_01 = PySem.Challenge.rw_wb0022_01 ∧ K0 = K0 := by
  k_fill
  exact ⟨rfl, rfl⟩

variable {w : World} {mean : ExcName → Option Value} {mg mb : Str → Option Value} {s : Shared} {R : Result → Shared → Prop}

theorem c_splitext_far {p : Str} {t2 t3 t4 : Tok}
    (W : Wd w mean mg mb s.heap) (hp : p.length ≤ 1000) (h1 : Txt.rfind p (Str.ofString ":") = -1) (hk : 2 ≤ Txt.rfind p (Str.ofString "/")) (hx : (Txt.slice p (some 1) (some 2) != Str.ofString "/") = true)
    (ret : ∀ h' tk' r ta tb, s.heap.StaysIn h' → s.heap.get? r = none → h'.get? r = some { cls := .type "tuple", data := .seq #[.str (Txt.slice p none (some (Txt.rfind p (Str.ofString "/")))) ta, .str (Txt.slice p (some (Txt.rfind p (Str.ofString "/"))) none) tb] } →
      R (.ok (.ret (.ref r))) { s with heap := h', toks := tk' }) :
    codeAny (model P0 w) (lv 380 800) (.call (.ref 108) ⟨[.str p t2, .str (Str.ofString ":") t3, .none, .str (Str.ofString "/") t4], []⟩) R s := by
  have KX := W.X
  have KT := W.T
  refine' enter (news := []) (binds := [(Str.ofString "p", .str p t2), (Str.ofString "sep", .str (Str.ofString ":") t3), (Str.ofString "altsep", .none), (Str.ofString "extsep", .str (Str.ofString "/") t4)]) ?kX ?kL ?kS ?kZ ?kN ?k6 ?k7 ?k8 ?k9 ?kB ?_ ?c2 ?c3 ?c4 ?c5
  k_dflt walk_at "my enter"
  k_fold
  k_steps
  · exact ret _ _ _ _ _ (Fr.keep (by assumption)) ((‹News _ _ _ _› _ (.head _)).2.2) ((‹News _ _ _ _› _ (.head _)).1)
  · exfalso
    rename Passed _ _ _ => hP
    rename _ ≤ _ + 1 + 1 * _ => hend
    have := (hP 1 (by decide) (by omega)).2
    dsimp only at this
    rw [h1] at this
    exact Bool.noConfusion ((if_pos hx).symm.trans this)

theorem c_splitext_one {p : Str} {t2 t3 t4 : Tok}
    (W : Wd w mean mg mb s.heap) (hp : p.length ≤ 1000) (h1 : Txt.rfind p (Str.ofString ":") = -1) (hk : Txt.rfind p (Str.ofString "/") = 0)
    (ret : ∀ h' tk' r tb, s.heap.StaysIn h' → s.heap.get? r = none → h'.get? r = some { cls := .type "tuple", data := .seq #[.str p t2, .str (Txt.slice p none (some 0)) tb] } →
      R (.ok (.ret (.ref r))) { s with heap := h', toks := tk' }) :
    codeAny (model P0 w) (lv 380 800) (.call (.ref 108) ⟨[.str p t2, .str (Str.ofString ":") t3, .none, .str (Str.ofString "/") t4], []⟩) R s := by
  have KX := W.X
  have KT := W.T
  refine' enter (news := []) (binds := [(Str.ofString "p", .str p t2), (Str.ofString "sep", .str (Str.ofString ":") t3), (Str.ofString "altsep", .none), (Str.ofString "extsep", .str (Str.ofString "/") t4)]) ?kX ?kL ?kS ?kZ ?kN ?k6 ?k7 ?k8 ?k9 ?kB ?_ ?c2 ?c3 ?c4 ?c5
  k_dflt walk_at "my enter"
  k_fold
  k_steps
  · exfalso; omega
  · exact ret _ _ _ _ (Fr.keep (by assumption)) ((‹News _ _ _ _› _ (.head _)).2.2) ((‹News _ _ _ _› _ (.head _)).1)

end Mine
end
section
open PySem PySem.W PySem.Calls PyProof.Rows
set_option Elab.async false
set_option maxRecDepth 100000
namespace Mine
set_option maxHeartbeats 4000000
set_option pp.deepTerms false
set_option pp.maxSteps 3000
theorem regF3_1 : True := by
  k_with_none
  k_with "my enter" => (((case kX => k_asm); (case kL => exact Top.nolimit (by assumption)); (case kS => first | exact fun _ _ e => e | exact hide_stays _ _); (case kZ => first | exact Nat.le_refl _ | exact Nat.le_of_eq (hideAll_size _ _)); (case kN => first | assumption | exact List.forall_mem_nil _); (case k6 => k_is); (case k7 => k_is); (case k8 => decide); (case k9 => exact BindsTo.of_eq rfl); (case kB => exact locs rfl); (case c2 => exact rfl); (case c3 => exact rfl); (case c4 => exact rfl); (case c5 => decide); k_whole; intro zL' zh' zF' zN' zl1; (try dsimp only [List.reverse_cons, List.reverse_nil, List.nil_append, List.cons_append])))
  k_with "my back0" => ((intro zh' ztk' zst'; (have zF' := frStay (by assumption) zst'); (have zN' := newsStay (by assumption) zst'); (try k_sweep); (try dsimp only)))
  k_with "my back1" => ((intro zh' ztk' zt' zst'; (have zF' := frStay (by assumption) zst'); (have zN' := newsStay (by assumption) zst'); (try k_sweep); (try dsimp only)))
  trivial


theorem fillF3 : PySem.Challenge.rw_wb0022_01 = PySem.Challenge.rw_wb0022_01 ∧ K0 = K0 := by
  k_fill
  exact ⟨rfl, rfl⟩

variable {w : World} {mean : ExcName → Option Value} {mg mb : Str → Option Value} {s : Shared} {R : Result → Shared → Prop} {hb : Heap}

theorem c_kindp {nm p : Str} {t1 t2 : Tok}
    (W : Wd w mean mg mb s.heap)
    (ret : ∀ h' tk' t, s.heap.StaysIn h' → R (.ok (.ret (.str (Str.ofString "") t))) { s with heap := h', toks := tk' }) :
    codeAny (model P0 w) (lv 400 1000) (.call (.ref 143) ⟨[.str nm t1, .str p t2], []⟩) R s := by
  have KX := W.X
  have KT := W.T
  refine' enter (news := []) (binds := [(Str.ofString "name", .str nm t1), (Str.ofString "x", .str p t2)]) ?kX ?kL ?kS ?kZ ?kN ?k6 ?k7 ?k8 ?k9 ?kB ?_ ?c2 ?c3 ?c4 ?c5
  k_dflt walk_at "my enter"
  k_fold
  k_steps
  exact ret _ _ _ (Fr.keep (by assumption))

theorem regF3_2 : True := by
  k_with "call ref" => ((k_here; refine wpAny_call (codeAny_lv (c_kindp (Wd.keeps (by assumption) (Fr.keep (by assumption))) ?_) rfl (Nat.le_of_ble_eq_true rfl) (Nat.le_of_ble_eq_true rfl)); walk_at "my back1"))
  trivial


theorem c_cpath {nm cn an p : Str} {t1 t2 t3 t4 : Tok} {a d : Addr} {n : Nat} {o : Obj}
    (W : Wd w mean mg mb hb) (st : hb.StaysIn s.heap) (ha : s.heap.get? a = some { cls := .type "tuple", data := .seq #[.str p t4] n }) (hd' : s.heap.get? d = some o) (ho : o.IsDictOf (strKind P0 w) []) (lo : (d == sysModules) = false)
    (na : hb.get? a = none) (nd : hb.get? d = none)
    (ret : ∀ h' tk', s.heap.StaysIn h' → R (.ok (.ret (.str p t4))) { s with heap := h', toks := tk' }) :
    codeAny (model P0 w) (lv 390 900) (.call (.ref 150) ⟨[.str nm t1, .str cn t2, .str an t3, .ref a, .ref d], []⟩) R s := by
  have W' : Wd w mean mg mb (hideAll s.heap [a, d]) := W.keeps (hide_keeps st (by simp [na, nd]))
  have KX := W'.X
  have KT := W'.T
  have ff : PyProof.V.FlatPairs PyData.str ([] : List (Str × Value)) [] := .nil
  have NN : ∀ p' ∈ [(a, ({ cls := .type "tuple", data := .seq #[.str p t4] n } : Obj)), (d, o)], s.heap.get? p'.1 = some p'.2 ∧ (hideAll s.heap [a, d]).get? p'.1 = none := by
    intro p' hp'
    simp only [List.mem_cons, List.not_mem_nil, or_false] at hp'
    rcases hp' with rfl | rfl
    · exact ⟨ha, hideAll_none _ (by simp)⟩
    · exact ⟨hd', hideAll_none _ (by simp)⟩
  refine' enter (h₀ := hideAll s.heap [a, d]) (news := [(a, ({ cls := .type "tuple", data := .seq #[.str p t4] n } : Obj)), (d, o)]) (binds := [(Str.ofString "name", .str nm t1), (Str.ofString "cname", .str cn t2), (Str.ofString "argname", .str an t3), (Str.ofString "args", .ref a), (Str.ofString "kwargs", .ref d)]) ?kX ?kL ?kS ?kZ ?kN ?k6 ?k7 ?k8 ?k9 ?kB ?_ ?c2 ?c3 ?c4 ?c5
  k_dflt walk_at "my enter"
  k_fold
  k_steps
  refine ret _ _ (stays_hidden (by assumption) (by assumption) ?_)
  intro b hb' o' e
  simp only [List.mem_cons, List.not_mem_nil, or_false] at hb'
  rcases hb' with rfl | rfl
  · rw [ha] at e; cases e; exact .head _
  · rw [hd'] at e; cases e; exact .tail _ (.head _)

theorem c_shelf {p : Str} {t2 : Tok}
    (W : Wd w mean mg mb s.heap) (hp : p.length ≤ 2000)
    (ret : ∀ h' tk' t, s.heap.StaysIn h' → R (.ok (.ret (.str (Txt.slice (p ++ Str.ofString "/") none (some (-1))) t))) { s with heap := h', toks := tk' }) :
    codeAny (model P0 w) (lv 400 1000) (.call (.ref 157) ⟨[.str p t2], []⟩) R s := by
  have KX := W.X
  have KT := W.T
  refine' enter (news := []) (binds := [(Str.ofString "s", .str p t2)]) ?kX ?kL ?kS ?kZ ?kN ?k6 ?k7 ?k8 ?k9 ?kB ?_ ?c2 ?c3 ?c4 ?c5
  k_dflt walk_at "my enter"
  k_fold
  k_steps
  exact ret _ _ _ (Fr.keep (by assumption))

theorem c_splitroot {p : Str} {t2 : Tok}
    (W : Wd w mean mg mb s.heap) (hp : p.length ≤ 1000) (h1 : (Txt.slice p none (some 1) != Str.ofString "/") = false) (h2 : (Txt.slice p (some 1) (some 2) != Str.ofString "/") = true)
    (ret : ∀ h' tk' r ta tb tc, s.heap.StaysIn h' → s.heap.get? r = none → h'.get? r = some { cls := .type "tuple", data := .seq #[.str (Str.ofString "") ta, .str (Str.ofString "/") tb, .str (Txt.slice p (some 1) none) tc] } →
      R (.ok (.ret (.ref r))) { s with heap := h', toks := tk' }) :
    codeAny (model P0 w) (lv 390 900) (.call (.ref 164) ⟨[.str p t2], []⟩) R s := by
  have KX := W.X
  have KT := W.T
  refine' enter (news := []) (binds := [(Str.ofString "p", .str p t2)]) ?kX ?kL ?kS ?kZ ?kN ?k6 ?k7 ?k8 ?k9 ?kB ?_ ?c2 ?c3 ?c4 ?c5
  k_dflt walk_at "my enter"
  k_fold
  k_steps
  exact ret _ _ _ _ _ _ (Fr.keep (by assumption)) ((‹News _ _ _ _› _ (.head _)).2.2) ((‹News _ _ _ _› _ (.head _)).1)

end Mine
end
section
open PySem PySem.W PySem.Calls PyProof.Rows
set_option Elab.async false
set_option maxRecDepth 100000
namespace Mine
set_option maxHeartbeats 4000000
set_option pp.deepTerms false
set_option pp.maxSteps 3000
theorem regF4_1 : True := by
  k_with_none
  k_with "my enter" => (((case kX => k_asm); (case kL => exact Top.nolimit (by assumption)); (case kS => first | exact fun _ _ e => e | exact hide_stays _ _); (case kZ => first | exact Nat.le_refl _ | exact Nat.le_of_eq (hideAll_size _ _)); (case kN => first | assumption | exact List.forall_mem_nil _); (case k6 => k_is); (case k7 => k_is); (case k8 => decide); (case k9 => exact BindsTo.of_eq rfl); (case kB => exact locs rfl); (case c2 => exact rfl); (case c3 => exact rfl); (case c4 => exact rfl); (case c5 => decide); k_whole; intro zL' zh' zF' zN' zl1; (try dsimp only [List.reverse_cons, List.reverse_nil, List.nil_append, List.cons_append])))
  k_with "my back0" => ((intro zh' ztk' zst'; (have zF' := frStay (by assumption) zst'); (have zN' := newsStay (by assumption) zst'); (try k_sweep); (try dsimp only)))
  k_with "my back1" => ((intro zh' ztk' zt' zst'; (have zF' := frStay (by assumption) zst'); (have zN' := newsStay (by assumption) zst'); (try k_sweep); (try dsimp only)))
  k_with "my new" => (((rename Heap.StaysIn _ _ => zst'); (rename Heap.get? _ _ = none => fr'); (rename Heap.get? _ _ = some _ => hr'); (have zF' := frStay (by assumption) zst'); (have zN' := newsNew (by assumption) (by assumption) zst' fr' hr'); obtain ⟨zN', zl1⟩ := zN'; (simp only [AllNe, and_true] at zl1); clear fr' hr'; (try k_sweep); (try dsimp only)))
  trivial


theorem fillF4 : PySem.Challenge.rw_wb0022_01 = PySem.Challenge.rw_wb0022_01 ∧ K0 = K0 := by
  k_fill
  exact ⟨rfl, rfl⟩

variable {w : World} {mean : ExcName → Option Value} {mg mb : Str → Option Value} {s : Shared} {R : Result → Shared → Prop} {hb : Heap}

theorem regF4_2 : True := by
  k_with "exec For Name Name cons nil" => ((with_reducible refine stop_of ?_))
  k_with "call ref" => ((k_here; refine wpAny_call (codeAny_lv (c_shelf (Wd.keeps (by assumption) (Fr.keep (by assumption))) (by assumption) ?_) rfl (Nat.le_of_ble_eq_true rfl) (Nat.le_of_ble_eq_true rfl)); walk_at "my back1"))
  k_with "call ref" => ((k_here; refine wpAny_call (codeAny_lv (c_splitroot (Wd.keeps (by assumption) (Fr.keep (by assumption))) (by assumption) (by assumption) (by assumption) ?_) rfl (Nat.le_of_ble_eq_true rfl) (Nat.le_of_ble_eq_true rfl)); (intro zh' ztk' zr' zta' ztb' ztc' zst' zfr' zhr'; walk_at "my new")))
  k_with "InvEndN" => ((with_reducible refine stop_of ?_))
  k_with "pyIter ref" => ((with_reducible refine stop_of ?_))
  k_with "call builtin:str.join" => ((k_here; refine SC.join (News.isList (by assumption) (by k_mem)) (by assumption) (by assumption) ?_; intro zt' zk'))
  trivial


theorem nm_take {l : List (Str × Tok)} {ts : List Str} (h : l.map (fun x => x.fst) = ts) : ts.take (strValues l).toArray.size = ts := by
  subst h
  exact List.take_of_length_le (by simp [strValues])
theorem nm_len {x : Str} (h : x.length ≤ 1500) : (Str.ofString "/" ++ x).length ≤ 2000 := by
  rw [Str.length_append]
  have : (Str.ofString "/").length = 1 := by decide
  omega

theorem nm_snoc {f : Str → Bool} {vs : List Value} {ts : List Str} {i : Nat} {y : Str} {t : Tok} (h : StrsAre vs ((ts.take i).filter f)) (hy : ts[i]? = some y) (hf : f y = true) : StrsAre (vs ++ [.str y t]) ((ts.take (i + 1)).filter f) := by
  rw [List.take_add_one, hy, List.filter_append]
  simp only [Option.toList, List.filter_cons, hf, if_true, List.filter_nil]
  exact strsAre_snoc h y t
theorem nm_skip {f : Str → Bool} {vs : List Value} {ts : List Str} {i : Nat} {y : Str} (h : StrsAre vs ((ts.take i).filter f)) (hy : ts[i]? = some y) (hf : f y = false) : StrsAre vs ((ts.take (i + 1)).filter f) := by
  rw [List.take_add_one, hy, List.filter_append]
  simp only [Option.toList, List.filter_cons, hf, List.filter_nil]
  simpa using h
theorem ne_empty {y : Str} (h : (y.length : Int) ≠ 0) : (y != Str.ofString "") = true := by
  rw [bne_iff_ne]
  rintro rfl
  exact h (by decide)
theorem is_empty {y : Str} (h : (y.length : Int) = 0) : (y != Str.ofString "") = false := by
  have : y = Str.ofString "" := by
    apply Str.ext'
    have h0 : y.cps.size = 0 := by have : (y.cps.size : Int) = 0 := h; omega
    have h1 : y.cps = #[] := Array.eq_empty_of_size_eq_zero h0
    rw [h1]; rfl
  rw [this]
  exact bne_self_eq_false' ..

theorem c_norm {p : Str} {t2 : Tok}
    (W : Wd w mean mg mb s.heap) (hp : p.length ≤ 1000) (hne : p.length ≠ 0) (h1 : (Txt.slice p none (some 1) != Str.ofString "/") = false) (h2 : (Txt.slice p (some 1) (some 2) != Str.ofString "/") = true)
    (hcl : (Txt.split (Txt.slice p (some 1) none) (Str.ofString "/")).length ≤ 1000)
    (hgood : ∀ c ∈ Txt.split (Txt.slice p (some 1) none) (Str.ofString "/"), (c == Str.ofString ".") = false ∧ (c != Str.ofString "..") = true)
    (hjo : JoinOk (Str.ofString "/") ((Txt.split (Txt.slice p (some 1) none) (Str.ofString "/")).filter fun c => c != Str.ofString "") = true)
    (hjl : (Txt.join (Str.ofString "/") ((Txt.split (Txt.slice p (some 1) none) (Str.ofString "/")).filter fun c => c != Str.ofString "")).length ≤ 1500)
    (ret : ∀ h' tk' t, s.heap.StaysIn h' → R (.ok (.ret (.str (Txt.slice (Str.ofString "/" ++ Txt.join (Str.ofString "/") ((Txt.split (Txt.slice p (some 1) none) (Str.ofString "/")).filter fun c => c != Str.ofString "") ++ Str.ofString "/") none (some (-1))) t))) { s with heap := h', toks := tk' }) :
    codeAny (model P0 w) (lv 380 800) (.call (.ref 171) ⟨[.str p t2], []⟩) R s := by
  replace hjo := Hid.mk hjo
  replace hjl := Hid.mk hjl
  replace hgood := Hid.mk hgood
  replace hcl := Hid.mk hcl
  have KX := W.X
  have KT := W.T
  refine' enter (news := []) (binds := [(Str.ofString "path", .str p t2)]) ?kX ?kL ?kS ?kZ ?kN ?k6 ?k7 ?k8 ?k9 ?kB ?_ ?c2 ?c3 ?c4 ?c5
  k_dflt walk_at "my enter"
  k_fold
  k_steps
  refine stop_go (For_invV s.heap rfl rfl ?_)
  k_steps
  rename List (Str × Tok) => l
  rename List.map _ l = _ => hl1
  rename StrsAre (strValues l) _ => hl2
  rename ∀ a : Str, a ∈ List.map _ _ → _ => hl4
  rename Fr _ _ _ _ => F0
  rename News _ _ _ _ => N0
  rename _ ∧ _ => l1
  obtain ⟨nc, enc⟩ : ∃ nc, nc = adrAt N0 0 := ⟨_, rfl⟩
  obtain ⟨la, ela⟩ : ∃ la, la = adrAt N0 1 := ⟨_, rfl⟩
  have hlist := (N0 _ (.tail _ (.head _)))
  dsimp only [adrAt, adrOf] at enc ela hlist
  subst enc
  dsimp only at F0 N0 ⊢
  rw [← ela] at F0 N0 hlist l1 ⊢
  refine fr_named F0 fun m0 em F1 => ?_
  refine stop_go (iter_listI (items := (strValues l).toArray) (fun i m nx => ∃ vs k, nx = [(nc, PySem.W.listOf (List.toArray vs) k)] ∧ StrsAre vs (((Txt.split (Txt.slice p (some 1) none) (Str.ofString "/")).take i).filter fun c => c != Str.ofString "") ∧ ∀ z, z ≠ Str.ofString "comp" → m z = m0 z) rfl ⟨_, hlist.1, rfl, _, rfl⟩ hlist.2.1 ?k3 F1 (news_head N0) ⟨[], 0, rfl, .nil, fun _ _ => rfl⟩ ?turn ?done)
  case k3 =>
    intro q hq
    rw [List.mem_singleton.mp hq]
    exact Nat.ne_of_gt l1.1
  case turn =>
    rintro i v m₁ nx h tk1 own hi hsep ⟨vs, k, rfl, hvs, hm⟩ F₁ N₁
    rw [map_none hm] at F₁
    subst em
    obtain ⟨y, t, hy, rfl⟩ := strsAre_get hl2 (by simpa using hi)
    rw [hl1] at hy
    obtain ⟨hg1, hg2⟩ := hgood.out y (List.mem_of_getElem? hy)
    have hvl : vs.length ≤ 1000 := by
      rw [strsAre_length hvs]
      exact Nat.le_trans (List.length_filter_le _ _) (Nat.le_trans (List.length_take_le' _ _) hcl.out)
    have hyl : y.length ≤ 1000 := Nat.le_trans (hl4 y (hl1 ▸ List.mem_of_getElem? hy)) (Nat.le_trans (Txt.slice_le p (some 1) none) hp)
    simp only [List.map_cons, List.map_nil, List.cons_append, List.nil_append] at hsep N₁ ⊢
    clear F1 F0 N0 hlist hm hl1 hl2 hl4 hi
    k_steps
    · refine stop_go (InvEndN.intro (by assumption) (by assumption) (nx := [(nc, PySem.W.listOf (vs ++ [Value.str y t]).toArray (k + 1))]) ⟨vs ++ [Value.str y t], k + 1, rfl, nm_snoc hvs hy (ne_empty (by assumption)), fun z hz => if_neg hz⟩ rfl ?_ ?_)
      · intro q hq
        rw [List.mem_singleton.mp hq, ← List.push_toArray]
        exact .head _
      · exact fun q hq => .tail _ hq
    · refine stop_go (InvEndN.intro (by assumption) (by assumption) (nx := [(nc, PySem.W.listOf vs.toArray k)]) ⟨vs, k, rfl, nm_skip hvs hy (is_empty (by assumption)), fun z hz => if_neg hz⟩ rfl ?_ ?_)
      · intro q hq
        rw [List.mem_singleton.mp hq]
        exact .head _
      · exact fun q hq => .tail _ hq
  case done =>
    rintro m₁ nx h tk1 ⟨vs, k, rfl, hvs, hm⟩ F₁ N₁
    rw [← done_none hm] at F₁
    subst em
    clear F1 F0 N0 hlist
    have hvl : vs.length ≤ 1000 := by
      rw [strsAre_length hvs]
      exact Nat.le_trans (List.length_filter_le _ _) (Nat.le_trans (List.length_take_le' _ _) hcl.out)
    rw [nm_take hl1] at hvs
    have hpl := nm_len hjl.out
    obtain ⟨l2, rfl, hl5⟩ := strsAre_values hvs
    have hjo := hjo.out
    have hjl := hjl.out
    clear hm hl1 hl2 hl4 hgood
    k_steps
    exact ret _ _ _ (Fr.keep (by assumption))
  · exfalso; omega

end Mine
end
section
open PySem PySem.W PySem.Calls PyProof.Rows
set_option Elab.async false
set_option maxRecDepth 100000
namespace Mine
set_option maxHeartbeats 4000000
set_option pp.deepTerms false
set_option pp.maxSteps 3000
theorem regF5_1 : True := by
  k_with_none
  k_with "my enter" => (((case kX => k_asm); (case kL => exact Top.nolimit (by assumption)); (case kS => first | exact fun _ _ e => e | exact hide_stays _ _); (case kZ => first | exact Nat.le_refl _ | exact Nat.le_of_eq (hideAll_size _ _)); (case kN => first | assumption | exact List.forall_mem_nil _); (case k6 => k_is); (case k7 => k_is); (case k8 => decide); (case k9 => exact BindsTo.of_eq rfl); (case kB => exact locs rfl); (case c2 => exact rfl); (case c3 => exact rfl); (case c4 => exact rfl); (case c5 => decide); k_whole; intro zL' zh' zF' zN' zl1; (try dsimp only [List.reverse_cons, List.reverse_nil, List.nil_append, List.cons_append])))
  k_with "my back0" => ((intro zh' ztk' zst'; (have zF' := frStay (by assumption) zst'); (have zN' := newsStay (by assumption) zst'); (try k_sweep); (try dsimp only)))
  k_with "my back1" => ((intro zh' ztk' zt' zst'; (have zF' := frStay (by assumption) zst'); (have zN' := newsStay (by assumption) zst'); (try k_sweep); (try dsimp only)))
  k_with "my new" => (((rename Heap.StaysIn _ _ => zst'); (rename Heap.get? _ _ = none => fr'); (rename Heap.get? _ _ = some _ => hr'); (have zF' := frStay (by assumption) zst'); (have zN' := newsNew (by assumption) (by assumption) zst' fr' hr'); obtain ⟨zN', zl1⟩ := zN'; (simp only [AllNe, and_true] at zl1); clear fr' hr'; (try k_sweep); (try dsimp only)))
  trivial



theorem fillF5 : PySem.Challenge.rw_wb0022_01 = PySem.Challenge.rw_wb0022_01 ∧ K0 = K0 := by
  k_fill
  exact ⟨rfl, rfl⟩

section
variable {prog : Program} {w : World} {A : Around} {s : Shared} {K : Frag} {R : Result → Shared → Prop}
theorem enter_star {name qual n1 n2 : Str} {params : Arguments} {body : List Stmt} {scope : Scope} {dV kV doc pm cdv ct oc : Value} {an od : Option Addr} {osl : Array (Option Value)} {f : Addr} {args : List Value}
    (X : K.In s.heap) (hlim : s.heap.NoLimit)
    (ho : K.lookup f = some ⟨oc, od, .func (fnOf name qual params body scope dV kV doc pm an cdv ct), osl⟩) (hcd : codeIn K cdv qual = true) (hroom : A.depth < recursionLimit)
    (hbind : bindArgs (fnOf name qual params body scope dV kV doc pm an cdv ct) ⟨args, []⟩ = (newTuple args >>= fun t => alloc { cls := .type "dict", data := .dict #[] } >>= fun d => pure [(n1, t), (n2, .ref d)]))
    (hl1 : scope.names.lookup n1 = some .local) (hl2 : scope.names.lookup n2 = some .local) (hsz : args.length ≤ sizeLine)
    (h : ∀ L h₁ a d o, Fr s.heap L h₁ (fun y => [(n1, .ref a), (n2, .ref d)].reverse.lookup y) → News s.heap L h₁ [(a, { cls := .type "tuple", data := .seq args.toArray }), (d, o)] → @Ne Nat a d → (d == sysModules) = false → o.IsDictOf (strKind prog w) [] →
      wpAny (model prog w) (A.deeper (envOf qual scope L f cdv)) (execs body (envOf qual scope L f cdv))
        (fun fl s' => R (.ok (.ret (match fl with | .ret v => v | _ => .none))) s')
        (fun _ _ => False)
        { s with heap := h₁, toks := s.toks + 2 })
    (hco : scope.isCoroutine = false) (hgen : scope.isGenerator = false) (hk : scope.kind = .function)
    (hcell : ∀ x ∈ scope.names, x.2 ≠ .cell) : codeAny (model prog w) A (.call (.ref f) ⟨args, []⟩) R s := by
  refine codeAny_call_function (fd := fnOf name qual params body scope dV kV doc pm an cdv ct) (body := body) hroom (X _ _ ho) rfl hco hgen rfl (codeRec_of X hcd) ?_
  rw [hbind]
  refine wpAny_bind (wpAny_newObj_type ?_ (by show args.toArray.size ≤ sizeLine; rw [List.size_toArray]; exact hsz))
  refine wpAny_bind (wpAny_alloc (wpAny_pure ?_))
  have hloc : ∀ x ∈ [(n1, Value.ref s.heap.objs.size), (n2, Value.ref (s.heap.push { cls := .type "tuple", data := .seq args.toArray }).objs.size)], scope.names.lookup x.1 = some .local := by
    intro x hx
    simp only [List.mem_cons, List.not_mem_nil, or_false] at hx
    rcases hx with rfl | rfl
    · exact hl1
    · exact hl2
  generalize hH : (s.heap.push { cls := .type "tuple", data := .seq args.toArray }).push { cls := .type "dict", data := .dict #[] } = H
  have ksH : s.heap.StaysIn H := fun b o e => hH ▸ Heap.get?_push_of_some _ (Heap.get?_push_of_some _ e)
  have hA : H.get? s.heap.objs.size = some { cls := .type "tuple", data := .seq args.toArray } := hH ▸ Heap.get?_push_of_some _ (Heap.get?_push_size _ rfl)
  have hD : H.get? (s.heap.push { cls := .type "tuple", data := .seq args.toArray }).objs.size = some { cls := .type "dict", data := .dict #[] } := hH ▸ Heap.get?_push_size _ rfl
  have hsz1 : (s.heap.push { cls := .type "tuple", data := .seq args.toArray }).objs.size = s.heap.objs.size + 1 := Heap.size_push ..
  have fresh : ∀ b, s.heap.objs.size ≤ b → s.heap.get? b = none := fun b hb => Heap.get?_none_of_le hb
  have hds : ({ cls := .type "dict", data := .dict #[] } : Obj).IsDictOf (strKind prog w) [] := by
    obtain ⟨o, ho, hd⟩ := Heap.dictOf_iff.mp (Heap.DictOf.new (knd := strKind prog w) s.heap)
    rw [Heap.get?_push_size _ rfl] at ho
    exact (Option.some.inj ho) ▸ hd
  have hbig := modules_low hlim
  have hsH : H.objs.size = s.heap.objs.size + 2 := by rw [← hH, Heap.size_push, hsz1]
  refine wpAny_newFunctionEnv hcell hloc (fun h₁ hns hsb => ⟨(hlim.keeps ksH).fresh _ hsb, codeAny_func ?_⟩) hk
  dsimp only at hns hsb ⊢
  have hk₁ : ∀ b o, H.get? b = some o → h₁.get? b = some o := fun b o e => hsb.extBut b o (Nat.ne_of_lt (Heap.lt_size e)) (Heap.get?_push_of_some _ e)
  refine wpAny_mono (h _ h₁ s.heap.objs.size (s.heap.push { cls := .type "tuple", data := .seq args.toArray }).objs.size _ ⟨hns, fun b o e => hk₁ b o (ksH b o e), by rw [hsH]; exact Nat.le_add_right _ _⟩ ?_ ?_ ?_ hds) (fun _ _ x => x) (fun _ _ x => x.elim)
  · intro p hp
    simp only [List.mem_cons, List.not_mem_nil, or_false] at hp
    rcases hp with rfl | rfl
    · exact ⟨hk₁ _ _ hA, by rw [hsH]; exact Nat.ne_of_lt (Nat.lt_add_of_pos_right (by decide)), fresh _ (Nat.le_refl _)⟩
    · exact ⟨hk₁ _ _ hD, by rw [hsH, hsz1]; exact Nat.ne_of_lt (Nat.lt_succ_self _), fresh _ (by rw [hsz1]; exact Nat.le_succ _)⟩
  · rw [hsz1]; exact Nat.ne_of_lt (Nat.lt_succ_self _)
  · rw [hsz1]; exact beq_eq_false_iff_ne.mpr (Nat.ne_of_gt (Nat.lt_succ_of_lt hbig))
end

variable {w : World} {mean : ExcName → Option Value} {mg mb : Str → Option Value} {s : Shared} {R : Result → Shared → Prop} {hb : Heap}
theorem regF5_2 : True := by
  k_with "call ref" => ((k_here; refine wpAny_call (codeAny_lv (c_cpath (by assumption) (Fr.keep (by assumption)) ((‹News _ _ _ _› _ (.head _)).1) ((‹News _ _ _ _› _ (.tail _ (.head _))).1) (by assumption) (by assumption) ((‹News _ _ _ _› _ (.head _)).2.2) ((‹News _ _ _ _› _ (.tail _ (.head _))).2.2) ?_) rfl (Nat.le_of_ble_eq_true rfl) (Nat.le_of_ble_eq_true rfl)); walk_at "my back0"))
  trivial


theorem c_normpath {p : Str} {t2 : Tok}
    (W : Wd w mean mg mb s.heap) (hp : p.length ≤ 1000) (hne : p.length ≠ 0) (h1 : (Txt.slice p none (some 1) != Str.ofString "/") = false) (h2 : (Txt.slice p (some 1) (some 2) != Str.ofString "/") = true)
    (hcl : (Txt.split (Txt.slice p (some 1) none) (Str.ofString "/")).length ≤ 1000)
    (hgood : ∀ c ∈ Txt.split (Txt.slice p (some 1) none) (Str.ofString "/"), (c == Str.ofString ".") = false ∧ (c != Str.ofString "..") = true)
    (hjo : JoinOk (Str.ofString "/") ((Txt.split (Txt.slice p (some 1) none) (Str.ofString "/")).filter fun c => c != Str.ofString "") = true)
    (hjl : (Txt.join (Str.ofString "/") ((Txt.split (Txt.slice p (some 1) none) (Str.ofString "/")).filter fun c => c != Str.ofString "")).length ≤ 1500)
    (ret : ∀ h' tk' t, s.heap.StaysIn h' → R (.ok (.ret (.str (Txt.slice (Str.ofString "/" ++ Txt.join (Str.ofString "/") ((Txt.split (Txt.slice p (some 1) none) (Str.ofString "/")).filter fun c => c != Str.ofString "") ++ Str.ofString "/") none (some (-1))) t))) { s with heap := h', toks := tk' }) :
    codeAny (model P0 w) (lv 370 700) (.call (.ref 178) ⟨[.str p t2], []⟩) R s := by
  replace hjo := Hid.mk hjo
  replace hjl := Hid.mk hjl
  replace hgood := Hid.mk hgood
  replace hcl := Hid.mk hcl
  have KX := W.X
  have KT := W.T
  have ff : PyProof.V.FlatPairs PyData.str ([] : List (Str × Value)) [] := .nil
  refine' enter_star (n1 := Str.ofString "args") (n2 := Str.ofString "kwargs") ?kX ?kL ?k6 ?k7 ?k8 ?k9 ?kB1 ?kB2 ?kz ?_ ?c2 ?c3 ?c4 ?c5
  (case kX => k_asm)
  (case kL => exact Top.nolimit (by assumption))
  k_dflt ((case k6 => k_is); (case k7 => k_is); (case k8 => decide); (case k9 => rfl); (case kB1 => rfl); (case kB2 => rfl); (case kz => exact Nat.le_of_ble_eq_true rfl); (case c2 => exact rfl); (case c3 => exact rfl); (case c4 => exact rfl); (case c5 => decide); k_whole)
  intro L' h' a d o F' N' l1 lo ho
  k_fold
  k_steps
  refine wpAny_call (codeAny_lv (c_norm (Wd.keeps (by assumption) (Fr.keep (by assumption))) hp hne h1 h2 hcl.out hgood.out hjo.out hjl.out ?_) rfl (Nat.le_of_ble_eq_true rfl) (Nat.le_of_ble_eq_true rfl))
  walk_at "my back1"
  exact ret _ _ _ (Fr.keep (by assumption))


def normOf (p : Str) : Str := Txt.slice (Str.ofString "/" ++ Txt.join (Str.ofString "/") ((Txt.split (Txt.slice p (some 1) none) (Str.ofString "/")).filter fun c => c != Str.ofString "") ++ Str.ofString "/") none (some (-1))
structure NormOk (p N : Str) : Prop where
  hp : p.length ≤ 1000
  hne : p.length ≠ 0
  h1 : (Txt.slice p none (some 1) != Str.ofString "/") = false
  h2 : (Txt.slice p (some 1) (some 2) != Str.ofString "/") = true
  hcl : (Txt.split (Txt.slice p (some 1) none) (Str.ofString "/")).length ≤ 1000
  hgood : ∀ c ∈ Txt.split (Txt.slice p (some 1) none) (Str.ofString "/"), (c == Str.ofString ".") = false ∧ (c != Str.ofString "..") = true
  hjo : JoinOk (Str.ofString "/") ((Txt.split (Txt.slice p (some 1) none) (Str.ofString "/")).filter fun c => c != Str.ofString "") = true
  hjl : (Txt.join (Str.ofString "/") ((Txt.split (Txt.slice p (some 1) none) (Str.ofString "/")).filter fun c => c != Str.ofString "")).length ≤ 1500
  eq : normOf p = N

theorem c_normpathN {p N : Str} {t2 : Tok} (W : Wd w mean mg mb s.heap) (hn : NormOk p N)
    (ret : ∀ h' tk' t, s.heap.StaysIn h' → R (.ok (.ret (.str N t))) { s with heap := h', toks := tk' }) :
    codeAny (model P0 w) (lv 370 700) (.call (.ref 178) ⟨[.str p t2], []⟩) R s :=
  c_normpath W hn.hp hn.hne hn.h1 hn.h2 hn.hcl hn.hgood hn.hjo hn.hjl fun h' tk' t st => by
    have := ret h' tk' t st
    rw [← hn.eq] at this
    exact this

end Mine
end
section
theorem Mine.regQ_0 : True := by
  k_with_none
  trivial
open PySem PySem.W PySem.Calls PyProof.Rows
set_option Elab.async false
set_option maxRecDepth 100000
namespace Mine
set_option maxHeartbeats 4000000

theorem news_upd {h₀ h h' : Heap} {L d : Addr} {o o' : Obj} {news news' : List (Addr × Obj)} (U : Upd d o o' news news') (N : News h₀ L h news) (hs : Heap.SameBut d h h') (ho : h'.get? d = some o') : News h₀ L h' news' := by
  obtain ⟨pre, post, rfl, rfl, h1, h2⟩ := U.split
  have hd := N (d, o) (List.mem_append_right _ (.head _))
  intro p hp
  rcases List.mem_append.mp hp with hp | hp
  · exact ⟨hs.extBut _ _ (h1 p hp) (N p (List.mem_append_left _ hp)).1, (N p (List.mem_append_left _ hp)).2⟩
  · rcases List.mem_cons.mp hp with rfl | hp
    · exact ⟨ho, hd.2⟩
    · exact ⟨hs.extBut _ _ (h2 p hp) (N p (List.mem_append_right _ (.tail _ hp))).1, (N p (List.mem_append_right _ (.tail _ hp))).2⟩
theorem upd_mem {d : Addr} {o o' : Obj} {news news' : List (Addr × Obj)} (U : Upd d o o' news news') : (d, o) ∈ news := by
  obtain ⟨pre, post, rfl, rfl, _, _⟩ := U.split
  exact List.mem_append_right _ (.head _)
theorem fr_upd {h₀ h h' : Heap} {L d : Addr} {o : Obj} {m : Str → Option Value} {news : List (Addr × Obj)} (F : Fr h₀ L h m) (N : News h₀ L h news) (hm : (d, o) ∈ news) (hs : Heap.SameBut d h h') : Fr h₀ L h' m :=
  ⟨F.ns.sameBut hs (Ne.symm (N _ hm).2.1), fun b x e => hs.extBut b x (fun q => by rw [q, (N _ hm).2.2] at e; cases e) (F.keep b x e), F.above⟩

def slicePut (items new : Array Value) (lo hi : Option Int) : Array Value :=
  items.extract 0 (sliceBounds lo hi none items.size).1.toNat ++ new ++ items.extract (max (sliceBounds lo hi none items.size).1 (sliceBounds lo hi none items.size).2.1).toNat items.size

section
variable {prog : Program} {w : World} {A : Around} {E : Value → Shared → Prop} {s : Shared}
theorem setItem_list_slice {l sl v : Addr} {items new : Array Value} {n : Nat} {vl vu : Value} {lo hi : Option Int} {Q : Unit → Shared → Prop} (hl : s.heap.get? l = some (PySem.W.listOf items n))
    (hs : s.heap.IsSliceOf sl vl vu .none) (pl : IsPart vl lo) (pu : IsPart vu hi) (hv : s.heap.IsList v new) (hne : l ≠ v) (hsz : items.size + new.size ≤ sizeLine) (hsz2 : (slicePut items new lo hi).size ≤ sizeLine)
    (hQ : ∀ h' n', h'.get? l = some (PySem.W.listOf (slicePut items new lo hi) n') → Heap.SameBut l s.heap h' → Q () { s with heap := h' }) :
    wpAny (model prog w) A (setItem (.ref l) (.ref sl) (.ref v)) Q E s := by
  have hL : s.heap.IsList l items := ⟨_, hl, rfl, n, rfl⟩
  obtain ⟨os, hos, hcs, hds⟩ := id hs
  obtain ⟨ov, hov, hcv, nv, hdv⟩ := id hv
  have hTs : s.TypeIs (.ref sl) "slice" := ⟨os, hos, hcs⟩
  unfold setItem
  try with_reducible refine wpAny_holding ?_
  first | refine wpAny_bind (wpAny_pure ?_) | skip
  refine wpAny_bind (wpAny_sequenceKey hL.typeIs (by decide) ?_)
  refine wpAny_bind (wpAny_callSpecial?_slot (name := Str.ofString "__setitem__") hL.typeIs slot_list_setitem
    (wpAny_call_entry slot_list_setitem hL.typeIs entry_list_setitem ?_ (args_list_setitem _ _ _)))
  show wpAny _ _ (Builtin.List.listSubscript? (.ref sl) >>= _) _ _ s
  refine wpAny_bind ?_
  unfold Builtin.List.listSubscript?
  refine wpAny_bind (wpAny_specialOf hTs slice_no_index ?_)
  simp only [Option.isNone_none, if_true]
  refine wpAny_pure ?_
  show wpAny _ _ (typeOf (.ref sl) >>= _) _ _ s
  refine wpAny_bind (wpAny_typeOf hTs ?_)
  rw [if_neg (by decide)]
  rw [listSliceParts_eq]
  refine wpAny_bind (wpAny_bind (wpAny_field hos hds (x := Value.none) rfl (wpAny_bind (wpAny_listPart .none ?_))))
  rw [if_neg (show ¬ ((rawPart none == rawInt 0) = true) from Bool.false_ne_true)]
  refine wpAny_bind (wpAny_field hos hds (x := vl) rfl (wpAny_bind (wpAny_listPart pl ?_)))
  refine wpAny_bind (wpAny_field hos hds (x := vu) rfl (wpAny_bind (wpAny_listPart pu (wpAny_pure ?_))))
  rw [if_neg (show ¬ (Builtin.List.listSameRef (.ref l) (.ref v) = true) by show ¬ ((l == v) = true); simpa using hne)]
  refine wpAny_bind (m := Builtin.List.listAllItems (.ref v) _) ?_
  unfold Builtin.List.listAllItems
  refine wpAny_bind (wpAny_typeOf hv.typeIs ?_)
  rw [if_pos (by decide)]
  show wpAny _ _ (Builtin.List.listItems (.ref v)) _ _ s
  unfold Builtin.List.listItems
  refine wpAny_bind (wpAny_seqItems hov hdv (wpAny_pure ?_))
  refine wpAny_bind (m := Builtin.List.listItems (.ref l)) ?_
  unfold Builtin.List.listItems
  refine wpAny_bind (wpAny_seqItems hl rfl (wpAny_pure ?_))
  refine wpAny_bind (wpAny_of_eq (sliceIndices_raw lo hi none items.size (by simp)) ?_)
  have hst : (sliceBounds lo hi none items.size).2.2 = 1 := rfl
  rw [hst]
  rw [if_pos (by decide)]
  refine wpAny_bind (wpAny_rule ?_)
  rw [if_neg (show ¬ (Builtin.List.listTooLong (items.size + new.size) = true) by unfold Builtin.List.listTooLong; simpa using hsz)]
  refine wpAny_bind ?_
  show wpAny _ _ (updateSeq l _) _ _ s
  refine wpAny_updateSeq hl rfl ?_ (by omega) (by show (slicePut items new lo hi).size ≤ _; omega)
  refine wpAny_bind (wpAny_letGo (wpAny_pure ⟨_, rfl, wpAny_pure (hQ _ (if (slicePut items new lo hi).size == items.size then n else n + 1) ?_ (Heap.SameBut.update ..))⟩))
  exact Heap.get?_update_self _ hl rfl

/-- delete an item of a ledger's list -/
theorem delItem_led {l : Addr} {items : Array Value} {n : Nat} {i : Int} {u : Tok} {k : Nat} {h₀ : Heap} {L : Addr} {m : Str → Option Value} {news : List (Addr × Obj)} {nw : Nat → List (Addr × Obj)} {Q : Unit → Shared → Prop} (F : Fr h₀ L s.heap m) (N : News h₀ L s.heap news)
    (U : ∀ n', Upd l (PySem.W.listOf items n) (PySem.W.listOf (items.eraseIdxIfInBounds k) n') news (nw n')) (hfit : Builtin.List.listFitsIndex i = true) (hk : seqIndex? i items.size = some k)
    (h : ∀ n' h', Fr h₀ L h' m → News h₀ L h' (nw n') → Q () { s with heap := h' }) (hsz : items.size ≤ sizeLine) : wpAny (model prog w) A (delItem (.ref l) (.int i u)) Q E s := by
  have hm := upd_mem (U 0)
  have hl := (N _ hm).1
  refine P.delItem_list (n := n) (hl := hl) hfit hk (h (if (items.eraseIdxIfInBounds k).size == items.size then n else n + 1) _ (fr_upd F N hm (Heap.SameBut.update ..)) (news_upd (U _) N (Heap.SameBut.update ..) ?_)) hsz
  exact Heap.get?_update_self _ hl rfl

/-- a slice of a list, the new list with no told place -/
theorem slice_led {value slice : Expr} {l : Addr} {items : Array Value} {vl vu : Value} {lo hi : Option Int} {h₀ : Heap} {L : Addr} {m : Str → Option Value} {news : List (Addr × Obj)} {Q : Value → Shared → Prop}
    (F : Fr h₀ L s.heap m) (N : News h₀ L s.heap news) (hl : s.heap.IsList l items) (pl : IsPart vl lo) (pu : IsPart vu hi)
    (h : ∀ r h', Fr h₀ L h' m → News h₀ L h' ((r, PySem.W.listOf (slicePick items lo hi none) 0) :: news) → AllNe r news → Q (.ref r) { s with heap := h' })
    (hsz : items.size ≤ sizeLine)
    (hs : subscripted slice false (.ref l) (.ref s.heap.objs.size) = operate [.ref s.heap.objs.size, .ref l] (getItem (.ref l) (.ref s.heap.objs.size)))
    (ht : ∀ r, letTemporaryGo value (.ref l) r = pure ()) :
    wpAny (model prog w) A (subscriptTail value slice (.ref l) (.ref s.heap.objs.size)) Q E { s with heap := s.heap.push { cls := .type "slice", data := .fields #[vl, vu, .none] } } :=
  slice_list F N hl pl pu (fun h' F' N' => h _ h' F' N' (allNe_of fun p hp e => by
    have := Heap.lt_size (N p hp).1
    rw [e] at this
    exact Nat.lt_irrefl _ (Nat.lt_of_succ_lt this))) hs ht hsz

/-- a slice of a ledger's list set to another list -/
theorem setSlice_led {l v : Addr} {items new : Array Value} {n : Nat} {vl vu : Value} {lo hi : Option Int} {h₀ : Heap} {L : Addr} {m : Str → Option Value} {news : List (Addr × Obj)} {nw : Nat → List (Addr × Obj)} {Q : Unit → Shared → Prop}
    (F : Fr h₀ L s.heap m) (N : News h₀ L s.heap news) (U : ∀ n', Upd l (PySem.W.listOf items n) (PySem.W.listOf (slicePut items new lo hi) n') news (nw n')) (pl : IsPart vl lo) (pu : IsPart vu hi) (hv : s.heap.IsList v new) (hne : l ≠ v)
    (h : ∀ n' h', Fr h₀ L h' m → News h₀ L h' (nw n') → Q () { s with heap := h' }) (hsz : items.size + new.size ≤ sizeLine) (hsz2 : (slicePut items new lo hi).size ≤ sizeLine) :
    wpAny (model prog w) A (setItem (.ref l) (.ref s.heap.objs.size) (.ref v)) Q E { s with heap := s.heap.push { cls := .type "slice", data := .fields #[vl, vu, .none] } } := by
  have F1 := F.push { cls := .type "slice", data := .fields #[vl, vu, .none] }
  have N1 : News h₀ L (s.heap.push { cls := .type "slice", data := .fields #[vl, vu, .none] }) news := N.grown fun _ _ e => Heap.get?_push_of_some _ e
  refine setItem_list_slice (s := { s with heap := s.heap.push { cls := .type "slice", data := .fields #[vl, vu, .none] } }) (N1 _ (upd_mem (U 0))).1 (Heap.IsSliceOf.new ..) pl pu (hv.push _) hne hsz hsz2 fun h' n' ho hs => ?_
  exact h n' h' (fr_upd F1 N1 (upd_mem (U 0)) hs) (news_upd (U n') N1 hs ho)
end

theorem sa_append {vs us : List Value} {xs ys : List Str} (h : StrsAre vs xs) (k : StrsAre us ys) : StrsAre (vs ++ us) (xs ++ ys) := by
  induction h with
  | nil => exact k
  | cons y t h ih => exact .cons y t ih
theorem sa_take {vs : List Value} {xs : List Str} (h : StrsAre vs xs) : ∀ n, StrsAre (vs.take n) (xs.take n) := by
  induction h with
  | nil => intro n; simp only [List.take_nil]; exact .nil
  | cons y t h ih =>
    intro n
    cases n with
    | zero => exact .nil
    | succ n => exact .cons y t (ih n)
theorem sa_drop {vs : List Value} {xs : List Str} (h : StrsAre vs xs) : ∀ n, StrsAre (vs.drop n) (xs.drop n) := by
  induction h with
  | nil => intro n; simp only [List.drop_nil]; exact .nil
  | cons y t h ih =>
    intro n
    cases n with
    | zero => exact .cons y t h
    | succ n => exact ih n

theorem clip_one {n : Nat} (h : 1 ≤ n) : clipAt n 1 = 1 := by
  have := clipAt_nat n 1
  rw [show ((1 : Nat) : Int) = 1 from rfl] at this
  rw [this]; omega
theorem clip_m1 (n : Nat) : clipAt n (-1) = n - 1 := by
  have := clipAt_neg n 1 (Nat.le_refl _)
  rw [show ((1 : Nat) : Int) = 1 from rfl] at this
  exact this

theorem mid_slice {vs : List Value} {y : Str} {xs : List Str} (h : StrsAre vs (y :: xs)) : ∃ ms, slicePick vs.toArray (some 1) (some (-1)) none = ms.toArray ∧ StrsAre ms xs.dropLast := by
  refine ⟨(vs.drop 1).take (vs.length - 1 - 1), ?_, ?_⟩
  · rw [slicePick_plain]
    simp only [Option.elim, List.size_toArray]
    rw [clip_one (by rw [strsAre_length h]; simp), clip_m1]
  · rw [List.dropLast_eq_take]
    have := sa_take (sa_drop h 1) (vs.length - 1 - 1)
    have e : vs.length - 1 - 1 = xs.length - 1 := by rw [strsAre_length h]; simp
    rw [e] at this ⊢
    exact this

theorem mid_put {vs ms : List Value} {y : Str} {xs : List Str} (h : StrsAre vs (y :: xs)) (hne : xs ≠ []) (hm : StrsAre ms xs.dropLast) :
    ∃ us, slicePut vs.toArray ms.toArray (some 1) (some (-1)) = us.toArray ∧ StrsAre us (y :: xs) := by
  have hl : vs.length = xs.length + 1 := strsAre_length h
  have hx : 1 ≤ xs.length := by
    rcases xs with _ | ⟨a, r⟩
    · exact absurd rfl hne
    · simp
  have e0 : vs.toArray.size = xs.length + 1 := by simp [hl]
  refine ⟨vs.take 1 ++ ms ++ vs.drop xs.length, ?_, ?_⟩
  · unfold slicePut
    rw [sliceBounds_plain]
    simp only [Option.elim]
    rw [clip_one (by rw [e0]; omega), clip_m1, e0]
    have e1 : (max ((1 : Nat) : Int) ((xs.length + 1 - 1 : Nat) : Int)).toNat = xs.length := by omega
    rw [e1]
    apply Array.ext'
    simp [List.take_of_length_le, hl]
  · have h1 := sa_append (sa_append (sa_take h 1) hm) (sa_drop h xs.length)
    have e2 : (y :: xs).take 1 ++ xs.dropLast ++ (y :: xs).drop xs.length = y :: xs := by
      have e3 : (y :: xs).drop xs.length = [xs.getLast hne] := by
        conv => lhs; rw [← List.dropLast_concat_getLast hne]
        rw [List.length_append, List.length_dropLast, List.length_singleton]
        rw [show y :: (xs.dropLast ++ [xs.getLast hne]) = (y :: xs.dropLast) ++ [xs.getLast hne] from rfl]
        rw [List.drop_append_of_le_length (by simp)]
        rw [List.drop_of_length_le (by simp)]
        rfl
      rw [e3]
      show y :: [] ++ xs.dropLast ++ _ = _
      rw [List.append_assoc, List.dropLast_concat_getLast hne]; rfl
    rw [e2] at h1
    exact h1

theorem sa_snoc_take {ys : List Value} {xs : List Str} {i : Nat} {y : Str} {t : Tok} (h : StrsAre ys (xs.take i)) (hy : xs[i]? = some y) : StrsAre (ys ++ [.str y t]) (xs.take (i + 1)) := by
  rw [List.take_add_one, hy]
  exact strsAre_snoc h y t
theorem sa_take_all {ys : List Value} {xs : List Str} {ms : List Value} (hm : StrsAre ms xs) (h : StrsAre ys (xs.take ms.toArray.size)) : StrsAre ys xs := by
  rwa [List.take_of_length_le (by rw [List.size_toArray, strsAre_length hm]; exact Nat.le_refl _)] at h
theorem off1_ne {D : Addr} : ∀ {l : List (Addr × Obj)}, LCg.Off1 D l → AllNe D l
  | [], _ => trivial
  | _ :: _, x => ⟨x.1, off1_ne x.2⟩

theorem ne_dict_list {prog : Program} {w : World} {h₀ h : Heap} {L a d : Addr} {o : Obj} {c : Value} {xs : Array Value} {n : Nat} {sl : Array (Option Value)} {dd : Option Addr} {news : List (Addr × Obj)} {kvs : List (Str × Value)} (N : News h₀ L h news) (ha : (a, ({ cls := c, dict := dd, data := .seq xs n, slots := sl } : Obj)) ∈ news) (hd : (d, o) ∈ news)
    (ho : o.IsDictOf (strKind prog w) kvs) : @Ne Nat d a := by
  intro e
  have h1 := (N _ ha).1
  have h2 := (N _ hd).1
  dsimp only at h1 h2
  rw [← e, h2] at h1
  cases h1
  obtain ⟨es, ep, _, hd, _⟩ := ho
  cases hd

theorem stored_1 {a b : Str} {v w u : Value} (h : a ≠ b) : stored (stored [(a, v)] b w) a u = [(a, u), (b, w)] := by
  simp [stored, h, Ne.symm h]
theorem stored_2 {a b : Str} {v w u z : Value} (h : a ≠ b) : stored (stored [(a, v), (b, z)] b w) a u = [(a, u), (b, w)] := by
  simp [stored, h, Ne.symm h]

end Mine
end
section
open PySem PySem.W PySem.Calls PyProof.Rows
set_option Elab.async false
set_option maxRecDepth 100000
namespace Mine
set_option maxHeartbeats 4000000
set_option pp.deepTerms false
set_option pp.maxSteps 3000
theorem regF6_1 : True := by
  k_with_none
  k_with "my enter" => (((case kX => k_asm); (case kL => exact Top.nolimit (by assumption)); (case kS => first | exact fun _ _ e => e | exact hide_stays _ _); (case kZ => first | exact Nat.le_refl _ | exact Nat.le_of_eq (hideAll_size _ _)); (case kN => first | assumption | exact List.forall_mem_nil _); (case k6 => k_is); (case k7 => k_is); (case k8 => decide); (case k9 => exact BindsTo.of_eq rfl); (case kB => exact locs rfl); (case c2 => exact rfl); (case c3 => exact rfl); (case c4 => exact rfl); (case c5 => decide); k_whole; intro zL' zh' zF' zN' zl1; (try dsimp only [List.reverse_cons, List.reverse_nil, List.nil_append, List.cons_append])))
  k_with "my back0" => ((intro zh' ztk' zst'; (have zF' := frStay (by assumption) zst'); (have zN' := newsStay (by assumption) zst'); (try k_sweep); (try dsimp only)))
  k_with "my back1" => ((intro zh' ztk' zt' zst'; (have zF' := frStay (by assumption) zst'); (have zN' := newsStay (by assumption) zst'); (try k_sweep); (try dsimp only)))
  k_with "my new" => (((rename Heap.StaysIn _ _ => zst'); (rename Heap.get? _ _ = none => fr'); (rename Heap.get? _ _ = some _ => hr'); (have zF' := frStay (by assumption) zst'); (have zN' := newsNew (by assumption) (by assumption) zst' fr' hr'); obtain ⟨zN', zl1⟩ := zN'; (simp only [AllNe, and_true] at zl1); clear fr' hr'; (try k_sweep); (try dsimp only)))
  k_with "my ne" => ((rename AllNe _ _ => l1; (simp only [AllNe, and_true] at l1)))
  k_with "my part" => (first | exact IsPart.none | exact IsPart.int _ _)
  k_with "my size" => (first | size_fits | ((try simp only [List.size_toArray]); rw [sizeLine_eq]; omega))
  k_with "subscriptTail Name Slice ref ref" => ((k_here; (with_reducible show wpAny _ _ (subscriptTail _ (Expr.Slice _ _ none _) (Value.ref _) (Value.ref _)) _ _ _); k_dflt (focus (refine' slice_led (s := ⟨_, _, _, _, _⟩) ?_ ?_ ?_ ?_ ?_ ?_ ?_ ?_ ?_; rotate_left 7; k_asm; k_asm; (exact News.isList (by k_asm) (by k_mem)); (walk_at "my part"); (walk_at "my part"); rotate_left; (walk_at "my size"); (with_unfolding_all rfl); (intro _; with_unfolding_all rfl))); (intro zr' zh' zF' zN' zl1; (simp only [AllNe, and_true] at zl1); (try k_sweep))))
  trivial


theorem fillF6 : PySem.Challenge.rw_wb0022_01 = PySem.Challenge.rw_wb0022_01 ∧ K0 = K0 := by
  k_fill
  exact ⟨rfl, rfl⟩

variable {w : World} {mean : ExcName → Option Value} {mg mb : Str → Option Value} {s : Shared} {R : Result → Shared → Prop} {hb : Heap}

theorem regF6_2 : True := by
  k_with "eval ListComp" => ((with_reducible refine stop_of ?_))
  k_with "eval ListComp Name cons" => ((with_reducible refine stop_of ?_))
  k_with "CompSrcT" => ((with_reducible refine stop_of ?_))
  k_with "setItem ref ref ref" => ((with_reducible refine stop_of ?_))
  k_with "delItem ref int" => ((with_reducible refine stop_of ?_))
  k_with "call builtin:str.join" => ((k_here; refine SC.join (News.isList (by assumption) (by k_mem)) (by assumption) (by assumption) ?_; intro zt' zk'))
  k_with "CompEnd" => ((with_reducible refine stop_of ?_))
  k_with "call ref" => ((k_here; refine wpAny_call (codeAny_lv (c_normpathN (Wd.keeps (by assumption) (Fr.keep (by assumption))) (by assumption) ?_) rfl (Nat.le_of_ble_eq_true rfl) (Nat.le_of_ble_eq_true rfl)); walk_at "my back1"))
  trivial


theorem nz_of {y : Str} (h : y ≠ Str.ofString "") : (y.length : Int) ≠ 0 := fun e => h (of_decide_eq_true (by have := is_empty e; simpa using this))
theorem c_shift0 {d : Addr} {o : Obj} {T x N N2 : Str} {rest : List Str} {t1 : Tok}
    (W : Wd w mean mg mb hb) (st : hb.StaysIn s.heap) (hd' : s.heap.get? d = some o) (nd : hb.get? d = none) (lo : (d == sysModules) = false) (ho : o.IsDictOf (strKind P0 w) [(Str.ofString "PATH_INFO", .str T t1)])
    (hT : T.length ≤ 1000) (hT0 : T.length ≠ 0) (hsp : Txt.split T (Str.ofString "/") = Str.ofString "" :: x :: rest) (hrl : rest.length ≤ 500) (hgood : ∀ y ∈ (x :: rest).dropLast, y ≠ Str.ofString "" ∧ y ≠ Str.ofString ".")
    (hx : (x == Str.ofString ".") = false) (hxl : x.length ≤ 100) (hNk : NormOk (Str.ofString "" ++ Str.ofString "/" ++ x) N) (hNe : Txt.endswith N (Str.ofString "/") = false) (hNl : N.length ≤ 1000)
    (hjo : JoinOk (Str.ofString "/") (Str.ofString "" :: rest) = true)
    (hN2 : (x.length ≠ 0 → N2 = N) ∧ (x.length = 0 → N2 = N ++ Str.ofString "/"))
    (ret : ∀ h' tk' o' ta tb tx, But [d] s.heap h' → h'.get? d = some o' → o'.IsDictOf (strKind P0 w) [(Str.ofString "PATH_INFO", .str (Txt.join (Str.ofString "/") (Str.ofString "" :: rest)) ta), (Str.ofString "SCRIPT_NAME", .str N2 tb)] → R (.ok (.ret (.str x tx))) { s with heap := h', toks := tk' }) :
    codeAny (model P0 w) (lv 360 600) (.call (.ref 183) ⟨[.ref d], []⟩) R s := by
  replace hgood := Hid.mk hgood
  replace hsp := Hid.mk hsp
  replace hNk := Hid.mk hNk
  replace hNe := Hid.mk hNe
  replace hjo := Hid.mk hjo
  replace hN2 := Hid.mk hN2
  replace hx := Hid.mk hx
  have W' : Wd w mean mg mb (hideAll s.heap [d]) := W.keeps (hide_keeps st (by simp [nd]))
  have KX := W'.X
  have KT := W'.T
  have ff : PyProof.V.FlatPairs PyData.str [(Str.ofString "PATH_INFO", Value.str T t1)] [(.str (Str.ofString "PATH_INFO"), .str T)] := .cons (.str _ _) .nil
  have NN : ∀ p' ∈ [(d, o)], s.heap.get? p'.1 = some p'.2 ∧ (hideAll s.heap [d]).get? p'.1 = none := by
    intro p' hp'
    rw [List.mem_singleton.mp hp']
    exact ⟨hd', hideAll_none _ (by simp)⟩
  refine' enter (h₀ := hideAll s.heap [d]) (news := [(d, o)]) (binds := [(Str.ofString "environ", .ref d)]) ?kX ?kL ?kS ?kZ ?kN ?k6 ?k7 ?k8 ?k9 ?kB ?_ ?c2 ?c3 ?c4 ?c5
  k_dflt walk_at "my enter"
  k_fold
  k_steps
  rename List (Str × Tok) => l
  rename List.map _ l = _ => hl1
  rename StrsAre (strValues l) _ => hl2
  rename ∀ a : Str, a ∈ List.map _ _ → _ => hl4
  rename News _ _ _ _ => N0
  rename Fr _ _ _ _ => F0
  have hyT : Hid (∀ y ∈ Str.ofString "" :: x :: rest, y.length ≤ 1000) := ⟨fun y hy => Nat.le_trans (hl4 y (by rw [hl1, hsp.out]; exact hy)) hT⟩
  rw [hl1, hsp.out] at hl2
  clear hl1 hl4
  generalize strValues l = vs at hl2 N0 F0
  have hvl : vs.length ≤ 600 := by rw [strsAre_length hl2]; simp only [List.length_cons]; omega
  obtain ⟨pp, epp⟩ : ∃ pp, pp = adrAt N0 0 := ⟨_, rfl⟩
  dsimp only [adrAt, adrOf] at epp
  dsimp only at F0 N0 ⊢
  rw [← epp] at F0 N0
  have ndp := ne_dict_list N0 (.head _) (.tail _ (.head _)) ho
  refine stop_go (LCt.ListComp_T (F₀ := by k_asm) (by with_unfolding_all rfl) (by decide) (by rfl) (by decide) (by rfl) ?_)
  k_steps
  rename News _ _ _ _ => N1
  rename Fr _ _ _ _ => F1
  rename _ ∧ _ => l1
  obtain ⟨ms, ems, hms⟩ := mid_slice hl2
  rw [ems] at N1
  obtain ⟨sl, esl⟩ : ∃ sl, sl = adrAt N1 0 := ⟨_, rfl⟩
  dsimp only [adrAt, adrOf] at esl
  subst esl
  have hml : ms.length ≤ 600 := by
    rw [strsAre_length hms, List.length_dropLast]
    simp only [List.length_cons]
    omega
  refine stop_go (LCt.CompSrcT.ledger (by rfl) F1 N1 (.head _) (by walk_at "my size") (fun g => restT (fun i ys => StrsAre ys (((x :: rest).dropLast).take i)) (by simpa using StrsAre.nil) ?turn ?fin))
  case turn =>
    intro i v I oI C oC D m₂ ys h tk E' hi hP hR hC hx' F N off ne
    obtain ⟨y, t, hy, rfl⟩ := strsAre_get hms (by simpa using hP)
    obtain ⟨g1, g2⟩ := hgood.out y (List.mem_of_getElem? hy)
    have g3 : (y.length : Int) ≠ 0 := nz_of g1
    have g4 : (y != Str.ofString ".") = true := bne_iff_ne.mpr g2
    have g5 : y.length ≤ 1000 := hyT.out y (List.mem_cons_of_mem _ ((List.dropLast_sublist _).subset (List.mem_of_getElem? hy)))
    have off0 := Hid.mk off
    simp only [LCg.Off3, and_true] at off
    clear hP F1 N1
    k_steps
    · exact stop_go (LCg.CompEnd.intro (by assumption) (by assumption) _ (fun _ h => h) off0.out (.inr ⟨_, .head _, rfl, _, rfl⟩) ⟨rfl, sa_snoc_take hR hy⟩)
    · exfalso; omega
  case fin =>
    intro ys hys
    replace hys := sa_take_all hms hys
    intro D h' tk' F' N' o1
    clear F1 N1
    replace o1 := off1_ne o1
    simp only [AllNe, and_true] at o1
    (try dsimp only)
    k_steps
    rename News _ _ _ _ => N2
    rename Fr _ _ _ _ => F2
    refine stop_go ?_
    dsimp only at F2 N2 ⊢
    have hyl : ys.length ≤ 600 := by
      rw [strsAre_length hys, List.length_dropLast]
      simp only [List.length_cons]
      omega
    obtain ⟨us, eus, hus⟩ := mid_put hl2 (List.cons_ne_nil _ _) hys
    have hul : us.length ≤ 600 := by rw [strsAre_length hus]; simp only [List.length_cons]; omega
    refine setSlice_led (s := ⟨_, _, _, _, _⟩) (items := vs.toArray) (new := ys.toArray) (vl := Value.int 1 _) (vu := Value.int (-1) _) (lo := some 1) (hi := some (-1)) F2 N2 (fun n' => by k_upd) (.int _ _) (.int _ _) (News.isList N2 (.head _)) o1.2.1 ?_ (by walk_at "my size") (by rw [eus]; walk_at "my size")
    intro n' h' F' N'
    rw [eus] at N'
    clear eus hys hyl hml hms hvl hl2 F2 N2
    obtain _ | ⟨_, t0, hus⟩ := hus
    obtain _ | ⟨_, tx, hus⟩ := hus
    rename List Value => vr
    (try dsimp only)
    k_steps
    rename News _ _ _ _ => N3
    rename Fr _ _ _ _ => F3
    refine stop_go (delItem_led (items := (Value.str (Str.ofString "") t0 :: Value.str x tx :: vr).toArray) (k := 1) F3 N3 (fun n' => by k_upd) (by decide) (by simp [seqIndex?]; omega) ?_ (by walk_at "my size"))
    intro n2 h' F' N'
    rw [show (Value.str (Str.ofString "") t0 :: Value.str x tx :: vr).toArray.eraseIdxIfInBounds 1 = (Value.str (Str.ofString "") t0 :: vr).toArray by simp] at N'
    obtain ⟨l2, el2, hl2⟩ := strsAre_values (StrsAre.cons (Str.ofString "") t0 hus)
    rw [el2] at N'
    clear F3 N3 el2
    replace hjo := hjo.out
    replace hx := hx.out
    replace hNe := hNe.out
    replace hNk := hNk.out
    (try dsimp only)
    k_steps
    · rename Obj.IsDictOf _ _ _ => hd2
      have e2 := hN2.out.1 (by omega)
      rw [stored_1 (by decide), ← e2] at hd2
      exact ret _ _ _ _ _ _ (but_hide (Fr.keep (by assumption))) ((‹News _ _ _ _› _ (.tail _ (.tail _ (.tail _ (.head _))))).1) hd2
    · rename Obj.IsDictOf _ _ _ => hd2
      have e2 := hN2.out.2 (by omega)
      rw [stored_1 (by decide), ← e2] at hd2
      exact ret _ _ _ _ _ _ (but_hide (Fr.keep (by assumption))) ((‹News _ _ _ _› _ (.tail _ (.tail _ (.tail _ (.head _))))).1) hd2
  · exfalso; omega

end Mine
end
section
open PySem PySem.W PySem.Calls PyProof.Rows
set_option Elab.async false
set_option maxRecDepth 100000
namespace Mine
set_option maxHeartbeats 4000000
set_option pp.deepTerms false
set_option pp.maxSteps 3000
theorem regF6b_1 : True := by
  k_with_none
  k_with "my enter" => (((case kX => k_asm); (case kL => exact Top.nolimit (by assumption)); (case kS => first | exact fun _ _ e => e | exact hide_stays _ _); (case kZ => first | exact Nat.le_refl _ | exact Nat.le_of_eq (hideAll_size _ _)); (case kN => first | assumption | exact List.forall_mem_nil _); (case k6 => k_is); (case k7 => k_is); (case k8 => decide); (case k9 => exact BindsTo.of_eq rfl); (case kB => exact locs rfl); (case c2 => exact rfl); (case c3 => exact rfl); (case c4 => exact rfl); (case c5 => decide); k_whole; intro zL' zh' zF' zN' zl1; (try dsimp only [List.reverse_cons, List.reverse_nil, List.nil_append, List.cons_append])))
  k_with "my back0" => ((intro zh' ztk' zst'; (have zF' := frStay (by assumption) zst'); (have zN' := newsStay (by assumption) zst'); (try k_sweep); (try dsimp only)))
  k_with "my back1" => ((intro zh' ztk' zt' zst'; (have zF' := frStay (by assumption) zst'); (have zN' := newsStay (by assumption) zst'); (try k_sweep); (try dsimp only)))
  k_with "my new" => (((rename Heap.StaysIn _ _ => zst'); (rename Heap.get? _ _ = none => fr'); (rename Heap.get? _ _ = some _ => hr'); (have zF' := frStay (by assumption) zst'); (have zN' := newsNew (by assumption) (by assumption) zst' fr' hr'); obtain ⟨zN', zl1⟩ := zN'; (simp only [AllNe, and_true] at zl1); clear fr' hr'; (try k_sweep); (try dsimp only)))
  k_with "my ne" => ((rename AllNe _ _ => l1; (simp only [AllNe, and_true] at l1)))
  k_with "my part" => (first | exact IsPart.none | exact IsPart.int _ _)
  k_with "my size" => (first | size_fits | ((try simp only [List.size_toArray]); rw [sizeLine_eq]; omega))
  k_with "subscriptTail Name Slice ref ref" => ((k_here; (with_reducible show wpAny _ _ (subscriptTail _ (Expr.Slice _ _ none _) (Value.ref _) (Value.ref _)) _ _ _); k_dflt (focus (refine' slice_led (s := ⟨_, _, _, _, _⟩) ?_ ?_ ?_ ?_ ?_ ?_ ?_ ?_ ?_; rotate_left 7; k_asm; k_asm; (exact News.isList (by k_asm) (by k_mem)); (walk_at "my part"); (walk_at "my part"); rotate_left; (walk_at "my size"); (with_unfolding_all rfl); (intro _; with_unfolding_all rfl))); (intro zr' zh' zF' zN' zl1; (simp only [AllNe, and_true] at zl1); (try k_sweep))))
  trivial


theorem fillF6b : PySem.Challenge.rw_wb0022_01 = PySem.Challenge.rw_wb0022_01 ∧ K0 = K0 := by
  k_fill
  exact ⟨rfl, rfl⟩

variable {w : World} {mean : ExcName → Option Value} {mg mb : Str → Option Value} {s : Shared} {R : Result → Shared → Prop} {hb : Heap}

theorem regF6b_2 : True := by
  k_with "eval ListComp" => ((with_reducible refine stop_of ?_))
  k_with "eval ListComp Name cons" => ((with_reducible refine stop_of ?_))
  k_with "CompSrcT" => ((with_reducible refine stop_of ?_))
  k_with "setItem ref ref ref" => ((with_reducible refine stop_of ?_))
  k_with "delItem ref int" => ((with_reducible refine stop_of ?_))
  k_with "call builtin:str.join" => ((k_here; refine SC.join (News.isList (by assumption) (by k_mem)) (by assumption) (by assumption) ?_; intro zt' zk'))
  k_with "CompEnd" => ((with_reducible refine stop_of ?_))
  k_with "call ref" => ((k_here; refine wpAny_call (codeAny_lv (c_normpathN (Wd.keeps (by assumption) (Fr.keep (by assumption))) (by assumption) ?_) rfl (Nat.le_of_ble_eq_true rfl) (Nat.le_of_ble_eq_true rfl)); walk_at "my back1"))
  trivial


theorem nz_of2 {y : Str} (h : y ≠ Str.ofString "") : (y.length : Int) ≠ 0 := fun e => h (of_decide_eq_true (by have := is_empty e; simpa using this))
theorem c_shift1 {d : Addr} {o : Obj} {T x N N2 S0 : Str} {rest : List Str} {t1 t2 : Tok}
    (W : Wd w mean mg mb hb) (st : hb.StaysIn s.heap) (hd' : s.heap.get? d = some o) (nd : hb.get? d = none) (lo : (d == sysModules) = false) (ho : o.IsDictOf (strKind P0 w) [(Str.ofString "PATH_INFO", .str T t1), (Str.ofString "SCRIPT_NAME", .str S0 t2)])
    (hS0 : S0.length ≤ 500) (hT : T.length ≤ 1000) (hT0 : T.length ≠ 0) (hsp : Txt.split T (Str.ofString "/") = Str.ofString "" :: x :: rest) (hrl : rest.length ≤ 500) (hgood : ∀ y ∈ (x :: rest).dropLast, y ≠ Str.ofString "" ∧ y ≠ Str.ofString ".")
    (hx : (x == Str.ofString ".") = false) (hxl : x.length ≤ 100) (hNk : NormOk (S0 ++ Str.ofString "/" ++ x) N) (hNe : Txt.endswith N (Str.ofString "/") = false) (hNl : N.length ≤ 1000)
    (hjo : JoinOk (Str.ofString "/") (Str.ofString "" :: rest) = true)
    (hN2 : (x.length ≠ 0 → N2 = N) ∧ (x.length = 0 → N2 = N ++ Str.ofString "/"))
    (ret : ∀ h' tk' o' ta tb tx, But [d] s.heap h' → h'.get? d = some o' → o'.IsDictOf (strKind P0 w) [(Str.ofString "PATH_INFO", .str (Txt.join (Str.ofString "/") (Str.ofString "" :: rest)) ta), (Str.ofString "SCRIPT_NAME", .str N2 tb)] → R (.ok (.ret (.str x tx))) { s with heap := h', toks := tk' }) :
    codeAny (model P0 w) (lv 360 600) (.call (.ref 183) ⟨[.ref d], []⟩) R s := by
  replace hgood := Hid.mk hgood
  replace hsp := Hid.mk hsp
  replace hNk := Hid.mk hNk
  replace hNe := Hid.mk hNe
  replace hjo := Hid.mk hjo
  replace hN2 := Hid.mk hN2
  replace hx := Hid.mk hx
  have W' : Wd w mean mg mb (hideAll s.heap [d]) := W.keeps (hide_keeps st (by simp [nd]))
  have KX := W'.X
  have KT := W'.T
  have ff : PyProof.V.FlatPairs PyData.str [(Str.ofString "PATH_INFO", Value.str T t1), (Str.ofString "SCRIPT_NAME", Value.str S0 t2)] [(.str (Str.ofString "PATH_INFO"), .str T), (.str (Str.ofString "SCRIPT_NAME"), .str S0)] := .cons (.str _ _) (.cons (.str _ _) .nil)
  have NN : ∀ p' ∈ [(d, o)], s.heap.get? p'.1 = some p'.2 ∧ (hideAll s.heap [d]).get? p'.1 = none := by
    intro p' hp'
    rw [List.mem_singleton.mp hp']
    exact ⟨hd', hideAll_none _ (by simp)⟩
  refine' enter (h₀ := hideAll s.heap [d]) (news := [(d, o)]) (binds := [(Str.ofString "environ", .ref d)]) ?kX ?kL ?kS ?kZ ?kN ?k6 ?k7 ?k8 ?k9 ?kB ?_ ?c2 ?c3 ?c4 ?c5
  k_dflt walk_at "my enter"
  k_fold
  k_steps
  rename List (Str × Tok) => l
  rename List.map _ l = _ => hl1
  rename StrsAre (strValues l) _ => hl2
  rename ∀ a : Str, a ∈ List.map _ _ → _ => hl4
  rename News _ _ _ _ => N0
  rename Fr _ _ _ _ => F0
  have hyT : Hid (∀ y ∈ Str.ofString "" :: x :: rest, y.length ≤ 1000) := ⟨fun y hy => Nat.le_trans (hl4 y (by rw [hl1, hsp.out]; exact hy)) hT⟩
  rw [hl1, hsp.out] at hl2
  clear hl1 hl4
  generalize strValues l = vs at hl2 N0 F0
  have hvl : vs.length ≤ 600 := by rw [strsAre_length hl2]; simp only [List.length_cons]; omega
  obtain ⟨pp, epp⟩ : ∃ pp, pp = adrAt N0 0 := ⟨_, rfl⟩
  dsimp only [adrAt, adrOf] at epp
  dsimp only at F0 N0 ⊢
  rw [← epp] at F0 N0
  have ndp := ne_dict_list N0 (.head _) (.tail _ (.head _)) ho
  refine stop_go (LCt.ListComp_T (F₀ := by k_asm) (by with_unfolding_all rfl) (by decide) (by rfl) (by decide) (by rfl) ?_)
  k_steps
  rename News _ _ _ _ => N1
  rename Fr _ _ _ _ => F1
  rename _ ∧ _ => l1
  obtain ⟨ms, ems, hms⟩ := mid_slice hl2
  rw [ems] at N1
  obtain ⟨sl, esl⟩ : ∃ sl, sl = adrAt N1 0 := ⟨_, rfl⟩
  dsimp only [adrAt, adrOf] at esl
  subst esl
  have hml : ms.length ≤ 600 := by
    rw [strsAre_length hms, List.length_dropLast]
    simp only [List.length_cons]
    omega
  refine stop_go (LCt.CompSrcT.ledger (by rfl) F1 N1 (.head _) (by walk_at "my size") (fun g => restT (fun i ys => StrsAre ys (((x :: rest).dropLast).take i)) (by simpa using StrsAre.nil) ?turn ?fin))
  case turn =>
    intro i v I oI C oC D m₂ ys h tk E' hi hP hR hC hx' F N off ne
    obtain ⟨y, t, hy, rfl⟩ := strsAre_get hms (by simpa using hP)
    obtain ⟨g1, g2⟩ := hgood.out y (List.mem_of_getElem? hy)
    have g3 : (y.length : Int) ≠ 0 := nz_of g1
    have g4 : (y != Str.ofString ".") = true := bne_iff_ne.mpr g2
    have g5 : y.length ≤ 1000 := hyT.out y (List.mem_cons_of_mem _ ((List.dropLast_sublist _).subset (List.mem_of_getElem? hy)))
    have off0 := Hid.mk off
    simp only [LCg.Off3, and_true] at off
    clear hP F1 N1
    k_steps
    · exact stop_go (LCg.CompEnd.intro (by assumption) (by assumption) _ (fun _ h => h) off0.out (.inr ⟨_, .head _, rfl, _, rfl⟩) ⟨rfl, sa_snoc_take hR hy⟩)
    · exfalso; omega
  case fin =>
    intro ys hys
    replace hys := sa_take_all hms hys
    intro D h' tk' F' N' o1
    clear F1 N1
    replace o1 := off1_ne o1
    simp only [AllNe, and_true] at o1
    (try dsimp only)
    k_steps
    rename News _ _ _ _ => N2
    rename Fr _ _ _ _ => F2
    refine stop_go ?_
    dsimp only at F2 N2 ⊢
    have hyl : ys.length ≤ 600 := by
      rw [strsAre_length hys, List.length_dropLast]
      simp only [List.length_cons]
      omega
    obtain ⟨us, eus, hus⟩ := mid_put hl2 (List.cons_ne_nil _ _) hys
    have hul : us.length ≤ 600 := by rw [strsAre_length hus]; simp only [List.length_cons]; omega
    refine setSlice_led (s := ⟨_, _, _, _, _⟩) (items := vs.toArray) (new := ys.toArray) (vl := Value.int 1 _) (vu := Value.int (-1) _) (lo := some 1) (hi := some (-1)) F2 N2 (fun n' => by k_upd) (.int _ _) (.int _ _) (News.isList N2 (.head _)) o1.2.1 ?_ (by walk_at "my size") (by rw [eus]; walk_at "my size")
    intro n' h' F' N'
    rw [eus] at N'
    clear eus hys hyl hml hms hvl hl2 F2 N2
    obtain _ | ⟨_, t0, hus⟩ := hus
    obtain _ | ⟨_, tx, hus⟩ := hus
    rename List Value => vr
    (try dsimp only)
    k_steps
    rename News _ _ _ _ => N3
    rename Fr _ _ _ _ => F3
    refine stop_go (delItem_led (items := (Value.str (Str.ofString "") t0 :: Value.str x tx :: vr).toArray) (k := 1) F3 N3 (fun n' => by k_upd) (by decide) (by simp [seqIndex?]; omega) ?_ (by walk_at "my size"))
    intro n2 h' F' N'
    rw [show (Value.str (Str.ofString "") t0 :: Value.str x tx :: vr).toArray.eraseIdxIfInBounds 1 = (Value.str (Str.ofString "") t0 :: vr).toArray by simp] at N'
    obtain ⟨l2, el2, hl2⟩ := strsAre_values (StrsAre.cons (Str.ofString "") t0 hus)
    rw [el2] at N'
    clear F3 N3 el2
    replace hjo := hjo.out
    replace hx := hx.out
    replace hNe := hNe.out
    replace hNk := hNk.out
    (try dsimp only)
    k_steps
    · rename Obj.IsDictOf _ _ _ => hd2
      have e2 := hN2.out.1 (by omega)
      rw [stored_2 (by decide), ← e2] at hd2
      exact ret _ _ _ _ _ _ (but_hide (Fr.keep (by assumption))) ((‹News _ _ _ _› _ (.tail _ (.tail _ (.tail _ (.head _))))).1) hd2
    · rename Obj.IsDictOf _ _ _ => hd2
      have e2 := hN2.out.2 (by omega)
      rw [stored_2 (by decide), ← e2] at hd2
      exact ret _ _ _ _ _ _ (but_hide (Fr.keep (by assumption))) ((‹News _ _ _ _› _ (.tail _ (.tail _ (.tail _ (.head _))))).1) hd2
  · exfalso; omega

end Mine
end
section
open PySem PySem.W PySem.Calls PyProof.Rows
set_option Elab.async false
set_option maxRecDepth 100000
namespace Mine
set_option maxHeartbeats 4000000
set_option pp.deepTerms false
set_option pp.maxSteps 3000
theorem regF7_1 : True := by
  k_with_none
  k_with "my enter" => (((case kX => k_asm); (case kL => exact Top.nolimit (by assumption)); (case kS => first | exact fun _ _ e => e | exact hide_stays _ _); (case kZ => first | exact Nat.le_refl _ | exact Nat.le_of_eq (hideAll_size _ _)); (case kN => first | assumption | exact List.forall_mem_nil _); (case k6 => k_is); (case k7 => k_is); (case k8 => decide); (case k9 => exact BindsTo.of_eq rfl); (case kB => exact locs rfl); (case c2 => exact rfl); (case c3 => exact rfl); (case c4 => exact rfl); (case c5 => decide); k_whole; intro zL' zh' zF' zN' zl1; (try dsimp only [List.reverse_cons, List.reverse_nil, List.nil_append, List.cons_append])))
  k_with "my back0" => ((intro zh' ztk' zst'; (have zF' := frStay (by assumption) zst'); (have zN' := newsStay (by assumption) zst'); (try k_sweep); (try dsimp only)))
  k_with "my back1" => ((intro zh' ztk' zt' zst'; (have zF' := frStay (by assumption) zst'); (have zN' := newsStay (by assumption) zst'); (try k_sweep); (try dsimp only)))
  k_with "my new" => (((rename Heap.StaysIn _ _ => zst'); (rename Heap.get? _ _ = none => fr'); (rename Heap.get? _ _ = some _ => hr'); (have zF' := frStay (by assumption) zst'); (have zN' := newsNew (by assumption) (by assumption) zst' fr' hr'); obtain ⟨zN', zl1⟩ := zN'; (simp only [AllNe, and_true] at zl1); clear fr' hr'; (try k_sweep); (try dsimp only)))
  k_with "my ne" => ((rename AllNe _ _ => l1; (simp only [AllNe, and_true] at l1)))
  k_with "my part" => (first | exact IsPart.none | exact IsPart.int _ _)
  k_with "my size" => (first | size_fits | ((try simp only [List.size_toArray]); rw [sizeLine_eq]; omega))
  k_with "subscriptTail Name Slice ref ref" => ((k_here; (with_reducible show wpAny _ _ (subscriptTail _ (Expr.Slice _ _ none _) (Value.ref _) (Value.ref _)) _ _ _); k_dflt (focus (refine' slice_led (s := ⟨_, _, _, _, _⟩) ?_ ?_ ?_ ?_ ?_ ?_ ?_ ?_ ?_; rotate_left 7; k_asm; k_asm; (exact News.isList (by k_asm) (by k_mem)); (walk_at "my part"); (walk_at "my part"); rotate_left; (walk_at "my size"); (with_unfolding_all rfl); (intro _; with_unfolding_all rfl))); (intro zr' zh' zF' zN' zl1; (simp only [AllNe, and_true] at zl1); (try k_sweep))))
  trivial


theorem fillF7 : PySem.Challenge.rw_wb0022_01 = PySem.Challenge.rw_wb0022_01 ∧ K0 = K0 := by
  k_fill
  exact ⟨rfl, rfl⟩

variable {w : World} {mean : ExcName → Option Value} {mg mb : Str → Option Value} {s : Shared} {R : Result → Shared → Prop} {hb : Heap}

theorem regF7_2 : True := by
  k_with "eval ListComp" => ((with_reducible refine stop_of ?_))
  k_with "eval ListComp Name cons" => ((with_reducible refine stop_of ?_))
  k_with "CompSrcT" => ((with_reducible refine stop_of ?_))
  k_with "setItem ref ref ref" => ((with_reducible refine stop_of ?_))
  k_with "delItem ref int" => ((with_reducible refine stop_of ?_))
  k_with "call builtin:str.join" => ((k_here; refine SC.join (News.isList (by assumption) (by k_mem)) (by assumption) (by assumption) ?_; intro zt' zk'))
  k_with "CompEnd" => ((with_reducible refine stop_of ?_))
  k_with "call ref" => ((k_here; refine wpAny_call (codeAny_lv (c_normpathN (Wd.keeps (by assumption) (Fr.keep (by assumption))) (by assumption) ?_) rfl (Nat.le_of_ble_eq_true rfl) (Nat.le_of_ble_eq_true rfl)); walk_at "my back1"))
  trivial


theorem c_shiftN {d : Addr} {o : Obj} {S0 : Str} {t1 t2 : Tok}
    (W : Wd w mean mg mb hb) (st : hb.StaysIn s.heap) (hd' : s.heap.get? d = some o) (nd : hb.get? d = none) (lo : (d == sysModules) = false) (ho : o.IsDictOf (strKind P0 w) [(Str.ofString "PATH_INFO", .str (Str.ofString "") t1), (Str.ofString "SCRIPT_NAME", .str S0 t2)])
    (ret : ∀ h' tk', s.heap.StaysIn h' → R (.ok (.ret .none)) { s with heap := h', toks := tk' }) :
    codeAny (model P0 w) (lv 360 600) (.call (.ref 183) ⟨[.ref d], []⟩) R s := by
  have W' : Wd w mean mg mb (hideAll s.heap [d]) := W.keeps (hide_keeps st (by simp [nd]))
  have KX := W'.X
  have KT := W'.T
  have ff : PyProof.V.FlatPairs PyData.str [(Str.ofString "PATH_INFO", Value.str (Str.ofString "") t1), (Str.ofString "SCRIPT_NAME", Value.str S0 t2)] [(.str (Str.ofString "PATH_INFO"), .str (Str.ofString "")), (.str (Str.ofString "SCRIPT_NAME"), .str S0)] := .cons (.str _ _) (.cons (.str _ _) .nil)
  have NN : ∀ p' ∈ [(d, o)], s.heap.get? p'.1 = some p'.2 ∧ (hideAll s.heap [d]).get? p'.1 = none := by
    intro p' hp'
    rw [List.mem_singleton.mp hp']
    exact ⟨hd', hideAll_none _ (by simp)⟩
  refine' enter (h₀ := hideAll s.heap [d]) (news := [(d, o)]) (binds := [(Str.ofString "environ", .ref d)]) ?kX ?kL ?kS ?kZ ?kN ?k6 ?k7 ?k8 ?k9 ?kB ?_ ?c2 ?c3 ?c4 ?c5
  k_dflt walk_at "my enter"
  k_fold
  k_steps
  rename News _ _ _ _ => N8
  rename Fr _ _ _ _ => F8
  exact ret _ _ (stays_hidden F8 N8 (by intro a ha q hq; rw [List.mem_singleton.mp ha] at hq ⊢; rw [hd'] at hq; cases hq; exact .head _))
end Mine
end
section
theorem Mine.regP1_0 : True := by
  k_with_none
  trivial
open PySem PySem.W PySem.Calls PyProof.Rows
set_option Elab.async false
namespace Mine

theorem sl_eq : Str.ofString "/" = ⟨#[47]⟩ := by decide +kernel
theorem cl_eq : Str.ofString ":" = ⟨#[58]⟩ := by decide +kernel
theorem em_eq : Str.ofString "" = ⟨#[]⟩ := by decide +kernel
def NoSl (y : Str) : Prop := 47 ∉ y.cps.toList
def pathL : List Str → List Nat
  | [] => []
  | y :: r => 47 :: (y.cps.toList ++ pathL r)
/-- the path that names tell -/
def pathT (l : List Str) : Str := ⟨(pathL l).toArray⟩
theorem pathT_nil : pathT [] = Str.ofString "" := by decide +kernel
theorem str_ext {a b : Str} (h : a.cps.toList = b.cps.toList) : a = b := Str.ext' (Array.toList_inj.mp h)
theorem cps_app (a b : Str) : (a ++ b).cps.toList = a.cps.toList ++ b.cps.toList := by
  show (a.cps ++ b.cps).toList = _
  simp
theorem pathL_append : ∀ l m, pathL (l ++ m) = pathL l ++ pathL m
  | [], m => rfl
  | y :: r, m => by simp [pathL, pathL_append r m]
theorem pathT_snoc (l : List Str) (x : Str) : pathT (l ++ [x]) = pathT l ++ Str.ofString "/" ++ x := by
  apply str_ext
  rw [cps_app, cps_app, sl_eq]
  simp [pathT, pathL_append, pathL]
theorem join_cons : ∀ (l : List Str) (x : Str), (Str.join (Str.ofString "/") (x :: l)).cps.toList = x.cps.toList ++ pathL l
  | [], x => by simp [Str.join, pathL]
  | y :: r, x => by
    show (x ++ Str.ofString "/" ++ Str.join (Str.ofString "/") (y :: r)).cps.toList = _
    rw [cps_app, cps_app, join_cons r y, sl_eq]
    simp [pathL]
theorem txt_join (l : List Str) : Txt.join (Str.ofString "/") l = Str.join (Str.ofString "/") l := StrLaws.glued_eq_join _ _
theorem join_path (l : List Str) : Txt.join (Str.ofString "/") (Str.ofString "" :: l) = pathT l := by
  rw [txt_join]
  apply str_ext
  rw [join_cons, em_eq]
  simp [pathT]
theorem cut47 : ∀ {a b u v : List Nat}, 47 ∉ a → 47 ∉ b → (u = [] ∨ ∃ u', u = 47 :: u') → (v = [] ∨ ∃ v', v = 47 :: v') → a ++ u = b ++ v → a = b ∧ u = v
  | [], [], u, v, _, _, _, _, h => ⟨rfl, by simpa using h⟩
  | [], c :: b, u, v, _, hb, hu, _, h => by
    rcases hu with rfl | ⟨u', rfl⟩
    · simp at h
    · simp at h
      exact absurd (List.mem_cons.mpr (.inl h.1)) hb
  | c :: a, [], u, v, ha, _, _, hv, h => by
    rcases hv with rfl | ⟨v', rfl⟩
    · simp at h
    · simp at h
      exact absurd (List.mem_cons.mpr (.inl h.1.symm)) ha
  | c :: a, d :: b, u, v, ha, hb, hu, hv, h => by
    simp only [List.cons_append, List.cons.injEq] at h
    obtain ⟨rfl, h⟩ := h
    obtain ⟨rfl, rfl⟩ := cut47 (fun k => ha (.tail _ k)) (fun k => hb (.tail _ k)) hu hv h
    exact ⟨rfl, rfl⟩
theorem pathL_shape (l : List Str) : pathL l = [] ∨ ∃ u, pathL l = 47 :: u := by
  cases l with
  | nil => exact .inl rfl
  | cons y r => exact .inr ⟨_, rfl⟩
theorem path_inj : ∀ (l m : List Str) (a b : Str), NoSl a → NoSl b → (∀ y ∈ l, NoSl y) → (∀ y ∈ m, NoSl y) → a.cps.toList ++ pathL l = b.cps.toList ++ pathL m → a :: l = b :: m
  | l, m, a, b, ha, hb, hl, hm, h => by
    obtain ⟨h1, h2⟩ := cut47 ha hb (pathL_shape l) (pathL_shape m) h
    rw [str_ext h1]
    match l, m, hl, hm, h2 with
    | [], [], _, _, _ => rfl
    | [], _ :: _, _, _, h2 => simp [pathL] at h2
    | _ :: _, [], _, _, h2 => simp [pathL] at h2
    | y :: r, z :: t, hl, hm, h2 =>
      rw [path_inj r t y z (hl y (.head _)) (hm z (.head _)) (fun q k => hl q (.tail _ k)) (fun q k => hm q (.tail _ k)) (by simpa [pathL] using h2)]
theorem split_join {x : Str} {l : List Str} (h : ∀ y ∈ x :: l, NoSl y) : Txt.split (Str.join (Str.ofString "/") (x :: l)) (Str.ofString "/") = x :: l := by
  have h1 := StrLaws.join_split (Str.join (Str.ofString "/") (x :: l)) (Str.ofString "/")
  have h2 : ∀ p ∈ Txt.split (Str.join (Str.ofString "/") (x :: l)) (Str.ofString "/"), NoSl p := by
    conv => enter [p]; rw [sl_eq]
    exact StrLaws.split_free _ 47
  have h3 := split_pos (Str.join (Str.ofString "/") (x :: l)) (Str.ofString "/")
  generalize Txt.split (Str.join (Str.ofString "/") (x :: l)) (Str.ofString "/") = L at h1 h2 h3
  cases L with
  | nil => simp at h3
  | cons z m =>
    refine path_inj m l z x (h2 z (.head _)) (h x (.head _)) (fun q k => h2 q (.tail _ k)) (fun q k => h q (.tail _ k)) ?_
    rw [← join_cons, ← join_cons, h1]
theorem noSl_nil : NoSl (Str.ofString "") := by rw [em_eq]; simp [NoSl]
theorem split_path {l : List Str} (h : ∀ y ∈ l, NoSl y) : Txt.split (pathT l) (Str.ofString "/") = Str.ofString "" :: l := by
  rw [← join_path, txt_join]
  exact split_join fun y hy => by
    rcases List.mem_cons.mp hy with rfl | hy
    · exact noSl_nil
    · exact h y hy

theorem at_one (x : Str) (c i : Nat) : StrLaws.At x ⟨#[c]⟩ x.length i ↔ x.cps.toList[i]? = some c := StrLaws.subAt_one x c i
theorem rfind_none {x : Str} {c : Nat} (h : c ∉ x.cps.toList) : Txt.rfind x ⟨#[c]⟩ = -1 := by
  rcases rfind_whole x ⟨#[c]⟩ with ⟨e, _⟩ | ⟨i, _, hi, _⟩
  · exact e
  · exact absurd (List.mem_of_getElem? ((at_one x c i).mp hi)) h
theorem rfind_path {l : List Str} {x : Str} (h : NoSl x) : Txt.rfind (pathT (l ++ [x])) (Str.ofString "/") = ((pathT l).length : Nat) := by
  rw [sl_eq]
  have e : (pathT (l ++ [x])).cps.toList = pathL l ++ 47 :: x.cps.toList := by simp [pathT, pathL_append, pathL]
  have el : (pathT l).length = (pathL l).length := by simp [pathT, Str.length]
  have h0 : (pathT (l ++ [x])).cps.toList[(pathT l).length]? = some 47 := by
    rw [e, el, List.getElem?_append_right (Nat.le_refl _)]; simp
  rcases rfind_whole (pathT (l ++ [x])) ⟨#[47]⟩ with ⟨_, hn⟩ | ⟨i, he, hi, hn⟩
  · exact absurd ((at_one _ _ _).mpr h0) (hn _)
  · have : i = (pathT l).length := by
      rcases Nat.lt_trichotomy i (pathT l).length with g | g | g
      · exact absurd ((at_one _ _ _).mpr h0) (hn _ g)
      · exact g
      · have hi := (at_one _ _ _).mp hi
        rw [e, List.getElem?_append_right (by omega)] at hi
        obtain ⟨j, hj⟩ : ∃ j, i - (pathL l).length = j + 1 := ⟨i - (pathL l).length - 1, by omega⟩
        rw [hj] at hi
        exact absurd (List.mem_of_getElem? (by simpa using hi)) h
    rw [he, this]
theorem slice_to {x : Str} {n : Nat} (h : n ≤ x.length) : Txt.slice x none (some (n : Int)) = ⟨(x.cps.toList.take n).toArray⟩ := by
  have := slice_closes_toL (x := x) (j := (n : Int)) (by omega) (by omega)
  simpa using this
theorem slice_from {x : Str} {n : Nat} (h : n ≤ x.length) : Txt.slice x (some (n : Int)) none = ⟨(x.cps.toList.drop n).toArray⟩ := by
  have := slice_closes_fromL (x := x) (i := (n : Int)) (b := (x.length : Int)) (by omega) (by omega) rfl
  have e : (x.cps.toList.drop n).take ((x.length : Int) - (n : Int)).toNat = x.cps.toList.drop n := List.take_of_length_le (by simp [Str.length])
  simp only [Int.toNat_natCast, e] at this
  simpa using this
theorem path_cut {l : List Str} {x : Str} : Txt.slice (pathT (l ++ [x])) none (some ((pathT l).length : Nat)) = pathT l := by
  rw [slice_to (by simp [pathT, Str.length, pathL_append])]
  simp [pathT, Str.length, pathL_append]
theorem path_last {l : List Str} {x : Str} : Txt.slice (pathT (l ++ [x])) (some ((pathT l).length : Nat)) none = pathT [x] := by
  rw [slice_from (by simp [pathT, Str.length, pathL_append])]
  simp [pathT, Str.length, pathL_append]
theorem path_name {l : List Str} {x : Str} : Txt.slice (pathT (l ++ [x])) (some (((pathT l).length : Nat) + 1)) none = x := by
  have e : ((((pathT l).length : Nat) : Int) + 1) = (((pathT l).length + 1 : Nat) : Int) := by omega
  rw [e, slice_from (by simp [pathT, Str.length, pathL_append, pathL])]
  apply str_ext
  simp only [pathT, Str.length, pathL_append, List.size_toArray]
  rw [← List.drop_drop]
  simp [pathL]
theorem path_one {x : Str} : Txt.slice (pathT [x]) (some 1) none = x := by
  have := path_name (l := []) (x := x)
  simpa [pathT, pathL, Str.length] using this
theorem slice_all {x : Str} : Txt.slice x (some 0) none = x := by
  have := slice_from (x := x) (n := 0) (Nat.zero_le _)
  simpa using this
theorem path_len : ∀ {l : List Str}, (∀ y ∈ l, y.length ≤ 2) → (pathT l).length ≤ 3 * l.length
  | [], _ => by simp [pathT, pathL, Str.length]
  | y :: r, h => by
    have h1 := path_len (l := r) (fun q k => h q (.tail _ k))
    have h2 := h y (.head _)
    simp only [pathT, pathL, Str.length, List.size_toArray, List.length_cons, List.length_append, Array.length_toList] at h1 h2 ⊢
    omega
theorem joinOk_small {l : List Str} (h : ∀ y ∈ l, y.length ≤ 1000) (hl : l.length ≤ 500) : JoinOk (Str.ofString "/") l = true := by
  unfold JoinOk
  rw [StrLaws.joinFits h (by rw [sl_eq]; simp only [Str.length, List.size_toArray, List.length_cons, List.length_nil]; omega)]
  rfl
/-- a name of the law's words -/
def Nm (y : Str) : Prop := y = Str.ofString ".a" ∨ y = Str.ofString "a."
theorem dota : Str.ofString ".a" = ⟨#[46, 97]⟩ := by decide +kernel
theorem adot : Str.ofString "a." = ⟨#[97, 46]⟩ := by decide +kernel
theorem Nm.two {y : Str} (h : Nm y) : y.length = 2 := by rcases h with rfl | rfl <;> decide +kernel
theorem Nm.noSl {y : Str} (h : Nm y) : NoSl y := by rcases h with rfl | rfl <;> simp [NoSl, dota, adot]
theorem Nm.noCl {y : Str} (h : Nm y) : 58 ∉ y.cps.toList := by rcases h with rfl | rfl <;> simp [dota, adot]
theorem Nm.ne0 {y : Str} (h : Nm y) : y ≠ Str.ofString "" := by rcases h with rfl | rfl <;> decide +kernel
theorem Nm.ne1 {y : Str} (h : Nm y) : y ≠ Str.ofString "." := by rcases h with rfl | rfl <;> decide +kernel
theorem Nm.ne2 {y : Str} (h : Nm y) : y ≠ Str.ofString ".." := by rcases h with rfl | rfl <;> decide +kernel
def Nms (l : List Str) : Prop := ∀ y ∈ l, Nm y
theorem path_free {l : List Str} (h : ∀ y ∈ l, 58 ∉ y.cps.toList) : Txt.rfind (pathT l) (Str.ofString ":") = -1 := by
  rw [cl_eq]
  refine rfind_none ?_
  show 58 ∉ (pathL l).toArray.toList
  rw [List.toList_toArray]
  induction l with
  | nil => simp [pathL]
  | cons y r ih =>
    simp only [pathL, List.mem_cons, List.mem_append, not_or]
    exact ⟨by decide, h y (.head _), ih fun q k => h q (.tail _ k)⟩
theorem slice_mid {x : Str} {i j : Nat} (h1 : i ≤ j) (h2 : j ≤ x.length) : Txt.slice x (some (i : Int)) (some (j : Int)) = ⟨((x.cps.toList.drop i).take (j - i)).toArray⟩ := by
  have := slice_closesL (x := x) (i := (i : Int)) (j := (j : Int)) (by omega) (by omega) (by omega)
  have e : ((j : Int) - (i : Int)).toNat = j - i := by omega
  rw [e] at this
  simpa using this
theorem path_second {y : Str} {l : List Str} (h : Nm y) : (Txt.slice (pathT (y :: l)) (some 1) (some 2) != Str.ofString "/") = true := by
  have hl : 2 ≤ (pathT (y :: l)).length := by
    have := h.two
    simp only [pathT, pathL, Str.length, List.size_toArray, List.length_cons, List.length_append, Array.length_toList] at this ⊢
    omega
  have := slice_mid (x := pathT (y :: l)) (i := 1) (j := 2) (by decide) hl
  rw [show ((1 : Nat) : Int) = 1 from rfl, show ((2 : Nat) : Int) = 2 from rfl] at this
  rw [this, bne_iff_ne, sl_eq]
  intro e
  rcases h with rfl | rfl <;> simp [pathT, pathL, dota, adot] at e
theorem path_first {y : Str} {l : List Str} : (Txt.slice (pathT (y :: l)) none (some 1) != Str.ofString "/") = false := by
  have hl : 1 ≤ (pathT (y :: l)).length := by simp [pathT, pathL, Str.length]
  have := slice_to (x := pathT (y :: l)) (n := 1) hl
  rw [show ((1 : Nat) : Int) = 1 from rfl] at this
  rw [this, bne_eq_false_iff_eq, sl_eq]
  simp [pathT, pathL]
theorem path_rest {y : Str} {l : List Str} : Txt.slice (pathT (y :: l)) (some 1) none = Str.join (Str.ofString "/") (y :: l) := by
  have hl : 1 ≤ (pathT (y :: l)).length := by simp [pathT, pathL, Str.length]
  have := slice_from (x := pathT (y :: l)) (n := 1) hl
  rw [show ((1 : Nat) : Int) = 1 from rfl] at this
  rw [this]
  apply str_ext
  rw [join_cons]
  simp [pathT, pathL]
theorem drop_tail {y : Str} {l : List Str} : Txt.slice (Str.ofString "/" ++ Str.join (Str.ofString "/") (y :: l) ++ Str.ofString "/") none (some (-1)) = pathT (y :: l) := by
  have e : Str.ofString "/" ++ Str.join (Str.ofString "/") (y :: l) = pathT (y :: l) := by
    apply str_ext
    rw [cps_app, join_cons, sl_eq]
    simp [pathT, pathL]
  rw [e, slice_to_neg (by decide)]
  have hlen : (pathT (y :: l) ++ Str.ofString "/").length = (pathT (y :: l)).length + 1 := by rw [Str.length_append, sl_eq]; rfl
  have em : max 0 (((pathT (y :: l) ++ Str.ofString "/").length : Int) + -1) = (((pathT (y :: l)).length : Nat) : Int) := by rw [hlen]; omega
  rw [em, slice_to (by rw [hlen]; omega)]
  apply str_ext
  rw [cps_app]
  simp [Str.length]
theorem all_noSl {l : List Str} (h : Nms l) : ∀ y ∈ l, NoSl y := fun y hy => (h y hy).noSl
theorem all_two {l : List Str} (h : Nms l) : ∀ y ∈ l, y.length ≤ 2 := fun y hy => Nat.le_of_eq (h y hy).two
theorem filter_nm {l : List Str} (h : Nms l) : (l.filter fun c => c != Str.ofString "") = l := List.filter_eq_self.mpr fun y hy => bne_iff_ne.mpr (h y hy).ne0
theorem norm_name {y : Str} {l : List Str} (h : Nms (y :: l)) (hl : l.length ≤ 100) : NormOk (pathT (y :: l)) (pathT (y :: l)) := by
  have hs : Txt.split (Txt.slice (pathT (y :: l)) (some 1) none) (Str.ofString "/") = y :: l := by rw [path_rest]; exact split_join (all_noSl h)
  have hp := path_len (all_two h)
  simp only [List.length_cons] at hp
  constructor
  · omega
  · simp [pathT, pathL, Str.length]
  · exact path_first
  · exact path_second (h y (.head _))
  · rw [hs]; simp only [List.length_cons]; omega
  · rw [hs]
    exact fun c hc => ⟨beq_eq_false_iff_ne.mpr (h c hc).ne1, bne_iff_ne.mpr (h c hc).ne2⟩
  · rw [hs, filter_nm h]
    exact joinOk_small (fun z hz => by have := (h z hz).two; omega) (by simp only [List.length_cons]; omega)
  · rw [hs, filter_nm h, txt_join]
    rw [← path_rest]
    exact Nat.le_trans (PyProof.Txt.length_slice_le _ _ _) (by omega)
  · unfold normOf
    rw [hs, filter_nm h, txt_join, drop_tail]
theorem norm_end {y : Str} {l : List Str} (h : Nms (y :: l)) (hl : l.length ≤ 100) : NormOk (pathT (y :: l) ++ Str.ofString "/" ++ Str.ofString "") (pathT (y :: l)) := by
  rw [← pathT_snoc]
  have hs : Txt.split (Txt.slice (pathT (y :: l ++ [Str.ofString ""])) (some 1) none) (Str.ofString "/") = y :: l ++ [Str.ofString ""] := by
    rw [List.cons_append, path_rest]
    exact split_join fun z hz => by
      rcases List.mem_append.mp (by simpa using hz : z ∈ (y :: l) ++ [Str.ofString ""]) with hz | hz
      · exact (h z hz).noSl
      · rw [List.mem_singleton.mp hz]; exact noSl_nil
  have hf : ((y :: l ++ [Str.ofString ""]).filter fun c => c != Str.ofString "") = y :: l := by
    rw [List.filter_append, filter_nm h]
    simp
  have hp := path_len (l := y :: l ++ [Str.ofString ""]) fun z hz => by
    rcases List.mem_append.mp hz with hz | hz
    · exact Nat.le_of_eq (h z hz).two
    · rw [List.mem_singleton.mp hz]; decide +kernel
  simp only [List.length_cons, List.length_append, List.length_nil] at hp
  constructor
  · simp only [List.cons_append] at hp ⊢; omega
  · simp [pathT, pathL, Str.length]
  · exact path_first
  · exact path_second (h y (.head _))
  · rw [hs]; simp only [List.length_cons, List.length_append, List.length_nil]; omega
  · rw [hs]
    intro c hc
    rcases List.mem_append.mp hc with hc | hc
    · exact ⟨beq_eq_false_iff_ne.mpr (h c hc).ne1, bne_iff_ne.mpr (h c hc).ne2⟩
    · rw [List.mem_singleton.mp hc]; exact ⟨by decide +kernel, by decide +kernel⟩
  · rw [hs, hf]
    exact joinOk_small (fun z hz => by have := (h z hz).two; omega) (by simp only [List.length_cons]; omega)
  · rw [hs, hf, txt_join]
    rw [← path_rest]
    have hp2 := path_len (all_two h)
    simp only [List.length_cons] at hp2
    exact Nat.le_trans (PyProof.Txt.length_slice_le _ _ _) (by omega)
  · unfold normOf
    rw [hs, hf, txt_join, drop_tail]
theorem path_noEnd {l : List Str} {x : Str} (h : Nm x) : Txt.endswith (pathT (l ++ [x])) (Str.ofString "/") = false := by
  rw [Bool.eq_false_iff]
  intro e
  unfold Txt.endswith at e
  have hx := h.two
  have e1 : (pathT (l ++ [x])).cps.toList = pathL l ++ 47 :: x.cps.toList := by simp [pathT, pathL_append, pathL]
  have e2 : (pathT (l ++ [x])).length = (pathL l).length + 3 := by
    have : (pathT (l ++ [x])).length = (pathT (l ++ [x])).cps.toList.length := by simp [Str.length]
    rw [this, e1]
    simp only [List.length_append, List.length_cons]
    have : x.cps.toList.length = 2 := by simpa [Str.length] using hx
    omega
  rw [sl_eq, Bool.and_eq_true, decide_eq_true_eq] at e
  have g := (at_one (pathT (l ++ [x])) 47 ((pathT (l ++ [x])).length - 1)).mp ⟨by rw [e2]; simp [Str.length], e.2⟩
  rw [e1, e2, List.getElem?_append_right (by omega)] at g
  have : (pathL l).length + 3 - 1 - (pathL l).length = 2 := by omega
  rw [this] at g
  rcases h with rfl | rfl <;> simp [dota, adot] at g
end Mine
end
section
theorem Mine.regS1_0 : True := by
  k_with_none
  trivial
open PySem PySem.W PySem.Calls PyProof.Rows
set_option Elab.async false
set_option maxRecDepth 100000
namespace Mine
set_option maxHeartbeats 4000000
variable {w : World} {mean : ExcName → Option Value} {mg mb : Str → Option Value} {s : Shared} {R : Result → Shared → Prop} {hb : Heap}

/-- names, and at the end perhaps the empty one -/
def Good (l : List Str) : Prop := ∃ a t, l = a ++ t ∧ Nms a ∧ (t = [] ∨ t = [Str.ofString ""])
theorem Good.two {l : List Str} (h : Good l) : ∀ y ∈ l, y.length ≤ 2 := by
  obtain ⟨a, t, rfl, ha, ht⟩ := h
  intro y hy
  rcases List.mem_append.mp hy with hy | hy
  · exact Nat.le_of_eq (ha y hy).two
  · rcases ht with rfl | rfl
    · simp at hy
    · rw [List.mem_singleton.mp hy]; decide +kernel
theorem Good.noSl {l : List Str} (h : Good l) : ∀ y ∈ l, NoSl y := by
  obtain ⟨a, t, rfl, ha, ht⟩ := h
  intro y hy
  rcases List.mem_append.mp hy with hy | hy
  · exact (ha y hy).noSl
  · rcases ht with rfl | rfl
    · simp at hy
    · rw [List.mem_singleton.mp hy]; exact noSl_nil
theorem Good.cons {x : Str} {l : List Str} (h : Good (x :: l)) : (Nm x ∧ Good l) ∨ (x = Str.ofString "" ∧ l = []) := by
  obtain ⟨a, t, e, ha, ht⟩ := h
  cases a with
  | nil =>
    simp only [List.nil_append] at e
    rcases ht with rfl | rfl
    · simp at e
    · simp at e; exact .inr e
  | cons y a =>
    simp only [List.cons_append, List.cons.injEq] at e
    obtain ⟨rfl, rfl⟩ := e
    exact .inl ⟨ha _ (.head _), a, t, rfl, fun q k => ha q (.tail _ k), ht⟩
theorem Good.front {l : List Str} (h : Good l) : ∀ y ∈ l.dropLast, y ≠ Str.ofString "" ∧ y ≠ Str.ofString "." := by
  obtain ⟨a, t, rfl, ha, ht⟩ := h
  intro y hy
  have : y ∈ a := by
    rcases ht with rfl | rfl
    · rw [List.append_nil] at hy; exact (List.dropLast_sublist _).subset hy
    · rwa [List.dropLast_concat] at hy
  exact ⟨(ha y this).ne0, (ha y this).ne1⟩
/-- the environ when some names are told and some are left -/
def EnvIs (w : World) (o : Obj) (done todo : List Str) : Prop :=
  (done = [] ∧ ∃ ta, o.IsDictOf (strKind P0 w) [(Str.ofString "PATH_INFO", .str (pathT todo) ta)]) ∨
  (done ≠ [] ∧ ∃ ta tb, o.IsDictOf (strKind P0 w) [(Str.ofString "PATH_INFO", .str (pathT todo) ta), (Str.ofString "SCRIPT_NAME", .str (pathT done) tb)])

theorem snoc_cons {α : Type} : ∀ (l : List α) (x : α), ∃ y r, l ++ [x] = y :: r
  | [], x => ⟨x, [], rfl⟩
  | y :: r, x => ⟨y, r ++ [x], rfl⟩
theorem norm_any {done : List Str} {x : Str} (hd : Nms done) (hx : Nm x ∨ (x = Str.ofString "" ∧ done ≠ [])) (hl : done.length ≤ 90) :
    ∃ N, NormOk (pathT done ++ Str.ofString "/" ++ x) N ∧ Txt.endswith N (Str.ofString "/") = false ∧ N.length ≤ 1000 ∧ (x.length ≠ 0 → pathT (done ++ [x]) = N) ∧ (x.length = 0 → pathT (done ++ [x]) = N ++ Str.ofString "/") := by
  rcases hx with hx | ⟨rfl, hd0⟩
  · have hn : Nms (done ++ [x]) := fun y hy => by
      rcases List.mem_append.mp hy with hy | hy
      · exact hd y hy
      · rw [List.mem_singleton.mp hy]; exact hx
    refine ⟨pathT (done ++ [x]), ?_, path_noEnd hx, ?_, fun _ => rfl, fun e => ?_⟩
    · rw [← pathT_snoc]
      obtain ⟨y, r, e⟩ := snoc_cons done x
      have el := congrArg List.length e
      simp only [List.length_append, List.length_cons, List.length_nil] at el
      rw [e] at hn ⊢
      exact norm_name hn (by omega)
    · have := path_len (all_two hn)
      simp only [List.length_append, List.length_cons, List.length_nil] at this
      omega
    · have := hx.two; omega
  · obtain ⟨z, r, rfl⟩ := List.exists_cons_of_ne_nil hd0
    refine ⟨pathT (z :: r), norm_end hd (by simp only [List.length_cons] at hl; omega), ?_, ?_, fun e => absurd (by decide +kernel) e, fun _ => ?_⟩
    · have := List.dropLast_concat_getLast (l := z :: r) (by simp)
      rw [← this]
      exact path_noEnd (hd _ (List.getLast_mem _))
    · have := path_len (all_two hd)
      omega
    · rw [pathT_snoc]
      apply str_ext
      rw [cps_app, cps_app, em_eq]
      simp
theorem c_shift {d : Addr} {o : Obj} {done rest : List Str} {x : Str}
    (W : Wd w mean mg mb hb) (st : hb.StaysIn s.heap) (hd' : s.heap.get? d = some o) (nd : hb.get? d = none) (lo : (d == sysModules) = false) (ho : EnvIs w o done (x :: rest))
    (hdn : Nms done) (hgd : Good (x :: rest)) (h0 : x = Str.ofString "" → done ≠ []) (l1 : done.length ≤ 90) (l2 : rest.length ≤ 90)
    (ret : ∀ h' tk' o' ta tb tx, But [d] s.heap h' → h'.get? d = some o' → o'.IsDictOf (strKind P0 w) [(Str.ofString "PATH_INFO", .str (pathT rest) ta), (Str.ofString "SCRIPT_NAME", .str (pathT (done ++ [x])) tb)] → R (.ok (.ret (.str x tx))) { s with heap := h', toks := tk' }) :
    codeAny (model P0 w) (lv 360 600) (.call (.ref 183) ⟨[.ref d], []⟩) R s := by
  have hx : Nm x ∨ (x = Str.ofString "" ∧ done ≠ []) := by
    rcases hgd.cons with h | h
    · exact .inl h.1
    · exact .inr ⟨h.1, h0 h.1⟩
  obtain ⟨N, n1, n2, n3, n4, n5⟩ := norm_any hdn hx l1
  have a1 := path_len hgd.two
  simp only [List.length_cons] at a1
  have a2 : (pathT (x :: rest)).length ≠ 0 := by simp [pathT, pathL, Str.length]
  have a3 := path_len (all_two hdn)
  have a4 := split_path hgd.noSl
  have a5 : (x == Str.ofString ".") = false := by
    rcases hx with hx | ⟨rfl, _⟩
    · exact beq_eq_false_iff_ne.mpr hx.ne1
    · decide +kernel
  have a6 := hgd.two x (.head _)
  have a7 : JoinOk (Str.ofString "/") (Str.ofString "" :: rest) = true := joinOk_small (fun y hy => by
    rcases List.mem_cons.mp hy with rfl | hy
    · decide +kernel
    · have := hgd.two y (.tail _ hy); omega) (by simp only [List.length_cons]; omega)
  rw [← join_path rest] at ret
  rcases ho with ⟨rfl, ta, ho⟩ | ⟨hne, ta, tb, ho⟩
  · rw [pathT_nil] at n1
    exact c_shift0 (N := N) (rest := rest) W st hd' nd lo ho (by omega) a2 a4 (by omega) hgd.front a5 (by omega) n1 n2 n3 a7 ⟨n4, n5⟩ ret
  · exact c_shift1 (N := N) (rest := rest) W st hd' nd lo ho (by omega) (by omega) a2 a4 (by omega) hgd.front a5 (by omega) n1 n2 n3 a7 ⟨n4, n5⟩ ret

theorem AllNe.all {d : Addr} : ∀ {l : List (Addr × Obj)}, AllNe d l → ∀ p ∈ l, p.1 ≠ d
  | [], _, p, hp => nomatch hp
  | q :: r, a, p, hp => by
    rcases List.mem_cons.mp hp with rfl | hp
    · exact a.1
    · exact AllNe.all a.2 p hp
theorem frBut {h₀ h h' : Heap} {L d : Addr} {o o' : Obj} {m : Str → Option Value} {pre news : List (Addr × Obj)} (F : Fr h₀ L h m) (N : News h₀ L h (pre ++ (d, o) :: news)) (k : But [d] h h') (g : h'.get? d = some o') (nf : AllNe d pre) (ne : AllNe d news) :
    Fr h₀ L h' m ∧ News h₀ L h' (pre ++ (d, o') :: news) := by
  have hd := N _ (List.mem_append_right pre (.head _))
  have kk : ∀ b o, b ≠ d → h.get? b = some o → h'.get? b = some o := fun b o n e => k b o (by simpa using n) e
  refine ⟨⟨?_, fun b o e => kk b o (fun e' => by rw [e', hd.2.2] at e; cases e) (F.keep b o e), F.above⟩, ?_⟩
  · obtain ⟨o', e1, e2, ho, e3⟩ := F.ns
    exact ⟨o', e1, e2, kk _ _ (fun e' => hd.2.1 e'.symm) ho, e3⟩
  · intro p hp
    rcases List.mem_append.mp hp with hp | hp
    · exact ⟨kk _ _ (nf.all p hp) (N p (List.mem_append_left _ hp)).1, (N p (List.mem_append_left _ hp)).2⟩
    rcases List.mem_cons.mp hp with rfl | hp
    · exact ⟨g, hd.2⟩
    · exact ⟨kk _ _ (ne.all p hp) (N p (List.mem_append_right _ (.tail _ hp))).1, (N p (List.mem_append_right _ (.tail _ hp))).2⟩
end Mine
end
section
theorem Mine.regM_0 : True := by
  k_with_none
  trivial
open PySem PySem.W PySem.Calls PyProof.Rows
set_option Elab.async false
set_option maxRecDepth 100000
namespace Mine
set_option maxHeartbeats 4000000
section
variable {prog : Program} {w : World} {A : Around} {R : Result → Shared → Prop} {E : Value → Shared → Prop} {s : Shared}

/-- one builtin's loop over a list whose items are compared by what the heap holds -/
theorem max_loop {l I S : Addr} {items : Array Value} (Hp : Heap → Prop) (hfr : ∀ h h', Hp h → (∀ b o, b ≠ I → b ≠ S → h.get? b = some o → h'.get? b = some o) → Hp h') (bt : Nat → Nat → Bool)
    (cmp : ∀ i j vi vj (s : Shared) (Q : Value → Shared → Prop) (E : Value → Shared → Prop), Hp s.heap → items[i]? = some vi → items[j]? = some vj → Q (.bool (bt i j)) s → wpAny (model prog w) A.in1 (richCompare .Gt vi vj) Q E s)
    (hh : A.handled = none) (lI : l ≠ I) (lS : l ≠ S) (SI : S ≠ I) :
    ∀ (k j : Nat) (s : Shared) (vb : Value) (c : Nat), items.size - (j + 1) = k → j + 1 ≤ items.size → s.heap.IsListIter I l (j + 1) → s.heap.IsList l items → Hp s.heap → items[argBest bt j]? = some vb →
      s.heap.get? S = some { cls := .type "list", dict := none, data := .seq #[vb, vb] c, slots := #[] } →
      (∀ v h' tk, items[argBest bt (items.size - 1)]? = some v → (∀ b o, b ≠ I → b ≠ S → s.heap.get? b = some o → h'.get? b = some o) → R (.ok (.ret v)) { s with heap := h', toks := tk }) →
      codeAny (model prog w) A (.builtin "max.loop" ⟨[.ref I, .none, .ref S], []⟩) R s := by
  have hname : (toString "max" ++ toString ".loop" : String) = "max.loop" := by decide
  have hh1 : A.in1.handled = none := hh
  intro k
  induction k with
  | zero =>
    intro j s vb c hk hj hit hl hp hb hS hR
    have hend : items[j + 1]? = none := by simp; omega
    have hlast : items.size - 1 = j := by omega
    refine codeAny_builtin F.entry_max_loop ?_
    rw [Around.under_plainId F.plain_max_loop _]
    show wpAny _ A.in1 (seqItems? (.ref S) >>= _) _ _ s
    refine wpAny_bind (wpAny_seqItems hS rfl ?_)
    show wpAny _ A.in1 (tryCatch (pyNext (.ref I)) _ >>= _) _ _ s
    refine wpAny_bind (wpAny_tryCatch (wpAny_pyNext_list_end hh1 hit hl hend fun h' hx => ?_))
    have hS' := hx S _ SI hS
    show wpAny _ A.in1 (updateSeq S (fun _ => #[]) >>= _) _ _ _
    refine wpAny_bind (wpAny_updateSeq hS' rfl (wpAny_bind (wpAny_letGo (wpAny_pure ?_))))
    refine hR vb _ s.toks (by rw [hlast]; exact hb) fun b o hbI hbS e => ?_
    exact (Heap.get?_update_other _ _ (Ne.symm hbS)).trans (hx b o hbI e)
  | succ k ih =>
    intro j s vb c hk hj hit hl hp hb hS hR
    have hlt : j + 1 < items.size := by omega
    have hv : items[j + 1]? = some items[j + 1] := Array.getElem?_eq_getElem hlt
    refine codeAny_builtin F.entry_max_loop ?_
    rw [Around.under_plainId F.plain_max_loop _]
    show wpAny _ A.in1 (seqItems? (.ref S) >>= _) _ _ s
    refine wpAny_bind (wpAny_seqItems hS rfl ?_)
    show wpAny _ A.in1 (tryCatch (pyNext (.ref I)) _ >>= _) _ _ s
    refine wpAny_bind (wpAny_tryCatch (wpAny_pyNext_list_item hit hl hv fun h' hit' hs' => ?_))
    have keep1 : ∀ b o, b ≠ I → s.heap.get? b = some o → h'.get? b = some o := fun b o hbI e => hs'.extBut b o hbI e
    have hS' := keep1 S _ SI hS
    have hl' : h'.IsList l items := hl.extBut hs'.extBut lI
    have hp' : Hp h' := hfr _ _ hp fun b o hbI _ e => keep1 b o hbI e
    show wpAny _ A.in1 (tryCatch (holding [items[j + 1], items[j + 1]] (richCompare .Gt items[j + 1] vb >>= _)) _ >>= _) _ _ _
    refine wpAny_bind (wpAny_tryCatch (wpAny_holding (wpAny_bind (cmp (j + 1) (argBest bt j) _ vb _ _ _ hp' hv hb ?_))))
    refine wpAny_bind (wpAny_holding (wpAny_truthy_bool ?_))
    refine wpAny_bind (wpAny_letGo (wpAny_pure ?_))
    cases hbt : bt (j + 1) (argBest bt j) with
    | true =>
      simp only [if_true]
      refine wpAny_bind (wpAny_updateSeq hS' rfl (wpAny_bind (wpAny_letGo ?_)))
      rw [hname]
      have keep2 : ∀ b o, b ≠ S → h'.get? b = some o → (h'.update S (Obj.mapSeq fun _ => #[items[j + 1], items[j + 1]])).get? b = some o := fun b o hbS e => (Heap.get?_update_other _ _ (Ne.symm hbS)).trans e
      refine wpAny_pure ⟨plainId_quiet F.plain_max_loop _, ih (j + 1) _ _ _ (by omega) hlt (hit'.at fun o e => keep2 _ o (Ne.symm SI) e) (hl'.at fun o e => keep2 _ o lS e) (hfr _ _ hp' fun b o _ hbS e => keep2 b o hbS e) (by simp only [argBest, hbt, if_true]; exact hv) (Heap.get?_update_self _ hS' rfl) fun v h'' tk'' hv'' hk'' => ?_⟩
      exact hR v h'' tk'' hv'' fun b o hbI hbS e => hk'' b o hbI hbS (keep2 b o hbS (keep1 b o hbI e))
    | false =>
      simp only [Bool.false_eq_true, if_false]
      refine wpAny_bind (wpAny_letGo ?_)
      rw [hname]
      refine wpAny_pure ⟨plainId_quiet F.plain_max_loop _, ih (j + 1) _ _ _ (by omega) hlt hit' hl' hp' (by simp only [argBest, hbt, Bool.false_eq_true, if_false]; exact hb) hS' fun v h'' tk'' hv'' hk'' => ?_⟩
      exact hR v h'' tk'' hv'' fun b o hbI hbS e => hk'' b o hbI hbS (keep1 b o hbI e)

theorem call_max_list {l : Addr} {items : Array Value} {Q : Value → Shared → Prop} (Hp : Heap → Prop) (hfr : ∀ h', s.heap.StaysIn h' → Hp h') (bt : Nat → Nat → Bool)
    (cmp : ∀ i j vi vj (s : Shared) (Q : Value → Shared → Prop) (E : Value → Shared → Prop), Hp s.heap → items[i]? = some vi → items[j]? = some vj → Q (.bool (bt i j)) s → wpAny (model prog w) A.in1 (richCompare .Gt vi vj) Q E s)
    (hh : A.handled = none) (hl : s.heap.IsList l items) (hn : 0 < items.size)
    (hQ : ∀ v h' tk, items[argBest bt (items.size - 1)]? = some v → s.heap.StaysIn h' → Q v { s with heap := h', toks := tk }) :
    wpAny (model prog w) A (call (.builtin "max") [.ref l]) Q E s := by
  have hname : (toString "max" ++ toString ".loop" : String) = "max.loop" := by decide
  have hv : items[0]? = some items[0] := Array.getElem?_eq_getElem hn
  obtain ⟨ol, hol, _⟩ := id hl
  have hlt : l < s.heap.objs.size := Heap.lt_size hol
  refine call_function_tree F.kind_max F.plain_max F.entry_max (F.args_max1 _) ?_
  show wpAny _ A.in1 (Builtin.Builtins.bindParams "max" ["key", "default"] 0 ⟨[], []⟩ >>= _) _ _ s
  refine wpAny_bind (wpAny_of_eq (show Builtin.Builtins.bindParams "max" ["key", "default"] 0 ⟨[], []⟩ = pure [none, none] from rfl) ?_)
  refine wpAny_bind (wpAny_pure ?_)
  refine wpAny_bind (wpAny_pyIter_list hl ?_)
  refine wpAny_bind (wpAny_newObj_type ?_)
  rw [hname]
  generalize hH : (s.heap.push { cls := .type "list_iterator", data := .fields #[.ref l, .int 0 0] }) = H1
  have hs1 : H1.objs.size = s.heap.objs.size + 1 := by rw [← hH, Heap.size_push]
  have k1 : s.heap.StaysIn H1 := fun b o e => hH ▸ Heap.get?_push_of_some _ e
  have hI1 : H1.IsListIter s.heap.objs.size l 0 := ⟨_, hH ▸ Heap.get?_push_size _ rfl, rfl, rfl⟩
  generalize hH2 : H1.push { cls := .type "list", data := .seq ([] : List Value).toArray } = H2
  have k2 : H1.StaysIn H2 := fun b o e => hH2 ▸ Heap.get?_push_of_some _ e
  have hS2 : H2.get? H1.objs.size = some { cls := .type "list", dict := none, data := .seq #[] 0, slots := #[] } := hH2 ▸ Heap.get?_push_size _ rfl
  have SI : H1.objs.size ≠ s.heap.objs.size := by rw [hs1]; exact Nat.succ_ne_self _
  have lI : l ≠ s.heap.objs.size := Nat.ne_of_lt hlt
  have lS : l ≠ H1.objs.size := by rw [hs1]; exact Nat.ne_of_lt (Nat.lt_succ_of_lt hlt)
  have old : ∀ b o, s.heap.get? b = some o → b ≠ s.heap.objs.size ∧ b ≠ H1.objs.size := fun b o e => ⟨Nat.ne_of_lt (Heap.lt_size e), by rw [hs1]; exact Nat.ne_of_lt (Nat.lt_succ_of_lt (Heap.lt_size e))⟩
  have hl2 : H2.IsList l items := hl.at fun o e => k2 _ o (k1 _ o e)
  have hit2 : H2.IsListIter s.heap.objs.size l 0 := hI1.at fun o e => k2 _ o e
  refine wpAny_pure ⟨plainId_quiet F.plain_max_loop _, codeAny_builtin F.entry_max_loop ?_⟩
  rw [Around.under_plainId F.plain_max_loop _]
  show wpAny _ A.in1 (seqItems? (.ref H1.objs.size) >>= _) _ _ _
  refine wpAny_bind (wpAny_seqItems hS2 rfl ?_)
  show wpAny _ A.in1 (tryCatch (pyNext (.ref s.heap.objs.size)) _ >>= _) _ _ _
  refine wpAny_bind (wpAny_tryCatch (wpAny_pyNext_list_item hit2 hl2 hv fun h' hit' hs' => ?_))
  have keep1 : ∀ b o, b ≠ s.heap.objs.size → H2.get? b = some o → h'.get? b = some o := fun b o hb e => hs'.extBut b o hb e
  have hS' := keep1 _ _ SI hS2
  show wpAny _ A.in1 (updateSeq H1.objs.size (fun _ => #[items[0], items[0]]) >>= _) _ _ _
  refine wpAny_bind (wpAny_updateSeq hS' rfl ?_)
  rw [hname]
  have keep2 : ∀ b o, b ≠ H1.objs.size → h'.get? b = some o → (h'.update H1.objs.size (Obj.mapSeq fun _ => #[items[0], items[0]])).get? b = some o := fun b o hb e => (Heap.get?_update_other _ _ (Ne.symm hb)).trans e
  have keep : ∀ b o, s.heap.get? b = some o → (h'.update H1.objs.size (Obj.mapSeq fun _ => #[items[0], items[0]])).get? b = some o := fun b o e => keep2 b o (old b o e).2 (keep1 b o (old b o e).1 (k2 _ _ (k1 _ _ e)))
  refine wpAny_pure ⟨plainId_quiet F.plain_max_loop _, ?_⟩
  refine max_loop (A := A) (l := l) (I := s.heap.objs.size) (S := H1.objs.size) (items := items) (fun h => ∀ b o, s.heap.get? b = some o → h.get? b = some o) (fun h h2 hp hk b o e => hk b o (old b o e).1 (old b o e).2 (hp b o e)) bt
    (fun i j vi vj s' Q' E' hp' hi hj hq => cmp i j vi vj s' Q' E' (hfr _ hp') hi hj hq) hh lI lS SI _ 0 _ items[0] _ rfl hn (hit'.at fun o e => keep2 _ o (Ne.symm SI) e) (hl2.at fun o e => keep2 _ o lS (keep1 _ o lI e)) keep hv (Heap.get?_update_self _ hS' rfl) fun v h'' tk'' hv'' hk'' => ?_
  exact hQ v h'' tk'' hv'' fun b o e => hk'' b o (old b o e).1 (old b o e).2 (keep b o e)

/-- one builtin's loop over a list whose items are compared by what the heap holds -/
theorem min_loop {l I S : Addr} {items : Array Value} (Hp : Heap → Prop) (hfr : ∀ h h', Hp h → (∀ b o, b ≠ I → b ≠ S → h.get? b = some o → h'.get? b = some o) → Hp h') (bt : Nat → Nat → Bool)
    (cmp : ∀ i j vi vj (s : Shared) (Q : Value → Shared → Prop) (E : Value → Shared → Prop), Hp s.heap → items[i]? = some vi → items[j]? = some vj → Q (.bool (bt i j)) s → wpAny (model prog w) A.in1 (richCompare .Lt vi vj) Q E s)
    (hh : A.handled = none) (lI : l ≠ I) (lS : l ≠ S) (SI : S ≠ I) :
    ∀ (k j : Nat) (s : Shared) (vb : Value) (c : Nat), items.size - (j + 1) = k → j + 1 ≤ items.size → s.heap.IsListIter I l (j + 1) → s.heap.IsList l items → Hp s.heap → items[argBest bt j]? = some vb →
      s.heap.get? S = some { cls := .type "list", dict := none, data := .seq #[vb, vb] c, slots := #[] } →
      (∀ v h' tk, items[argBest bt (items.size - 1)]? = some v → (∀ b o, b ≠ I → b ≠ S → s.heap.get? b = some o → h'.get? b = some o) → R (.ok (.ret v)) { s with heap := h', toks := tk }) →
      codeAny (model prog w) A (.builtin "min.loop" ⟨[.ref I, .none, .ref S], []⟩) R s := by
  have hname : (toString "min" ++ toString ".loop" : String) = "min.loop" := by decide
  have hh1 : A.in1.handled = none := hh
  intro k
  induction k with
  | zero =>
    intro j s vb c hk hj hit hl hp hb hS hR
    have hend : items[j + 1]? = none := by simp; omega
    have hlast : items.size - 1 = j := by omega
    refine codeAny_builtin F.entry_min_loop ?_
    rw [Around.under_plainId F.plain_min_loop _]
    show wpAny _ A.in1 (seqItems? (.ref S) >>= _) _ _ s
    refine wpAny_bind (wpAny_seqItems hS rfl ?_)
    show wpAny _ A.in1 (tryCatch (pyNext (.ref I)) _ >>= _) _ _ s
    refine wpAny_bind (wpAny_tryCatch (wpAny_pyNext_list_end hh1 hit hl hend fun h' hx => ?_))
    have hS' := hx S _ SI hS
    show wpAny _ A.in1 (updateSeq S (fun _ => #[]) >>= _) _ _ _
    refine wpAny_bind (wpAny_updateSeq hS' rfl (wpAny_bind (wpAny_letGo (wpAny_pure ?_))))
    refine hR vb _ s.toks (by rw [hlast]; exact hb) fun b o hbI hbS e => ?_
    exact (Heap.get?_update_other _ _ (Ne.symm hbS)).trans (hx b o hbI e)
  | succ k ih =>
    intro j s vb c hk hj hit hl hp hb hS hR
    have hlt : j + 1 < items.size := by omega
    have hv : items[j + 1]? = some items[j + 1] := Array.getElem?_eq_getElem hlt
    refine codeAny_builtin F.entry_min_loop ?_
    rw [Around.under_plainId F.plain_min_loop _]
    show wpAny _ A.in1 (seqItems? (.ref S) >>= _) _ _ s
    refine wpAny_bind (wpAny_seqItems hS rfl ?_)
    show wpAny _ A.in1 (tryCatch (pyNext (.ref I)) _ >>= _) _ _ s
    refine wpAny_bind (wpAny_tryCatch (wpAny_pyNext_list_item hit hl hv fun h' hit' hs' => ?_))
    have keep1 : ∀ b o, b ≠ I → s.heap.get? b = some o → h'.get? b = some o := fun b o hbI e => hs'.extBut b o hbI e
    have hS' := keep1 S _ SI hS
    have hl' : h'.IsList l items := hl.extBut hs'.extBut lI
    have hp' : Hp h' := hfr _ _ hp fun b o hbI _ e => keep1 b o hbI e
    show wpAny _ A.in1 (tryCatch (holding [items[j + 1], items[j + 1]] (richCompare .Lt items[j + 1] vb >>= _)) _ >>= _) _ _ _
    refine wpAny_bind (wpAny_tryCatch (wpAny_holding (wpAny_bind (cmp (j + 1) (argBest bt j) _ vb _ _ _ hp' hv hb ?_))))
    refine wpAny_bind (wpAny_holding (wpAny_truthy_bool ?_))
    refine wpAny_bind (wpAny_letGo (wpAny_pure ?_))
    cases hbt : bt (j + 1) (argBest bt j) with
    | true =>
      simp only [if_true]
      refine wpAny_bind (wpAny_updateSeq hS' rfl (wpAny_bind (wpAny_letGo ?_)))
      rw [hname]
      have keep2 : ∀ b o, b ≠ S → h'.get? b = some o → (h'.update S (Obj.mapSeq fun _ => #[items[j + 1], items[j + 1]])).get? b = some o := fun b o hbS e => (Heap.get?_update_other _ _ (Ne.symm hbS)).trans e
      refine wpAny_pure ⟨plainId_quiet F.plain_min_loop _, ih (j + 1) _ _ _ (by omega) hlt (hit'.at fun o e => keep2 _ o (Ne.symm SI) e) (hl'.at fun o e => keep2 _ o lS e) (hfr _ _ hp' fun b o _ hbS e => keep2 b o hbS e) (by simp only [argBest, hbt, if_true]; exact hv) (Heap.get?_update_self _ hS' rfl) fun v h'' tk'' hv'' hk'' => ?_⟩
      exact hR v h'' tk'' hv'' fun b o hbI hbS e => hk'' b o hbI hbS (keep2 b o hbS (keep1 b o hbI e))
    | false =>
      simp only [Bool.false_eq_true, if_false]
      refine wpAny_bind (wpAny_letGo ?_)
      rw [hname]
      refine wpAny_pure ⟨plainId_quiet F.plain_min_loop _, ih (j + 1) _ _ _ (by omega) hlt hit' hl' hp' (by simp only [argBest, hbt, Bool.false_eq_true, if_false]; exact hb) hS' fun v h'' tk'' hv'' hk'' => ?_⟩
      exact hR v h'' tk'' hv'' fun b o hbI hbS e => hk'' b o hbI hbS (keep1 b o hbI e)

theorem call_min_list {l : Addr} {items : Array Value} {Q : Value → Shared → Prop} (Hp : Heap → Prop) (hfr : ∀ h', s.heap.StaysIn h' → Hp h') (bt : Nat → Nat → Bool)
    (cmp : ∀ i j vi vj (s : Shared) (Q : Value → Shared → Prop) (E : Value → Shared → Prop), Hp s.heap → items[i]? = some vi → items[j]? = some vj → Q (.bool (bt i j)) s → wpAny (model prog w) A.in1 (richCompare .Lt vi vj) Q E s)
    (hh : A.handled = none) (hl : s.heap.IsList l items) (hn : 0 < items.size)
    (hQ : ∀ v h' tk, items[argBest bt (items.size - 1)]? = some v → s.heap.StaysIn h' → Q v { s with heap := h', toks := tk }) :
    wpAny (model prog w) A (call (.builtin "min") [.ref l]) Q E s := by
  have hname : (toString "min" ++ toString ".loop" : String) = "min.loop" := by decide
  have hv : items[0]? = some items[0] := Array.getElem?_eq_getElem hn
  obtain ⟨ol, hol, _⟩ := id hl
  have hlt : l < s.heap.objs.size := Heap.lt_size hol
  refine call_function_tree F.kind_min F.plain_min F.entry_min (F.args_min1 _) ?_
  show wpAny _ A.in1 (Builtin.Builtins.bindParams "min" ["key", "default"] 0 ⟨[], []⟩ >>= _) _ _ s
  refine wpAny_bind (wpAny_of_eq (show Builtin.Builtins.bindParams "min" ["key", "default"] 0 ⟨[], []⟩ = pure [none, none] from rfl) ?_)
  refine wpAny_bind (wpAny_pure ?_)
  refine wpAny_bind (wpAny_pyIter_list hl ?_)
  refine wpAny_bind (wpAny_newObj_type ?_)
  rw [hname]
  generalize hH : (s.heap.push { cls := .type "list_iterator", data := .fields #[.ref l, .int 0 0] }) = H1
  have hs1 : H1.objs.size = s.heap.objs.size + 1 := by rw [← hH, Heap.size_push]
  have k1 : s.heap.StaysIn H1 := fun b o e => hH ▸ Heap.get?_push_of_some _ e
  have hI1 : H1.IsListIter s.heap.objs.size l 0 := ⟨_, hH ▸ Heap.get?_push_size _ rfl, rfl, rfl⟩
  generalize hH2 : H1.push { cls := .type "list", data := .seq ([] : List Value).toArray } = H2
  have k2 : H1.StaysIn H2 := fun b o e => hH2 ▸ Heap.get?_push_of_some _ e
  have hS2 : H2.get? H1.objs.size = some { cls := .type "list", dict := none, data := .seq #[] 0, slots := #[] } := hH2 ▸ Heap.get?_push_size _ rfl
  have SI : H1.objs.size ≠ s.heap.objs.size := by rw [hs1]; exact Nat.succ_ne_self _
  have lI : l ≠ s.heap.objs.size := Nat.ne_of_lt hlt
  have lS : l ≠ H1.objs.size := by rw [hs1]; exact Nat.ne_of_lt (Nat.lt_succ_of_lt hlt)
  have old : ∀ b o, s.heap.get? b = some o → b ≠ s.heap.objs.size ∧ b ≠ H1.objs.size := fun b o e => ⟨Nat.ne_of_lt (Heap.lt_size e), by rw [hs1]; exact Nat.ne_of_lt (Nat.lt_succ_of_lt (Heap.lt_size e))⟩
  have hl2 : H2.IsList l items := hl.at fun o e => k2 _ o (k1 _ o e)
  have hit2 : H2.IsListIter s.heap.objs.size l 0 := hI1.at fun o e => k2 _ o e
  refine wpAny_pure ⟨plainId_quiet F.plain_min_loop _, codeAny_builtin F.entry_min_loop ?_⟩
  rw [Around.under_plainId F.plain_min_loop _]
  show wpAny _ A.in1 (seqItems? (.ref H1.objs.size) >>= _) _ _ _
  refine wpAny_bind (wpAny_seqItems hS2 rfl ?_)
  show wpAny _ A.in1 (tryCatch (pyNext (.ref s.heap.objs.size)) _ >>= _) _ _ _
  refine wpAny_bind (wpAny_tryCatch (wpAny_pyNext_list_item hit2 hl2 hv fun h' hit' hs' => ?_))
  have keep1 : ∀ b o, b ≠ s.heap.objs.size → H2.get? b = some o → h'.get? b = some o := fun b o hb e => hs'.extBut b o hb e
  have hS' := keep1 _ _ SI hS2
  show wpAny _ A.in1 (updateSeq H1.objs.size (fun _ => #[items[0], items[0]]) >>= _) _ _ _
  refine wpAny_bind (wpAny_updateSeq hS' rfl ?_)
  rw [hname]
  have keep2 : ∀ b o, b ≠ H1.objs.size → h'.get? b = some o → (h'.update H1.objs.size (Obj.mapSeq fun _ => #[items[0], items[0]])).get? b = some o := fun b o hb e => (Heap.get?_update_other _ _ (Ne.symm hb)).trans e
  have keep : ∀ b o, s.heap.get? b = some o → (h'.update H1.objs.size (Obj.mapSeq fun _ => #[items[0], items[0]])).get? b = some o := fun b o e => keep2 b o (old b o e).2 (keep1 b o (old b o e).1 (k2 _ _ (k1 _ _ e)))
  refine wpAny_pure ⟨plainId_quiet F.plain_min_loop _, ?_⟩
  refine min_loop (A := A) (l := l) (I := s.heap.objs.size) (S := H1.objs.size) (items := items) (fun h => ∀ b o, s.heap.get? b = some o → h.get? b = some o) (fun h h2 hp hk b o e => hk b o (old b o e).1 (old b o e).2 (hp b o e)) bt
    (fun i j vi vj s' Q' E' hp' hi hj hq => cmp i j vi vj s' Q' E' (hfr _ hp') hi hj hq) hh lI lS SI _ 0 _ items[0] _ rfl hn (hit'.at fun o e => keep2 _ o (Ne.symm SI) e) (hl2.at fun o e => keep2 _ o lS (keep1 _ o lI e)) keep hv (Heap.get?_update_self _ hS' rfl) fun v h'' tk'' hv'' hk'' => ?_
  exact hQ v h'' tk'' hv'' fun b o e => hk'' b o (old b o e).1 (old b o e).2 (keep b o e)

end
end Mine
end
section
theorem Mine.regC_0 : True := by
  k_with_none
  trivial
open PySem PySem.W PySem.Calls PyProof.Rows
open AutoSeq1 (wpAny_loadPart')
open MeetsSeq MeetsSeq2 MeetsSeq3 SeqRoads2 SeqAt
set_option Elab.async false
set_option maxRecDepth 100000
namespace Mine
set_option maxHeartbeats 4000000
def RcOp (A : Around) (s : Shared) (op : CmpOp) (y x : Value) (b : Bool) : Prop :=
  ∀ (prog : Program) (w : World) (E : Value → Shared → Prop) (Q : Value → Shared → Prop), Q (.bool b) s → wpAny (model prog w) A (richCompare op y x) Q E s
/-- what the first place that differs says; fin where none does -/
def lexR (e d : Nat → Bool) (fin : Bool) : Nat → Nat → Bool
  | 0, _ => fin
  | k + 1, i => if e i = true then lexR e d fin k (i + 1) else d i

theorem list_lt_loop (l b : Addr) (items items2 : Array Value) (n n2 : Nat) (dd dd2 : Option Addr) (sl sl2 : Array (Option Value)) (e d : Nat → Bool) (k : Nat) :
    ∀ i : Nat, min items.size items2.size - i = k → Meets (Builtin.«list.__eq__.loop» ⟨[.ref l, .ref b, rawInt i, rawInt 0], []⟩)
      (fun A R s => s.heap.get? l = some { cls := .type "list", dict := dd, data := .seq items n, slots := sl } ∧ s.heap.get? b = some { cls := .type "list", dict := dd2, data := .seq items2 n2, slots := sl2 } ∧
        (∀ j (h1 : j < items.size) (h2 : j < items2.size), EqAt A.in1 s items[j] items2[j] (e j)) ∧ (∀ j (h1 : j < items.size) (h2 : j < items2.size), RcOp A.in1 s .Lt items[j] items2[j] (d j)) ∧
        R (.ok (.ret (.bool (lexR e d (decide (items.size < items2.size)) k i)))) s) := by
  induction k with
  | zero =>
    intro i hk prog w A R s h
    obtain ⟨hp, g, dr, tk, os⟩ := s; obtain ⟨hl, hb, he, hd, h⟩ := h; replace he := Hid.mk he; replace hd := Hid.mk hd
    wp_walk using wpAny_loadPart' hl, wpAny_loadPart' hb
    by_cases hlt : i < items.size
    · have hi1 : items[((i : Nat) : Int).toNat]? = some items[i] := by simp [hlt]
      have hi2 : items2[((i : Nat) : Int).toNat]? = none := by simp; omega
      rw [hi1, hi2]
      wp_walk using wpAny_loadPart' hl, wpAny_loadPart' hb
      show R (.ok (.ret (.bool (decide (items.size < items2.size))))) _
      simpa [lexR] using h
    · have hi1 : items[((i : Nat) : Int).toNat]? = none := by simp; omega
      rw [hi1]
      wp_walk using wpAny_loadPart' hl, wpAny_loadPart' hb
      show R (.ok (.ret (.bool (decide (items.size < items2.size))))) _
      simpa [lexR] using h
  | succ k ih =>
    intro i hk prog w A R s h
    obtain ⟨hp, g, dr, tk, os⟩ := s; obtain ⟨hl, hb, he, hd, h⟩ := h; replace he := Hid.mk he; replace hd := Hid.mk hd
    wp_walk using wpAny_loadPart' hl, wpAny_loadPart' hb
    have hlt : i < items.size := by omega
    have hlt2 : i < items2.size := by omega
    have hi1 : items[((i : Nat) : Int).toNat]? = some items[i] := by simp [hlt]
    have hi2 : items2[((i : Nat) : Int).toNat]? = some items2[i] := by simp [hlt2]
    have hc : ((i : Int) + 1) = ((i + 1 : Nat) : Int) := by push_cast; rfl
    rw [hi1, hi2]
    refine wpAny_bind (he.out i hlt hlt2 prog w _ _ ?_)
    simp only [lexR] at h
    cases hb' : e i with
    | true =>
      rw [hb'] at h
      wp_walk
      rw [hc]
      exact ⟨plainId_quiet plain_eq_loop _, codeAny_builtin entry_eq_loop (by
        rw [Around.under_plainId plain_eq_loop _]
        exact ih (i + 1) (by omega) prog w A R _ ⟨hl, hb, he.out, hd.out, by simpa using h⟩)⟩
    | false =>
      rw [hb'] at h
      wp_walk using wpAny_loadPart' hl, wpAny_loadPart' hb
      rw [hi1, hi2]
      refine wpAny_bind (hd.out i hlt hlt2 prog w _ _ ?_)
      wp_walk
      simpa using h

theorem list_ltAt (l b : Addr) (items items2 : Array Value) (n n2 : Nat) (dd dd2 : Option Addr) (sl sl2 : Array (Option Value)) (e d : Nat → Bool) :
    Meets (Builtin.«list.__lt__» ⟨[.ref l, .ref b], []⟩)
      (fun A R s => s.heap.get? l = some { cls := .type "list", dict := dd, data := .seq items n, slots := sl } ∧ s.heap.get? b = some { cls := .type "list", dict := dd2, data := .seq items2 n2, slots := sl2 } ∧
        (∀ j (h1 : j < items.size) (h2 : j < items2.size), EqAt A.in1 s items[j] items2[j] (e j)) ∧ (∀ j (h1 : j < items.size) (h2 : j < items2.size), RcOp A.in1 s .Lt items[j] items2[j] (d j)) ∧
        R (.ok (.ret (.bool (lexR e d (decide (items.size < items2.size)) (min items.size items2.size) 0)))) s) := by
  intro prog w A R s h
  obtain ⟨hp, g, dr, tk, os⟩ := s; obtain ⟨hl, hb, he, hd, h⟩ := h; replace he := Hid.mk he; replace hd := Hid.mk hd
  have f3 := AutoSeq1.sub_list_list
  wp_walk using wpAny_loadPart' hl, wpAny_loadPart' hb
  exact ⟨plainId_quiet plain_eq_loop _, codeAny_builtin entry_eq_loop (by
    rw [Around.under_plainId plain_eq_loop _]
    exact list_lt_loop l b items items2 n n2 dd dd2 sl sl2 e d _ 0 rfl prog w A R _ ⟨hl, hb, he.out, hd.out, h⟩)⟩

theorem rc_lt_lists {A : Around} {s : Shared} {l b : Addr} {items items2 : Array Value} {e d : Nat → Bool} (hl : s.heap.IsList l items) (hb : s.heap.IsList b items2) (hu : A.units < cLine)
    (he : ∀ j (h1 : j < items.size) (h2 : j < items2.size), EqAt A.in1 s items[j] items2[j] (e j)) (hd : ∀ j (h1 : j < items.size) (h2 : j < items2.size), RcOp A.in1 s .Lt items[j] items2[j] (d j)) :
    RcOp A s .Lt (.ref l) (.ref b) (lexR e d (decide (items.size < items2.size)) (min items.size items2.size) 0) := fun prog w E Q h => by
  obtain ⟨⟨cls, dd, data, sl⟩, ho, hc, n, hd'⟩ := id hl
  obtain ⟨⟨cls2, dd2, data2, sl2⟩, ho2, hc2, n2, hd2⟩ := id hb
  simp only at hc hd' hc2 hd2
  subst hc hd' hc2 hd2
  exact richCompare_meets_room (op := .Lt) ⟨_, ho, rfl⟩ ⟨_, ho2, rfl⟩ F.slot_list_lt F.entry_list_lt (F.args_list_lt_2 _ _) (list_ltAt l b items items2 n n2 dd dd2 sl sl2 e d)
    ⟨ho, ho2, he, hd, show Value.bool _ ≠ Value.notImplemented ∧ Q (.bool _) s from ⟨(fun x => nomatch x), h⟩⟩ hu

theorem tuple_ltAt (l b : Addr) (items items2 : Array Value) (n n2 : Nat) (dd dd2 : Option Addr) (sl sl2 : Array (Option Value)) (e d : Nat → Bool) :
    Meets (Builtin.«tuple.__lt__» ⟨[.ref l, .ref b], []⟩)
      (fun A R s => s.heap.get? l = some { cls := .type "tuple", dict := dd, data := .seq items n, slots := sl } ∧ s.heap.get? b = some { cls := .type "tuple", dict := dd2, data := .seq items2 n2, slots := sl2 } ∧
        (∀ j (h1 : j < items.size) (h2 : j < items2.size), EqAt A.in1 s items[j] items2[j] (e j)) ∧ (∀ j (h1 : j < items.size) (h2 : j < items2.size), RcOp A.in1 s .Lt items[j] items2[j] (d j)) ∧
        R (.ok (.ret (.bool (lexR e d (decide (items.size < items2.size)) (min items.size items2.size) 0)))) s) :=
  .of_wp fun prog w A R s h => by
    obtain ⟨hp, g, dr, tk, os⟩ := s; obtain ⟨hl, hb, he, hd, h⟩ := h; replace he := Hid.mk he; replace hd := Hid.mk hd
    have f2 := AutoSeq1.sub_tuple_tuple
    have hZ : (items.toList.zip items2.toList).length = min items.size items2.size := by simp
    wp_walk using wpAny_loadPart' hl, wpAny_loadPart' hb, wpAny_forIn_list _ (fun rest b s' => b.1 = none ∧ s' = ⟨hp, g, dr, tk, os⟩ ∧ ∃ i k, i + k = min items.size items2.size ∧ rest = (items.toList.zip items2.toList).drop i ∧
      R (.ok (.ret (.bool (lexR e d (decide (items.size < items2.size)) k i)))) ⟨hp, g, dr, tk, os⟩) _
    case turn =>
      rintro ⟨y, x⟩ rest b s' ⟨hb', rfl, i, k, hik, hz, hR⟩
      have hlt : i < (items.toList.zip items2.toList).length := by
        rcases Nat.lt_or_ge i (items.toList.zip items2.toList).length with h' | h'
        · exact h'
        · rw [List.drop_of_length_le h'] at hz; cases hz
      have hm : i < min items.size items2.size := hZ ▸ hlt
      have h1 : i < items.size := Nat.lt_of_lt_of_le hm (Nat.min_le_left _ _)
      have h2 : i < items2.size := Nat.lt_of_lt_of_le hm (Nat.min_le_right _ _)
      rw [List.drop_eq_getElem_cons hlt] at hz
      injection hz with hyx hrest
      have hy : y = items[i] := by have := congrArg Prod.fst hyx; simpa using this
      have hx : x = items2[i] := by have := congrArg Prod.snd hyx; simpa using this
      subst hy hx
      obtain ⟨k, rfl⟩ : ∃ k', k = k' + 1 := ⟨k - 1, by omega⟩
      simp only [lexR] at hR
      refine wpAny_bind (he.out i h1 h2 prog w _ _ ?_)
      cases hy : e i with
      | true =>
        rw [hy] at hR
        wp_walk
        exact ⟨rfl, rfl, i + 1, k, by omega, hrest, by simpa using hR⟩
      | false =>
        rw [hy] at hR
        rw [if_pos (show (!false) = true from rfl)]
        refine wpAny_bind (wpAny_rule (wpAny_bind (hd.out i h1 h2 prog w _ _ ?_)))
        wp_walk
        exact ⟨_, rfl, by simpa using hR⟩
    case fin =>
      rintro ⟨b1, b2⟩ s' ⟨hb', rfl, i, k, hik, hz, hR⟩
      simp only at hb'
      subst hb'
      have hge : min items.size items2.size ≤ i := by
        rcases Nat.lt_or_ge i (items.toList.zip items2.toList).length with h' | h'
        · rw [List.drop_eq_getElem_cons h'] at hz; cases hz
        · exact hZ ▸ h'
      obtain rfl : k = 0 := by omega
      wp_walk
      exact ⟨_, rfl, by simpa [Builtin.Tuple.tupleCompareSizes, lexR] using hR⟩
    case h =>
      exact ⟨rfl, rfl, 0, _, Nat.zero_add _, rfl, h⟩

theorem rc_lt_tuples {A : Around} {s : Shared} {l b : Addr} {items items2 : Array Value} {e d : Nat → Bool} (hl : s.heap.IsTuple l items) (hb : s.heap.IsTuple b items2) (hu : A.units < cLine)
    (he : ∀ j (h1 : j < items.size) (h2 : j < items2.size), EqAt A.in1 s items[j] items2[j] (e j)) (hd : ∀ j (h1 : j < items.size) (h2 : j < items2.size), RcOp A.in1 s .Lt items[j] items2[j] (d j)) :
    RcOp A s .Lt (.ref l) (.ref b) (lexR e d (decide (items.size < items2.size)) (min items.size items2.size) 0) := fun prog w E Q h => by
  obtain ⟨⟨cls, dd, data, sl⟩, ho, hc, n, hd'⟩ := id hl
  obtain ⟨⟨cls2, dd2, data2, sl2⟩, ho2, hc2, n2, hd2⟩ := id hb
  simp only at hc hd' hc2 hd2
  subst hc hd' hc2 hd2
  exact richCompare_meets_room (op := .Lt) ⟨_, ho, rfl⟩ ⟨_, ho2, rfl⟩ F.slot_tuple_lt F.entry_tuple_lt (F.args_tuple_lt_2 _ _) (tuple_ltAt l b items items2 n n2 dd dd2 sl sl2 e d)
    ⟨ho, ho2, he, hd, show Value.bool _ ≠ Value.notImplemented ∧ Q (.bool _) s from ⟨(fun x => nomatch x), h⟩⟩ hu

theorem list_gt_loop (l b : Addr) (items items2 : Array Value) (n n2 : Nat) (dd dd2 : Option Addr) (sl sl2 : Array (Option Value)) (e d : Nat → Bool) (k : Nat) :
    ∀ i : Nat, min items.size items2.size - i = k → Meets (Builtin.«list.__eq__.loop» ⟨[.ref l, .ref b, rawInt i, rawInt 4], []⟩)
      (fun A R s => s.heap.get? l = some { cls := .type "list", dict := dd, data := .seq items n, slots := sl } ∧ s.heap.get? b = some { cls := .type "list", dict := dd2, data := .seq items2 n2, slots := sl2 } ∧
        (∀ j (h1 : j < items.size) (h2 : j < items2.size), EqAt A.in1 s items[j] items2[j] (e j)) ∧ (∀ j (h1 : j < items.size) (h2 : j < items2.size), RcOp A.in1 s .Gt items[j] items2[j] (d j)) ∧
        R (.ok (.ret (.bool (lexR e d (decide (items.size > items2.size)) k i)))) s) := by
  induction k with
  | zero =>
    intro i hk prog w A R s h
    obtain ⟨hp, g, dr, tk, os⟩ := s; obtain ⟨hl, hb, he, hd, h⟩ := h; replace he := Hid.mk he; replace hd := Hid.mk hd
    wp_walk using wpAny_loadPart' hl, wpAny_loadPart' hb
    by_cases hlt : i < items.size
    · have hi1 : items[((i : Nat) : Int).toNat]? = some items[i] := by simp [hlt]
      have hi2 : items2[((i : Nat) : Int).toNat]? = none := by simp; omega
      rw [hi1, hi2]
      wp_walk using wpAny_loadPart' hl, wpAny_loadPart' hb
      show R (.ok (.ret (.bool (decide (items.size > items2.size))))) _
      simpa [lexR] using h
    · have hi1 : items[((i : Nat) : Int).toNat]? = none := by simp; omega
      rw [hi1]
      wp_walk using wpAny_loadPart' hl, wpAny_loadPart' hb
      show R (.ok (.ret (.bool (decide (items.size > items2.size))))) _
      simpa [lexR] using h
  | succ k ih =>
    intro i hk prog w A R s h
    obtain ⟨hp, g, dr, tk, os⟩ := s; obtain ⟨hl, hb, he, hd, h⟩ := h; replace he := Hid.mk he; replace hd := Hid.mk hd
    wp_walk using wpAny_loadPart' hl, wpAny_loadPart' hb
    have hlt : i < items.size := by omega
    have hlt2 : i < items2.size := by omega
    have hi1 : items[((i : Nat) : Int).toNat]? = some items[i] := by simp [hlt]
    have hi2 : items2[((i : Nat) : Int).toNat]? = some items2[i] := by simp [hlt2]
    have hc : ((i : Int) + 1) = ((i + 1 : Nat) : Int) := by push_cast; rfl
    rw [hi1, hi2]
    refine wpAny_bind (he.out i hlt hlt2 prog w _ _ ?_)
    simp only [lexR] at h
    cases hb' : e i with
    | true =>
      rw [hb'] at h
      wp_walk
      rw [hc]
      exact ⟨plainId_quiet plain_eq_loop _, codeAny_builtin entry_eq_loop (by
        rw [Around.under_plainId plain_eq_loop _]
        exact ih (i + 1) (by omega) prog w A R _ ⟨hl, hb, he.out, hd.out, by simpa using h⟩)⟩
    | false =>
      rw [hb'] at h
      wp_walk using wpAny_loadPart' hl, wpAny_loadPart' hb
      rw [hi1, hi2]
      refine wpAny_bind (hd.out i hlt hlt2 prog w _ _ ?_)
      wp_walk
      simpa using h

theorem list_gtAt (l b : Addr) (items items2 : Array Value) (n n2 : Nat) (dd dd2 : Option Addr) (sl sl2 : Array (Option Value)) (e d : Nat → Bool) :
    Meets (Builtin.«list.__gt__» ⟨[.ref l, .ref b], []⟩)
      (fun A R s => s.heap.get? l = some { cls := .type "list", dict := dd, data := .seq items n, slots := sl } ∧ s.heap.get? b = some { cls := .type "list", dict := dd2, data := .seq items2 n2, slots := sl2 } ∧
        (∀ j (h1 : j < items.size) (h2 : j < items2.size), EqAt A.in1 s items[j] items2[j] (e j)) ∧ (∀ j (h1 : j < items.size) (h2 : j < items2.size), RcOp A.in1 s .Gt items[j] items2[j] (d j)) ∧
        R (.ok (.ret (.bool (lexR e d (decide (items.size > items2.size)) (min items.size items2.size) 0)))) s) := by
  intro prog w A R s h
  obtain ⟨hp, g, dr, tk, os⟩ := s; obtain ⟨hl, hb, he, hd, h⟩ := h; replace he := Hid.mk he; replace hd := Hid.mk hd
  have f3 := AutoSeq1.sub_list_list
  wp_walk using wpAny_loadPart' hl, wpAny_loadPart' hb
  exact ⟨plainId_quiet plain_eq_loop _, codeAny_builtin entry_eq_loop (by
    rw [Around.under_plainId plain_eq_loop _]
    exact list_gt_loop l b items items2 n n2 dd dd2 sl sl2 e d _ 0 rfl prog w A R _ ⟨hl, hb, he.out, hd.out, h⟩)⟩

theorem rc_gt_lists {A : Around} {s : Shared} {l b : Addr} {items items2 : Array Value} {e d : Nat → Bool} (hl : s.heap.IsList l items) (hb : s.heap.IsList b items2) (hu : A.units < cLine)
    (he : ∀ j (h1 : j < items.size) (h2 : j < items2.size), EqAt A.in1 s items[j] items2[j] (e j)) (hd : ∀ j (h1 : j < items.size) (h2 : j < items2.size), RcOp A.in1 s .Gt items[j] items2[j] (d j)) :
    RcOp A s .Gt (.ref l) (.ref b) (lexR e d (decide (items.size > items2.size)) (min items.size items2.size) 0) := fun prog w E Q h => by
  obtain ⟨⟨cls, dd, data, sl⟩, ho, hc, n, hd'⟩ := id hl
  obtain ⟨⟨cls2, dd2, data2, sl2⟩, ho2, hc2, n2, hd2⟩ := id hb
  simp only at hc hd' hc2 hd2
  subst hc hd' hc2 hd2
  exact richCompare_meets_room (op := .Gt) ⟨_, ho, rfl⟩ ⟨_, ho2, rfl⟩ F.slot_list_gt F.entry_list_gt (F.args_list_gt_2 _ _) (list_gtAt l b items items2 n n2 dd dd2 sl sl2 e d)
    ⟨ho, ho2, he, hd, show Value.bool _ ≠ Value.notImplemented ∧ Q (.bool _) s from ⟨(fun x => nomatch x), h⟩⟩ hu

theorem tuple_gtAt (l b : Addr) (items items2 : Array Value) (n n2 : Nat) (dd dd2 : Option Addr) (sl sl2 : Array (Option Value)) (e d : Nat → Bool) :
    Meets (Builtin.«tuple.__gt__» ⟨[.ref l, .ref b], []⟩)
      (fun A R s => s.heap.get? l = some { cls := .type "tuple", dict := dd, data := .seq items n, slots := sl } ∧ s.heap.get? b = some { cls := .type "tuple", dict := dd2, data := .seq items2 n2, slots := sl2 } ∧
        (∀ j (h1 : j < items.size) (h2 : j < items2.size), EqAt A.in1 s items[j] items2[j] (e j)) ∧ (∀ j (h1 : j < items.size) (h2 : j < items2.size), RcOp A.in1 s .Gt items[j] items2[j] (d j)) ∧
        R (.ok (.ret (.bool (lexR e d (decide (items.size > items2.size)) (min items.size items2.size) 0)))) s) :=
  .of_wp fun prog w A R s h => by
    obtain ⟨hp, g, dr, tk, os⟩ := s; obtain ⟨hl, hb, he, hd, h⟩ := h; replace he := Hid.mk he; replace hd := Hid.mk hd
    have f2 := AutoSeq1.sub_tuple_tuple
    have hZ : (items.toList.zip items2.toList).length = min items.size items2.size := by simp
    wp_walk using wpAny_loadPart' hl, wpAny_loadPart' hb, wpAny_forIn_list _ (fun rest b s' => b.1 = none ∧ s' = ⟨hp, g, dr, tk, os⟩ ∧ ∃ i k, i + k = min items.size items2.size ∧ rest = (items.toList.zip items2.toList).drop i ∧
      R (.ok (.ret (.bool (lexR e d (decide (items.size > items2.size)) k i)))) ⟨hp, g, dr, tk, os⟩) _
    case turn =>
      rintro ⟨y, x⟩ rest b s' ⟨hb', rfl, i, k, hik, hz, hR⟩
      have hlt : i < (items.toList.zip items2.toList).length := by
        rcases Nat.lt_or_ge i (items.toList.zip items2.toList).length with h' | h'
        · exact h'
        · rw [List.drop_of_length_le h'] at hz; cases hz
      have hm : i < min items.size items2.size := hZ ▸ hlt
      have h1 : i < items.size := Nat.lt_of_lt_of_le hm (Nat.min_le_left _ _)
      have h2 : i < items2.size := Nat.lt_of_lt_of_le hm (Nat.min_le_right _ _)
      rw [List.drop_eq_getElem_cons hlt] at hz
      injection hz with hyx hrest
      have hy : y = items[i] := by have := congrArg Prod.fst hyx; simpa using this
      have hx : x = items2[i] := by have := congrArg Prod.snd hyx; simpa using this
      subst hy hx
      obtain ⟨k, rfl⟩ : ∃ k', k = k' + 1 := ⟨k - 1, by omega⟩
      simp only [lexR] at hR
      refine wpAny_bind (he.out i h1 h2 prog w _ _ ?_)
      cases hy : e i with
      | true =>
        rw [hy] at hR
        wp_walk
        exact ⟨rfl, rfl, i + 1, k, by omega, hrest, by simpa using hR⟩
      | false =>
        rw [hy] at hR
        rw [if_pos (show (!false) = true from rfl)]
        refine wpAny_bind (wpAny_rule (wpAny_bind (hd.out i h1 h2 prog w _ _ ?_)))
        wp_walk
        exact ⟨_, rfl, by simpa using hR⟩
    case fin =>
      rintro ⟨b1, b2⟩ s' ⟨hb', rfl, i, k, hik, hz, hR⟩
      simp only at hb'
      subst hb'
      have hge : min items.size items2.size ≤ i := by
        rcases Nat.lt_or_ge i (items.toList.zip items2.toList).length with h' | h'
        · rw [List.drop_eq_getElem_cons h'] at hz; cases hz
        · exact hZ ▸ h'
      obtain rfl : k = 0 := by omega
      wp_walk
      exact ⟨_, rfl, by simpa [Builtin.Tuple.tupleCompareSizes, lexR] using hR⟩
    case h =>
      exact ⟨rfl, rfl, 0, _, Nat.zero_add _, rfl, h⟩

theorem rc_gt_tuples {A : Around} {s : Shared} {l b : Addr} {items items2 : Array Value} {e d : Nat → Bool} (hl : s.heap.IsTuple l items) (hb : s.heap.IsTuple b items2) (hu : A.units < cLine)
    (he : ∀ j (h1 : j < items.size) (h2 : j < items2.size), EqAt A.in1 s items[j] items2[j] (e j)) (hd : ∀ j (h1 : j < items.size) (h2 : j < items2.size), RcOp A.in1 s .Gt items[j] items2[j] (d j)) :
    RcOp A s .Gt (.ref l) (.ref b) (lexR e d (decide (items.size > items2.size)) (min items.size items2.size) 0) := fun prog w E Q h => by
  obtain ⟨⟨cls, dd, data, sl⟩, ho, hc, n, hd'⟩ := id hl
  obtain ⟨⟨cls2, dd2, data2, sl2⟩, ho2, hc2, n2, hd2⟩ := id hb
  simp only at hc hd' hc2 hd2
  subst hc hd' hc2 hd2
  exact richCompare_meets_room (op := .Gt) ⟨_, ho, rfl⟩ ⟨_, ho2, rfl⟩ F.slot_tuple_gt F.entry_tuple_gt (F.args_tuple_gt_2 _ _) (tuple_gtAt l b items items2 n n2 dd dd2 sl sl2 e d)
    ⟨ho, ho2, he, hd, show Value.bool _ ≠ Value.notImplemented ∧ Q (.bool _) s from ⟨(fun x => nomatch x), h⟩⟩ hu

end Mine
end
section
theorem Mine.regE_0 : True := by
  k_with_none
  trivial
open PySem PySem.W PySem.Calls PyProof.Rows
open AutoSeq1 (wpAny_loadPart')
open Sem (wp)
set_option Elab.async false
set_option maxRecDepth 100000
namespace Mine
set_option maxHeartbeats 4000000

section
variable {prog : Program} {w : World} {A : Around} {E : Value → Shared → Prop} {s : Shared}

/-- the next of a tuple's iterator, as enumerate asks it -/
theorem nextTup_item {it t : Addr} {i : Nat} {items : Array Value} {x : Value} {Q : Value → Shared → Prop} (hit : s.heap.IsTupleIter it t i) (ht : s.heap.IsTuple t items) (hx : items[i]? = some x)
    (hQ : ∀ h', h'.IsTupleIter it t (i + 1) → Heap.SameBut it s.heap h' → Q x { s with heap := h' }) :
    wpAny (model prog w) A (Builtin.SmallTypes.nextOf (.ref it)) Q E s := by
  obtain ⟨o, ho, hc, hd⟩ := id hit
  obtain ⟨ot, hot, _, n, hdt⟩ := ht
  unfold Builtin.SmallTypes.nextOf
  refine wpAny_bind (wpAny_callSpecial?_slot (name := Str.ofString "__next__") hit.typeIs F.slot_tuple_iterator_next (wpAny_call_entry F.slot_tuple_iterator_next hit.typeIs F.entry_tuple_iterator_next ?_ (F.args_tuple_iterator_next_1 _)))
  show wpAny _ _ (field (.ref it) 0 >>= _) _ _ s
  refine wpAny_bind (wpAny_field ho hd (x := .ref t) rfl ?_)
  refine (show wpAny _ _ (if (Value.ref t == Value.none) = true then _ else _) _ _ s from ?_)
  rw [if_neg (show ¬ ((Value.ref t == Value.none) = true) from Bool.false_ne_true)]
  refine wpAny_bind (m := field (.ref it) 1) (wpAny_field ho hd (x := .int i 0) rfl ?_)
  refine wpAny_bind (m := seqItems? (.ref t)) (wpAny_seqItems hot hdt ?_)
  simp only [Int.toNat_natCast, hx]
  refine wpAny_bind (wpAny_setField ho hd (by simp) (wpAny_pure ⟨x, rfl, wpAny_pure (hQ _ ⟨_, Heap.get?_update_self _ ho (Obj.isFreed_of_fields (Obj.data_mapFields hd _)), (Obj.cls_mapFields ..).trans hc, ?_⟩ (Heap.SameBut.update ..))⟩))
  rw [Obj.data_mapFields hd]; simp [rawInt]

theorem nextTup_end {it t : Addr} {i : Nat} {items : Array Value} {Q : Value → Shared → Prop} (hh : A.handled = none) (hit : s.heap.IsTupleIter it t i) (ht : s.heap.IsTuple t items) (hx : items[i]? = none)
    (hE : ∀ h' e, Heap.ExtBut it s.heap h' → (∃ o, h'.get? e = some o ∧ o.cls = .type "StopIteration") → E (.ref e) { s with heap := h' }) :
    wpAny (model prog w) A (Builtin.SmallTypes.nextOf (.ref it)) Q E s := by
  obtain ⟨o, ho, hc, hd⟩ := id hit
  obtain ⟨ot, hot, _, n, hdt⟩ := ht
  unfold Builtin.SmallTypes.nextOf
  refine wpAny_bind (wpAny_callSpecial?_slot (name := Str.ofString "__next__") hit.typeIs F.slot_tuple_iterator_next (wpAny_call_entry F.slot_tuple_iterator_next hit.typeIs F.entry_tuple_iterator_next ?_ (F.args_tuple_iterator_next_1 _)))
  show wpAny _ _ (field (.ref it) 0 >>= _) _ _ s
  refine wpAny_bind (wpAny_field ho hd (x := .ref t) rfl ?_)
  refine (show wpAny _ _ (if (Value.ref t == Value.none) = true then _ else _) _ _ s from ?_)
  rw [if_neg (show ¬ ((Value.ref t == Value.none) = true) from Bool.false_ne_true)]
  refine wpAny_bind (m := field (.ref it) 1) (wpAny_field ho hd (x := .int i 0) rfl ?_)
  refine wpAny_bind (m := seqItems? (.ref t)) (wpAny_seqItems hot hdt ?_)
  simp only [Int.toNat_natCast, hx]
  refine wpAny_bind (wpAny_rule (wpAny_bind (wpAny_setField ho hd (by simp) ?_)))
  refine wpAny_bind (m := newExc (.type "StopIteration") []) ?_
  simp only [newExc, newTuple]
  refine wpAny_bind (wpAny_newObj_type ?_ (by size_fits))
  refine wpAny_bind (m := firstArgMember _ _) (wpAny_of_eq (a := Value.none) (by first | rfl | (simp only [firstArgMember]; rfl)) ?_)
  refine wpAny_newObj_type ?_ (by size_fits)
  simp only [raiseNew]
  refine wpAny_bind (wpAny_handled ?_)
  first | rw [show A.in1.handled = none from hh] | rw [hh]
  refine wpAny_bind (wpAny_pure (wpAny_throw (hE _ _ (((Heap.SameBut.update ..).extBut.push _).push _) ⟨_, Heap.get?_push_size _ rfl, rfl⟩)))

theorem enumTup_next {e it t : Addr} {i : Nat} {items : Array Value} {x old : Value} {Q : Option Value → Shared → Prop} (he : IsEnum s.heap e it i old) (hit : s.heap.IsTupleIter it t i) (ht : s.heap.IsTuple t items) (hx : items[i]? = some x) (hne : e ≠ it)
    (hQ : ∀ h', IsEnumOut h' e it ((i : Int) + 1) x s.heap.objs.size → h'.IsTupleIter it t (i + 1) →
      h'.get? s.heap.objs.size = some { cls := .type "tuple", data := .seq #[.int i s.toks, x] } → 
      (∀ b o, b ≠ e → b ≠ it → s.heap.get? b = some o → h'.get? b = some o) → Q (some (.ref s.heap.objs.size)) { s with heap := h', toks := s.toks + 1 }) :
    wpAny (model prog w) A (pyNext (.ref e)) Q E s := by
  have hT : s.TypeIs (.ref e) "enumerate" := ⟨_, he, rfl⟩
  unfold pyNext
  refine wpAny_bind (wpAny_attempt (wpAny_callSpecial?_slot (name := Str.ofString "__next__") hT F.slot_enumerate_next (wpAny_call_entry F.slot_enumerate_next hT F.entry_enumerate_next ?_ (F.args_enumerate_next_1 _))))
  obtain ⟨hp, g, d, tk, os⟩ := s
  refine wpAny_bind (m := field (.ref e) 2) (wpAny_field he rfl (x := .ref it) rfl ?_)
  refine wpAny_bind (nextTup_item hit ht hx fun h₁ hit₁ hs₁ => ?_)
  replace hs₁ : Heap.SameBut it hp h₁ := hs₁
  have he₁ : IsEnum h₁ e it i old := (hs₁.2 e hne).trans he
  refine wpAny_bind (m := field (.ref e) 3) (wpAny_field he₁ rfl (x := rawInt i) rfl ?_)
  refine wpAny_bind (m := field (.ref e) 4) (wpAny_field he₁ rfl (x := .none) rfl ?_)
  refine wpAny_bind (m := mkInt i) (wpAny_mkInt ?_)
  refine wpAny_bind (m := setField (.ref e) 3 (rawInt ((i : Int) + 1))) (wpAny_setField_rec he₁ (by simp) fun h₂ he₂ hs₂ => ?_)
  replace hs₂ : Heap.SameBut e h₁ h₂ := hs₂
  replace he₂ : IsEnum h₂ e it ((i : Int) + 1) old := he₂
  refine wpAny_bind (m := setField (.ref e) 4 .none) (wpAny_setField_rec he₂ (by simp) fun h₃ he₃ hs₃ => ?_)
  replace hs₃ : Heap.SameBut e h₂ h₃ := hs₃
  replace he₃ : IsEnum h₃ e it ((i : Int) + 1) old := he₃
  refine wpAny_bind (m := newTuple [.int i tk, x]) (wpAny_newTuple ?_)
  have hz3 : h₃.objs.size = hp.objs.size := by rw [hs₃.1, hs₂.1, hs₁.1]
  generalize hh₄ : h₃.push { cls := .type "tuple", data := .seq #[.int i tk, x] } = h₄
  have up₄ : ∀ b o, h₃.get? b = some o → h₄.get? b = some o := fun b o q => hh₄ ▸ Heap.get?_push_of_some _ q
  have he₄ : IsEnum h₄ e it ((i : Int) + 1) old := up₄ _ _ he₃
  have ht₄ : h₄.get? hp.objs.size = some { cls := .type "tuple", data := .seq #[.int i tk, x] } := by rw [← hh₄, ← hz3]; exact Heap.get?_push_size _ rfl
  have hel : e < hp.objs.size := Heap.lt_size he
  have it₃ : h₃.IsTupleIter it t (i + 1) := (hit₁.extBut hs₂.extBut (Ne.symm hne)).extBut hs₃.extBut (Ne.symm hne)
  have it₄ : h₄.IsTupleIter it t (i + 1) := let ⟨o, ho, r⟩ := it₃; ⟨o, up₄ _ _ ho, r⟩
  have k₄ : ∀ b o, b ≠ e → b ≠ it → hp.get? b = some o → h₄.get? b = some o := fun b o q1 q2 q => up₄ _ _ (hs₃.extBut b o q1 (hs₂.extBut b o q1 (hs₁.extBut b o q2 q)))
  rw [hz3]
  refine wpAny_bind (m := Builtin.SmallTypes.ownedTupleIsFree (.ref e)) ?_
  unfold Builtin.SmallTypes.ownedTupleIsFree
  refine wpAny_bind (wpAny_field he₄ rfl (x := .none) rfl (wpAny_pure ?_))
  simp only [if_true]
  refine wpAny_bind (wpAny_rule ?_)
  refine wpAny_bind (wpAny_field he₄ rfl (x := old) rfl ?_)
  refine wpAny_bind (wpAny_setField_rec he₄ (by simp) fun h₅ he₅ hs₅ => ?_)
  replace hs₅ : Heap.SameBut e h₄ h₅ := hs₅
  replace he₅ : IsEnum h₅ e it ((i : Int) + 1) x := he₅
  refine wpAny_bind (m := Builtin.SmallTypes.ownedTupleHandOut (.ref e) (.ref hp.objs.size)) ?_
  unfold Builtin.SmallTypes.ownedTupleHandOut
  refine wpAny_bind (wpAny_setField_rec he₅ (by simp) fun h₆ he₆ hs₆ => ?_)
  replace hs₆ : Heap.SameBut e h₅ h₆ := hs₆
  replace he₆ : IsEnumOut h₆ e it ((i : Int) + 1) x hp.objs.size := he₆
  refine wpAny_setField_rec he₆ (by simp) fun h₇ he₇ hs₇ => ?_
  replace hs₇ : Heap.SameBut e h₆ h₇ := hs₇
  replace he₇ : IsEnumOut h₇ e it ((i : Int) + 1) x hp.objs.size := he₇
  have up₇ : ∀ b o, b ≠ e → h₄.get? b = some o → h₇.get? b = some o := fun b o q1 q => hs₇.extBut b o q1 (hs₆.extBut b o q1 (hs₅.extBut b o q1 q))
  have it₇ : h₇.IsTupleIter it t (i + 1) := let ⟨o, ho, r⟩ := it₄; ⟨o, up₇ _ _ (Ne.symm hne) ho, r⟩
  refine wpAny_bind (wpAny_letGo (wpAny_pure ⟨_, rfl, wpAny_pure (hQ h₇ he₇ it₇ (up₇ _ _ (Nat.ne_of_gt hel) ht₄) fun b o q1 q2 q => up₇ b o q1 (k₄ b o q1 q2 q))⟩))

theorem enumTup_end {e it t : Addr} {i : Nat} {items : Array Value} {old : Value} {Q : Option Value → Shared → Prop} (hh : A.handled = none) (he : IsEnum s.heap e it i old) (hit : s.heap.IsTupleIter it t i) (ht : s.heap.IsTuple t items) (hx : items[i]? = none)
    (hQ : ∀ h', Heap.ExtBut it s.heap h' → Q none { s with heap := h' }) : wpAny (model prog w) A (pyNext (.ref e)) Q E s := by
  have hT : s.TypeIs (.ref e) "enumerate" := ⟨_, he, rfl⟩
  unfold pyNext
  refine wpAny_bind (wpAny_attempt (wpAny_callSpecial?_slot (name := Str.ofString "__next__") hT F.slot_enumerate_next (wpAny_call_entry F.slot_enumerate_next hT F.entry_enumerate_next ?_ (F.args_enumerate_next_1 _))))
  refine wpAny_bind (m := field (.ref e) 2) (wpAny_field he rfl (x := .ref it) rfl ?_)
  refine wpAny_bind (nextTup_end hh hit ht hx fun h' x hk hx' => ?_)
  obtain ⟨o, ho, hc⟩ := hx'
  refine wpAny_bind (wpAny_isInstance (T := "StopIteration") (b := true) ⟨o, ho, hc⟩ isSubtype_stop ?_)
  exact wpAny_pure (hQ _ hk)
end

theorem walksEnumTup {prog : Program} {w : World} {A : Around} (hh : A.handled = none) (e it t : Addr) (hei : e ≠ it) (hte : t ≠ e) (hti : t ≠ it) (items : Array Value) :
    WalksT prog w A e [e, it, t] [e, it] items.size
      (fun i vals => ∃ k x, items[i]? = some x ∧ vals = #[.int i k, x])
      (fun i h => (∃ old, IsEnum h e it i old) ∧ h.IsTupleIter it t i ∧ h.IsTuple t items)
      (fun i T h => (∃ x, IsEnumOut h e it ((i : Int) + 1) x T) ∧ h.IsTupleIter it t (i + 1) ∧ h.IsTuple t items ∧ T ≠ e ∧ T ≠ it) where
  sub := by intro b hb; simp only [List.mem_cons, List.not_mem_nil, or_false] at hb ⊢; rcases hb with rfl | rfl <;> simp
  frame := by
    rintro i h h' ⟨⟨old, he⟩, ⟨o1, h1, r1⟩, ⟨o2, h2, r2⟩⟩ hk
    exact ⟨⟨old, hk e (by simp) _ he⟩, ⟨o1, hk it (by simp) _ h1, r1⟩, ⟨o2, hk t (by simp) _ h2, r2⟩⟩
  item := by
    rintro i s Q E hi ⟨⟨old, he⟩, hit, ht⟩ hQ
    have hx : items[i]? = some items[i] := Array.getElem?_eq_getElem hi
    refine enumTup_next he hit ht hx hei fun h' ho hit' hT hk => ?_
    have h1 : e < s.heap.objs.size := Heap.lt_size he
    have h2 : it < s.heap.objs.size := by obtain ⟨_, x, _⟩ := hit; exact Heap.lt_size x
    obtain ⟨ot, hot, rt⟩ := ht
    exact hQ s.heap.objs.size _ h' (s.toks + 1) ⟨_, _, hx, rfl⟩ (Nat.le_refl _) ⟨_, hT, rfl, _, rfl⟩ ⟨⟨_, ho⟩, hit', ⟨ot, hk t _ hte hti hot, rt⟩, Nat.ne_of_gt h1, Nat.ne_of_gt h2⟩
      fun b o hb x => hk b o (fun q => hb (by simp [q])) (fun q => hb (by simp [q])) x
  go := by
    rintro elts k pos i T s Q E ⟨⟨x, ho⟩, hit, ht, h1, h2⟩ hQ
    refine wpAny_letOwnedTupleGo_enum ho fun h' he' hs' => hQ h' ⟨⟨x, by simpa using he'⟩, ?_, ?_⟩ fun b o hb y => (hs'.2 b fun q => hb (by simp [q])).trans y
    · obtain ⟨o, q, r⟩ := hit; exact ⟨o, (hs'.2 it hei.symm).trans q, r⟩
    · obtain ⟨o, q, r⟩ := ht; exact ⟨o, (hs'.2 t hte).trans q, r⟩
  apart := by
    rintro i T h ⟨_, _, _, h1, h2⟩ hT
    simp only [List.mem_cons, List.not_mem_nil, or_false] at hT
    rcases hT with rfl | rfl
    · exact h1 rfl
    · exact h2 rfl
  done := by
    rintro s Q E ⟨⟨old, he⟩, hit, ht⟩ hQ
    exact enumTup_end hh he hit ht (Array.getElem?_eq_none (Nat.le_refl _)) fun h' hx => hQ h' s.toks fun b o hb y => hx b o (fun q => hb (by simp [q])) y
  self := by
    rintro i s Q E ⟨⟨old, he⟩, _, _⟩ hQ
    exact wpAny_pyIter_enum he hQ

set_option maxHeartbeats 8000000 in
theorem enumNew_tup (l : Addr) (items : Array Value) (n : Nat) (dct : Option Addr) (sl : Array (Option Value)) :
    Meets (Builtin.«enumerate.__new__» ⟨[.type "enumerate", .ref l], []⟩) (fun _ R s => s.heap.get? l = some { cls := .type "tuple", dict := dct, data := .seq items n, slots := sl } ∧
      R (.ok (.ret (.ref (s.heap.push { cls := .type "tuple_iterator", data := .fields #[.ref l, .int 0 0] }).objs.size)))
        { s with heap := (s.heap.push { cls := .type "tuple_iterator", data := .fields #[.ref l, .int 0 0] }).push { cls := .type "enumerate", data := .fields #[.none, .bool false, .ref s.heap.objs.size, rawInt 0, .none, .none] } }) :=
  .of_wp fun prog w A R s h => by
    obtain ⟨hp, g, d, tk, os⟩ := s; obtain ⟨hl, h⟩ := h
    have hsub := sub_enumerate
    have hL : Heap.IsTuple (Shared.heap ⟨hp, g, d, tk, os⟩) l items := ⟨_, hl, rfl, n, rfl⟩
    wp_walk using wpAny_loadPart' hl
    refine wpAny_stack_any fun st => wpAny_pure ?_
    split
    · rename_i c _ _ _ _ _
      cases (c == Value.type "enumerate") <;> (wp_walk using wpAny_loadPart' hl, wpAny_pyIter_tuple hL; exact ⟨_, rfl, h⟩)
    · wp_walk using wpAny_loadPart' hl, wpAny_pyIter_tuple hL
      exact ⟨_, rfl, h⟩

section
variable {prog : Program} {w : World} {A : Around} {E : Value → Shared → Prop} {s : Shared}
theorem call_enumerate_tup {l : Addr} {items : Array Value} {Q : Value → Shared → Prop} (hL : s.heap.IsTuple l items)
    (h : ∀ h', IsEnum h' (s.heap.objs.size + 1) s.heap.objs.size 0 .none → h'.IsTupleIter s.heap.objs.size l 0 → s.heap.StaysIn h' → Q (.ref (s.heap.objs.size + 1)) { s with heap := h' }) :
    wpAny (model prog w) A (call (.type "enumerate") [.ref l]) Q E s := by
  obtain ⟨⟨c, dct, dt, sl⟩, hl, hc, n, hd⟩ := hL
  replace hc : c = .type "tuple" := hc
  replace hd : dt = .seq items n := hd
  subst hc hd
  have hz : (s.heap.push { cls := .type "tuple_iterator", data := .fields #[.ref l, .int 0 0] }).objs.size = s.heap.objs.size + 1 := Heap.size_push ..
  have he := Heap.get?_push_size (s.heap.push { cls := .type "tuple_iterator", data := .fields #[.ref l, .int 0 0] })
    (o := { cls := .type "enumerate", data := .fields #[.none, .bool false, .ref s.heap.objs.size, rawInt 0, .none, .none] }) rfl
  rw [hz] at he
  refine callType_new F.called_enumerate (by decide) (F.typeCall_enumerate_1 _) (F.newCall_enumerate_1 _) (fun obj => F.args_object_init_2 obj _) F.entry_enumerate_new (enumNew_tup l items n dct sl) ⟨hl, ?_⟩
  show _ ∧ _
  rw [hz]
  exact ⟨⟨_, he, rfl⟩, h _ he ⟨_, Heap.get?_push_of_some _ (Heap.get?_push_size _ rfl), rfl, rfl⟩ fun b o x => Heap.get?_push_of_some _ (Heap.get?_push_of_some _ x)⟩
end
end Mine
end
section
theorem Mine.regG_0 : True := by
  k_with_none
  trivial
open PySem PySem.W PySem.Calls PyProof.Rows
open SeqAt
set_option Elab.async false
set_option maxRecDepth 100000
namespace Mine
set_option maxHeartbeats 4000000

/-- an order of what stands in a sequence -/
structure Ordr {α : Type} [DecidableEq α] (rep : Value → α → Prop) (lt : α → α → Bool) : Prop where
  eqv : ∀ {u v x y}, rep u x → rep v y → ∀ A s, EqAt A s u v (x == y)
  ltv : ∀ {u v x y}, rep u x → rep v y → ∀ A s, RcOp A s .Lt u v (lt x y)
  gtv : ∀ {u v x y}, rep u x → rep v y → ∀ A s, RcOp A s .Gt u v (lt y x)
  nev : ∀ {u v x y}, rep u x → rep v y → ∀ (prog : Program) (w : World) A s (E Q : Value → Shared → Prop), Q (.bool (x != y)) s → wpAny (model prog w) A (compareOp .NotEq u v) Q E s
  irr : ∀ x, lt x x = false
  tot : ∀ {x y}, x ≠ y → lt x y = true ∨ lt y x = true
  asy : ∀ {x y}, lt x y = true → lt y x = false
  tra : ∀ {x y z}, lt x y = true → lt y z = true → lt x z = true

def lexL {α : Type} [DecidableEq α] (lt : α → α → Bool) : List α → List α → Bool
  | [], [] => false
  | [], _ :: _ => true
  | _ :: _, [] => false
  | x :: xs, y :: ys => if x = y then lexL lt xs ys else lt x y

def lcp {α : Type} [DecidableEq α] : List α → List α → List α
  | x :: xs, y :: ys => if x = y then x :: lcp xs ys else []
  | _, _ => []

inductive Rep2 {α : Type} (rep : Value → α → Prop) : List Value → List α → Prop
  | nil : Rep2 rep [] []
  | cons {v x vs xs} : rep v x → Rep2 rep vs xs → Rep2 rep (v :: vs) (x :: xs)

set_option linter.unusedSectionVars false
variable {α : Type} [DecidableEq α] {rep : Value → α → Prop} {lt : α → α → Bool}

theorem Rep2.len {vs : List Value} {xs : List α} (h : Rep2 rep vs xs) : vs.length = xs.length := by
  induction h with
  | nil => rfl
  | cons _ _ ih => simp [ih]
theorem Rep2.get {vs : List Value} {xs : List α} (h : Rep2 rep vs xs) : ∀ {i : Nat} {v : Value}, vs[i]? = some v → ∃ x, xs[i]? = some x ∧ rep v x := by
  induction h with
  | nil => intro i v e; simp at e
  | cons r h ih =>
    intro i v e
    cases i with
    | zero => simp at e; subst e; exact ⟨_, by simp, r⟩
    | succ i => simpa using ih (by simpa using e)
theorem Rep2.take {vs : List Value} {xs : List α} (h : Rep2 rep vs xs) : ∀ n, Rep2 rep (vs.take n) (xs.take n) := by
  induction h with
  | nil => intro n; simp only [List.take_nil]; exact .nil
  | cons r h ih =>
    intro n
    cases n with
    | zero => exact .nil
    | succ n => exact .cons r (ih n)

/-- lexR over two lists is the order lexL -/
theorem lexR_lt (O : Ordr rep lt) : ∀ (xs ys : List α) (e d : Nat → Bool) (i : Nat),
    (∀ j x y, xs[j]? = some x → ys[j]? = some y → e (i + j) = (x == y) ∧ d (i + j) = lt x y) →
    lexR e d (decide (xs.length < ys.length)) (min xs.length ys.length) i = lexL lt xs ys
  | [], [], _, _, _, _ => by simp [lexR, lexL]
  | [], _ :: _, _, _, _, _ => by simp [lexR, lexL]
  | _ :: _, [], _, _, _, _ => by simp [lexR, lexL]
  | x :: xs, y :: ys, e, d, i, h => by
    have h0 := h 0 x y rfl rfl
    have ih := lexR_lt O xs ys e d (i + 1) fun j a b ha hb => by
      have := h (j + 1) a b (by simpa using ha) (by simpa using hb)
      rw [show i + (j + 1) = i + 1 + j by omega] at this
      exact this
    simp only [List.length_cons, Nat.succ_min_succ, lexR, lexL, Nat.add_zero] at h0 ⊢
    rw [h0.1, h0.2]
    by_cases hxy : x = y
    · subst hxy
      simp only [beq_self_eq_true, if_true]
      have e1 : decide (xs.length + 1 < ys.length + 1) = decide (xs.length < ys.length) := by simp
      rw [e1]; exact ih
    · simp [hxy]

theorem lexR_gt (O : Ordr rep lt) : ∀ (xs ys : List α) (e d : Nat → Bool) (i : Nat),
    (∀ j x y, xs[j]? = some x → ys[j]? = some y → e (i + j) = (x == y) ∧ d (i + j) = lt y x) →
    lexR e d (decide (xs.length > ys.length)) (min xs.length ys.length) i = lexL lt ys xs
  | [], [], _, _, _, _ => by simp [lexR, lexL]
  | [], _ :: _, _, _, _, _ => by simp [lexR, lexL]
  | _ :: _, [], _, _, _, _ => by simp [lexR, lexL]
  | x :: xs, y :: ys, e, d, i, h => by
    have h0 := h 0 x y rfl rfl
    have ih := lexR_gt O xs ys e d (i + 1) fun j a b ha hb => by
      have := h (j + 1) a b (by simpa using ha) (by simpa using hb)
      rw [show i + (j + 1) = i + 1 + j by omega] at this
      exact this
    simp only [List.length_cons, Nat.succ_min_succ, lexR, lexL, Nat.add_zero] at h0 ⊢
    rw [h0.1, h0.2]
    by_cases hxy : x = y
    · subst hxy
      simp only [beq_self_eq_true, if_true]
      have e1 : decide (xs.length + 1 > ys.length + 1) = decide (xs.length > ys.length) := by simp
      rw [e1]; exact ih
    · simp [hxy, Ne.symm hxy]

theorem lexL_irr : ∀ xs : List α, lexL lt xs xs = false
  | [] => rfl
  | x :: xs => by simp [lexL, lexL_irr xs]
theorem lexL_tra (O : Ordr rep lt) : ∀ {xs ys zs : List α}, lexL lt xs ys = true → lexL lt ys zs = true → lexL lt xs zs = true
  | [], [], _, h, _ => by simp [lexL] at h
  | [], _ :: _, [], _, h => by simp [lexL] at h
  | [], _ :: _, _ :: _, _, _ => rfl
  | _ :: _, [], _, h, _ => by simp [lexL] at h
  | _ :: _, _ :: _, [], _, h => by simp [lexL] at h
  | x :: xs, y :: ys, z :: zs, h, k => by
    simp only [lexL] at h k ⊢
    by_cases hxy : x = y
    · subst hxy
      simp only [if_true] at h
      by_cases hyz : x = z
      · subst hyz
        simp only [if_true] at k ⊢
        exact lexL_tra O h k
      · simp only [hyz, if_false] at k ⊢; exact k
    · simp only [hxy, if_false] at h
      by_cases hyz : y = z
      · subst hyz
        simp only [hxy, if_false]; exact h
      · simp only [hyz, if_false] at k
        have hxz := O.tra h k
        by_cases e : x = z
        · subst e; rw [O.irr] at hxz; cases hxz
        · simp only [e, if_false]; exact hxz

theorem best_min (O : Ordr rep lt) (f : Nat → List α) : ∀ k j, j ≤ k → lexL lt (f j) (f (argBest (fun i j => lexL lt (f i) (f j)) k)) = false := by
  intro k
  induction k with
  | zero => intro j hj; obtain rfl : j = 0 := by omega
            exact lexL_irr _
  | succ k ih =>
    intro j hj
    simp only [argBest]
    rcases Bool.eq_false_or_eq_true (lexL lt (f (k + 1)) (f (argBest (fun i j => lexL lt (f i) (f j)) k))) with hb | hb
    rotate_left
    · rw [if_neg (ne_true_of_eq_false hb)]
      rcases Nat.lt_or_ge k j with h | h
      · obtain rfl : j = k + 1 := by omega
        exact hb
      · exact ih j h
    · rw [if_pos hb]
      rcases Nat.lt_or_ge k j with h | h
      · obtain rfl : j = k + 1 := by omega
        exact lexL_irr _
      · cases q : lexL lt (f j) (f (k + 1)) with
        | false => rfl
        | true => exact absurd (ih j h) (by
            have := lexL_tra O q hb
            simp [this])
theorem best_max (O : Ordr rep lt) (f : Nat → List α) : ∀ k j, j ≤ k → lexL lt (f (argBest (fun i j => lexL lt (f j) (f i)) k)) (f j) = false := by
  intro k
  induction k with
  | zero => intro j hj; obtain rfl : j = 0 := by omega
            exact lexL_irr _
  | succ k ih =>
    intro j hj
    simp only [argBest]
    rcases Bool.eq_false_or_eq_true (lexL lt (f (argBest (fun i j => lexL lt (f j) (f i)) k)) (f (k + 1))) with hb | hb
    rotate_left
    · rw [if_neg (ne_true_of_eq_false hb)]
      rcases Nat.lt_or_ge k j with h | h
      · obtain rfl : j = k + 1 := by omega
        exact hb
      · exact ih j h
    · rw [if_pos hb]
      rcases Nat.lt_or_ge k j with h | h
      · obtain rfl : j = k + 1 := by omega
        exact lexL_irr _
      · cases q : lexL lt (f (k + 1)) (f j) with
        | false => rfl
        | true => exact absurd (ih j h) (by
            have := lexL_tra O hb q
            simp [this])
theorem best_le (bt : Nat → Nat → Bool) : ∀ k, argBest bt k ≤ k
  | 0 => Nat.le_refl _
  | k + 1 => by
    have := best_le bt k
    simp only [argBest]
    split <;> omega

theorem lcp_between (O : Ordr rep lt) : ∀ {a b x : List α}, lexL lt x a = false → lexL lt b x = false → lcp a b <+: x
  | [], _, _, _, _ => by simp [lcp]
  | _ :: _, [], _, _, _ => by simp [lcp]
  | p :: a, q :: b, [], h, _ => by simp [lexL] at h
  | p :: a, q :: b, c :: x, h, k => by
    simp only [lcp]
    by_cases e : p = q
    · subst e
      simp only [if_true]
      simp only [lexL] at h k
      by_cases e2 : c = p
      · subst e2
        simp only [if_true] at h k
        exact List.cons_prefix_cons.mpr ⟨rfl, lcp_between O h k⟩
      · simp only [e2, if_false] at h
        simp only [Ne.symm e2, if_false] at k
        rcases O.tot e2 with q | q
        · rw [q] at h; cases h
        · rw [q] at k; cases k
    · simp [e]
theorem lcp_left : ∀ (a b : List α), lcp a b <+: a
  | [], _ => by simp [lcp]
  | _ :: _, [] => by simp [lcp]
  | p :: a, q :: b => by
    simp only [lcp]
    by_cases e : p = q
    · simp only [e, if_true]; exact List.cons_prefix_cons.mpr ⟨rfl, lcp_left a b⟩
    · simp [e]
theorem lcp_right : ∀ (a b : List α), lcp a b <+: b
  | [], _ => by simp [lcp]
  | _ :: _, [] => by simp [lcp]
  | p :: a, q :: b => by
    simp only [lcp]
    by_cases e : p = q
    · simp only [e, if_true]; exact List.cons_prefix_cons.mpr ⟨rfl, lcp_right a b⟩
    · simp [e]
theorem lcp_great : ∀ {q a b : List α}, q <+: a → q <+: b → q <+: lcp a b
  | [], _, _, _, _ => by simp
  | c :: q, [], _, h, _ => by simp at h
  | c :: q, _ :: _, [], _, k => by simp at k
  | c :: q, p :: a, r :: b, h, k => by
    obtain ⟨e1, h'⟩ := List.cons_prefix_cons.mp h
    obtain ⟨e2, k'⟩ := List.cons_prefix_cons.mp k
    subst e1 e2
    simp only [lcp, if_true]
    exact List.cons_prefix_cons.mpr ⟨rfl, lcp_great h' k'⟩
theorem pre_anti {a b : List α} (h : a <+: b) (k : b <+: a) : a = b := h.eq_of_length (Nat.le_antisymm h.length_le k.length_le)

/-- what all of some lists have in common -/
def IsLcp (p : List α) (xss : List (List α)) : Prop := (∀ x ∈ xss, p <+: x) ∧ ∀ q, (∀ x ∈ xss, q <+: x) → q <+: p
theorem isLcp_2 {p x y : List α} (h : IsLcp p [x, y]) : p = lcp x y :=
  pre_anti (lcp_great (h.1 _ (by simp)) (h.1 _ (by simp))) (h.2 _ fun z hz => by
    simp only [List.mem_cons, List.not_mem_nil, or_false] at hz
    rcases hz with rfl | rfl
    · exact lcp_left _ _
    · exact lcp_right _ _)
theorem isLcp_3 {p x y z : List α} (h : IsLcp p [x, y, z]) : p = lcp (lcp x y) z :=
  pre_anti (lcp_great (lcp_great (h.1 _ (by simp)) (h.1 _ (by simp))) (h.1 _ (by simp))) (h.2 _ fun u hu => by
    simp only [List.mem_cons, List.not_mem_nil, or_false] at hu
    rcases hu with rfl | rfl | rfl
    · exact (lcp_left _ _).trans (lcp_left _ _)
    · exact (lcp_left _ _).trans (lcp_right _ _)
    · exact lcp_right _ _)
theorem isLcp_mm (O : Ordr rep lt) {xss : List (List α)} {a b : List α} (ha : a ∈ xss) (hb : b ∈ xss) (mn : ∀ x ∈ xss, lexL lt x a = false) (mx : ∀ x ∈ xss, lexL lt b x = false) : IsLcp (lcp a b) xss :=
  ⟨fun x hx => lcp_between O (mn x hx) (mx x hx), fun q hq => lcp_great (hq a ha) (hq b hb)⟩

theorem pre_lt {xs ys : List α} : ∀ {i : Nat}, ys = xs.take i → i < xs.length → lexL lt ys xs = true := by
  intro i h
  subst h
  induction xs generalizing i with
  | nil => intro h; simp at h
  | cons x xs ih =>
    intro h
    cases i with
    | zero => rfl
    | succ i => simp only [List.take_succ_cons, lexL, if_true]; exact ih (by simpa using h)
theorem lcp_at {xs ys : List α} : ∀ {i : Nat} {x y : α}, xs.take i = ys.take i → xs[i]? = some x → ys[i]? = some y → x ≠ y → lcp xs ys = xs.take i := by
  induction xs generalizing ys with
  | nil => intro i x y _ h; simp at h
  | cons a xs ih =>
    intro i x y ht hx hy hne
    cases ys with
    | nil => simp at hy
    | cons b ys =>
      cases i with
      | zero =>
        simp at hx hy; subst hx hy
        simp [lcp, hne]
      | succ i =>
        simp only [List.take_succ_cons, List.cons.injEq] at ht
        obtain ⟨rfl, ht⟩ := ht
        simp only [lcp, if_true, List.take_succ_cons]
        rw [ih ht (by simpa using hx) (by simpa using hy) hne]
theorem lcp_all {xs ys : List α} (h : xs <+: ys) : lcp xs ys = xs := pre_anti (lcp_left _ _) (lcp_great (List.prefix_refl _) h)
theorem take_next {xs ys : List α} {i : Nat} {x : α} (h : xs.take i = ys.take i) (hx : xs[i]? = some x) (hy : ys[i]? = some x) : xs.take (i + 1) = ys.take (i + 1) := by
  rw [List.take_add_one, List.take_add_one, h, hx, hy]
end Mine
end
section
theorem Mine.regG2_0 : True := by
  k_with_none
  trivial
open PySem PySem.W PySem.Calls PyProof.Rows
open SeqAt
set_option Elab.async false
set_option maxRecDepth 100000
namespace Mine
set_option maxHeartbeats 4000000
set_option linter.unusedSectionVars false

theorem seqIdx {n j : Nat} (h : j < n) : seqIndex? (j : Int) n = some j := by
  unfold seqIndex?
  simp [show ¬ ((j : Int) < 0) by omega, h]

section
variable {prog : Program} {w : World} {A : Around} {E : Value → Shared → Prop} {s : Shared} {h₀ : Heap} {L : Addr} {m : Str → Option Value} {news : List (Addr × Obj)}
theorem adjust_upto (a n : Nat) (ha : a ≤ n) : Builtin.Slice.sliceAdjust none (some (a : Int)) 1 (n : Int) = (0, (a : Int)) := by
  unfold Builtin.Slice.sliceAdjust
  have h1 : ¬ ((1 : Int) < 0) := by omega
  have h2 : ¬ ((a : Int) < 0) := by omega
  simp only [h1, h2, if_false]
  congr 1
  omega
theorem places_upto (a : Nat) : Builtin.Slice.slicePlaces 0 (a : Int) 1 = a := by
  unfold Builtin.Slice.slicePlaces
  have h1 : (1 : Int) > 0 := by omega
  simp only [h1, if_true, Int.ediv_one]
  split <;> omega
theorem sliceApplied_upto {sl : Addr} {a n : Nat} {u : Tok} {Q : Int × Int × Nat → Shared → Prop} (hs : s.heap.IsSliceOf sl .none (.int a u) .none) (ha : a ≤ n) (h : Q (0, 1, a) s) :
    wpAny (model prog w) A (Builtin.Slice.sliceApplied (.ref sl) (pure (n : Int))) Q E s := by
  obtain ⟨os, hos, hcs, hds⟩ := id hs
  unfold Builtin.Slice.sliceApplied Builtin.Slice.sliceFields
  refine wpAny_bind (wpAny_bind (wpAny_field hos hds (x := .none) rfl (wpAny_bind (wpAny_field hos hds (x := .int a u) rfl (wpAny_bind (wpAny_field hos hds (x := .none) rfl (wpAny_pure ?_)))))))
  refine wpAny_bind (slicePart_none ?_)
  show wpAny _ _ (if ((1 : Int) == 0) = true then _ else _) _ _ s
  rw [if_neg (by decide)]
  refine wpAny_bind (slicePart_none (wpAny_bind (slicePart_int (wpAny_bind (wpAny_pure ?_)))))
  show wpAny _ _ (match Builtin.Slice.sliceAdjust none (some (a : Int)) 1 (n : Int) with | (lo, hi) => pure (lo, (1 : Int), Builtin.Slice.slicePlaces lo hi 1)) _ _ s
  rw [adjust_upto a n ha]
  show wpAny _ _ (pure (0, (1 : Int), Builtin.Slice.slicePlaces 0 (a : Int) 1)) _ _ s
  rw [places_upto a]
  exact wpAny_pure h
theorem pick_upto (xs : Array Value) (a : Nat) : ((List.range a).filterMap fun (k : Nat) => xs[(0 + (k : Int) * 1).toNat]?).toArray = (xs.toList.take a).toArray := by
  have e : (fun (k : Nat) => xs[(0 + (k : Int) * 1).toNat]?) = fun k => xs[0 + k]? := by
    funext k
    have : (0 + (k : Int) * 1).toNat = 0 + k := by omega
    rw [this]
  rw [e]
  have := pick_run xs 0 a
  rw [List.filterMap_map] at this
  have e2 : ((fun x => xs[x]?) ∘ fun x => 0 + x) = fun k => xs[0 + k]? := rfl
  rw [e2] at this
  rw [this, List.drop_zero]
theorem getItem_tuple_upto {t sl : Addr} {items : Array Value} {a : Nat} {u : Tok} {Q : Value → Shared → Prop} (ht : s.heap.IsTuple t items) (hs : s.heap.IsSliceOf sl .none (.int a u) .none) (ha : a < items.size)
    (h : Q (.ref s.heap.objs.size) { s with heap := s.heap.push { cls := .type "tuple", data := .seq (items.toList.take a).toArray } })
    (hsz : items.size ≤ sizeLine) : wpAny (model prog w) A (getItem (.ref t) (.ref sl)) Q E s := by
  have hdrop : sizeOk (.seq (items.toList.take a).toArray) := by
    show (items.toList.take a).toArray.size ≤ sizeLine
    rw [List.size_toArray, List.length_take, Array.length_toList]
    omega
  obtain ⟨os, hos, hcs, hds⟩ := id hs
  have hTs : s.TypeIs (.ref sl) "slice" := ⟨os, hos, hcs⟩
  unfold getItem
  try with_reducible refine wpAny_holding ?_
  first | refine wpAny_bind (wpAny_pure ?_) | skip
  refine wpAny_bind (wpAny_sequenceKey ht.typeIs (by decide) ?_)
  refine wpAny_bind (wpAny_callSpecial?_slot (name := Str.ofString "__getitem__") ht.typeIs slot_tuple_getitem
    (wpAny_call_entry slot_tuple_getitem ht.typeIs entry_tuple_getitem ?_ (args_tuple_getitem _ _)))
  show wpAny _ _ (Builtin.Tuple.tupleItemsOf (.ref t) >>= _) _ _ s
  refine wpAny_bind (tupleItemsOf_ ht ?_)
  refine wpAny_bind (wpAny_typeOf hTs ?_)
  rw [if_pos (by decide)]
  refine wpAny_bind (sliceApplied_upto hs (Nat.le_of_lt ha) ?_)
  have hno : ¬ (((0 : Int) == 0 && (1 : Int) == 1 && a == items.size) = true) := by
    have : (a == items.size) = false := by rw [beq_eq_false_iff_ne]; omega
    rw [this]; simp
  show wpAny _ _ (if ((0 : Int) == 0 && (1 : Int) == 1 && a == items.size) = true then _ else _) _ _ s
  rw [if_neg hno, pick_upto items a]
  first
    | exact wpAny_bind (m := Builtin.Tuple.tupleExact _) (wpAny_newObj_type (wpAny_pure ⟨_, rfl, wpAny_pure h⟩) hdrop)
    | exact wpAny_bind (m := Builtin.Tuple.tupleExact _) (wpAny_newObj_type (wpAny_bind (wpAny_pure (wpAny_pure ⟨_, rfl, wpAny_pure h⟩))) hdrop)
    | exact wpAny_bind (wpAny_bind (m := Builtin.Tuple.tupleExact _) (wpAny_newObj_type (wpAny_pure (wpAny_pure ⟨_, rfl, wpAny_pure h⟩)) hdrop))
    | exact wpAny_bind (wpAny_bind (m := Builtin.Tuple.tupleExact _) (wpAny_newObj_type (wpAny_pure ⟨_, rfl, wpAny_pure h⟩) hdrop))
theorem pick_list_upto (items : Array Value) (a : Nat) (ha : a < items.size) : slicePick items none (some (a : Int)) none = (items.toList.take a).toArray := by
  rw [slicePick_plain]
  simp only [Option.elim]
  rw [clipAt_nat, Nat.min_eq_left (Nat.le_of_lt ha)]
  simp
end

/-- a kind of sequences: the lists, or the tuples -/
structure Kind (P : Heap → Addr → Array Value → Prop) (ty : String) : Prop where
  keeps : ∀ {h h' a its}, P h a its → (∀ o, h.get? a = some o → h'.get? a = some o) → P h' a its
  there : ∀ {h a its}, P h a its → ∃ o, h.get? a = some o
  typeIs : ∀ {s : Shared} {a its}, P s.heap a its → s.TypeIs (.ref a) ty
  isi : ∀ a, ∃ vs, AnswersAll (fun s => s.TypeIs (.ref a) ty) (.ref a) [.type "list", .type "tuple"] vs ∧ vs.any id = true
  rlt : ∀ {A : Around} {s : Shared} {l b : Addr} {items items2 : Array Value} {e d : Nat → Bool}, P s.heap l items → P s.heap b items2 → A.units < cLine →
    (∀ j (h1 : j < items.size) (h2 : j < items2.size), EqAt A.in1 s items[j] items2[j] (e j)) → (∀ j (h1 : j < items.size) (h2 : j < items2.size), RcOp A.in1 s .Lt items[j] items2[j] (d j)) →
    RcOp A s .Lt (.ref l) (.ref b) (lexR e d (decide (items.size < items2.size)) (min items.size items2.size) 0)
  rgt : ∀ {A : Around} {s : Shared} {l b : Addr} {items items2 : Array Value} {e d : Nat → Bool}, P s.heap l items → P s.heap b items2 → A.units < cLine →
    (∀ j (h1 : j < items.size) (h2 : j < items2.size), EqAt A.in1 s items[j] items2[j] (e j)) → (∀ j (h1 : j < items.size) (h2 : j < items2.size), RcOp A.in1 s .Gt items[j] items2[j] (d j)) →
    RcOp A s .Gt (.ref l) (.ref b) (lexR e d (decide (items.size > items2.size)) (min items.size items2.size) 0)
  get : ∀ {prog : Program} {w : World} {A : Around} {E : Value → Shared → Prop} {s : Shared} {Q : Value → Shared → Prop} {t : Addr} {items : Array Value} {j : Nat} {u : Tok} {x : Value} {value slice : Expr} {ops : List Value}, P s.heap t items → items.size ≤ 2000 → items[j]? = some x → Q x s →
    subscripted slice false (.ref t) (.int j u) = operate ops (getItem (.ref t) (.int j u)) → (∀ r, letTemporaryGo value (.ref t) r = pure ()) →
    wpAny (model prog w) A (subscriptTail value slice (.ref t) (.int j u)) Q E s
  enum : ∀ {prog : Program} {w : World} {A : Around} {E : Value → Shared → Prop} {s : Shared} {Q : Value → Shared → Prop} {t : Addr} {items : Array Value}, A.handled = none → P s.heap t items →
    (∀ h' e fp wr St Mid, s.heap.StaysIn h' → WalksT prog w A e fp wr items.size (fun i vals => ∃ k x, items[i]? = some x ∧ vals = #[.int i k, x]) St Mid → St 0 h' → (∀ b ∈ fp, b = t ∨ s.heap.get? b = none) → (∀ b ∈ wr, s.heap.get? b = none) → Q (.ref e) { s with heap := h' }) →
    wpAny (model prog w) A (call (.type "enumerate") [.ref t]) Q E s
  slice : ∀ {prog : Program} {w : World} {A : Around} {E : Value → Shared → Prop} {s : Shared} {Q : Value → Shared → Prop} {t : Addr} {items : Array Value} {i : Nat} {u : Tok} {value slice : Expr}, P s.heap t items → i < items.size → items.size ≤ 2000 →
    (∀ r h', s.heap.StaysIn h' → s.heap.get? r = none → P h' r (items.toList.take i).toArray → Q (.ref r) { s with heap := h' }) →
    subscripted slice false (.ref t) (.ref s.heap.objs.size) = operate [.ref s.heap.objs.size, .ref t] (getItem (.ref t) (.ref s.heap.objs.size)) →
    (∀ r, letTemporaryGo value (.ref t) r = pure ()) →
    wpAny (model prog w) A (subscriptTail value slice (.ref t) (.ref s.heap.objs.size)) Q E { s with heap := s.heap.push { cls := .type "slice", data := .fields #[.none, .int i u, .none] } }

theorem push2 {h : Heap} {o o2 : Obj} : h.StaysIn ((h.push o).push o2) := fun _ _ e => Heap.get?_push_of_some _ (Heap.get?_push_of_some _ e)
theorem none_at {h : Heap} {n : Nat} (hn : h.objs.size ≤ n) : h.get? n = none := by
  cases e : h.get? n with
  | none => rfl
  | some o => exact absurd (Heap.lt_size e) (Nat.not_lt_of_le hn)
theorem kind_list : Kind Heap.IsList "list" where
  keeps h k := h.at k
  there h := let ⟨o, ho, _⟩ := h; ⟨o, ho⟩
  typeIs h := h.typeIs
  isi a := ⟨[true, false], by pv_isi_answers, rfl⟩
  rlt := rc_lt_lists
  rgt := rc_gt_lists
  get := by
    intro prog w A E s Q t items j u x value slice ops h hs hx hq e1 e2
    have hj : j < items.size := by
      rcases Nat.lt_or_ge j items.size with h | h
      · exact h
      · rw [Array.getElem?_eq_none h] at hx; cases hx
    exact subscriptTail_ops h.typeIs list_getitem_lookup (wpAny_getItem_list h (by omega) (by omega) (by simpa using hx) hq) e1 e2
  enum := by
    intro prog w A E s Q t items hh ht h
    obtain ⟨o, hot, _⟩ := id ht
    have hlt : t < s.heap.objs.size := Heap.lt_size hot
    refine call_enumerate_list ht fun h' he hit _ k => ?_
    refine h h' _ _ _ _ _ k (WalksT.enumerate hh (s.heap.objs.size + 1) s.heap.objs.size t (Nat.succ_ne_self _) (Nat.ne_of_lt (Nat.lt_succ_of_lt hlt)) (Nat.ne_of_lt hlt) items) ⟨⟨_, he⟩, hit, ht.at (k _)⟩ ?_ ?_
    · intro b hb
      simp only [List.mem_cons, List.not_mem_nil, or_false] at hb
      rcases hb with rfl | rfl | rfl
      · exact .inr (none_at (Nat.le_succ _))
      · exact .inr (none_at (Nat.le_refl _))
      · exact .inl rfl
    · intro b hb
      simp only [List.mem_cons, List.not_mem_nil, or_false] at hb
      rcases hb with rfl | rfl
      · exact none_at (Nat.le_succ _)
      · exact none_at (Nat.le_refl _)
  slice := by
    intro prog w A E s Q t items i u value slice ht hi hs hq e1 e2
    have ht' := ht.push { cls := .type "slice", data := .fields #[.none, .int i u, .none] }
    refine subscriptTail_ops (s := { s with heap := s.heap.push { cls := .type "slice", data := .fields #[.none, .int i u, .none] } }) ht'.typeIs list_getitem_lookup (wpAny_getItem_list_slice ht' (Heap.IsSliceOf.new ..) .none (.int _ _) .none (by simp) (by rw [pick_list_upto _ _ hi]; exact hq _ _ push2 (none_at (by simp only [Heap.size_push]; omega)) ⟨_, Heap.get?_push_size _ rfl, rfl, 0, rfl⟩) (by rw [sizeLine_eq]; omega)) e1 e2
theorem kind_tuple : Kind Heap.IsTuple "tuple" where
  keeps h k := h.at k
  there h := let ⟨o, ho, _⟩ := h; ⟨o, ho⟩
  typeIs h := h.typeIs
  isi a := ⟨[false, true], by pv_isi_answers, rfl⟩
  rlt := rc_lt_tuples
  rgt := rc_gt_tuples
  get := by
    intro prog w A E s Q t items j u x value slice ops h hs hx hq e1 e2
    have hj : j < items.size := by
      rcases Nat.lt_or_ge j items.size with h | h
      · exact h
      · rw [Array.getElem?_eq_none h] at hx; cases hx
    exact subscriptTail_ops h.typeIs slot_tuple_getitem.lookup (PyProof.Rows.getItem_tuple h (by omega) (by omega) (seqIdx hj) hx hq) e1 e2
  enum := by
    intro prog w A E s Q t items hh ht h
    obtain ⟨o, hot, _⟩ := id ht
    have hlt : t < s.heap.objs.size := Heap.lt_size hot
    refine call_enumerate_tup ht fun h' he hit k => ?_
    refine h h' _ _ _ _ _ k (walksEnumTup hh (s.heap.objs.size + 1) s.heap.objs.size t (Nat.succ_ne_self _) (Nat.ne_of_lt (Nat.lt_succ_of_lt hlt)) (Nat.ne_of_lt hlt) items) ⟨⟨_, he⟩, hit, ht.at (k _)⟩ ?_ ?_
    · intro b hb
      simp only [List.mem_cons, List.not_mem_nil, or_false] at hb
      rcases hb with rfl | rfl | rfl
      · exact .inr (none_at (Nat.le_succ _))
      · exact .inr (none_at (Nat.le_refl _))
      · exact .inl rfl
    · intro b hb
      simp only [List.mem_cons, List.not_mem_nil, or_false] at hb
      rcases hb with rfl | rfl
      · exact none_at (Nat.le_succ _)
      · exact none_at (Nat.le_refl _)
  slice := by
    intro prog w A E s Q t items i u value slice ht hi hs hq e1 e2
    have ht' := ht.push { cls := .type "slice", data := .fields #[.none, .int i u, .none] }
    refine subscriptTail_ops (s := { s with heap := s.heap.push { cls := .type "slice", data := .fields #[.none, .int i u, .none] } }) ht'.typeIs slot_tuple_getitem.lookup (getItem_tuple_upto ht' (Heap.IsSliceOf.new ..) hi ?_ (by rw [sizeLine_eq]; omega)) e1 e2
    exact hq _ _ push2 (none_at (by simp only [Heap.size_push]; omega)) ⟨_, Heap.get?_push_size _ rfl, rfl, 0, rfl⟩
variable {α : Type} [DecidableEq α] {rep : Value → α → Prop} {lt : α → α → Bool} {P : Heap → Addr → Array Value → Prop} {ty : String}

theorem Rep2.got {vs : List Value} {xs : List α} (h : Rep2 rep vs xs) : ∀ {i : Nat} {x : α}, xs[i]? = some x → ∃ v, vs[i]? = some v ∧ rep v x := by
  induction h with
  | nil => intro i v e; simp at e
  | cons r h ih =>
    intro i v e
    cases i with
    | zero => simp at e; subst e; exact ⟨_, by simp, r⟩
    | succ i => simpa using ih (by simpa using e)
theorem next_there {x1 x2 : List α} {i : Nat} {x : α} (h : x1.take i = x2.take i) (hx : x1[i]? = some x) (hn : lexL lt x2 x1 = false) : ∃ y, x2[i]? = some y := by
  rcases Nat.lt_or_ge i x2.length with g | g
  · exact ⟨x2[i], List.getElem?_eq_getElem g⟩
  · rw [List.take_of_length_le g] at h
    have hi : i < x1.length := by
      rcases Nat.lt_or_ge i x1.length with g | g
      · exact g
      · rw [List.getElem?_eq_none g] at hx; cases hx
    rw [pre_lt h.symm hi] at hn
    cases hn

inductive SeqsAre (P : Heap → Addr → Array Value → Prop) (rep : Value → α → Prop) (h : Heap) : List Value → List (List α) → Prop
  | nil : SeqsAre P rep h [] []
  | cons {r : Addr} {vs : List Value} {xs rs xss} : P h r vs.toArray → Rep2 rep vs xs → xs.length ≤ 2000 → SeqsAre P rep h rs xss → SeqsAre P rep h (.ref r :: rs) (xs :: xss)

theorem SeqsAre.len {h : Heap} {rs : List Value} {xss : List (List α)} (S : SeqsAre P rep h rs xss) : rs.length = xss.length := by
  induction S with
  | nil => rfl
  | cons _ _ _ _ ih => simp [ih]
theorem SeqsAre.get {h : Heap} {rs : List Value} {xss : List (List α)} (S : SeqsAre P rep h rs xss) : ∀ {i : Nat} {v : Value}, rs[i]? = some v → ∃ (r : Addr) (vs : List Value) (xs : List α), v = .ref r ∧ P h r vs.toArray ∧ Rep2 rep vs xs ∧ xs.length ≤ 2000 ∧ xss[i]? = some xs := by
  induction S with
  | nil => intro i v e; simp at e
  | cons a b c S ih =>
    intro i v e
    cases i with
    | zero => simp at e; subst e; exact ⟨_, _, _, rfl, a, b, c, by simp⟩
    | succ i => simpa using ih (by simpa using e)

theorem cmp_lt (K : Kind P ty) (O : Ordr rep lt) {A : Around} {s : Shared} {r1 r2 : Addr} {v1 v2 : List Value} {x1 x2 : List α} (h1 : P s.heap r1 v1.toArray) (h2 : P s.heap r2 v2.toArray) (p1 : Rep2 rep v1 x1) (p2 : Rep2 rep v2 x2) (hu : A.units < cLine) :
    RcOp A s .Lt (.ref r1) (.ref r2) (lexL lt x1 x2) := by
  have gx1 : ∀ j (h : j < v1.toArray.size), ∃ a, x1[j]? = some a ∧ rep v1.toArray[j] a := fun j h => p1.get (by simp)
  have gx2 : ∀ j (h : j < v2.toArray.size), ∃ a, x2[j]? = some a ∧ rep v2.toArray[j] a := fun j h => p2.get (by simp)
  have key := K.rlt (A := A) (s := s) (e := fun j => x1[j]? == x2[j]?) (d := fun j => match x1[j]?, x2[j]? with | some a, some b => lt a b | _, _ => false) h1 h2 hu
    (fun j k1 k2 => by
      obtain ⟨a, ea, ra⟩ := gx1 j k1
      obtain ⟨b, eb, rb⟩ := gx2 j k2
      have := O.eqv ra rb A.in1 s
      simp only [ea, eb]
      exact this)
    (fun j k1 k2 => by
      obtain ⟨a, ea, ra⟩ := gx1 j k1
      obtain ⟨b, eb, rb⟩ := gx2 j k2
      have := O.ltv ra rb A.in1 s
      simp only [ea, eb]
      exact this)
  have e := lexR_lt O x1 x2 (fun j => x1[j]? == x2[j]?) (fun j => match x1[j]?, x2[j]? with | some a, some b => lt a b | _, _ => false) 0 (fun j a b ha hb => by
    simp only [Nat.zero_add, ha, hb]
    exact ⟨rfl, trivial⟩)
  simp only [List.size_toArray, p1.len, p2.len] at key
  rw [e] at key
  exact key
theorem cmp_gt (K : Kind P ty) (O : Ordr rep lt) {A : Around} {s : Shared} {r1 r2 : Addr} {v1 v2 : List Value} {x1 x2 : List α} (h1 : P s.heap r1 v1.toArray) (h2 : P s.heap r2 v2.toArray) (p1 : Rep2 rep v1 x1) (p2 : Rep2 rep v2 x2) (hu : A.units < cLine) :
    RcOp A s .Gt (.ref r1) (.ref r2) (lexL lt x2 x1) := by
  have gx1 : ∀ j (h : j < v1.toArray.size), ∃ a, x1[j]? = some a ∧ rep v1.toArray[j] a := fun j h => p1.get (by simp)
  have gx2 : ∀ j (h : j < v2.toArray.size), ∃ a, x2[j]? = some a ∧ rep v2.toArray[j] a := fun j h => p2.get (by simp)
  have key := K.rgt (A := A) (s := s) (e := fun j => x1[j]? == x2[j]?) (d := fun j => match x1[j]?, x2[j]? with | some a, some b => lt b a | _, _ => false) h1 h2 hu
    (fun j k1 k2 => by
      obtain ⟨a, ea, ra⟩ := gx1 j k1
      obtain ⟨b, eb, rb⟩ := gx2 j k2
      have := O.eqv ra rb A.in1 s
      simp only [ea, eb]
      exact this)
    (fun j k1 k2 => by
      obtain ⟨a, ea, ra⟩ := gx1 j k1
      obtain ⟨b, eb, rb⟩ := gx2 j k2
      have := O.gtv ra rb A.in1 s
      simp only [ea, eb]
      exact this)
  have e := lexR_gt O x1 x2 (fun j => x1[j]? == x2[j]?) (fun j => match x1[j]?, x2[j]? with | some a, some b => lt b a | _, _ => false) 0 (fun j a b ha hb => by
    simp only [Nat.zero_add, ha, hb]
    exact ⟨rfl, trivial⟩)
  simp only [List.size_toArray, p1.len, p2.len] at key
  rw [e] at key
  exact key

section
variable {prog : Program} {w : World} {A : Around} {E : Value → Shared → Prop} {s : Shared} {h₀ : Heap}
theorem min_seqs (K : Kind P ty) (O : Ordr rep lt) {l : Addr} {ms : List Value} {xss : List (List α)} {Q : Value → Shared → Prop} (S : SeqsAre P rep h₀ ms xss) (hl : s.heap.IsList l ms.toArray) (st : h₀.StaysIn s.heap) (hh : A.handled = none) (hu : A.in1.units < cLine) (hn : 0 < ms.length)
    (hQ : ∀ (r : Addr) (vs : List Value) (xs : List α) h' tk, P h₀ r vs.toArray → Rep2 rep vs xs → xs.length ≤ 2000 → xs ∈ xss → Value.ref r ∈ ms → Hid (∀ x ∈ xss, lexL lt x xs = false) → s.heap.StaysIn h' → Q (.ref r) { s with heap := h', toks := tk }) :
    wpAny (model prog w) A (call (.builtin "min") [.ref l]) Q E s := by
  refine call_min_list (fun h => h₀.StaysIn h) (fun h' k b o e => k b o (st b o e)) (fun i j => lexL lt (xss.getD i []) (xss.getD j [])) ?_ hh hl (by simpa using hn) ?_
  · intro i j vi vj s' Q' E' hp hi hj hq
    obtain ⟨r1, v1, x1, rfl, a1, p1, _, g1⟩ := S.get (by simpa using hi)
    obtain ⟨r2, v2, x2, rfl, a2, p2, _, g2⟩ := S.get (by simpa using hj)
    refine cmp_lt K O (K.keeps a1 fun o e => hp _ o e) (K.keeps a2 fun o e => hp _ o e) p1 p2 hu prog w E' Q' ?_
    simpa [List.getD, g1, g2] using hq
  · intro v h' tk hv k
    obtain ⟨r1, v1, x1, rfl, a1, p1, l1, g1⟩ := S.get (by simpa using hv)
    refine hQ r1 v1 x1 h' tk a1 p1 l1 (List.mem_of_getElem? g1) (List.mem_of_getElem? (i := _) (by simpa using hv)) ⟨fun x hx => ?_⟩ k
    obtain ⟨j, hj, e⟩ := List.mem_iff_getElem.mp hx
    have := best_min O (fun i => xss.getD i []) (ms.toArray.size - 1) j (by rw [List.size_toArray, S.len]; omega)
    simpa [List.getD, g1, hj, e] using this
theorem max_seqs (K : Kind P ty) (O : Ordr rep lt) {l : Addr} {ms : List Value} {xss : List (List α)} {Q : Value → Shared → Prop} (S : SeqsAre P rep h₀ ms xss) (hl : s.heap.IsList l ms.toArray) (st : h₀.StaysIn s.heap) (hh : A.handled = none) (hu : A.in1.units < cLine) (hn : 0 < ms.length)
    (hQ : ∀ (r : Addr) (vs : List Value) (xs : List α) h' tk, P h₀ r vs.toArray → Rep2 rep vs xs → xs.length ≤ 2000 → xs ∈ xss → Value.ref r ∈ ms → Hid (∀ x ∈ xss, lexL lt xs x = false) → s.heap.StaysIn h' → Q (.ref r) { s with heap := h', toks := tk }) :
    wpAny (model prog w) A (call (.builtin "max") [.ref l]) Q E s := by
  refine call_max_list (fun h => h₀.StaysIn h) (fun h' k b o e => k b o (st b o e)) (fun i j => lexL lt (xss.getD j []) (xss.getD i [])) ?_ hh hl (by simpa using hn) ?_
  · intro i j vi vj s' Q' E' hp hi hj hq
    obtain ⟨r1, v1, x1, rfl, a1, p1, _, g1⟩ := S.get (by simpa using hi)
    obtain ⟨r2, v2, x2, rfl, a2, p2, _, g2⟩ := S.get (by simpa using hj)
    refine cmp_gt K O (K.keeps a1 fun o e => hp _ o e) (K.keeps a2 fun o e => hp _ o e) p1 p2 hu prog w E' Q' ?_
    simpa [List.getD, g1, g2] using hq
  · intro v h' tk hv k
    obtain ⟨r1, v1, x1, rfl, a1, p1, l1, g1⟩ := S.get (by simpa using hv)
    refine hQ r1 v1 x1 h' tk a1 p1 l1 (List.mem_of_getElem? g1) (List.mem_of_getElem? (i := _) (by simpa using hv)) ⟨fun x hx => ?_⟩ k
    obtain ⟨j, hj, e⟩ := List.mem_iff_getElem.mp hx
    have := best_max O (fun i => xss.getD i []) (ms.toArray.size - 1) j (by rw [List.size_toArray, S.len]; omega)
    simpa [List.getD, g1, hj, e] using this
end

section
variable {prog : Program} {w : World} {A : Around} {E : Value → Shared → Prop} {s : Shared} {env : Env} {h₀ : Heap} {xi xc : Str} {body : List Stmt} {Q : Flow → Shared → Prop}
theorem iter_pair {I : Addr} {fp wr : List Addr} {items : Array Value} {St : Nat → Heap → Prop} {Mid : Nat → Addr → Heap → Prop} {m₀ : Str → Option Value} {news : List (Addr × Obj)}
    (J : Nat → (Str → Option Value) → List (Addr × Obj) → Prop)
    (W : WalksT prog w A I fp wr items.size (fun i vals => ∃ k x, items[i]? = some x ∧ vals = #[.int i k, x]) St Mid) (hst : St 0 s.heap) (hL : env.locals ∉ fp) (hwr : ∀ b ∈ wr, h₀.get? b = none) (hnw : ∀ p ∈ news, p.1 ∉ wr)
    (F : Fr h₀ env.locals s.heap m₀) (N : News h₀ env.locals s.heap news) (hJ : J 0 m₀ news)
    (turn : ∀ i k v m₁ nx h tk own, items[i]? = some v → J i m₁ nx → nx.map (·.1) = news.map (·.1) → Fr h₀ env.locals h (fun y => if y = xc then some v else if y = xi then some (.int (i : Nat) k) else m₁ y) → News h₀ env.locals h (own ++ nx) →
      wpAny (model prog w) A (execs body env) (LoopStep3 h₀ env.locals own nx (J (i + 1)) { s with heap := h, toks := tk } (fun v s' => Q (.ret v) s') fun s' => Q .next s') E { s with heap := h, toks := tk })
    (done : ∀ m₁ nx h tk, J items.size m₁ nx → Fr h₀ env.locals h m₁ → News h₀ env.locals h nx → Q .next { s with heap := h, toks := tk }) :
    wpAny (model prog w) A (pyIter (.ref I)) (fun it s₂ => PairAt3 prog w A h₀ env xi xc body Q E it s₂) E s := by
  refine W.self 0 _ _ _ hst ⟨I, fp, wr, items.size, _, St, Mid, (fun i v0 v1 => ∃ k, items[i]? = some v1 ∧ v0 = .int (i : Nat) k), m₀, news, J, rfl, W, ?_, hL, hwr, hnw, hst, F, N, hJ, ?_, ?_⟩
  · rintro i vals ⟨k, x, hx, rfl⟩
    exact ⟨_, _, rfl, k, hx, rfl⟩
  · rintro i v0 v1 m₁ nx s₁ own ⟨h, tk, rfl⟩ _ ⟨k, hx, rfl⟩ hJ' ha _ F' N'
    exact turn i k v1 m₁ nx h tk own hx hJ' ha F' N'
  · intro h' tk m' nx F' N' _ hJ'
    exact done m' nx h' tk hJ' F' N'
end
end Mine
end
section
open PySem PySem.W PySem.Calls PyProof.Rows
open SeqAt
set_option Elab.async false
set_option maxRecDepth 100000
namespace Mine
set_option maxHeartbeats 4000000
set_option pp.deepTerms false
set_option pp.maxSteps 3000
theorem regH1_1 : True := by
  k_with_none
  k_with "my enter" => (((case kX => k_asm); (case kL => exact Top.nolimit (by assumption)); (case kS => first | exact fun _ _ e => e | exact hide_stays _ _); (case kZ => first | exact Nat.le_refl _ | exact Nat.le_of_eq (hideAll_size _ _)); (case kN => first | assumption | exact List.forall_mem_nil _); (case k6 => k_is); (case k7 => k_is); (case k8 => decide); (case k9 => exact BindsTo.of_eq rfl); (case kB => exact locs rfl); (case c2 => exact rfl); (case c3 => exact rfl); (case c4 => exact rfl); (case c5 => decide); k_whole; intro zL' zh' zF' zN' zl1; (try dsimp only [List.reverse_cons, List.reverse_nil, List.nil_append, List.cons_append])))
  trivial

theorem fillH1 : PySem.Challenge.rw_wb0022_01 = PySem.Challenge.rw_wb0022_01 ∧ K0 = K0 := by
  k_fill
  exact ⟨rfl, rfl⟩
variable {w : World} {mean : ExcName → Option Value} {mg mb : Str → Option Value} {s : Shared} {R : Result → Shared → Prop} {hb : Heap}
variable {α : Type} [DecidableEq α] {rep : Value → α → Prop} {lt : α → α → Bool}

theorem regH1_2 : True := by
  k_with "call type:min" => ((with_reducible refine stop_of ?_))
  k_with "call builtin:min" => ((with_reducible refine stop_of ?_))
  k_with "truthy ref" => ((k_here; refine wpAny_truthy_list (Fr.lst (by assumption) (by assumption)) (by rw [List.size_toArray, List.length_cons]; omega) ?_; dsimp only [List.isEmpty_toArray, List.isEmpty_cons, Bool.not_false]; (try simp only [List.isEmpty_toArray, List.isEmpty_cons, Bool.not_false])))
  k_with "call builtin:isinstance" => ((with_reducible refine stop_of ?_))
  k_with "call builtin:min" => ((with_reducible refine stop_of ?_))
  k_with "call builtin:max" => ((with_reducible refine stop_of ?_))
  k_with "exec For Tuple" => ((with_reducible refine stop_of ?_))
  k_with "getItem ref int" => ((with_reducible refine stop_of ?_))
  k_with "subscriptTail Name Slice ref ref" => ((with_reducible refine stop_of ?_))
  k_with "LoopStep3" => ((with_reducible refine stop_of ?_))
  trivial

theorem map_none2 {m₀ m₁ : Str → Option Value} {xi xc : Str} {v u : Value} (h : ∀ z, z ≠ xi → z ≠ xc → m₁ z = m₀ z) : (fun y => if y = xc then some v else if y = xi then some u else m₁ y) = fun y => if y = xc then some v else if y = xi then some u else m₀ y := by
  funext z
  by_cases h1 : z = xc
  · simp [h1]
  · by_cases h2 : z = xi
    · simp [h2]
    · simp [h1, h2, h z h2 h1]
theorem done_none2 {m₀ m₁ : Str → Option Value} {xi xc : Str} (h : ∀ z, z ≠ xi → z ≠ xc → m₁ z = m₀ z) : (fun y => if y = xc then m₁ xc else if y = xi then m₁ xi else m₀ y) = m₁ := by
  funext z
  by_cases h1 : z = xc
  · simp [h1]
  · by_cases h2 : z = xi
    · subst h2; simp [h1]
    · simp [h1, h2, h z h2 h1]
theorem regH1_3 : True := by
  k_with "my F" => (((rename Heap.StaysIn _ _ => zst'); (have zF' := frStay (by assumption) zst'); (have zN' := newsStay (by assumption) zst'); (try k_sweep); (try dsimp only)))
  trivial

variable {P : Heap → Addr → Array Value → Prop} {ty : String}
theorem c_common (KD : Kind P ty) (O : Ordr rep lt) {m a : Addr} {rs : List Value} {xss : List (List α)} (W : Wd w mean mg mb s.heap) (hm : s.heap.IsList m (.ref a :: rs).toArray) (hms : SeqsAre P rep s.heap (.ref a :: rs) xss) (hl : xss.length ≤ 10)
    (ret : ∀ (r : Addr) (vs : List Value) p h' tk', s.heap.StaysIn h' → P h' r vs.toArray → Rep2 rep vs p → IsLcp p xss → (s.heap.get? r = none ∨ Value.ref r ∈ (Value.ref a :: rs)) → R (.ok (.ret (.ref r))) { s with heap := h', toks := tk' }) :
    codeAny (model P0 w) (lv 370 600) (.call (.ref 101) ⟨[.ref m], []⟩) R s := by
  have KX := W.X
  have KT := W.T
  have ha : ∃ vs : List Value, P s.heap a vs.toArray := by cases hms; exact ⟨_, by assumption⟩
  obtain ⟨va, ha⟩ := ha
  have hrl : rs.length ≤ 10 := by have := hms.len; rw [List.length_cons] at this; omega
  obtain ⟨isiV, isiA, isiB⟩ := KD.isi a
  refine' enter (news := []) (binds := [(Str.ofString "m", .ref m)]) ?kX ?kL ?kS ?kZ ?kN ?k6 ?k7 ?k8 ?k9 ?kB ?_ ?c2 ?c3 ?c4 ?c5
  k_dflt walk_at "my enter"
  k_fold
  k_steps
  rename Fr _ _ _ _ => F0
  rename News _ _ _ _ => N0
  refine stop_go (IsiPair.tupleOfB isiA (KD.typeIs (KD.keeps ha (F0.keep _))) (N0 _ (.head _)).1 isiB ?_)
  intro tk'
  k_steps
  rename Fr _ _ _ _ => F1
  rename News _ _ _ _ => N1
  refine stop_go (min_seqs KD O hms (F1.lst hm) F1.keep rfl (Nat.le_of_ble_eq_true rfl) (Nat.succ_pos _) ?_)
  intro r1 v1 x1 h' tk' hr1 hv1 hl1 hm1 hmr1 hmin st'
  k_dflt walk_at "my F"
  k_steps
  rename Fr _ _ _ _ => F1
  rename News _ _ _ _ => N1
  refine stop_go (max_seqs KD O hms (F1.lst hm) F1.keep rfl (Nat.le_of_ble_eq_true rfl) (Nat.succ_pos _) ?_)
  intro r2 v2 x2 h' tk' hr2 hv2 hl2 hm2 hmr2 hmax st'
  k_dflt walk_at "my F"
  k_steps
  rename Fr _ _ _ _ => F1
  rename News _ _ _ _ => N1
  refine stop_go (KD.enum rfl (KD.keeps hr1 (F1.keep _)) ?_)
  intro h' e fp wr St Mid st' WE hst hfp hwr
  have hE : Hid (∀ b ∈ fp, b = r1 ∨ s.heap.get? b = none) := ⟨fun b hb => (hfp b hb).imp id fun q => by
    cases g : s.heap.get? b with
    | none => rfl
    | some o => rw [F1.keep _ _ g] at q; cases q⟩
  have F2 := frStay F1 st'
  have N2 := newsStay N1 st'
  refine fr_named F2 fun m0 em F3 => ?_
  refine iter_pair (fun i m nx => ∃ D o, nx = [(D, o)] ∧ x1.take i = x2.take i ∧ ∀ z, z ≠ Str.ofString "i" → z ≠ Str.ofString "c" → m z = m0 z) WE hst ?hL ?hwr ?hnw F3 N2 ⟨_, _, rfl, rfl, fun _ _ _ => rfl⟩ ?turn ?done
  case hL =>
    intro hm
    rcases hfp _ hm with q | q
    · have := (KD.there hr1); obtain ⟨o, ho⟩ := this
      exact Nat.ne_of_lt (Nat.lt_of_lt_of_le (Heap.lt_size ho) F1.above) q.symm
    · obtain ⟨o', _, _, ho, _⟩ := F1.ns
      exact absurd (ho.symm.trans q) (fun z => nomatch z)
  case hwr =>
    intro b hb
    cases g : s.heap.get? b with
    | none => rfl
    | some o => have := hwr b hb; rw [F1.keep _ _ g] at this; cases this
  case hnw =>
    intro p hp hb
    have := hwr _ hb; rw [(N1 p hp).1] at this; cases this
  case turn =>
    rintro i k v m₁ nx h tk1 own hi ⟨D, o, rfl, ht, hm⟩ ha F₁ N₁
    rw [map_none2 hm] at F₁
    subst em
    obtain ⟨x, hx, rx⟩ := hv1.get (by simpa using hi)
    clear F1 F2 F3 N1 N2
    obtain ⟨y, hy⟩ := next_there ht hx (hmin.out _ hm2)
    obtain ⟨u, hu, ru⟩ := hv2.got hy
    k_steps
    rename Fr _ _ _ _ => F4
    refine KD.get (KD.keeps hr2 (F4.keep _)) (by rw [List.size_toArray, hv2.len]; exact hl2) (by simpa using hu) ?_ (by with_unfolding_all rfl) (by intro _; with_unfolding_all rfl)
    k_steps
    refine O.nev rx ru _ _ _ _ _ _ ?_
    k_steps
    · rename Fr _ _ _ _ => F5
      have hil : i < x1.length := by
        rcases Nat.lt_or_ge i x1.length with g | g
        · exact g
        · rw [List.getElem?_eq_none g] at hx; cases hx
      refine stop_go (KD.slice (s := ⟨_, _, _, _, _⟩) (KD.keeps hr1 (F5.keep _)) (by rw [List.size_toArray, hv1.len]; exact hil) (by rw [List.size_toArray, hv1.len]; exact hl1) ?_ (by with_unfolding_all rfl) (by intro _; with_unfolding_all rfl))
      intro r h' st' fr hr
      refine ret r (v1.take i) (x1.take i) _ _ (fun b o e => st' b o (F5.keep b o e)) hr (hv1.take i) ?_ (.inl ?fr)
      case fr =>
        cases g : s.heap.get? r with
        | none => rfl
        | some o => exact absurd ((F5.keep _ _ g).symm.trans fr) (fun z => nomatch z)
      rw [← lcp_at ht hx hy (bne_iff_ne.mp (by assumption))]
      exact isLcp_mm O hm1 hm2 hmin.out hmax.out
    · rename Fr _ _ _ _ => F5
      rename News _ _ _ _ => N5
      have e : x = y := by simpa using (by assumption : (x != y) = false)
      subst e
      exact stop_go (LoopStep3.next (LoopStep2.intro F5 N5 rfl ⟨_, _, rfl, take_next ht hx hy, fun z z1 z2 => by simp only [z1, z2, if_false]⟩))
  case done =>
    rintro m₁ nx h tk1 ⟨D, o, rfl, ht, hm⟩ F₁ N₁
    rw [← done_none2 hm] at F₁
    subst em
    clear F1 F2 F3 N1 N2
    k_steps
    rename Fr _ _ _ _ => F4
    refine ret r1 v1 x1 _ _ F4.keep (KD.keeps hr1 (F4.keep _)) hv1 ?_ (.inr hmr1)
    have e1 := lcp_all (xs := x1) (ys := x2) (by
      rw [List.size_toArray, hv1.len, List.take_length] at ht
      rw [ht]; exact List.take_prefix _ _)
    rw [← e1]
    exact isLcp_mm O hm1 hm2 hmin.out hmax.out
end Mine
end
section
theorem Mine.regH2_0 : True := by
  k_with_none
  trivial
open PySem PySem.W PySem.Calls PyProof.Rows
open SeqAt
set_option Elab.async false
set_option maxRecDepth 100000
namespace Mine
set_option maxHeartbeats 4000000
set_option pp.deepTerms false
set_option pp.maxSteps 3000

def repI (v : Value) (x : Int) : Prop := ∃ t, v = .int x t
def repS (v : Value) (x : Str) : Prop := ∃ t, v = .str x t
def ltI (x y : Int) : Bool := decide (x < y)
def ltS (x y : Str) : Bool := decide (x.cps.toList < y.cps.toList)
theorem ordI : Ordr repI ltI where
  eqv := by rintro u v x y ⟨t, rfl⟩ ⟨t', rfl⟩ A s; exact (MeetsSeq.EqGives.int _ _ _ _).at A s
  ltv := by rintro u v x y ⟨t, rfl⟩ ⟨t', rfl⟩ A s prog w E Q h; exact PyProof.Rows.lt_int h
  gtv := by rintro u v x y ⟨t, rfl⟩ ⟨t', rfl⟩ A s prog w E Q h; exact PyProof.Rows.gt_int h
  nev := by rintro u v x y ⟨t, rfl⟩ ⟨t', rfl⟩ prog w A s E Q h; exact P.ne_int h
  irr x := by simp [ltI]
  tot := by intro x y h; simp [ltI]; omega
  asy := by intro x y h; simp [ltI] at h ⊢; omega
  tra := by intro x y z h k; simp [ltI] at h k ⊢; omega
theorem ordS : Ordr repS ltS where
  eqv := by rintro u v x y ⟨t, rfl⟩ ⟨t', rfl⟩ A s; exact (eqGives_str _ _ _ _).at A s
  ltv := by rintro u v x y ⟨t, rfl⟩ ⟨t', rfl⟩ A s prog w E Q h; exact PyProof.Rows.lt_str h
  gtv := by rintro u v x y ⟨t, rfl⟩ ⟨t', rfl⟩ A s prog w E Q h; exact P.gt_str h
  nev := by rintro u v x y ⟨t, rfl⟩ ⟨t', rfl⟩ prog w A s E Q h; exact PyProof.Rows.ne_str h
  irr x := by simp [ltS, List.lt_irrefl]
  tot := by
    intro x y h
    simp only [ltS, decide_eq_true_eq]
    rcases Classical.em (x.cps.toList < y.cps.toList) with k | k
    · exact .inl k
    · rcases Classical.em (y.cps.toList < x.cps.toList) with k2 | k2
      · exact .inr k2
      · have := List.le_antisymm (List.not_lt.mp k2) (List.not_lt.mp k)
        exact absurd (congrArg Str.mk (Array.toList_inj.mp this)) h
  asy := by
    intro x y h; simp [ltS] at h ⊢
    exact List.not_lt.mp (fun k => List.lt_irrefl _ (List.lt_trans h k))
  tra := by intro x y z h k; simp [ltS] at h k ⊢; exact List.lt_trans h k
theorem repS_strs {vs : List Value} {xs : List Str} : StrsAre vs xs ↔ Rep2 repS vs xs := by
  constructor
  · intro h; induction h with
    | nil => exact .nil
    | cons y t h ih => exact .cons ⟨t, rfl⟩ ih
  · intro h; induction h with
    | nil => exact .nil
    | cons r h ih => obtain ⟨t, rfl⟩ := r; exact .cons _ t ih
theorem repI_ints {vs : List Value} {xs : List Int} : IntsAre vs xs ↔ Rep2 repI vs xs := by
  constructor
  · intro h; induction h with
    | nil => exact .nil
    | cons y t h ih => exact .cons ⟨t, rfl⟩ ih
  · intro h; induction h with
    | nil => exact .nil
    | cons r h ih => obtain ⟨t, rfl⟩ := r; exact .cons _ t ih
end Mine
end
section
open PySem PySem.W PySem.Calls PyProof.Rows
set_option Elab.async false
set_option maxRecDepth 100000
namespace Mine
set_option maxHeartbeats 4000000
set_option pp.deepTerms false
set_option pp.maxSteps 3000

theorem kindsC {binds : List (Str × Value)} {scope : Scope} (hk : (binds.all fun y => scope.names.lookup y.1 == some .local || scope.names.lookup y.1 == some .cell) = true) :
    ∀ n, ∀ x ∈ binds, scope.names.lookup x.1 = some .local ∨ (scope.names.lookup x.1 = some .cell ∧ ((cellsFrom n scope.names []).lookup x.1).isSome = true) := by
  intro n x hx
  have := List.all_eq_true.mp hk x hx
  rcases Bool.or_eq_true_iff.mp this with q | q
  · exact .inl (by simpa using q)
  · have q' : scope.names.lookup x.1 = some .cell := by simpa using q
    exact .inr ⟨q', cellsFrom_some _ _ _ (.inl q')⟩

theorem enterC {prog : Program} {w : World} {A : Around} {s : Shared} {K : Frag} {R : Result → Shared → Prop} {name qual : Str} {params : Arguments} {body : List Stmt} {scope : Scope} {dV kV doc pm cdv ct oc : Value} {an od : Option Addr} {osl : Array (Option Value)} {f : Addr} {args : Args} {binds : List (Str × Value)}
    (X : K.In s.heap) (hlim : s.heap.NoLimit)
    (ho : K.lookup f = some ⟨oc, od, .func (fnOf name qual params body scope dV kV doc pm an cdv ct), osl⟩) (hcd : codeIn K cdv qual = true) (hroom : A.depth < recursionLimit)
    (hbind : BindsTo s (fnOf name qual params body scope dV kV doc pm an cdv ct) args binds) (hkind : (binds.all fun y => scope.names.lookup y.1 == some .local || scope.names.lookup y.1 == some .cell) = true)
    (hnd : ((cellsFrom 0 scope.names []).map (·.1)).Nodup)
    (h : ∀ L h₁ tk cells, Fr s.heap L h₁ (bindL (envOfC qual scope L f cdv).kindOf binds fun _ => none) → News s.heap L h₁ cells →
      CellsAre (bindC (envOfC qual scope L f cdv).kindOf binds fun _ => none) (cellsFrom (L + 1) scope.names []) cells →
      wpAny (model prog w) (A.deeper (envOfC qual scope L f cdv)) (execs body (envOfC qual scope L f cdv))
        (fun fl s' => R (.ok (.ret (match fl with | .ret v => v | _ => .none))) s')
        (fun _ _ => False)
        { s with heap := h₁, toks := tk })
    (hco : scope.isCoroutine = false) (hgen : scope.isGenerator = false) (hk : scope.kind = .function) : codeAny (model prog w) A (.call (.ref f) args) R s := by
  refine codeAny_call_function hroom (X _ _ ho) rfl hco hgen rfl (codeRec_of X hcd) (hbind _ _ _ _ ?_)
  refine wpAny_newFunctionEnv_cells hk (kindsC hkind _) fun env' he s' x => ?_
  subst he
  refine ⟨hlim.keeps x.toInCall.keep, codeAny_func ?_⟩
  obtain ⟨h₁, tk, rfl, _⟩ := x.done
  have hk₁ := x.toInCall.keep
  obtain ⟨cells, NC, Y⟩ := Cl.news (h₀ := s.heap) (Nat.le_refl _) fun n c hm => ⟨x.cell n c (lookup_of_mem_nodup (cellsFrom_names scope.names 0 (s.heap.objs.size + 1) [] [] rfl ▸ hnd) hm), x.above n c hm⟩
  exact wpAny_mono (h s.heap.objs.size h₁ tk cells ⟨x.toInCall.ns, hk₁, Nat.le_refl _⟩ NC Y) (fun _ _ y => y) fun _ _ y => y.elim

theorem fillJ1 : PySem.Challenge.rw_wb0022_01 = PySem.Challenge.rw_wb0022_01 ∧ K0 = K0 := by
  k_fill
  exact ⟨rfl, rfl⟩
variable {w : World} {mean : ExcName → Option Value} {mg mb : Str → Option Value} {s : Shared} {R : Result → Shared → Prop} {hb : Heap}
theorem regJ1_1 : True := by
  k_with_none
  k_with "my enterC" => (((case kX => k_asm); (case kL => exact Top.nolimit (by assumption)); (case k6 => k_is); (case k7 => k_is); (case k8 => decide); (case k9 => exact BindsTo.of_eq rfl); (case kB => exact rfl); (case kD => decide +kernel); (case c2 => exact rfl); (case c3 => exact rfl); (case c4 => exact rfl); k_whole; intro zL' zh' ztk' zcells' zF' zN' zY'; k_cells zY'; (try simp only [List.cons_append, List.nil_append] at zN'); (try dsimp only)))
  k_with "eval ListComp" => ((with_reducible refine stop_of ?_))
  k_with "CompSrc" => ((with_reducible refine stop_of ?_))
  k_with "CompEnd" => ((with_reducible refine stop_of ?_))
  k_with "getItem ref int" => ((with_reducible refine stop_of ?_))
  trivial


def bitw (n : Int) (t : Nat) : Int := ((n.fdiv 4).fdiv (2 ^ t)).fmod 2
def nameOf (b : Int) : Str := if b = 0 then Str.ofString ".a" else Str.ofString "a."
/-- the word that a number tells -/
def wordOf (n : Int) : List Str := (List.range (1 + n.fmod 4).toNat).map fun t => nameOf (bitw n t)

theorem fmod4 (n : Int) : n.fmod 4 = 0 ∨ n.fmod 4 = 1 ∨ n.fmod 4 = 2 ∨ n.fmod 4 = 3 := by
  have h1 := Int.fmod_nonneg_of_pos n (b := 4) (by omega)
  have h2 := Int.fmod_lt_of_pos n (b := 4) (by omega)
  omega
theorem range4 (n : Int) : Builtin.Range.rangeSize 0 (1 + n.fmod 4) 1 = (((1 + n.fmod 4).toNat : Nat) : Int) ∧ Builtin.Range.small 0 (1 + n.fmod 4) 1 = true := by
  rcases fmod4 n with h | h | h | h <;> rw [h] <;> decide
theorem fmod2 (n : Int) : n.fmod 2 = 0 ∨ n.fmod 2 = 1 := by
  have h1 := Int.fmod_nonneg_of_pos n (b := 2) (by omega)
  have h2 := Int.fmod_lt_of_pos n (b := 2) (by omega)
  omega
theorem wordOf_snoc {n : Int} {i : Nat} {ys : List Value} {t : Tok} (hi : i < (1 + n.fmod 4).toNat) (h : StrsAre ys ((wordOf n).take i)) : StrsAre (ys ++ [.str (nameOf (bitw n i)) t]) ((wordOf n).take (i + 1)) := by
  refine sa_snoc_take h ?_
  unfold wordOf
  rw [List.getElem?_map, List.getElem?_range hi]
  rfl

theorem c_word {n : Int} {t : Tok} (W : Wd w mean mg mb s.heap)
    (ret : ∀ (r : Addr) (vs : List Value) k h' tk', s.heap.StaysIn h' → s.heap.get? r = none → h'.get? r = some (PySem.W.listOf vs.toArray k) → StrsAre vs (wordOf n) → R (.ok (.ret (.ref r))) { s with heap := h', toks := tk' }) :
    codeAny (model P0 w) (lv 370 600) (.call (.ref 188) ⟨[.int n t], []⟩) R s := by
  have KX := W.X
  have KT := W.T
  refine' enterC (binds := [(Str.ofString "number", .int n t)]) ?kX ?kL ?k6 ?k7 ?k8 ?k9 ?kB ?kD ?_ ?c2 ?c3 ?c4
  k_dflt walk_at "my enterC"
  try k_fold
  k_steps
  refine stop_go (LCg.ListComp_U (F₀ := by k_asm) (by with_unfolding_all rfl) (by decide) (by rfl) (by decide) (by rfl) ?_)
  k_steps
  rename IsRange _ _ _ _ _ _ _ _ => hr
  rename Fr _ _ _ _ => F1
  rename News _ _ _ _ => N1
  have hk4 := fmod4 n
  refine stop_go (LCg.CompSrc.range rfl F1 N1 hr (range4 n).2 (range4 n).1 (by rw [sizeLine_eq]; omega) (fun g => restU (fun i ys => StrsAre ys ((wordOf n).take i)) (by simpa using StrsAre.nil) ?turn ?fin))
  case turn =>
    intro i v I oI C oC D m₂ ys h tk E' hi hP hR hC hx' F N off ne
    obtain ⟨t', rfl⟩ := hP
    have off0 := Hid.mk off
    simp only [LCg.Off3, and_true] at off
    clear F1 N1
    k_steps
    all_goals
      rename (_ : Int) = _ => ek
      have e0 : (0 + (i : Int)).toNat = i := by omega
      rw [e0] at ek
      have ek' : bitw n i = _ := ek
    · refine stop_go (LCg.CompEnd.intro (by assumption) (by assumption) _ (fun _ h => .tail _ h) off0.out trivial ⟨rfl, ?_⟩)
      have := wordOf_snoc (t := tk) hi hR
      rw [ek'] at this
      exact this
    · refine stop_go (LCg.CompEnd.intro (by assumption) (by assumption) _ (fun _ h => .tail _ h) off0.out trivial ⟨rfl, ?_⟩)
      have := wordOf_snoc (t := tk + 1) hi hR
      rw [ek'] at this
      exact this
  case fin =>
    intro ys hys
    intro D h' tk' F' N' o1
    clear F1 N1
    replace o1 := off1_ne o1
    simp only [AllNe, and_true] at o1
    (try dsimp only)
    k_steps
    have hg := (N' _ (.head _)).1
    refine ret D ys ys.length _ _ F'.keep (N' _ (.head _)).2.2 ?_ ?_
    · exact hg
    · rwa [List.take_of_length_le (by simp [wordOf])] at hys
end Mine
end
section
theorem Mine.regD1_0 : True := by
  k_with_none
  trivial
open PySem PySem.W PySem.Calls PyProof.Rows
set_option Elab.async false
namespace Mine
set_option maxHeartbeats 4000000
/-- the common divisors of p and q up to i -/
def divs (p q : Nat) : Nat → List Int
  | 0 => []
  | i + 1 => if p % (i + 1) = 0 ∧ q % (i + 1) = 0 then divs p q i ++ [((i + 1 : Nat) : Int)] else divs p q i
theorem mem_divs {p q : Nat} {x : Int} : ∀ {n : Nat}, x ∈ divs p q n ↔ ∃ d : Nat, 1 ≤ d ∧ d ≤ n ∧ p % d = 0 ∧ q % d = 0 ∧ x = (d : Int)
  | 0 => by simp [divs]; intro d h1 h2; omega
  | n + 1 => by
    simp only [divs]
    have ih := mem_divs (p := p) (q := q) (x := x) (n := n)
    split
    · rename_i h
      rw [List.mem_append, List.mem_singleton, ih]
      constructor
      · rintro (⟨d, h1, h2, h3⟩ | rfl)
        · exact ⟨d, h1, by omega, h3⟩
        · exact ⟨n + 1, by omega, by omega, h.1, h.2, rfl⟩
      · rintro ⟨d, h1, h2, h3, h4, rfl⟩
        rcases Nat.lt_or_ge n d with k | k
        · obtain rfl : d = n + 1 := by omega
          exact .inr rfl
        · exact .inl ⟨d, h1, k, h3, h4, rfl⟩
    · rename_i h
      rw [ih]
      constructor
      · rintro ⟨d, h1, h2, h3⟩
        exact ⟨d, h1, by omega, h3⟩
      · rintro ⟨d, h1, h2, h3, h4, rfl⟩
        rcases Nat.lt_or_ge n d with k | k
        · obtain rfl : d = n + 1 := by omega
          exact absurd ⟨h3, h4⟩ h
        · exact ⟨d, h1, k, h3, h4, rfl⟩
theorem best_int (f : Nat → Int) : ∀ k j, j ≤ k → f j ≤ f (argBest (fun i j => decide (f j < f i)) k) := by
  intro k
  induction k with
  | zero => intro j hj; obtain rfl : j = 0 := by omega
            exact Int.le_refl _
  | succ k ih =>
    intro j hj
    simp only [argBest]
    split
    · rename_i hb
      have hb' := of_decide_eq_true hb
      rcases Nat.lt_or_ge k j with h | h
      · obtain rfl : j = k + 1 := by omega
        exact Int.le_refl _
      · exact Int.le_of_lt (Int.lt_of_le_of_lt (ih j h) hb')
    · rename_i hb
      rcases Nat.lt_or_ge k j with h | h
      · obtain rfl : j = k + 1 := by omega
        exact Int.not_lt.mp fun q => hb (decide_eq_true q)
      · exact ih j h
theorem divs_ne {p q : Nat} (hp : 1 ≤ p) : divs p q p ≠ [] := fun e => by
  have : (1 : Int) ∈ divs p q p := mem_divs.mpr ⟨1, Nat.le_refl _, hp, Nat.mod_one _, Nat.mod_one _, rfl⟩
  rw [e] at this; cases this
theorem divs_best {p q : Nat} (hp : 1 ≤ p) {g : Int} (h : (divs p q p)[argBest (fun i j => decide ((divs p q p).getD j 0 < (divs p q p).getD i 0)) ((divs p q p).length - 1)]? = some g) : g = (Nat.gcd p q : Nat) := by
  have hm : g ∈ divs p q p := List.mem_of_getElem? h
  obtain ⟨d, h1, h2, h3, h4, rfl⟩ := mem_divs.mp hm
  have hg : ((Nat.gcd p q : Nat) : Int) ∈ divs p q p := mem_divs.mpr ⟨Nat.gcd p q, Nat.gcd_pos_of_pos_left _ hp, Nat.gcd_le_left _ hp, Nat.mod_eq_zero_of_dvd (Nat.gcd_dvd_left _ _), Nat.mod_eq_zero_of_dvd (Nat.gcd_dvd_right _ _), rfl⟩
  obtain ⟨j, hj, e⟩ := List.mem_iff_getElem.mp hg
  have hb := best_int (fun i => (divs p q p).getD i 0) ((divs p q p).length - 1) j (by omega)
  have e1 : (divs p q p).getD j 0 = ((Nat.gcd p q : Nat) : Int) := by simp only [List.getD, List.getElem?_eq_getElem hj, e, Option.getD_some]
  have e2 : (divs p q p).getD (argBest (fun i j => decide ((divs p q p).getD j 0 < (divs p q p).getD i 0)) ((divs p q p).length - 1)) 0 = (d : Int) := by rw [List.getD, h]; rfl
  rw [e1, e2] at hb
  have hd : d ∣ Nat.gcd p q := Nat.dvd_gcd (Nat.dvd_of_mod_eq_zero h3) (Nat.dvd_of_mod_eq_zero h4)
  have := Nat.le_of_dvd (Nat.gcd_pos_of_pos_left _ hp) hd
  omega
theorem fmod_nat (n i : Nat) : ((n : Nat) : Int).fmod (1 + (i : Int)) = ((n % (i + 1) : Nat) : Int) := by
  rw [show (1 + (i : Int)) = ((i + 1 : Nat) : Int) by omega]
  rw [Int.fmod_eq_emod_of_nonneg _ (by omega)]
  rfl
theorem ints_snoc {vs : List Value} {ns : List Int} (h : IntsAre vs ns) (x : Int) (t : Tok) : IntsAre (vs ++ [.int x t]) (ns ++ [x]) := by
  induction h with
  | nil => exact .cons _ _ .nil
  | cons y u h ih => exact .cons _ _ ih
theorem divs_yes {p q i : Nat} {vs : List Value} {t : Tok} (h : IntsAre vs (divs p q i)) (h1 : ((p : Nat) : Int).fmod (1 + (i : Int)) = 0) (h2 : ((q : Nat) : Int).fmod (1 + (i : Int)) = 0) : IntsAre (vs ++ [.int (1 + (i : Int)) t]) (divs p q (i + 1)) := by
  rw [fmod_nat] at h1 h2
  simp only [divs]
  rw [if_pos ⟨by omega, by omega⟩, show (1 + (i : Int)) = ((i + 1 : Nat) : Int) by omega]
  exact ints_snoc h _ _
theorem divs_no1 {p q i : Nat} {vs : List Value} (h : IntsAre vs (divs p q i)) (h1 : ((p : Nat) : Int).fmod (1 + (i : Int)) ≠ 0) : IntsAre vs (divs p q (i + 1)) := by
  rw [fmod_nat] at h1
  simp only [divs]
  rw [if_neg (by omega)]; exact h
theorem divs_no2 {p q i : Nat} {vs : List Value} (h : IntsAre vs (divs p q i)) (h1 : ((q : Nat) : Int).fmod (1 + (i : Int)) ≠ 0) : IntsAre vs (divs p q (i + 1)) := by
  rw [fmod_nat] at h1
  simp only [divs]
  rw [if_neg (by omega)]; exact h
theorem ints_len {vs : List Value} {ns : List Int} (h : IntsAre vs ns) : vs.length = ns.length := by
  induction h with
  | nil => rfl
  | cons y t h ih => simp [ih]
theorem ints_get {vs : List Value} {ns : List Int} (h : IntsAre vs ns) {i : Nat} {v : Value} (e : vs[i]? = some v) : ∃ x t, ns[i]? = some x ∧ v = .int x t := by
  obtain ⟨x, hx, t, rfl⟩ := (repI_ints.mp h).get e
  exact ⟨x, t, hx, rfl⟩
section
variable {prog : Program} {w : World} {A : Around} {E : Value → Shared → Prop} {s : Shared}
theorem max_divs {l : Addr} {p q : Nat} {vs : List Value} {Q : Value → Shared → Prop} (hp : 1 ≤ p) (h : IntsAre vs (divs p q p)) (hl : s.heap.IsList l vs.toArray) (hh : A.handled = none)
    (hQ : ∀ h' tk t, s.heap.StaysIn h' → Q (.int (Nat.gcd p q : Nat) t) { s with heap := h', toks := tk }) : wpAny (model prog w) A (call (.builtin "max") [.ref l]) Q E s := by
  have hlen := ints_len h
  refine call_max_list (fun _ => True) (fun _ _ => trivial) (fun i j => decide ((divs p q p).getD j 0 < (divs p q p).getD i 0)) ?_ hh hl ?_ ?_
  · intro i j vi vj s' Q' E' _ hi hj hq
    obtain ⟨x, t, hx, rfl⟩ := ints_get h (by simpa using hi)
    obtain ⟨y, u, hy, rfl⟩ := ints_get h (by simpa using hj)
    simp only [List.getD, hx, hy, Option.getD_some] at hq
    exact PyProof.Rows.gt_int hq
  · rw [List.size_toArray, hlen]
    exact List.length_pos_iff.mpr (divs_ne hp)
  · intro v h' tk hv st
    rw [List.size_toArray, hlen] at hv
    obtain ⟨x, t, hx, rfl⟩ := ints_get h (by simpa using hv)
    rw [divs_best hp hx]
    exact hQ h' tk t st
end
/-- what two words laid one behind the other in either order are due to have in common -/
def IsDue {α : Type} (x y p : List α) : Prop :=
  (∃ k, k < x.length + y.length - Nat.gcd x.length y.length ∧ (∀ j, j < k → x[j % x.length]? = y[j % y.length]?) ∧ x[k % x.length]? ≠ y[k % y.length]? ∧ p = (x ++ y).take k) ∨
  ((∀ j, j < x.length + y.length - Nat.gcd x.length y.length → x[j % x.length]? = y[j % y.length]?) ∧ p = x ++ y)
end Mine
end
section
open PySem PySem.W PySem.Calls PyProof.Rows
set_option Elab.async false
set_option maxRecDepth 100000
namespace Mine
set_option maxHeartbeats 4000000
set_option pp.deepTerms false
set_option pp.maxSteps 3000

structure KindX (P : Heap → Addr → Array Value → Prop) (ty : String) : Prop where
  K : Kind P ty
  len : ∀ {prog : Program} {w : World} {A : Around} {E : Value → Shared → Prop} {s : Shared} {Q : Value → Shared → Prop} {t : Addr} {items : Array Value}, P s.heap t items → items.size ≤ 2000 → (∀ tk tk', Q (.int items.size tk) { s with toks := tk' }) →
    wpAny (model prog w) A (call (.builtin "len") [.ref t]) Q E s
  add : ∀ {prog : Program} {w : World} {A : Around} {E : Value → Shared → Prop} {s : Shared} {Q : Value → Shared → Prop} {h₀ : Heap} {L a b : Addr} {m : Str → Option Value} {news : List (Addr × Obj)} {vs ws : List Value}, Fr h₀ L s.heap m → News h₀ L s.heap news → P s.heap a vs.toArray → P s.heap b ws.toArray → vs ≠ [] → ws ≠ [] → vs.length + ws.length ≤ 2000 →
    (∀ r o h', Fr h₀ L h' m → News h₀ L h' ((r, o) :: news) → Hid (∀ h'' : Heap, h''.get? r = some o → P h'' r (vs ++ ws).toArray) → AllNe r news → Q (.ref r) { s with heap := h' }) →
    wpAny (model prog w) A (binaryOp .Add (.ref a) (.ref b)) Q E s

theorem above_ne {h₀ h : Heap} {L : Addr} {news : List (Addr × Obj)} (N : News h₀ L h news) : AllNe h.objs.size news :=
  allNe_of fun p hp e => by
    have := Heap.lt_size (N p hp).1
    rw [e] at this
    exact Nat.lt_irrefl _ this
theorem kindX_list : KindX Heap.IsList "list" where
  K := kind_list
  len h hs hq := call_len_list h (by omega) (hq _ _)
  add F N ha hb _ _ hs hq := add_lists F N ha hb (fun h' F' N' => hq _ _ h' F' N' ⟨fun h'' e => ⟨_, e, rfl, 0, rfl⟩⟩ (above_ne N)) (by rw [sizeLine_eq]; omega)
theorem kindX_tuple : KindX Heap.IsTuple "tuple" where
  K := kind_tuple
  len h hs hq := PyProof.Rows.len_tuple h (by omega) (hq _ _)
  add F N ha hb h1 h2 hs hq := add_tuples F N ha hb (fun e => absurd e h1) (fun _ e => absurd e h2) (fun _ _ h' F' N' => hq _ _ h' F' N' ⟨fun h'' e => ⟨_, e, rfl, 0, rfl⟩⟩ (above_ne N)) (by rw [sizeLine_eq]; omega)

theorem fillJ2 : PySem.Challenge.rw_wb0022_01 = PySem.Challenge.rw_wb0022_01 ∧ K0 = K0 := by
  k_fill
  exact ⟨rfl, rfl⟩
variable {w : World} {mean : ExcName → Option Value} {mg mb : Str → Option Value} {s : Shared} {R : Result → Shared → Prop} {hb : Heap}
variable {α : Type} [DecidableEq α] {rep : Value → α → Prop} {lt : α → α → Bool}
theorem regJ2_1 : True := by
  k_with_none
  k_with "my enterC" => (((case kX => k_asm); (case kL => exact Top.nolimit (by assumption)); (case k6 => k_is); (case k7 => k_is); (case k8 => decide); (case k9 => exact BindsTo.of_eq rfl); (case kB => exact rfl); (case kD => decide +kernel); (case c2 => exact rfl); (case c3 => exact rfl); (case c4 => exact rfl); k_whole; intro zL' zh' ztk' zcells' zF' zN' zY'; k_cells zY'; (try simp only [List.cons_append, List.nil_append] at zN'); (try dsimp only)))
  k_with "eval ListComp" => ((with_reducible refine stop_of ?_))
  k_with "CompSrcT" => ((with_reducible refine stop_of ?_))
  k_with "CompEnd" => ((with_reducible refine stop_of ?_))
  k_with "subscriptTail Name Slice ref ref" => ((with_reducible refine stop_of ?_))
  k_with "subscriptTail" => ((with_reducible refine stop_of ?_))
  k_with "call builtin:max" => ((with_reducible refine stop_of ?_))
  k_with "pyIter ref" => ((with_reducible refine stop_of ?_))
  k_with "InvPostN" => ((with_reducible refine stop_of ?_))
  k_with "InvEndN" => ((with_reducible refine stop_of ?_))
  k_with "eval Name" => ((k_here; (with_reducible show wpAny _ _ (eval (Expr.Name _ _) (compEnvC _ _ _ _)) _ _ _); k_dflt (focus (refine' LCgL.ld_built ?_ ?_ ?_ ?_ ?_ ?_ ?_ ?_ ?_ ?_ ?_ ?_; rotate_left 20; rfl; rotate_left 11; k_asm; k_asm; k_asm; rotate_left 4; rfl; rfl; rfl; decide; rotate_left; k_is; boot_by_name; decide))))
  trivial

theorem len_here {P : Heap → Addr → Array Value → Prop} {ty : String} {prog : Program} {w : World} {A : Around} {E : Value → Shared → Prop} {s : Shared} {Q : Value → Shared → Prop} {h₀ : Heap} {L t : Addr} {m : Str → Option Value} {vs : List Value} {xs : List α}
    (KD : KindX P ty) (F : Fr h₀ L s.heap m) (h : P h₀ t vs.toArray) (r : Rep2 rep vs xs) (hs : xs.length ≤ 64) (hq : ∀ tk tk', Q (.int (xs.length : Nat) tk) { s with toks := tk' }) :
    wpAny (model prog w) A (call (.builtin "len") [.ref t]) Q E s :=
  KD.len (KD.K.keeps h (F.keep _)) (by rw [List.size_toArray, r.len]; omega) (by rw [List.size_toArray, r.len]; exact hq)
theorem regJ2_2 : True := by
  k_with "call builtin:len" => ((k_here; refine len_here (by assumption) (by assumption) (by assumption) (by assumption) (by assumption) ?_; intro _ _))
  trivial


theorem Rep2.append {vs us : List Value} {xs ys : List α} (h : Rep2 rep vs xs) (k : Rep2 rep us ys) : Rep2 rep (vs ++ us) (xs ++ ys) := by
  induction h with
  | nil => exact k
  | cons r h ih => exact .cons r ih
theorem small_up (a b : Int) (h : a ≤ b ∧ b ≤ 1000000 ∧ -1000000 ≤ a) : Builtin.Range.small a b 1 = true := by
  exact small_one (by omega) (by omega) (by omega) (by omega)
theorem size_up (a b : Int) (n : Nat) (h : b = a + n) : Builtin.Range.rangeSize a b 1 = (n : Int) := by
  subst h
  unfold Builtin.Range.rangeSize
  simp
  omega
theorem c_due {P : Heap → Addr → Array Value → Prop} {ty : String} (KD : KindX P ty) (O : Ordr rep lt) {a b : Addr} {va vb : List Value} {xs ys : List α} (W : Wd w mean mg mb s.heap) (ha : P s.heap a va.toArray) (hb : P s.heap b vb.toArray) (ra : Rep2 rep va xs) (rb : Rep2 rep vb ys)
    (la : xs.length ≤ 64) (lb : ys.length ≤ 64) (na : 1 ≤ xs.length) (nb : 1 ≤ ys.length)
    (ret : ∀ (r : Addr) (vs : List Value) p h' tk', s.heap.StaysIn h' → P h' r vs.toArray → Rep2 rep vs p → IsDue xs ys p → R (.ok (.ret (.ref r))) { s with heap := h', toks := tk' }) :
    codeAny (model P0 w) (lv 370 600) (.call (.ref 193) ⟨[.ref a, .ref b], []⟩) R s := by
  have KX := W.X
  have KT := W.T
  refine' enterC (binds := [(Str.ofString "one", .ref a), (Str.ofString "other", .ref b)]) ?kX ?kL ?k6 ?k7 ?k8 ?k9 ?kB ?kD ?_ ?c2 ?c3 ?c4
  k_dflt walk_at "my enterC"
  rename (_ : Obj).data = _ => c2
  revert c2
  rename (_ : Obj).data = _ => c1
  intro c2
  replace c1 : _ = Data.cell (some (.ref b)) := c1
  replace c2 : _ = Data.cell (some (.ref a)) := c2
  try k_fold
  k_steps
  refine stop_go (LCt.ListComp_T (F₀ := by k_asm) (by with_unfolding_all rfl) (by decide) (by rfl) (by decide) (by rfl) ?_)
  k_steps
  rename IsRange _ _ _ _ _ _ _ _ => hr
  rename Fr _ _ _ _ => F1
  rename News _ _ _ _ => N1
  have hsm : Builtin.Range.small 1 ((xs.length : Int) + 1) 1 = true := small_up _ _ (by omega)
  have hrs : Builtin.Range.rangeSize 1 ((xs.length : Int) + 1) 1 = ((xs.length : Nat) : Int) := size_up _ _ _ (by omega)
  refine stop_go (LCt.CompSrcT.range rfl F1 N1 hr hsm hrs (by rw [sizeLine_eq]; omega) (fun g => restT (fun i ys' => IntsAre ys' (divs xs.length ys.length i)) .nil ?turn ?fin))
  case turn =>
    intro i v I oI C oC D m₂ ys' h tk E' hi hP hR hC hx' F N off ne
    obtain ⟨t', rfl⟩ := hP
    have off0 := Hid.mk off
    simp only [LCg.Off3, and_true] at off
    clear F1 N1
    have hd0 : (1 + (i : Int)) ≠ 0 := by omega
    k_steps
    · exact stop_go (LCg.CompEnd.intro (by assumption) (by assumption) _ (fun _ h => h) off0.out trivial ⟨rfl, divs_yes hR (by assumption) (by assumption)⟩)
    · exact stop_go (LCg.CompEnd.intro (by assumption) (by assumption) _ (fun _ h => h) off0.out trivial ⟨rfl, divs_no2 hR (by assumption)⟩)
    · exact stop_go (LCg.CompEnd.intro (by assumption) (by assumption) _ (fun _ h => h) off0.out trivial ⟨rfl, divs_no1 hR (by assumption)⟩)
  case fin =>
    intro ys' hys
    intro D h' tk' F' N' o1
    clear F1 N1
    replace o1 := off1_ne o1
    simp only [AllNe, and_true] at o1
    (try dsimp only)
    k_steps
    rename Fr _ _ _ _ => F2
    rename News _ _ _ _ => N2
    refine stop_go (max_divs na hys ⟨_, (N2 _ (.head _)).1, rfl, _, rfl⟩ rfl ?_)
    intro h' tk' t' st'
    have F' := frStay F2 st'
    have N' := newsStay N2 st'
    clear F2 N2
    k_sweep
    (try dsimp only)
    k_steps
    have hgl : Nat.gcd xs.length ys.length ≤ xs.length := Nat.gcd_le_left _ na
    rename IsRange _ _ _ _ _ _ _ _ => hr2
    rename Fr _ _ _ _ => F3
    rename News _ _ _ _ => N3
    have hsm2 : Builtin.Range.small 0 ((xs.length : Int) + (ys.length : Int) - (Nat.gcd xs.length ys.length : Nat)) 1 = true := small_up _ _ (by omega)
    have hrs2 : Builtin.Range.rangeSize 0 ((xs.length : Int) + (ys.length : Int) - (Nat.gcd xs.length ys.length : Nat)) 1 = ((xs.length + ys.length - Nat.gcd xs.length ys.length : Nat) : Int) := size_up _ _ _ (by omega)
    refine fr_named F3 fun m0 em F4 => ?_
    refine stop_go (iter_rangeI (fun i m nx => nx = _ ∧ (∀ j, j < i → xs[j % xs.length]? = ys[j % ys.length]?) ∧ ∀ z, z ≠ Str.ofString "k" → m z = m0 z) rfl hr2 hsm2 hrs2 F4 N3 ⟨rfl, fun j h => absurd h (Nat.not_lt_zero _), fun _ _ => rfl⟩ ?turn ?done)
    case turn =>
      rintro i t1 m₁ nx h tk1 own hi hsep ⟨rfl, hall, hm⟩ F₁ N₁
      rw [map_none hm] at F₁
      subst em
      clear F3 F4 N3
      simp only [List.map_cons, List.map_nil, List.cons_append, List.nil_append] at hsep N₁ ⊢
      simp only [Int.zero_add] at F₁
      have ei1 : (i : Int).fmod (xs.length : Int) = ((i % xs.length : Nat) : Int) := by rw [Int.fmod_eq_emod_of_nonneg _ (by omega)]; rfl
      have ei2 : (i : Int).fmod (ys.length : Int) = ((i % ys.length : Nat) : Int) := by rw [Int.fmod_eq_emod_of_nonneg _ (by omega)]; rfl
      obtain ⟨x, hx⟩ : ∃ x, xs[i % xs.length]? = some x := ⟨_, List.getElem?_eq_getElem (Nat.mod_lt _ na)⟩
      obtain ⟨y, hy⟩ : ∃ y, ys[i % ys.length]? = some y := ⟨_, List.getElem?_eq_getElem (Nat.mod_lt _ nb)⟩
      obtain ⟨vx, hvx, rx⟩ := ra.got hx
      obtain ⟨vy, hvy, ry⟩ := rb.got hy
      k_steps
      rename Fr _ _ _ _ => F5
      rw [ei1]
      refine stop_go (KD.K.get (KD.K.keeps ha (F5.keep _)) (by rw [List.size_toArray, ra.len]; omega) (by simpa using hvx) ?_ (by with_unfolding_all rfl) (by intro _; with_unfolding_all rfl))
      k_steps
      rename Fr _ _ _ _ => F5
      rw [ei2]
      refine stop_go (KD.K.get (KD.K.keeps hb (F5.keep _)) (by rw [List.size_toArray, rb.len]; omega) (by simpa using hvy) ?_ (by with_unfolding_all rfl) (by intro _; with_unfolding_all rfl))
      k_steps
      refine O.nev rx ry _ _ _ _ _ _ ?_
      k_steps
      · rename Fr _ _ _ _ => F5
        rename News _ _ _ _ => N5
        refine KD.add F5 N5 (KD.K.keeps ha (F5.keep _)) (KD.K.keeps hb (F5.keep _)) (by intro e; rw [e] at ra; have := ra.len; simp at this; omega) (by intro e; rw [e] at rb; have := rb.len; simp at this; omega) (by rw [ra.len, rb.len]; omega) ?_
        intro r o h' F' N' hP l1
        have hgr := (N' _ (.head _)).1
        k_steps
        rename Fr _ _ _ _ => F6
        refine stop_go (kba_turn (value' := PySem.Expr.Name (PySem.Str.ofString "_") ⟨0, 0, 0, 0⟩) (fun _ => rfl) ?_)
        refine (KD.K.slice (s := ⟨_, _, _, _, _⟩) (hP.out _ hgr) (by rw [List.size_toArray, (ra.append rb).len, List.length_append]; omega) (by rw [List.size_toArray, (ra.append rb).len, List.length_append]; omega) ?_ (by with_unfolding_all rfl) (by intro _; with_unfolding_all rfl))
        intro r' h' st' _ hr
        refine ret r' _ _ _ _ (fun b o e => st' b o (F6.keep b o e)) hr ((ra.append rb).take i) (.inl ⟨i, hi, hall, ?_, rfl⟩)
        rw [hx, hy]
        intro e
        injection e with e
        exact absurd e (bne_iff_ne.mp (by assumption))
      · have exy : x = y := by simpa using (by assumption : (x != y) = false)
        refine stop_go (InvEndN.intro (by assumption) (by assumption) ⟨rfl, fun j hj => ?_, fun z hz => if_neg hz⟩ rfl ?_ ?_)
        · rcases Nat.lt_or_ge j i with g | g
          · exact hall j g
          · obtain rfl : j = i := by omega
            rw [hx, hy, exy]
        · exact fun q hq => List.mem_append_left own hq
        · exact fun q hq => .tail _ (.tail _ (.tail _ hq))
    case done =>
      rintro m₁ nx h tk1 ⟨rfl, hall, hm⟩ F₁ N₁
      rw [← done_none hm] at F₁
      subst em
      clear F3 F4 N3
      k_steps
      rename Fr _ _ _ _ => F5
      rename News _ _ _ _ => N5
      refine KD.add F5 N5 (KD.K.keeps ha (F5.keep _)) (KD.K.keeps hb (F5.keep _)) (by intro e; rw [e] at ra; have := ra.len; simp at this; omega) (by intro e; rw [e] at rb; have := rb.len; simp at this; omega) (by rw [ra.len, rb.len]; omega) ?_
      intro r o h' F' N' hP l1
      have hgr := (N' _ (.head _)).1
      k_steps
      exact ret r _ _ _ _ F'.keep (hP.out _ hgr) (ra.append rb) (.inr ⟨hall, rfl⟩)
end Mine
end
section
theorem Mine.regO1_0 : True := by
  k_with_none
  trivial
open PySem PySem.W PySem.Calls PyProof.Rows
open SeqAt
set_option Elab.async false
set_option maxRecDepth 100000
namespace Mine
set_option maxHeartbeats 4000000
variable {α : Type} [DecidableEq α] {rep : Value → α → Prop} {lt : α → α → Bool}

theorem all_eq {xs ys : List α} (h : xs.length = ys.length) : ((List.range xs.length).all fun j => xs[j]? == ys[j]?) = decide (xs = ys) := by
  rw [Bool.eq_iff_iff, List.all_eq_true, decide_eq_true_iff]
  constructor
  · intro g
    refine List.ext_getElem? fun i => ?_
    rcases Nat.lt_or_ge i xs.length with k | k
    · simpa using g i (List.mem_range.mpr k)
    · rw [List.getElem?_eq_none k, List.getElem?_eq_none (h ▸ k)]
  · rintro rfl j _
    simp
section
variable {prog : Program} {w : World} {A : Around} {E : Value → Shared → Prop} {s : Shared} {Q : Value → Shared → Prop}
theorem elt_eq (O : Ordr rep lt) {vs us : List Value} {xs ys : List α} (p : Rep2 rep vs xs) (q : Rep2 rep us ys) (j : Nat) (h1 : j < vs.toArray.size) (h2 : j < us.toArray.size) (A : Around) (s : Shared) : EqAt A s vs.toArray[j] us.toArray[j] (xs[j]? == ys[j]?) := by
  obtain ⟨x, ex, rx⟩ := p.get (i := j) (v := vs.toArray[j]) (by simp)
  obtain ⟨y, ey, ry⟩ := q.get (i := j) (v := us.toArray[j]) (by simp)
  rw [ex, ey]
  exact O.eqv rx ry A s
theorem ne_lists (O : Ordr rep lt) {l b : Addr} {vs us : List Value} {xs ys : List α} (hl : s.heap.IsList l vs.toArray) (hb : s.heap.IsList b us.toArray) (p : Rep2 rep vs xs) (q : Rep2 rep us ys) (hu : A.units < cLine) (h : Q (.bool (!decide (xs = ys))) s) :
    wpAny (model prog w) A (compareOp .NotEq (.ref l) (.ref b)) Q E s := by
  show wpAny _ _ (richCompare .NotEq _ _) _ _ _
  by_cases hs : xs.length = ys.length
  · have := RcNeAt.lists (e := fun j => xs[j]? == ys[j]?) hl hb (by simp [p.len, q.len, hs]) hu (fun j h1 h2 => elt_eq O p q j h1 h2 _ _)
    simp only [List.size_toArray, p.len] at this
    rw [all_eq hs] at this
    exact this prog w E Q h
  · have := RcNeAt.lists_lengths (A := A) hl hb (by simp [p.len, q.len, hs]) hu
    rw [show decide (xs = ys) = false from decide_eq_false (fun e => hs (by rw [e]))] at h
    exact this prog w E Q h
end
end Mine
end
section
theorem Mine.regW1_0 : True := by
  k_with_none
  trivial
open PySem PySem.W PySem.Calls PyProof.Rows
set_option Elab.async false
namespace Mine
section
set_option linter.unusedSectionVars false
variable {α : Type} [DecidableEq α]

/-- words of a message, one behind the other -/
def star (x y : List α) : List Int → List α
  | [] => []
  | b :: bs => (if b = 0 then x else y) ++ star x y bs
theorem star_append (x y : List α) : ∀ (bs cs : List Int), star x y (bs ++ cs) = star x y bs ++ star x y cs
  | [], cs => rfl
  | b :: bs, cs => by simp only [List.cons_append, star, star_append x y bs cs, List.append_assoc]

def Core (x y : List α) : Prop := ∃ z c d, c ≠ d ∧ z.length + Nat.gcd x.length y.length < x.length + y.length ∧
  (∀ bs, z.length < (x ++ star x y bs).length → z ++ [c] <+: x ++ star x y bs) ∧ (∀ bs, z.length < (y ++ star x y bs).length → z ++ [d] <+: y ++ star x y bs)

def flip01 (bs : List Int) : List Int := bs.map fun b => if b = 0 then 1 else 0
theorem star_flip (x y : List α) : ∀ bs, star y x (flip01 bs) = star x y bs
  | [] => rfl
  | b :: bs => by
    show (if (if b = 0 then (1 : Int) else 0) = 0 then y else x) ++ star y x (flip01 bs) = _
    rw [star_flip x y bs]
    by_cases h : b = 0 <;> simp [h, star]
theorem Core.symm {x y : List α} (h : Core x y) : Core y x := by
  obtain ⟨z, c, d, n, l, h1, h2⟩ := h
  refine ⟨z, d, c, n.symm, by rw [Nat.gcd_comm]; omega, fun bs => ?_, fun bs => ?_⟩
  · rw [← star_flip y x bs]; exact h2 _
  · rw [← star_flip y x bs]; exact h1 _

theorem star_into (x v : List α) : ∀ bs, ∃ bs', star x (x ++ v) bs = star x v bs'
  | [] => ⟨[], rfl⟩
  | b :: bs => by
    obtain ⟨c, e⟩ := star_into x v bs
    by_cases h : b = 0
    · exact ⟨0 :: c, by simp [star, h, e]⟩
    · exact ⟨0 :: 1 :: c, by simp [star, h, e]⟩
theorem star_head (x v : List α) (bs : List Int) : star x (x ++ v) bs = [] ∨ ∃ bs', star x (x ++ v) bs = x ++ star x v bs' := by
  cases bs with
  | nil => exact .inl rfl
  | cons b bs =>
    obtain ⟨c, e⟩ := star_into x v bs
    right
    by_cases h : b = 0
    · exact ⟨c, by simp [star, h, e]⟩
    · exact ⟨1 :: c, by simp [star, h, e]⟩
theorem core_step {x v : List α} (h : Core x v) : Core x (x ++ v) := by
  obtain ⟨z, c, d, n, l, h1, h2⟩ := h
  refine ⟨x ++ z, c, d, n, ?_, fun bs hl => ?_, fun bs hl => ?_⟩
  · rw [List.length_append, List.length_append, Nat.add_comm x.length v.length, Nat.gcd_add_self_right]
    omega
  · rcases star_head x v bs with e | ⟨bs', e⟩
    · rw [e] at hl
      simp only [List.length_append, List.length_nil] at hl
      omega
    · rw [e, List.append_assoc]
      refine (List.prefix_append_right_inj x).mpr (h1 bs' ?_)
      rw [e] at hl
      simp only [List.length_append] at hl ⊢
      omega
  · obtain ⟨bs', e⟩ := star_into x v bs
    rw [e, List.append_assoc, List.append_assoc]
    refine (List.prefix_append_right_inj x).mpr (h2 bs' ?_)
    rw [e] at hl
    simp only [List.length_append] at hl ⊢
    omega
theorem fork : ∀ x y : List α, x <+: y ∨ y <+: x ∨ ∃ z c d, c ≠ d ∧ z ++ [c] <+: x ∧ z ++ [d] <+: y
  | [], y => .inl (List.nil_prefix)
  | a :: x, [] => .inr (.inl List.nil_prefix)
  | a :: x, b :: y => by
    by_cases h : a = b
    · subst h
      rcases fork x y with k | k | ⟨z, c, d, n, k1, k2⟩
      · exact .inl (List.cons_prefix_cons.mpr ⟨rfl, k⟩)
      · exact .inr (.inl (List.cons_prefix_cons.mpr ⟨rfl, k⟩))
      · exact .inr (.inr ⟨a :: z, c, d, n, List.cons_prefix_cons.mpr ⟨rfl, k1⟩, List.cons_prefix_cons.mpr ⟨rfl, k2⟩⟩)
    · exact .inr (.inr ⟨[], a, b, h, by simp, by simp⟩)
theorem core_of : ∀ (n : Nat) (x y : List α), x.length + y.length ≤ n → x ++ y ≠ y ++ x → Core x y
  | 0, x, y, hn, h => by
    have hx : x = [] := List.length_eq_zero_iff.mp (by omega)
    subst hx
    simp at h
  | n + 1, x, y, hn, h => by
    have key : ∀ x y : List α, x.length + y.length ≤ n + 1 → x ++ y ≠ y ++ x → x <+: y → Core x y := by
      rintro x _ hn h ⟨v, rfl⟩
      have hx : x.length ≠ 0 := fun e => h (by rw [List.length_eq_zero_iff.mp e]; simp)
      refine core_step (core_of n x v (by simp only [List.length_append] at hn; omega) fun e => h ?_)
      rw [List.append_assoc, ← e]
    rcases fork x y with k | k | ⟨z, c, d, hcd, k1, k2⟩
    · exact key x y hn h k
    · exact (key y x (by omega) (fun e => h e.symm) k).symm
    · refine ⟨z, c, d, hcd, ?_, fun bs _ => k1.trans (List.prefix_append _ _), fun bs _ => k2.trans (List.prefix_append _ _)⟩
      have e1 := k1.length_le
      have e2 := k2.length_le
      simp only [List.length_append, List.length_cons, List.length_nil] at e1 e2
      have := Nat.gcd_le_right x.length (n := y.length) (by omega)
      omega

theorem lcp_fork {z a b : List α} {c d : α} (n : c ≠ d) (h : z ++ [c] <+: a) (k : z ++ [d] <+: b) : lcp a b = z := by
  obtain ⟨u, rfl⟩ := h
  obtain ⟨v, rfl⟩ := k
  induction z with
  | nil => simp [lcp, n]
  | cons e z ih => simpa [lcp] using ih

theorem core_two {x y : List α} {z : List α} {c d : α} (n : c ≠ d) (l : z.length + Nat.gcd x.length y.length < x.length + y.length)
    (h1 : ∀ bs, z.length < (x ++ star x y bs).length → z ++ [c] <+: x ++ star x y bs) (h2 : ∀ bs, z.length < (y ++ star x y bs).length → z ++ [d] <+: y ++ star x y bs) :
    z ++ [c] <+: x ++ y ∧ z ++ [d] <+: y ++ x ∧ lcp (x ++ y) (y ++ x) = z := by
  have k1 := h1 [1] (by simp [star]; omega)
  have k2 := h2 [0] (by simp [star]; omega)
  simp only [star, List.append_nil] at k1 k2
  exact ⟨k1, k2, lcp_fork n k1 k2⟩

theorem star_rep (x y : List α) (b : Int) : ∀ m, ∀ k, k < m * (if b = 0 then x else y).length → (star x y (List.replicate m b))[k]? = (if b = 0 then x else y)[k % (if b = 0 then x else y).length]?
  | 0, k, h => by omega
  | m + 1, k, h => by
    rw [List.replicate_succ, star]
    generalize hw : (if b = 0 then x else y) = w at *
    rcases Nat.lt_or_ge k w.length with g | g
    · rw [List.getElem?_append_left g, Nat.mod_eq_of_lt g]
    · rw [List.getElem?_append_right g, star_rep x y b m (k - w.length) (by rw [hw]; rw [Nat.succ_mul] at h; omega), hw]
      congr 1
      rw [Nat.mod_eq_sub_mod g]
theorem star_rep_len (x y : List α) (b : Int) : ∀ m, (star x y (List.replicate m b)).length = m * (if b = 0 then x else y).length
  | 0 => by simp [star]
  | m + 1 => by rw [List.replicate_succ, star, List.length_append, star_rep_len x y b m, Nat.succ_mul, Nat.add_comm]

theorem pre_get {z w : List α} (h : z <+: w) {k : Nat} (hk : k < z.length) : w[k]? = z[k]? := by
  obtain ⟨u, rfl⟩ := h
  rw [List.getElem?_append_left hk]
theorem fork_at {x y z : List α} {c d : α} (hx : x ≠ []) (hy : y ≠ []) (n : c ≠ d)
    (h1 : ∀ bs, z.length < (x ++ star x y bs).length → z ++ [c] <+: x ++ star x y bs) (h2 : ∀ bs, z.length < (y ++ star x y bs).length → z ++ [d] <+: y ++ star x y bs) :
    (∀ j, j < z.length → x[j % x.length]? = y[j % y.length]?) ∧ x[z.length % x.length]? ≠ y[z.length % y.length]? := by
  have lx : 1 ≤ x.length := List.length_pos_iff.mpr hx
  have ly : 1 ≤ y.length := List.length_pos_iff.mpr hy
  have k1 := h1 (List.replicate z.length 0) (by rw [List.length_append, star_rep_len, if_pos rfl]; have := Nat.le_mul_of_pos_right z.length lx; omega)
  have k2 := h2 (List.replicate z.length 1) (by rw [List.length_append, star_rep_len, if_neg (by omega)]; have := Nat.le_mul_of_pos_right z.length ly; omega)
  have e1 : x ++ star x y (List.replicate z.length 0) = star x y (List.replicate (z.length + 1) 0) := by simp [List.replicate_succ, star]
  have e2 : y ++ star x y (List.replicate z.length 1) = star x y (List.replicate (z.length + 1) 1) := by simp [List.replicate_succ, star]
  rw [e1] at k1
  rw [e2] at k2
  have g1 : ∀ j, j < z.length + 1 → x[j % x.length]? = (z ++ [c])[j]? := by
    intro j hj
    rw [← pre_get k1 (by simpa using hj), star_rep x y 0 _ j (by rw [if_pos rfl]; have := Nat.le_mul_of_pos_right (z.length + 1) lx; omega), if_pos rfl]
  have g2 : ∀ j, j < z.length + 1 → y[j % y.length]? = (z ++ [d])[j]? := by
    intro j hj
    rw [← pre_get k2 (by simpa using hj), star_rep x y 1 _ j (by rw [if_neg (by omega)]; have := Nat.le_mul_of_pos_right (z.length + 1) ly; omega), if_neg (by omega)]
  refine ⟨fun j hj => ?_, ?_⟩
  · rw [g1 j (by omega), g2 j (by omega), List.getElem?_append_left hj, List.getElem?_append_left hj]
  · rw [g1 _ (by omega), g2 _ (by omega)]
    simpa using n
theorem period {w : List α} {p : Nat} (hp : 1 ≤ p) (h : ∀ i, i + p < w.length → w[i]? = w[i + p]?) : ∀ k, k < w.length → w[k]? = w[k % p]? := by
  intro k
  induction k using Nat.strongRecOn with
  | _ k ih =>
    intro hk
    rcases Nat.lt_or_ge k p with g | g
    · rw [Nat.mod_eq_of_lt g]
    · have := h (k - p) (by omega)
      rw [show k - p + p = k by omega] at this
      rw [← this, ih (k - p) (by omega) (by omega), ← Nat.mod_eq_sub_mod g]
theorem commute_at {x y : List α} (hx : x ≠ []) (hy : y ≠ []) (h : x ++ y = y ++ x) {k : Nat} (hk : k < x.length + y.length) : x[k % x.length]? = y[k % y.length]? := by
  have lx : 1 ≤ x.length := List.length_pos_iff.mpr hx
  have ly : 1 ≤ y.length := List.length_pos_iff.mpr hy
  have a1 := period (w := x ++ y) lx (by
    intro i hi
    rw [List.length_append] at hi
    conv => lhs; rw [h]
    rw [List.getElem?_append_left (by omega), List.getElem?_append_right (by omega), Nat.add_sub_cancel]) k (by rw [List.length_append]; omega)
  have a2 := period (w := y ++ x) ly (by
    intro i hi
    rw [List.length_append] at hi
    conv => lhs; rw [← h]
    rw [List.getElem?_append_left (by omega), List.getElem?_append_right (by omega), Nat.add_sub_cancel]) k (by rw [List.length_append]; omega)
  rw [List.getElem?_append_left (Nat.mod_lt _ lx)] at a1
  rw [List.getElem?_append_left (Nat.mod_lt _ ly)] at a2
  rw [← a1, ← a2, h]
theorem due_lcp {x y p : List α} (hx : x ≠ []) (hy : y ≠ []) (h : IsDue x y p) : p = lcp (x ++ y) (y ++ x) := by
  by_cases e : x ++ y = y ++ x
  · rw [lcp_all (by rw [e]; exact List.prefix_refl _)]
    rcases h with ⟨k, hk, _, hn, _⟩ | ⟨_, h⟩
    · exact absurd (commute_at hx hy e (by omega)) hn
    · exact h
  · obtain ⟨z, c, d, n, l, h1, h2⟩ := core_of _ x y (Nat.le_refl _) e
    obtain ⟨k1, k2, hz⟩ := core_two n l h1 h2
    obtain ⟨f1, f2⟩ := fork_at hx hy n h1 h2
    rw [hz]
    rcases h with ⟨k, hk, ha, hn, hp⟩ | ⟨ha, hp⟩
    · have : k = z.length := by
        rcases Nat.lt_trichotomy k z.length with g | g | g
        · exact absurd (f1 k g) hn
        · exact g
        · exact absurd (ha _ g) f2
      rw [hp, this]
      obtain ⟨u, hu⟩ := k1
      rw [← hu]
      simp
    · exact absurd (ha _ (by omega)) f2
end

/-- what is read next: 0, 1, or 2 for a word that the law does not find -/
def whichOf (left x y : List Str) : Int :=
  let shared := lcp (x ++ y) (y ++ x)
  let alike := lcp left (x ++ y)
  if lcp (lcp (x ++ y) (y ++ x)) left ≠ shared ∨ lcp (lcp left (x ++ y)) (y ++ x) ≠ shared then 2
  else if alike.length > shared.length then 0 else 1

theorem which_star {x y : List Str} (hne : x ++ y ≠ y ++ x) {b : Int} (hb : b = 0 ∨ b = 1) (bs : List Int) (t : List Str) (hl : x.length + y.length ≤ (star x y (b :: bs)).length) :
    whichOf (star x y (b :: bs) ++ t) x y = b := by
  obtain ⟨z, c, d, n, l, h1, h2⟩ := core_of _ x y (Nat.le_refl _) hne
  obtain ⟨k1, k2, hz⟩ := core_two n l h1 h2
  have pz : ∀ {c : Str} {w}, z ++ [c] <+: w → z <+: w := fun h => (List.prefix_append z [_]).trans h
  unfold whichOf
  simp only [hz]
  rcases hb with rfl | rfl
  · have g : z ++ [c] <+: star x y (0 :: bs) ++ t := by
      refine List.IsPrefix.trans ?_ (List.prefix_append _ _)
      simp only [star, if_true] at hl ⊢
      exact h1 bs (by omega)
    have e1 : lcp z (star x y (0 :: bs) ++ t) = z := lcp_all (pz g)
    have g2 : z ++ [c] <+: lcp (star x y (0 :: bs) ++ t) (x ++ y) := lcp_great g k1
    have e2 : lcp (lcp (star x y (0 :: bs) ++ t) (x ++ y)) (y ++ x) = z := lcp_fork n g2 k2
    have e3 := g2.length_le
    simp only [List.length_append, List.length_cons, List.length_nil] at e3
    rw [if_neg (by rw [e1, e2]; simp), if_pos (by omega)]
  · have g : z ++ [d] <+: star x y (1 :: bs) ++ t := by
      refine List.IsPrefix.trans ?_ (List.prefix_append _ _)
      have e1 : star x y (1 :: bs) = y ++ star x y bs := by simp [star]
      rw [e1] at hl ⊢
      exact h2 bs (by omega)
    have e1 : lcp z (star x y (1 :: bs) ++ t) = z := lcp_all (pz g)
    have e2 : lcp (star x y (1 :: bs) ++ t) (x ++ y) = z := lcp_fork n.symm g k1
    have e3 : lcp z (y ++ x) = z := lcp_all (pz k2)
    rw [if_neg (by rw [e1, e2, e3]; simp), if_neg (by rw [e2]; omega)]
end Mine
end
section
open PySem PySem.W PySem.Calls PyProof.Rows
set_option Elab.async false
set_option maxRecDepth 100000
namespace Mine
set_option maxHeartbeats 4000000
set_option pp.deepTerms false
set_option pp.maxSteps 3000
theorem regN1_1 : True := by
  k_with_none
  k_with "my enter" => (((case kX => k_asm); (case kL => exact Top.nolimit (by assumption)); (case kS => first | exact fun _ _ e => e | exact hide_stays _ _); (case kZ => first | exact Nat.le_refl _ | exact Nat.le_of_eq (hideAll_size _ _)); (case kN => first | assumption | exact List.forall_mem_nil _); (case k6 => k_is); (case k7 => k_is); (case k8 => decide); (case k9 => exact BindsTo.of_eq rfl); (case kB => exact locs rfl); (case c2 => exact rfl); (case c3 => exact rfl); (case c4 => exact rfl); (case c5 => decide); k_whole; intro zL' zh' zF' zN' zl1; (try dsimp only [List.reverse_cons, List.reverse_nil, List.nil_append, List.cons_append])))
  trivial

theorem fillN1 : PySem.Challenge.rw_wb0022_01 = PySem.Challenge.rw_wb0022_01 ∧ K0 = K0 := by
  k_fill
  exact ⟨rfl, rfl⟩
variable {w : World} {mean : ExcName → Option Value} {mg mb : Str → Option Value} {s : Shared} {R : Result → Shared → Prop} {hb : Heap}

abbrev semi (dd : Option Addr) (sl : Array (Option Value)) (vs : List Value) (k : Nat) : Obj := { cls := .type "list", dict := dd, data := .seq vs.toArray k, slots := sl }
theorem semi_of {h : Heap} {r : Addr} {vs : List Value} (x : h.IsList r vs.toArray) : ∃ dd sl k, h.get? r = some (semi dd sl vs k) := by
  obtain ⟨⟨cls, dd, data, sl⟩, ho, hc, n, hd⟩ := x
  simp only at hc hd
  subst hc hd
  exact ⟨dd, sl, n, ho⟩

theorem call_common {A : Around} {E Q : Value → Shared → Prop} {h₀ : Heap} {L mm a : Addr} {m : Str → Option Value} {news : List (Addr × Obj)} {rs : List Value} {xss : List (List Str)}
    (F : Fr h₀ L s.heap m) (N : News h₀ L s.heap news) (W : Wd w mean mg mb s.heap) (hm : s.heap.IsList mm (Value.ref a :: rs).toArray) (S : SeqsAre Heap.IsList repS s.heap (Value.ref a :: rs) xss) (hl : xss.length ≤ 10)
    (al : ∀ r : Addr, Value.ref r ∈ (Value.ref a :: rs) → ∃ o, (r, o) ∈ news) (hh : A.handled = none) (hd : A.depth ≤ 370) (hu : A.units ≤ 600)
    (hq : ∀ r vs p dd sl k h' tk, Fr h₀ L h' m → News h₀ L h' ((r, semi dd sl vs k) :: news) → StrsAre vs p → IsLcp p xss → Q (.ref r) { s with heap := h', toks := tk }) :
    wpAny (model P0 w) A (call (.ref 101) [.ref mm]) Q E s := by
  refine wpAny_call (codeAny_lv (c_common kind_list ordS W hm S hl ?_) hh hd hu)
  intro r vs p h' tk' st hr hv hp ha
  obtain ⟨dd, sl, k, ho⟩ := semi_of hr
  refine hq r vs p dd sl k h' tk' (frStay F st) ?_ (repS_strs.mpr hv) hp
  rcases ha with ha | ha
  · exact (newsNew F N st ha ho).1
  · obtain ⟨o, hm⟩ := al r ha
    intro q hq
    rcases List.mem_cons.mp hq with rfl | hq
    · exact ⟨ho, (N _ hm).2⟩
    · exact ⟨st _ _ (N q hq).1, (N q hq).2⟩
theorem regN1_2 : True := by
  k_with "call ref" => ((with_reducible refine stop_of ?_))
  k_with "compareOp NotEq ref ref" => ((with_reducible refine stop_of ?_))
  k_with "my ne" => ((k_here; refine ne_lists ordS (News.isList (by assumption) (by k_mem)) (News.isList (by assumption) (by k_mem)) (repS_strs.mp (by assumption)) (repS_strs.mp (by assumption)) (Nat.le_of_ble_eq_true rfl) ?_))
  trivial

theorem cut_of {vs : List Value} {xs : List Str} {n : Nat} (h : StrsAre vs xs) (hn : n ≤ xs.length) : ∃ us, slicePick vs.toArray none (some (n : Int)) none = us.toArray ∧ StrsAre us (xs.take n) := by
  refine ⟨vs.take n, ?_, sa_take h n⟩
  rw [slicePick_plain]
  simp only [Option.elim]
  rw [clipAt_nat, Nat.min_eq_left (by rw [List.size_toArray, strsAre_length h]; exact hn)]
  simp
theorem regN1_3 : True := by
  k_with "subscriptTail Name Slice ref ref" => ((with_reducible refine stop_of ?_))
  trivial

theorem c_which {l ws p q : Addr} {vl vp vq : List Value} {left x y : List Str} (W : Wd w mean mg mb hb) (st : hb.StaysIn s.heap) (nd : hb.get? l = none) (hl : s.heap.IsList l vl.toArray) (sl : StrsAre vl left) (hws : hb.IsList ws [Value.ref p, Value.ref q].toArray)
    (hp : hb.IsList p vp.toArray) (sp : StrsAre vp x) (hq : hb.IsList q vq.toArray) (sq : StrsAre vq y) (ll : vl.length ≤ 200) (lx : vp.length ≤ 64) (ly : vq.length ≤ 64)
    (ret : ∀ h' tk' t, s.heap.StaysIn h' → R (.ok (.ret (.int (whichOf left x y) t))) { s with heap := h', toks := tk' }) :
    codeAny (model P0 w) (lv 360 550) (.call (.ref 200) ⟨[.ref l, .ref ws], []⟩) R s := by
  have hk := hide_keeps st (l := [l]) (by simp [nd])
  have W' : Wd w mean mg mb (hideAll s.heap [l]) := W.keeps hk
  have KX := W'.X
  have KT := W'.T
  replace hws := hws.at (hk _)
  replace hp := hp.at (hk _)
  replace hq := hq.at (hk _)
  obtain ⟨d1, s1, k1, hd'⟩ := semi_of hl
  have NN : ∀ p' ∈ [(l, semi d1 s1 vl k1)], s.heap.get? p'.1 = some p'.2 ∧ (hideAll s.heap [l]).get? p'.1 = none := by
    intro p' hp'
    rw [List.mem_singleton.mp hp']
    exact ⟨hd', hideAll_none _ (by simp)⟩
  refine' enter (h₀ := hideAll s.heap [l]) (news := [(l, semi d1 s1 vl k1)]) (binds := [(Str.ofString "left", .ref l), (Str.ofString "words", .ref ws)]) ?kX ?kL ?kS ?kZ ?kN ?k6 ?k7 ?k8 ?k9 ?kB ?_ ?c2 ?c3 ?c4 ?c5
  k_dflt walk_at "my enter"
  try k_fold
  k_steps
  rename Fr _ _ _ _ => F0
  rename News _ _ _ _ => N0
  obtain ⟨bo, ebo⟩ : ∃ a, a = adrAt N0 0 := ⟨_, rfl⟩
  obtain ⟨yx, eyx⟩ : ∃ a, a = adrAt N0 1 := ⟨_, rfl⟩
  obtain ⟨xy, exy⟩ : ∃ a, a = adrAt N0 2 := ⟨_, rfl⟩
  dsimp only [adrAt, adrOf] at ebo eyx exy
  dsimp only at F0 N0 ⊢
  rw [← eyx, ← exy] at N0
  subst ebo
  clear eyx exy
  have sxy := sa_append sp ‹StrsAre vq y›
  have syx := sa_append ‹StrsAre vq y› sp
  have e1 := strsAre_length sp
  have e2 := strsAre_length ‹StrsAre vq y›
  have e3 := strsAre_length sl
  refine stop_go (call_common (xss := [x ++ y, y ++ x]) F0 N0 (W'.keeps F0.keep) (N0.isList (.head _)) (.cons (N0.isList (.tail _ (.tail _ (.head _)))) (repS_strs.mp sxy) (by rw [List.length_append]; omega) (.cons (N0.isList (.tail _ (.head _))) (repS_strs.mp syx) (by rw [List.length_append]; omega) .nil)) (Nat.le_of_ble_eq_true rfl) ?al rfl (Nat.le_of_ble_eq_true rfl) (Nat.le_of_ble_eq_true rfl) ?_)
  case al =>
    intro r hr
    simp only [List.mem_cons, List.not_mem_nil, or_false, Value.ref.injEq] at hr
    rcases hr with rfl | rfl
    · exact ⟨_, .tail _ (.tail _ (.head _))⟩
    · exact ⟨_, .tail _ (.head _)⟩
  intro rsh vsh psh dd1 sl1 kk1 h' tk' F' N' hsh hp1
  obtain rfl := isLcp_2 hp1
  clear hp1
  k_sweep
  (try dsimp only)
  k_steps
  rename Fr _ _ _ _ => F1
  rename News _ _ _ _ => N1
  refine stop_go (call_common (xss := [x ++ y, y ++ x, left]) F1 N1 (W'.keeps F1.keep) (N1.isList (.head _)) (.cons (N1.isList (.tail _ (.tail _ (.tail _ (.tail _ (.tail _ (.head _))))))) (repS_strs.mp sxy) (by rw [List.length_append]; omega) (.cons (N1.isList (.tail _ (.tail _ (.tail _ (.tail _ (.head _)))))) (repS_strs.mp syx) (by rw [List.length_append]; omega) (.cons (N1.isList (.tail _ (.tail _ (.tail _ (.tail _ (.tail _ (.tail _ (.head _)))))))) (repS_strs.mp sl) (by omega) .nil))) (Nat.le_of_ble_eq_true rfl) ?al2 rfl (Nat.le_of_ble_eq_true rfl) (Nat.le_of_ble_eq_true rfl) ?_)
  case al2 =>
    intro r hr
    simp only [List.mem_cons, List.not_mem_nil, or_false, Value.ref.injEq] at hr
    rcases hr with rfl | rfl | rfl
    · exact ⟨_, .tail _ (.tail _ (.tail _ (.tail _ (.tail _ (.head _)))))⟩
    · exact ⟨_, .tail _ (.tail _ (.tail _ (.tail _ (.head _))))⟩
    · exact ⟨_, .tail _ (.tail _ (.tail _ (.tail _ (.tail _ (.tail _ (.head _))))))⟩
  intro r2 vs2 ps2 dd2 sl2 kk2 h' tk' F' N' hs2 hp2
  obtain rfl := isLcp_3 hp2
  clear hp2 F1 N1
  k_sweep
  (try dsimp only)
  k_steps
  rename Fr _ _ _ _ => F2
  rename News _ _ _ _ => N2
  refine stop_go (ne_lists ordS (N2.isList (.head _)) (N2.isList (.tail _ (.tail _ (.tail _ (.head _))))) (repS_strs.mp hs2) (repS_strs.mp hsh) (Nat.le_of_ble_eq_true rfl) ?_)
  k_steps
  rotate_left
  · have hw : whichOf left x y = 2 := by unfold whichOf; simp only [ne_eq]; rw [if_pos (.inl (by assumption))]
    rw [hw] at ret
    exact ret _ _ _ (stays_hidden F2 N2 (by intro a ha o ho; rw [List.mem_singleton.mp ha] at ho ⊢; rw [hd'] at ho; cases ho; k_mem))
  rename Fr _ _ _ _ => F3
  rename News _ _ _ _ => N3
  refine stop_go (call_common (xss := [left, x ++ y, y ++ x]) F3 N3 (W'.keeps F3.keep) (N3.isList (.head _)) (.cons (N3.isList (.tail _ (.tail _ (.tail _ (.tail _ (.tail _ (.tail _ (.tail _ (.tail _ (.tail _ (.head _))))))))))) (repS_strs.mp sl) (by omega) (.cons (N3.isList (.tail _ (.tail _ (.tail _ (.tail _ (.tail _ (.tail _ (.tail _ (.tail _ (.head _)))))))))) (repS_strs.mp sxy) (by rw [List.length_append]; omega) (.cons (N3.isList (.tail _ (.tail _ (.tail _ (.tail _ (.tail _ (.tail _ (.tail _ (.head _))))))))) (repS_strs.mp syx) (by rw [List.length_append]; omega) .nil))) (Nat.le_of_ble_eq_true rfl) ?al3 rfl (Nat.le_of_ble_eq_true rfl) (Nat.le_of_ble_eq_true rfl) ?_)
  case al3 =>
    intro r hr
    simp only [List.mem_cons, List.not_mem_nil, or_false, Value.ref.injEq] at hr
    rcases hr with rfl | rfl | rfl
    · exact ⟨_, .tail _ (.tail _ (.tail _ (.tail _ (.tail _ (.tail _ (.tail _ (.tail _ (.tail _ (.head _)))))))))⟩
    · exact ⟨_, .tail _ (.tail _ (.tail _ (.tail _ (.tail _ (.tail _ (.tail _ (.tail _ (.head _))))))))⟩
    · exact ⟨_, .tail _ (.tail _ (.tail _ (.tail _ (.tail _ (.tail _ (.tail _ (.head _)))))))⟩
  intro r3 vs3 ps3 dd3 sl3 kk3 h' tk' F' N' hs3 hp3
  obtain rfl := isLcp_3 hp3
  clear hp3 F3 N3
  k_sweep
  (try dsimp only)
  k_steps
  rename Fr _ _ _ _ => F4
  rename News _ _ _ _ => N4
  refine stop_go (ne_lists ordS (N4.isList (.head _)) (N4.isList (.tail _ (.tail _ (.tail _ (.tail _ (.tail _ (.tail _ (.head _)))))))) (repS_strs.mp hs3) (repS_strs.mp hsh) (Nat.le_of_ble_eq_true rfl) ?_)
  k_steps
  rotate_left
  · have hw : whichOf left x y = 2 := by unfold whichOf; simp only [ne_eq]; rw [if_pos (.inr (by assumption))]
    rw [hw] at ret
    exact ret _ _ _ (stays_hidden F4 N4 (by intro a ha o ho; rw [List.mem_singleton.mp ha] at ho ⊢; rw [hd'] at ho; cases ho; k_mem))
  rename Fr _ _ _ _ => F5
  rename News _ _ _ _ => N5
  refine stop_go (call_common (xss := [left, x ++ y]) F5 N5 (W'.keeps F5.keep) (N5.isList (.head _)) (.cons (N5.isList (.tail _ (.tail _ (.tail _ (.tail _ (.tail _ (.tail _ (.tail _ (.tail _ (.tail _ (.tail _ (.tail _ (.head _))))))))))))) (repS_strs.mp sl) (by omega) (.cons (N5.isList (.tail _ (.tail _ (.tail _ (.tail _ (.tail _ (.tail _ (.tail _ (.tail _ (.tail _ (.tail _ (.head _)))))))))))) (repS_strs.mp sxy) (by rw [List.length_append]; omega) .nil)) (Nat.le_of_ble_eq_true rfl) ?al4 rfl (Nat.le_of_ble_eq_true rfl) (Nat.le_of_ble_eq_true rfl) ?_)
  case al4 =>
    intro r hr
    simp only [List.mem_cons, List.not_mem_nil, or_false, Value.ref.injEq] at hr
    rcases hr with rfl | rfl
    · exact ⟨_, .tail _ (.tail _ (.tail _ (.tail _ (.tail _ (.tail _ (.tail _ (.tail _ (.tail _ (.tail _ (.tail _ (.head _)))))))))))⟩
    · exact ⟨_, .tail _ (.tail _ (.tail _ (.tail _ (.tail _ (.tail _ (.tail _ (.tail _ (.tail _ (.tail _ (.head _))))))))))⟩
  intro r4 vs4 ps4 dd4 sl4 kk4 h' tk' F' N' hs4 hp4
  obtain rfl := isLcp_2 hp4
  clear hp4 F5 N5
  k_sweep
  (try dsimp only)
  k_steps
  rename Fr _ _ _ _ => F6
  rename News _ _ _ _ => N6
  have e4 := strsAre_length hs4
  have e5 := (lcp_left left (x ++ y)).length_le
  refine call_len_list (N6.isList (.head _)) (by rw [List.size_toArray]; omega) ?_
  rw [List.size_toArray, e4]
  k_steps
  rename Fr _ _ _ _ => F7
  rename News _ _ _ _ => N7
  refine stop_go (slice_led (s := ⟨_, _, _, _, _⟩) F7 N7 (N7.isList (.tail _ (.tail _ (.tail _ (.tail _ (.tail _ (.tail _ (.tail _ (.tail _ (.tail _ (.tail _ (.tail _ (.tail _ (.head _)))))))))))))) IsPart.none (IsPart.int _ _) ?_ (by rw [List.size_toArray, sizeLine_eq]; omega) (by with_unfolding_all rfl) (by intro _; with_unfolding_all rfl))
  intro r5 h' F' N' _
  obtain ⟨u5, eu5, hu5⟩ := cut_of sl e5
  rw [eu5] at N'
  clear F7 N7 eu5
  k_sweep
  (try dsimp only)
  k_steps
  rename Fr _ _ _ _ => F6
  rename News _ _ _ _ => N6
  refine stop_go (ne_lists ordS (N6.isList (.tail _ (.head _))) (N6.isList (.head _)) (repS_strs.mp hs4) (repS_strs.mp hu5) (Nat.le_of_ble_eq_true rfl) ?_)
  rw [← List.prefix_iff_eq_take.mp (lcp_left left (x ++ y)), decide_eq_true rfl]
  k_steps
  rename Fr _ _ _ _ => F7
  rename News _ _ _ _ => N7
  have e6 := (lcp_right left (x ++ y)).length_le
  refine stop_go (slice_led (s := ⟨_, _, _, _, _⟩) F7 N7 (N7.isList (.tail _ (.tail _ (.tail _ (.tail _ (.tail _ (.tail _ (.tail _ (.tail _ (.tail _ (.tail _ (.tail _ (.tail _ (.head _)))))))))))))) IsPart.none (IsPart.int _ _) ?_ (by rw [List.size_toArray, List.length_append, sizeLine_eq]; omega) (by with_unfolding_all rfl) (by intro _; with_unfolding_all rfl))
  intro r6 h' F' N' _
  obtain ⟨u6, eu6, hu6⟩ := cut_of sxy e6
  rw [eu6] at N'
  clear F7 N7 eu6
  k_sweep
  (try dsimp only)
  k_steps
  rename Fr _ _ _ _ => F6
  rename News _ _ _ _ => N6
  refine stop_go (ne_lists ordS (N6.isList (.tail _ (.tail _ (.head _)))) (N6.isList (.head _)) (repS_strs.mp hs4) (repS_strs.mp hu6) (Nat.le_of_ble_eq_true rfl) ?_)
  rw [← List.prefix_iff_eq_take.mp (lcp_right left (x ++ y)), decide_eq_true rfl]
  k_steps
  rename Fr _ _ _ _ => F7
  rename News _ _ _ _ => N7
  have e7 := strsAre_length hsh
  have e8 := (lcp_left (x ++ y) (y ++ x)).length_le
  rw [List.length_append] at e8
  refine call_len_list (N7.isList (.tail _ (.tail _ (.tail _ (.tail _ (.tail _ (.tail _ (.tail _ (.tail _ (.tail _ (.tail _ (.head _)))))))))))) (by rw [List.size_toArray]; omega) ?_
  rw [List.size_toArray, e7]
  k_steps
  all_goals
    rename Fr _ _ _ _ => F8
    rename News _ _ _ _ => N8
    rename lcp (lcp _ _) left = _ => h1
    rename lcp (lcp left _) _ = _ => h2
  · have hw : whichOf left x y = 0 := by unfold whichOf; simp only []; rw [if_neg (by rw [h1, h2]; simp), if_pos (by omega)]
    rw [hw] at ret
    exact ret _ _ _ (stays_hidden F8 N8 (by intro a ha o ho; rw [List.mem_singleton.mp ha] at ho ⊢; rw [hd'] at ho; cases ho; exact (.tail _ (.tail _ (.tail _ (.tail _ (.tail _ (.tail _ (.tail _ (.tail _ (.tail _ (.tail _ (.tail _ (.tail _ (.tail _ (.tail _ (.head _)))))))))))))))))
  · have hw : whichOf left x y = 1 := by unfold whichOf; simp only []; rw [if_neg (by rw [h1, h2]; simp), if_neg (by omega)]
    rw [hw] at ret
    exact ret _ _ _ (stays_hidden F8 N8 (by intro a ha o ho; rw [List.mem_singleton.mp ha] at ho ⊢; rw [hd'] at ho; cases ho; exact (.tail _ (.tail _ (.tail _ (.tail _ (.tail _ (.tail _ (.tail _ (.tail _ (.tail _ (.tail _ (.tail _ (.tail _ (.tail _ (.tail _ (.head _)))))))))))))))))
end Mine
end
section
theorem Mine.regS2_0 : True := by
  k_with_none
  trivial
open PySem PySem.W PySem.Calls PyProof.Rows
open SeqAt
set_option Elab.async false
set_option maxRecDepth 100000
namespace Mine
set_option maxHeartbeats 4000000
section
variable {prog : Program} {w : World} {A : Around} {E : Value → Shared → Prop} {s : Shared} {Q : Value → Shared → Prop}
theorem eqS (x y : Str) (t u : Tok) (A : Around) (s : Shared) : EqAt A s (.str x t) (.str y u) (x == y) := ordS.eqv ⟨t, rfl⟩ ⟨u, rfl⟩ A s
theorem eqI (x y : Int) (t u : Tok) (A : Around) (s : Shared) : EqAt A s (.int x t) (.int y u) (x == y) := ordI.eqv ⟨t, rfl⟩ ⟨u, rfl⟩ A s
theorem ne_tup3 {a b : Addr} {x x' y y' : Str} {n n' : Int} {t1 t2 t3 u1 u2 u3 : Tok} (ha : s.heap.IsTuple a #[.str x t1, .int n t2, .str y t3]) (hb : s.heap.IsTuple b #[.str x' u1, .int n' u2, .str y' u3]) (hu : A.units < cLine)
    (h : Q (.bool (!decide (x = x' ∧ n = n' ∧ y = y'))) s) : wpAny (model prog w) A (compareOp .NotEq (.ref a) (.ref b)) Q E s := by
  show wpAny _ _ (richCompare .NotEq _ _) _ _ _
  have := RcNeAt.tuples (A := A) (e := fun j => match j with | 0 => x == x' | 1 => n == n' | _ => y == y') ha hb hu (fun j h1 h2 => by
    match j, h1, h2 with
    | 0, _, _ => exact eqS _ _ _ _ _ _
    | 1, _, _ => exact eqI _ _ _ _ _ _
    | 2, _, _ => exact eqS _ _ _ _ _ _)
  refine this prog w E Q ?_
  have e : (!((List.range (min (#[Value.str x t1, .int n t2, .str y t3] : Array Value).size (#[Value.str x' u1, .int n' u2, .str y' u3] : Array Value).size)).all (fun j => match j with | 0 => x == x' | 1 => n == n' | _ => y == y') && (#[Value.str x t1, .int n t2, .str y t3] : Array Value).size == (#[Value.str x' u1, .int n' u2, .str y' u3] : Array Value).size)) = !decide (x = x' ∧ n = n' ∧ y = y') := by
    show (!((List.range 3).all _ && true)) = _
    rw [Bool.eq_iff_iff]
    simp [List.range, List.range.loop]
  rw [e]
  exact h
theorem ne_tup2 {a b : Addr} {x x' y y' : Str} {t1 t3 u1 u3 : Tok} (ha : s.heap.IsTuple a #[.str x t1, .str y t3]) (hb : s.heap.IsTuple b #[.str x' u1, .str y' u3]) (hu : A.units < cLine)
    (h : Q (.bool (!decide (x = x' ∧ y = y'))) s) : wpAny (model prog w) A (compareOp .NotEq (.ref a) (.ref b)) Q E s := by
  show wpAny _ _ (richCompare .NotEq _ _) _ _ _
  have := RcNeAt.tuples (A := A) (e := fun j => match j with | 0 => x == x' | _ => y == y') ha hb hu (fun j h1 h2 => by
    match j, h1, h2 with
    | 0, _, _ => exact eqS _ _ _ _ _ _
    | 1, _, _ => exact eqS _ _ _ _ _ _)
  refine this prog w E Q ?_
  have e : (!((List.range (min (#[Value.str x t1, .str y t3] : Array Value).size (#[Value.str x' u1, .str y' u3] : Array Value).size)).all (fun j => match j with | 0 => x == x' | _ => y == y') && (#[Value.str x t1, .str y t3] : Array Value).size == (#[Value.str x' u1, .str y' u3] : Array Value).size)) = !decide (x = x' ∧ y = y') := by
    show (!((List.range 2).all _ && true)) = _
    rw [Bool.eq_iff_iff]
    simp [List.range, List.range.loop]
  rw [e]
  exact h
end
theorem split3 {m₀ m₁ : Str → Option Value} {a b c : Str} (h : ∀ z, z ≠ a → z ≠ b → z ≠ c → m₁ z = m₀ z) : ∃ ua ub uc, m₁ = fun y => if y = c then uc else if y = b then ub else if y = a then ua else m₀ y := by
  refine ⟨m₁ a, m₁ b, m₁ c, funext fun z => ?_⟩
  by_cases h1 : z = a
  · subst h1
    by_cases h2 : z = c
    · simp [h2]
    · by_cases h3 : z = b
      · simp [h3]
        intro e; rw [e]
      · simp [h2, h3]
  · by_cases h2 : z = b
    · by_cases h3 : z = c
      · simp [h3]
      · simp [h2]
        intro e; rw [e]
    · by_cases h3 : z = c
      · simp [h3]
      · simp [h1, h2, h3, h z h1 h2 h3]
end Mine
end
section
open PySem PySem.W PySem.Calls PyProof.Rows
set_option Elab.async false
set_option maxRecDepth 100000
namespace Mine
set_option maxHeartbeats 4000000
set_option pp.deepTerms false
set_option pp.maxSteps 3000
theorem regS3_1 : True := by
  k_with_none
  k_with "my enter" => (((case kX => k_asm); (case kL => exact Top.nolimit (by assumption)); (case kS => first | exact fun _ _ e => e | exact hide_stays _ _); (case kZ => first | exact Nat.le_refl _ | exact Nat.le_of_eq (hideAll_size _ _)); (case kN => first | assumption | exact List.forall_mem_nil _); (case k6 => k_is); (case k7 => k_is); (case k8 => decide); (case k9 => exact BindsTo.of_eq rfl); (case kB => exact locs rfl); (case c2 => exact rfl); (case c3 => exact rfl); (case c4 => exact rfl); (case c5 => decide); k_whole; intro zL' zh' zF' zN' zl1; (try dsimp only [List.reverse_cons, List.reverse_nil, List.nil_append, List.cons_append])))
  trivial

theorem fillS3 : PySem.Challenge.rw_wb0022_01 = PySem.Challenge.rw_wb0022_01 ∧ K0 = K0 := by
  k_fill
  exact ⟨rfl, rfl⟩
variable {w : World} {mean : ExcName → Option Value} {mg mb : Str → Option Value} {s : Shared} {R : Result → Shared → Prop} {hb : Heap}
theorem good_at {a b : List Str} {x : Str} (h : Good (a ++ x :: b)) : Nms a ∧ Good (x :: b) := by
  induction a with
  | nil => exact ⟨fun _ q => (List.not_mem_nil q).elim, h⟩
  | cons y a ih =>
    rcases h.cons with ⟨h1, h2⟩ | ⟨_, h2⟩
    · obtain ⟨i1, i2⟩ := ih h2
      refine ⟨fun z hz => ?_, i2⟩
      rcases List.mem_cons.mp hz with rfl | hz
      · exact h1
      · exact i1 z hz
    · simp at h2
theorem regS3_2 : True := by
  k_with "call ref" => ((with_reducible refine stop_of ?_))
  k_with "compareOp NotEq ref ref" => ((with_reducible refine stop_of ?_))
  k_with "InvEndN" => ((with_reducible refine stop_of ?_))
  k_with "InvPostN" => ((with_reducible refine stop_of ?_))
  k_with "pyIter ref" => ((with_reducible refine stop_of ?_))
  trivial


theorem hide_none {h : Heap} {l : List Addr} {r : Addr} (e : (hideAll h l).get? r = none) (n : r ∉ l) : h.get? r = none := by
  cases g : h.get? r with
  | none => rfl
  | some o => rw [hideAll_get l g n] at e; cases e
theorem strip_path {l : List Str} {x : Str} (h : NoSl x) : Txt.slice (pathT (l ++ [x])) (some (Txt.rfind (pathT (l ++ [x])) (Str.ofString "/") + 1)) none = x := by
  rw [rfind_path h, path_name]
theorem strip_name {x : Str} (h : NoSl x) : Txt.slice x (some (Txt.rfind x (Str.ofString "/") + 1)) none = x := by
  rw [sl_eq, rfind_none h]
  exact slice_all
theorem c_shifted {d : Addr} {o : Obj} {done xs ys : List Str} {t : Tok}
    (W : Wd w mean mg mb hb) (st : hb.StaysIn s.heap) (hd' : s.heap.get? d = some o) (nd : hb.get? d = none) (lo : (d == sysModules) = false) (ho : EnvIs w o done (xs ++ ys))
    (hg : Good (done ++ (xs ++ ys))) (h0 : ∃ y r, done ++ (xs ++ ys) = y :: r ∧ Nm y) (hl : (done ++ (xs ++ ys)).length ≤ 60)
    (ret : ∀ h' tk' o' r vs k, But [d] s.heap h' → h'.get? d = some o' → EnvIs w o' (done ++ xs) ys → s.heap.get? r = none → h'.get? r = some (PySem.W.listOf (List.toArray vs) k) → StrsAre vs xs → R (.ok (.ret (.ref r))) { s with heap := h', toks := tk' }) :
    codeAny (model P0 w) (lv 355 520) (.call (.ref 207) ⟨[.ref d, .int (xs.length : Nat) t], []⟩) R s := by
  replace hg := Hid.mk hg
  replace ho := Hid.mk ho
  have W' : Wd w mean mg mb (hideAll s.heap [d]) := W.keeps (hide_keeps st (by simp [nd]))
  have KX := W'.X
  have KT := W'.T
  have NN : ∀ p' ∈ [(d, o)], s.heap.get? p'.1 = some p'.2 ∧ (hideAll s.heap [d]).get? p'.1 = none := by
    intro p' hp'
    rw [List.mem_singleton.mp hp']
    exact ⟨hd', hideAll_none _ (by simp)⟩
  simp only [List.length_append] at hl
  refine' enter (h₀ := hideAll s.heap [d]) (news := [(d, o)]) (binds := [(Str.ofString "environ", .ref d), (Str.ofString "count", .int (xs.length : Nat) t)]) ?kX ?kL ?kS ?kZ ?kN ?k6 ?k7 ?k8 ?k9 ?kB ?_ ?c2 ?c3 ?c4 ?c5
  k_dflt walk_at "my enter"
  k_fold
  k_steps
  rename IsRange _ _ _ _ _ _ _ _ => hr
  rename Fr _ _ _ _ => F0
  rename News _ _ _ _ => N0
  rename d < _ => hlt
  obtain ⟨nm, enm⟩ : ∃ nm, nm = adrAt N0 0 := ⟨_, rfl⟩
  dsimp only [adrAt, adrOf] at enm
  subst enm
  dsimp only at F0 N0 ⊢
  refine fr_named F0 fun m0 em F1 => ?_
  refine stop_go (iter_rangeI (fun i m nx => ∃ vs k oi, nx = [(nm, PySem.W.listOf (List.toArray vs) k), (d, oi)] ∧ StrsAre vs (xs.take i) ∧ Hid (EnvIs w oi (done ++ xs.take i) (xs.drop i ++ ys)) ∧ ∀ z, z ≠ Str.ofString "_" → z ≠ Str.ofString "told" → z ≠ Str.ofString "bare" → m z = m0 z) rfl hr (small_up _ _ (by omega)) (size_up _ _ xs.length (by omega)) F1 N0 ⟨[], 0, o, rfl, .nil, ⟨by simpa using ho.out⟩, fun _ _ _ _ => rfl⟩ ?turn ?done)
  case turn =>
    rintro i t1 m₁ nx h tk1 own hi hsep ⟨vs, k, oi, rfl, hvs, hoi, hm⟩ F₁ N₁
    obtain ⟨ua, ub, uc, em1⟩ := split3 hm
    subst em1
    subst em
    clear F1 F0 N0 hm
    simp only [List.map_cons, List.map_nil, List.cons_append, List.nil_append] at hsep N₁ ⊢
    obtain ⟨x, hx⟩ : ∃ x, xs[i]? = some x := ⟨_, List.getElem?_eq_getElem hi⟩
    have ed : xs.drop i ++ ys = x :: (xs.drop (i + 1) ++ ys) := by
      rw [List.drop_eq_getElem_cons hi, List.cons_append]
      rw [List.getElem?_eq_getElem hi] at hx
      rw [Option.some.inj hx]
    rw [ed] at hoi
    have et : xs.take (i + 1) = xs.take i ++ [x] := by rw [List.take_add_one, hx]; rfl
    have ea : done ++ (xs ++ ys) = (done ++ xs.take i) ++ x :: (xs.drop (i + 1) ++ ys) := by
      rw [← ed, List.append_assoc, ← List.append_assoc (xs.take i), List.take_append_drop]
    have hga := hg.out
    rw [ea] at hga
    obtain ⟨g1, g2⟩ := good_at hga
    have g3 : x = Str.ofString "" → done ++ xs.take i ≠ [] := by
      rintro rfl e
      rw [ea, e] at h0
      obtain ⟨y, r, e1, hy⟩ := h0
      simp only [List.nil_append, List.cons.injEq] at e1
      exact hy.ne0 e1.1.symm
    have lt : (xs.take i).length ≤ xs.length := List.length_take_le' _ _
    have l1 : (done ++ xs.take i).length ≤ 90 := by rw [List.length_append]; omega
    have l2 : (xs.drop (i + 1) ++ ys).length ≤ 90 := by rw [List.length_append, List.length_drop]; omega
    replace g1 := Hid.mk g1
    replace g2 := Hid.mk g2
    replace g3 := Hid.mk g3
    (try k_sweep)
    k_steps
    rename Fr _ _ _ _ => F2
    rename News _ _ _ _ => N2
    refine stop_go (wpAny_call (codeAny_lv (c_shift (o := oi) (done := done ++ xs.take i) (x := x) (rest := xs.drop (i + 1) ++ ys) W' F2.keep (N2 _ (.tail _ (.head _))).1 (N2 _ (.tail _ (.head _))).2.2 lo hoi.out g1.out g2.out g3.out l1 l2 ?_) rfl (Nat.le_of_ble_eq_true rfl) (Nat.le_of_ble_eq_true rfl)))
    intro h' tk' o' ta tb tx hB ho' hd2
    obtain ⟨F', N'⟩ := frBut (pre := [_]) F2 N2 hB ho' ⟨Nat.ne_of_gt hlt, trivial⟩ (allNe_of fun p hp => hsep p hp d (by simp))
    clear F2 N2 ho' hB
    k_sweep
    (try dsimp only)
    simp only [List.cons_append, List.nil_append] at N'
    have hvl : vs.length ≤ 1000 := by rw [strsAre_length hvs]; omega
    have hxn : NoSl x := g2.out.noSl x (.head _)
    have hx2 : x.length ≤ 2 := g2.out.two x (.head _)
    have hpl : (pathT (done ++ xs.take i ++ [x])).length ≤ 1000 := by
      have : ∀ y ∈ done ++ xs.take i ++ [x], y.length ≤ 2 := fun y hy => by
        rcases List.mem_append.mp hy with hy | hy
        · exact Nat.le_of_eq (g1.out y hy).two
        · rw [List.mem_singleton.mp hy]; exact hx2
      have := path_len this
      rw [List.length_append (bs := [x]), List.length_cons, List.length_nil] at this
      omega
    k_steps
    rename Fr _ _ _ _ => F2
    rename News _ _ _ _ => N2
    refine stop_go (wpAny_call (codeAny_lv (c_strip (W'.keeps F2.keep) hpl (N2 _ (.head _)).1 rfl rfl ?_) rfl (Nat.le_of_ble_eq_true rfl) (Nat.le_of_ble_eq_true rfl)))
    intro h' tk' r t' st' fr' hr'
    rw [strip_path hxn] at hr'
    have F' := frStay F2 st'
    obtain ⟨N', l1'⟩ := newsNew F2 N2 st' fr' hr'
    simp only [AllNe] at l1'
    clear F2 N2 st' fr' hr'
    k_sweep
    (try dsimp only)
    k_steps
    rename Fr _ _ _ _ => F2
    rename News _ _ _ _ => N2
    refine stop_go (ne_tup3 ⟨_, (N2 _ (.tail _ (.head _))).1, rfl, _, rfl⟩ ⟨_, (N2 _ (.head _)).1, rfl, _, rfl⟩ (Nat.le_of_ble_eq_true rfl) ?_)
    rw [show (!decide (x = x ∧ ((xs.length : Nat) : Int) = ((xs.length : Nat) : Int) ∧ x = x)) = false by simp]
    k_steps
    rename Fr _ _ _ _ => F2
    rename News _ _ _ _ => N2
    refine stop_go (wpAny_call (codeAny_lv (c_strip (W'.keeps F2.keep) (by omega) (N2 _ (.tail _ (.head _))).1 rfl rfl ?_) rfl (Nat.le_of_ble_eq_true rfl) (Nat.le_of_ble_eq_true rfl)))
    intro h' tk' r t' st' fr' hr'
    rw [strip_name hxn] at hr'
    have F' := frStay F2 st'
    obtain ⟨N', l1'⟩ := newsNew F2 N2 st' fr' hr'
    simp only [AllNe] at l1'
    clear F2 N2 st' fr' hr'
    k_sweep
    (try dsimp only)
    k_steps
    rename Fr _ _ _ _ => F2
    rename News _ _ _ _ => N2
    refine stop_go (ne_tup3 ⟨_, (N2 _ (.head _)).1, rfl, _, rfl⟩ ⟨_, (N2 _ (.tail _ (.tail _ (.head _)))).1, rfl, _, rfl⟩ (Nat.le_of_ble_eq_true rfl) ?_)
    rw [show (!decide (x = x ∧ ((xs.length : Nat) : Int) = ((xs.length : Nat) : Int) ∧ x = x)) = false by simp]
    k_steps
    rename Fr _ _ _ _ => F2
    rename News _ _ _ _ => N2
    refine stop_go (InvEndN.intro F2 N2 (nx := [(nm, PySem.W.listOf (vs ++ [Value.str x tx]).toArray (k + 1)), (d, o')]) ⟨vs ++ [Value.str x tx], k + 1, o', rfl, sa_snoc_take hvs hx, ⟨?env⟩, fun z z1 z2 z3 => by simp only [z1, z2, z3, if_false]⟩ rfl ?_ ?_)
    case env =>
      rw [et, ← List.append_assoc]
      exact .inr ⟨by simp, ta, tb, hd2⟩
    · intro q hq
      rw [← List.push_toArray] at hq
      rcases List.mem_cons.mp hq with rfl | hq
      · exact .tail _ (.tail _ (.tail _ (.tail _ (.head _))))
      · rw [List.mem_singleton.mp hq]
        exact .tail _ (.tail _ (.tail _ (.tail _ (.tail _ (.head _)))))
    · exact fun q hq => .tail _ (.tail _ (.tail _ (.tail _ (.tail _ (.tail _ hq)))))
  case done =>
    rintro m₁ nx h tk1 ⟨vs, k, oi, rfl, hvs, hoi, hm⟩ F₁ N₁
    obtain ⟨ua, ub, uc, em1⟩ := split3 hm
    subst em1
    subst em
    clear F1 F0 N0 hm
    (try k_sweep)
    k_steps
    rename Fr _ _ _ _ => F2
    rename News _ _ _ _ => N2
    refine ret _ _ oi nm vs k (but_hide F2.keep) (N2 _ (.tail _ (.head _))).1 ?_ (hide_none (N2 _ (.head _)).2.2 (by simpa using Nat.ne_of_gt hlt)) (N2 _ (.head _)).1 (by simpa using hvs)
    simpa using hoi.out
end Mine
end
section
open PySem PySem.W PySem.Calls PyProof.Rows
set_option Elab.async false
set_option maxRecDepth 100000
namespace Mine
set_option maxHeartbeats 4000000
set_option pp.deepTerms false
set_option pp.maxSteps 3000
theorem regS4_1 : True := by
  k_with_none
  k_with "my enter" => (((case kX => k_asm); (case kL => exact Top.nolimit (by assumption)); (case kS => first | exact fun _ _ e => e | exact hide_stays _ _); (case kZ => first | exact Nat.le_refl _ | exact Nat.le_of_eq (hideAll_size _ _)); (case kN => first | assumption | exact List.forall_mem_nil _); (case k6 => k_is); (case k7 => k_is); (case k8 => decide); (case k9 => exact BindsTo.of_eq rfl); (case kB => exact locs rfl); (case c2 => exact rfl); (case c3 => exact rfl); (case c4 => exact rfl); (case c5 => decide); k_whole; intro zL' zh' zF' zN' zl1; (try dsimp only [List.reverse_cons, List.reverse_nil, List.nil_append, List.cons_append])))
  trivial

theorem fillS4 : PySem.Challenge.rw_wb0022_01 = PySem.Challenge.rw_wb0022_01 ∧ K0 = K0 := by
  k_fill
  exact ⟨rfl, rfl⟩
variable {w : World} {mean : ExcName → Option Value} {mg mb : Str → Option Value} {s : Shared} {R : Result → Shared → Prop} {hb : Heap}
theorem regS4_2 : True := by
  k_with "call ref" => ((with_reducible refine stop_of ?_))
  k_with "compareOp NotEq ref ref" => ((with_reducible refine stop_of ?_))
  k_with "InvEndN" => ((with_reducible refine stop_of ?_))
  k_with "InvPostN" => ((with_reducible refine stop_of ?_))
  k_with "pyIter ref" => ((with_reducible refine stop_of ?_))
  trivial



theorem split4 {m₀ m₁ : Str → Option Value} {a b c d p : Str} {v : Value} (hp : m₁ p = some v) (h : ∀ z, z ≠ a → z ≠ b → z ≠ c → z ≠ d → z ≠ p → m₁ z = m₀ z) :
    ∃ ua ub uc ud, m₁ = fun y => if y = p then some v else if y = d then ud else if y = c then uc else if y = b then ub else if y = a then ua else m₀ y := by
  refine ⟨m₁ a, m₁ b, m₁ c, m₁ d, funext fun z => ?_⟩
  by_cases h1 : z = p
  · rw [if_pos h1, h1, hp]
  · rw [if_neg h1]
    by_cases h2 : z = d
    · rw [if_pos h2, h2]
    · rw [if_neg h2]
      by_cases h3 : z = c
      · rw [if_pos h3, h3]
      · rw [if_neg h3]
        by_cases h4 : z = b
        · rw [if_pos h4, h4]
        · rw [if_neg h4]
          by_cases h5 : z = a
          · rw [if_pos h5, h5]
          · rw [if_neg h5, h z h5 h4 h3 h2 h1]
theorem good_noCl {l : List Str} (h : Good l) : ∀ y ∈ l, 58 ∉ y.cps.toList := by
  obtain ⟨a, t, rfl, ha, ht⟩ := h
  intro y hy
  rcases List.mem_append.mp hy with hy | hy
  · exact (ha y hy).noCl
  · rcases ht with rfl | rfl
    · simp at hy
    · rw [List.mem_singleton.mp hy, em_eq]; simp
theorem good_pre {a b : List Str} (h : Good (a ++ b)) : Good a := by
  induction a with
  | nil => exact ⟨[], [], rfl, fun _ q => (List.not_mem_nil q).elim, .inl rfl⟩
  | cons y a ih =>
    rcases h.cons with ⟨h1, h2⟩ | ⟨rfl, h2⟩
    · obtain ⟨c, t, rfl, hc, ht⟩ := ih h2
      refine ⟨y :: c, t, rfl, fun z hz => ?_, ht⟩
      rcases List.mem_cons.mp hz with rfl | hz
      · exact h1
      · exact hc z hz
    · simp at h2
      obtain ⟨rfl, rfl⟩ := h2
      exact ⟨[], _, rfl, fun _ q => (List.not_mem_nil q).elim, .inr rfl⟩
theorem good_len {l : List Str} (h : Good l) (hl : l.length ≤ 60) : (pathT l).length ≤ 1000 := by
  have := path_len h.two
  omega
theorem tokOf {h₀ h : Heap} {L nm : Addr} {n : Nat} {items : Array Value} {x : Str} {t : Tok} {news : List (Addr × Obj)} (_ : News h₀ L h news) (m : (nm, PySem.W.listOf (items.push (.str x t)) n) ∈ news) : ∃ t', (nm, PySem.W.listOf (items.push (.str x t')) n) ∈ news := ⟨t, m⟩
theorem far_ok {y x : Str} {f : List Str} (hy : Nm y) (hg : Good (y :: f ++ [x])) (hl : (y :: f ++ [x]).length ≤ 60) :
    (pathT (y :: f ++ [x])).length ≤ 1000 ∧ Txt.rfind (pathT (y :: f ++ [x])) (Str.ofString ":") = -1 ∧ 2 ≤ Txt.rfind (pathT (y :: f ++ [x])) (Str.ofString "/") ∧ (Txt.slice (pathT (y :: f ++ [x])) (some 1) (some 2) != Str.ofString "/") = true ∧
    Txt.rfind (pathT (y :: f ++ [x])) (Str.ofString "/") = ((pathT (y :: f)).length : Nat) := by
  have e := rfind_path (l := y :: f) (hg.noSl x (by simp))
  refine ⟨good_len hg hl, path_free (good_noCl hg), ?_, path_second hy, e⟩
  rw [e]
  have : y.cps.size = 2 := hy.two
  simp only [pathT, pathL, Str.length, List.size_toArray, List.length_cons, List.length_append, Array.length_toList]
  omega

theorem c_taken {y : Str} {ks xs : List Str} {t t2 : Tok} (W : Wd w mean mg mb s.heap) (hy : Nm y) (hg : Good (y :: ks ++ xs)) (hl : (y :: ks ++ xs).length ≤ 60)
    (ret : ∀ h' tk' r1 r2 vs k1 k2 ta, s.heap.StaysIn h' → s.heap.get? r1 = none → s.heap.get? r2 = none → h'.get? r1 = some (PySem.W.listOf #[.str (pathT (y :: ks)) ta, .ref r2] k1) → h'.get? r2 = some (PySem.W.listOf (List.toArray vs) k2) → StrsAre vs xs.reverse →
      R (.ok (.ret (.ref r1))) { s with heap := h', toks := tk' }) :
    codeAny (model P0 w) (lv 355 520) (.call (.ref 214) ⟨[.str (pathT (y :: ks ++ xs)) t, .int (xs.length : Nat) t2], []⟩) R s := by
  replace hg := Hid.mk hg
  have KX := W.X
  have KT := W.T
  simp only [List.length_append, List.length_cons] at hl
  refine' enter (news := []) (binds := [(Str.ofString "place", .str (pathT (y :: ks ++ xs)) t), (Str.ofString "count", .int (xs.length : Nat) t2)]) ?kX ?kL ?kS ?kZ ?kN ?k6 ?k7 ?k8 ?k9 ?kB ?_ ?c2 ?c3 ?c4 ?c5
  k_dflt walk_at "my enter"
  k_fold
  k_steps
  rename IsRange _ _ _ _ _ _ _ _ => hr
  rename Fr _ _ _ _ => F0
  rename News _ _ _ _ => N0
  obtain ⟨nm, enm⟩ : ∃ nm, nm = adrAt N0 0 := ⟨_, rfl⟩
  dsimp only [adrAt, adrOf] at enm
  subst enm
  dsimp only at F0 N0 ⊢
  refine fr_named F0 fun m0 em F1 => ?_
  refine stop_go (iter_rangeI (fun i m nx => ∃ vs k tp, nx = [(nm, PySem.W.listOf (List.toArray vs) k)] ∧ StrsAre vs (xs.reverse.take i) ∧ m (Str.ofString "place") = some (.str (pathT (y :: (ks ++ xs.take (xs.length - i)))) tp) ∧ ∀ z, z ≠ Str.ofString "_" → z ≠ Str.ofString "parted" → z ≠ Str.ofString "front" → z ≠ Str.ofString "last" → z ≠ Str.ofString "place" → m z = m0 z) rfl hr (small_up _ _ (by omega)) (size_up _ _ xs.length (by omega)) F1 N0 ⟨[], 0, t, rfl, .nil, by subst em; simp; rfl, fun _ _ _ _ _ _ => rfl⟩ ?turn ?done)
  case turn =>
    rintro i t1 m₁ nx h tk1 own hi hsep ⟨vs, k, tp, rfl, hvs, hpl, hm⟩ F₁ N₁
    obtain ⟨ua, ub, uc, ud, em1⟩ := split4 hpl hm
    subst em1
    subst em
    clear F1 F0 N0 hm hpl
    simp only [List.map_cons, List.map_nil, List.cons_append, List.nil_append] at hsep N₁ ⊢
    obtain ⟨n1, hn1⟩ : ∃ n1, xs.length - i = n1 + 1 := ⟨xs.length - i - 1, by omega⟩
    have hn2 : n1 < xs.length := by omega
    obtain ⟨x, hx⟩ : ∃ x, xs[n1]? = some x := ⟨_, List.getElem?_eq_getElem hn2⟩
    have hxr : xs.reverse[i]? = some x := by rw [List.getElem?_reverse (by omega), show xs.length - 1 - i = n1 by omega, hx]
    have et : xs.take (xs.length - i) = xs.take n1 ++ [x] := by rw [hn1, List.take_add_one, hx]; rfl
    rw [et, ← List.append_assoc] at F₁
    have hgx : Good (y :: (ks ++ xs.take n1) ++ [x]) := by
      have e : y :: ks ++ xs = (y :: (ks ++ xs.take n1) ++ [x]) ++ xs.drop (xs.length - i) := by
        conv => lhs; rw [← List.take_append_drop (xs.length - i) xs, et]
        simp
      have := hg.out
      rw [e] at this
      exact good_pre this
    have hle : (y :: (ks ++ xs.take n1) ++ [x]).length ≤ 60 := by simp only [List.length_append, List.length_cons, List.length_nil, List.length_take]; omega
    obtain ⟨f1, f2, f3, f4, f5⟩ := far_ok hy hgx hle
    have f6 : (pathT (y :: (ks ++ xs.take n1))).length ≤ 1000 := good_len (good_pre hgx) (by simp only [List.length_append, List.length_cons, List.length_nil] at hle ⊢; omega)
    have f7 : (pathT [x]).length ≤ 1000 := by have := hgx.two x (by simp); simp only [pathT, pathL, Str.length, List.size_toArray, List.length_cons, List.length_append, Array.length_toList, List.length_nil] at this ⊢; omega
    have hxn : NoSl x := hgx.noSl x (by simp)
    have hvl : vs.length ≤ 1000 := by rw [strsAre_length hvs, List.length_take, List.length_reverse]; omega
    replace hgx := Hid.mk hgx
    replace f2 := Hid.mk f2
    replace f3 := Hid.mk f3
    replace f4 := Hid.mk f4
    replace f5 := Hid.mk f5
    rw [List.cons_append] at f1 f2 f3 f4 f5
    (try k_sweep)
    k_steps
    rename Fr _ _ _ _ => F2
    rename News _ _ _ _ => N2
    refine stop_go (wpAny_call (codeAny_lv (c_splitext_far (W.keeps F2.keep) f1 f2.out f3.out f4.out ?_) rfl (Nat.le_of_ble_eq_true rfl) (Nat.le_of_ble_eq_true rfl)))
    intro h' tk' r ta tb st' fr' hr'
    have ec := path_cut (l := y :: (ks ++ xs.take n1)) (x := x)
    have el := path_last (l := y :: (ks ++ xs.take n1)) (x := x)
    rw [List.cons_append] at ec el
    rw [f5.out, ec, el] at hr'
    have F' := frStay F2 st'
    obtain ⟨N', l1'⟩ := newsNew F2 N2 st' fr' hr'
    simp only [AllNe] at l1'
    clear F2 N2 st' fr' hr'
    replace ec := Hid.mk ec
    replace el := Hid.mk el
    k_sweep
    (try dsimp only)
    k_steps
    rename Fr _ _ _ _ => F2
    rename News _ _ _ _ => N2
    rw [el.out] at N2
    refine stop_go (ne_tup2 ⟨_, (N2 _ (.tail _ (.head _))).1, rfl, _, rfl⟩ ⟨_, (N2 _ (.head _)).1, rfl, _, rfl⟩ (Nat.le_of_ble_eq_true rfl) ?_)
    rw [decide_eq_true ⟨rfl, rfl⟩]
    k_steps
    rename Fr _ _ _ _ => F2
    rename News _ _ _ _ => N2
    refine stop_go (wpAny_call (codeAny_lv (c_strip (W.keeps F2.keep) f1 (N2 _ (.head _)).1 rfl rfl ?_) rfl (Nat.le_of_ble_eq_true rfl) (Nat.le_of_ble_eq_true rfl)))
    intro h' tk' r t' st' fr' hr'
    have es := strip_path (l := y :: (ks ++ xs.take n1)) hxn
    rw [List.cons_append] at es
    rw [es] at hr'
    have F' := frStay F2 st'
    obtain ⟨N', l1'⟩ := newsNew F2 N2 st' fr' hr'
    simp only [AllNe] at l1'
    clear F2 N2 st' fr' hr' es
    k_sweep
    (try dsimp only)
    k_steps
    rename Fr _ _ _ _ => F2
    rename News _ _ _ _ => N2
    rw [path_one] at N2
    refine stop_go (ne_tup3 ⟨_, (N2 _ (.tail _ (.head _))).1, rfl, _, rfl⟩ ⟨_, (N2 _ (.head _)).1, rfl, _, rfl⟩ (Nat.le_of_ble_eq_true rfl) ?_)
    rw [decide_eq_true ⟨rfl, rfl, rfl⟩]
    k_steps
    rename Fr _ _ _ _ => F2
    rename News _ _ _ _ => N2
    rw [path_one] at N2
    obtain ⟨tv, hmem⟩ := tokOf N2 (.tail _ (.tail _ (.tail _ (.tail _ (.tail _ (.head _))))))
    have e1 : xs.length - (i + 1) = n1 := by omega
    refine stop_go (InvEndN.intro F2 N2 (nx := [(nm, PySem.W.listOf (vs ++ [Value.str x tv]).toArray (k + 1))]) ⟨_, k + 1, ta, rfl, sa_snoc_take hvs hxr, ?pl, fun z z1 z2 z3 z4 z5 => by simp only [z1, z2, z3, z4, z5, if_false]; rfl⟩ rfl ?mem ?own)
    case pl =>
      rw [e1]
      exact if_pos rfl
    case mem =>
      intro q hq
      rw [← List.push_toArray] at hq
      rw [List.mem_singleton.mp hq]
      exact hmem
    case own => exact fun q hq => .tail _ (.tail _ (.tail _ (.tail _ (.tail _ (.tail _ hq)))))
  case done =>
    rintro m₁ nx h tk1 ⟨vs, k, tp, rfl, hvs, hpl, hm⟩ F₁ N₁
    obtain ⟨ua, ub, uc, ud, em1⟩ := split4 hpl hm
    subst em1
    subst em
    clear F1 F0 N0 hm
    rw [Nat.sub_self, List.take_zero, List.append_nil] at F₁
    (try k_sweep)
    k_steps
    rename Fr _ _ _ _ => F2
    rename News _ _ _ _ => N2
    exact ret _ _ _ nm vs 0 k tp F2.keep (N2 _ (.head _)).2.2 (N2 _ (.tail _ (.head _))).2.2 (N2 _ (.head _)).1 (N2 _ (.tail _ (.head _))).1 (by rwa [List.take_of_length_le (by simp)] at hvs)
end Mine
end
section
open PySem PySem.W PySem.Calls PyProof.Rows
set_option Elab.async false
set_option maxRecDepth 100000
namespace Mine
set_option maxHeartbeats 4000000
set_option pp.deepTerms false
set_option pp.maxSteps 3000
theorem regS5_1 : True := by
  k_with_none
  k_with "my enter" => (((case kX => k_asm); (case kL => exact Top.nolimit (by assumption)); (case kS => first | exact fun _ _ e => e | exact hide_stays _ _); (case kZ => first | exact Nat.le_refl _ | exact Nat.le_of_eq (hideAll_size _ _)); (case kN => first | assumption | exact List.forall_mem_nil _); (case k6 => k_is); (case k7 => k_is); (case k8 => decide); (case k9 => exact BindsTo.of_eq rfl); (case kB => exact locs rfl); (case c2 => exact rfl); (case c3 => exact rfl); (case c4 => exact rfl); (case c5 => decide); k_whole; intro zL' zh' zF' zN' zl1; (try dsimp only [List.reverse_cons, List.reverse_nil, List.nil_append, List.cons_append])))
  trivial

theorem fillS5 : PySem.Challenge.rw_wb0022_01 = PySem.Challenge.rw_wb0022_01 ∧ K0 = K0 := by
  k_fill
  exact ⟨rfl, rfl⟩
variable {w : World} {mean : ExcName → Option Value} {mg mb : Str → Option Value} {s : Shared} {R : Result → Shared → Prop} {hb : Heap}
theorem regS5_2 : True := by
  k_with "call ref" => ((with_reducible refine stop_of ?_))
  k_with "compareOp NotEq ref ref" => ((with_reducible refine stop_of ?_))
  k_with "InvEndN" => ((with_reducible refine stop_of ?_))
  k_with "InvPostN" => ((with_reducible refine stop_of ?_))
  k_with "pyIter ref" => ((with_reducible refine stop_of ?_))
  trivial




theorem regS5_3 : True := by
  k_with "subscriptTail Name Slice ref ref" => ((with_reducible refine stop_of ?_))
  k_with "subscriptTail Name Name ref int" => ((with_reducible refine stop_of ?_))
  k_with "getItem ref int" => ((with_reducible refine stop_of ?_))
  k_with "call builtin:len" => ((with_reducible refine stop_of ?_))
  trivial

theorem newsBut {h₀ h h' : Heap} {L d r : Addr} {o o' orr : Obj} {m : Str → Option Value} {pre news : List (Addr × Obj)} (F : Fr h₀ L h m) (N : News h₀ L h (pre ++ (d, o) :: news)) (k : But [d] h h') (g : h'.get? d = some o') (nf : AllNe d pre) (ne : AllNe d news)
    (fr : h.get? r = none) (hr : h'.get? r = some orr) : Fr h₀ L h' m ∧ News h₀ L h' ((r, orr) :: (pre ++ (d, o') :: news)) ∧ AllNe r (pre ++ (d, o) :: news) := by
  obtain ⟨F', N'⟩ := frBut F N k g nf ne
  refine ⟨F', ?_, allNe_of fun p hp e => by rw [← e, (N p hp).1] at fr; cases fr⟩
  intro p hp
  rcases List.mem_cons.mp hp with rfl | hp
  · refine ⟨hr, fun e => ?_, ?_⟩
    · obtain ⟨o', _, _, ho, _⟩ := F.ns
      have e : r = L := e
      rw [← e, fr] at ho; cases ho
    · cases q : h₀.get? r with
      | none => rfl
      | some o' => rw [F.keep _ _ q] at fr; cases fr
  · exact N' p hp
/-- the word that a figure tells, in the heap -/
theorem word_at {hb : Heap} {p q : Addr} {vp vq : List Value} {x y : List Str} (hp : hb.IsList p vp.toArray) (sp : StrsAre vp x) (hq : hb.IsList q vq.toArray) (sq : StrsAre vq y) (lx : x.length ≤ 64) (ly : y.length ≤ 64) {b : Int} (h : b = 0 ∨ b = 1) :
    ∃ (j : Nat) (wa : Addr) (vw : List Value), b = (j : Int) ∧ j < 2 ∧ (#[Value.ref p, Value.ref q] : Array Value)[j]? = some (.ref wa) ∧ hb.IsList wa vw.toArray ∧ StrsAre vw (if b = 0 then x else y) ∧ (if b = 0 then x else y).length ≤ 64 ∧ vw.length ≤ 64 := by
  rcases h with rfl | rfl
  · exact ⟨0, p, vp, rfl, by decide, rfl, hp, sp, lx, by rw [strsAre_length sp]; exact lx⟩
  · exact ⟨1, q, vq, rfl, by decide, rfl, hq, sq, ly, by rw [strsAre_length sq]; exact ly⟩
theorem envHead {o : Obj} {done todo : List Str} (h : EnvIs w o done todo) : ∃ ta rest, o.IsDictOf (strKind P0 w) ((Str.ofString "PATH_INFO", .str (pathT todo) ta) :: rest) := by
  rcases h with ⟨_, ta, h⟩ | ⟨_, ta, tb, h⟩
  · exact ⟨ta, _, h⟩
  · exact ⟨ta, _, h⟩
theorem star_nms {x y : List Str} (hx : Nms x) (hy : Nms y) : ∀ bs, Nms (star x y bs)
  | [] => fun _ q => (List.not_mem_nil q).elim
  | b :: bs => fun z hz => by
    rcases List.mem_append.mp hz with hz | hz
    · by_cases h : b = 0
      · rw [if_pos h] at hz; exact hx z hz
      · rw [if_neg h] at hz; exact hy z hz
    · exact star_nms hx hy bs z hz

theorem tail_slice {vs : List Value} {y : Str} {xs : List Str} (h : StrsAre vs (y :: xs)) : ∃ ms, slicePick vs.toArray (some 1) none none = ms.toArray ∧ StrsAre ms xs := by
  obtain _ | ⟨_, t, h⟩ := h
  rename_i vs
  refine ⟨vs, ?_, h⟩
  rw [slicePick_plain]
  simp only [Option.elim]
  rw [clip_one (by simp)]
  simp
theorem c_forward {d ws p q : Addr} {o : Obj} {vp vq : List Value} {x y t : List Str} {bs cs : List Int} {u : Tok}
    (W : Wd w mean mg mb hb) (st : hb.StaysIn s.heap) (hd' : s.heap.get? d = some o) (nd : hb.get? d = none) (lo : (d == sysModules) = false) (ho : EnvIs w o [] (star x y (bs ++ cs) ++ t))
    (hws : hb.IsList ws [Value.ref p, Value.ref q].toArray) (hp : hb.IsList p vp.toArray) (sp : StrsAre vp x) (hq : hb.IsList q vq.toArray) (sq : StrsAre vq y) (lx : x.length ≤ 64) (ly : y.length ≤ 64)
    (hx : Nms x) (hy : Nms y) (ht : t = [] ∨ t = [Str.ofString ""]) (hx0 : x ≠ []) (hy0 : y ≠ []) (hne : bs ≠ [] → x ++ y ≠ y ++ x ∧ x.length + y.length ≤ (star x y cs).length) (hb01 : ∀ b ∈ bs, b = 0 ∨ b = 1) (hl : (star x y (bs ++ cs) ++ t).length ≤ 60) (hcs : bs.length ≤ 60)
    (ret : ∀ h' tk' o' r vs k, But [d] s.heap h' → h'.get? d = some o' → EnvIs w o' (star x y bs) (star x y cs ++ t) → s.heap.get? r = none → h'.get? r = some (PySem.W.listOf (List.toArray vs) k) → IntsAre vs bs → R (.ok (.ret (.ref r))) { s with heap := h', toks := tk' }) :
    codeAny (model P0 w) (lv 350 500) (.call (.ref 221) ⟨[.ref d, .ref ws, .int (bs.length : Nat) u], []⟩) R s := by
  replace ho := Hid.mk ho
  replace hne := Hid.mk hne
  replace hb01 := Hid.mk hb01
  replace hx := Hid.mk hx
  replace hy := Hid.mk hy
  have hk := hide_keeps st (l := [d]) (by simp [nd])
  have W' : Wd w mean mg mb (hideAll s.heap [d]) := W.keeps hk
  have KX := W'.X
  have KT := W'.T
  replace hws := hws.at (hk _)
  replace hp := hp.at (hk _)
  replace hq := hq.at (hk _)
  have NN : ∀ p' ∈ [(d, o)], s.heap.get? p'.1 = some p'.2 ∧ (hideAll s.heap [d]).get? p'.1 = none := by
    intro p' hp'
    rw [List.mem_singleton.mp hp']
    exact ⟨hd', hideAll_none _ (by simp)⟩
  simp only [List.length_append] at hl
  refine' enter (h₀ := hideAll s.heap [d]) (news := [(d, o)]) (binds := [(Str.ofString "environ", .ref d), (Str.ofString "words", .ref ws), (Str.ofString "count", .int (bs.length : Nat) u)]) ?kX ?kL ?kS ?kZ ?kN ?k6 ?k7 ?k8 ?k9 ?kB ?_ ?c2 ?c3 ?c4 ?c5
  k_dflt walk_at "my enter"
  k_fold
  k_steps
  rename IsRange _ _ _ _ _ _ _ _ => hr
  rename Fr _ _ _ _ => F0
  rename News _ _ _ _ => N0
  rename d < _ => hlt
  obtain ⟨nm, enm⟩ : ∃ nm, nm = adrAt N0 0 := ⟨_, rfl⟩
  dsimp only [adrAt, adrOf] at enm
  subst enm
  dsimp only at F0 N0 ⊢
  refine fr_named F0 fun m0 em F1 => ?_
  refine stop_go (iter_rangeI (fun i m nx => ∃ vs k oi, nx = [(nm, PySem.W.listOf (List.toArray vs) k), (d, oi)] ∧ IntsAre vs (bs.take i) ∧ Hid (EnvIs w oi (star x y (bs.take i)) (star x y (bs.drop i ++ cs) ++ t)) ∧ ∀ z, z ≠ Str.ofString "_" → z ≠ Str.ofString "which" → m z = m0 z) rfl hr (small_up _ _ (by omega)) (size_up _ _ bs.length (by omega)) F1 N0 ⟨[], 0, o, rfl, .nil, ⟨by simpa [star] using ho.out⟩, fun _ _ _ => rfl⟩ ?turn ?done)
  case turn =>
    rintro i t1 m₁ nx h tk1 own hi hsep ⟨vs, k, oi, rfl, hvs, hoi, hm⟩ F₁ N₁
    obtain ⟨ua, ub, uc, em1⟩ := split3 (c := Str.ofString "which") fun z z1 z2 _ => hm z z1 z2
    subst em1
    subst em
    clear F1 F0 N0 hm
    simp only [List.map_cons, List.map_nil, List.cons_append, List.nil_append] at hsep N₁ ⊢
    obtain ⟨b, hbx⟩ : ∃ b, bs[i]? = some b := ⟨_, List.getElem?_eq_getElem hi⟩
    have h01 := hb01.out b (List.mem_of_getElem? hbx)
    obtain ⟨j, wa, vw, ebj, hj2, hget, hwa, hvw, hwl, hvl⟩ := word_at hp sp hq sq lx ly h01
    generalize hwd : (if b = 0 then x else y) = wd at hvw hwl
    have ed : bs.drop i = b :: bs.drop (i + 1) := by
      rw [List.drop_eq_getElem_cons hi]
      rw [List.getElem?_eq_getElem hi] at hbx
      rw [Option.some.inj hbx]
    have et : bs.take (i + 1) = bs.take i ++ [b] := by rw [List.take_add_one, hbx]; rfl
    obtain ⟨hne1, hne2⟩ := hne.out (by intro e; rw [e] at hi; simp at hi)
    obtain ⟨ta, rest, hdict⟩ := envHead hoi.out
    have hgood : Good (star x y (bs.drop i ++ cs) ++ t) := ⟨_, t, rfl, star_nms hx.out hy.out _, ht⟩
    have hsp := split_path hgood.noSl
    have hwh : whichOf (star x y (bs.drop i ++ cs) ++ t) x y = b := by
      rw [ed, List.cons_append]
      refine which_star hne1 h01 _ _ ?_
      rw [← List.cons_append, star_append, List.length_append]
      omega
    have hall : star x y (bs ++ cs) ++ t = star x y (bs.take i) ++ (star x y (bs.drop i ++ cs) ++ t) := by
      rw [← List.append_assoc, ← star_append, ← List.append_assoc, List.take_append_drop]
    have hlen : (star x y (bs.take i)).length + (star x y (bs.drop i ++ cs) ++ t).length ≤ 60 := by
      rw [← List.length_append, ← hall, List.length_append]; exact hl
    have hpl : (pathT (star x y (bs.drop i ++ cs) ++ t)).length ≤ 1000 := good_len hgood (by omega)
    have hvl2 : vs.length ≤ 1000 := by rw [ints_len hvs, List.length_take]; omega
    have eLL : star x y (bs.drop i ++ cs) ++ t = wd ++ (star x y (bs.drop (i + 1) ++ cs) ++ t) := by
      rw [ed, List.cons_append, star, hwd, List.append_assoc]
    have hwd0 : wd ≠ [] := by
      rw [← hwd]
      by_cases hb0 : b = 0
      · rw [if_pos hb0]; exact hx0
      · rw [if_neg hb0]; exact hy0
    have h0 : ∃ y' r', star x y (bs.take i) ++ (star x y (bs.drop i ++ cs) ++ t) = y' :: r' ∧ Nm y' := by
      rw [← hall]
      have hs : star x y (bs ++ cs) ≠ [] := by
        rw [show bs ++ cs = bs.take i ++ (b :: bs.drop (i + 1) ++ cs) by rw [← ed, ← List.append_assoc, List.take_append_drop], star_append, List.cons_append, star, hwd]
        simp [hwd0]
      obtain ⟨z, r', e⟩ := List.exists_cons_of_ne_nil hs
      exact ⟨z, r' ++ t, by rw [e, List.cons_append], star_nms hx.out hy.out (bs ++ cs) z (by rw [e]; exact .head _)⟩
    have hgf : Good (star x y (bs.take i) ++ (star x y (bs.drop i ++ cs) ++ t)) := by
      rw [← hall]
      exact ⟨_, t, rfl, star_nms hx.out hy.out _, ht⟩
    have hoi' := hoi.out
    rw [eLL] at h0 hgf hoi'
    have hlen' := hlen
    rw [eLL, ← List.length_append] at hlen'
    replace h0 := Hid.mk h0
    replace hgf := Hid.mk hgf
    replace hoi' := Hid.mk hoi'
    replace eLL := Hid.mk eLL
    generalize hL : star x y (bs.drop i ++ cs) ++ t = LL at *
    generalize hT : pathT LL = T at hdict hsp hpl
    replace hwh := Hid.mk hwh
    replace hgood := Hid.mk hgood
    replace hsp := Hid.mk hsp
    replace hall := Hid.mk hall
    replace hne1 := Hid.mk hne1
    (try k_sweep)
    have hnl : @LT.lt Nat _ nm h.objs.size := Heap.lt_size (N₁ _ (.head _)).1
    k_steps
    rename List (Str × Tok) => l
    rename List.map _ l = _ => hl1
    rename StrsAre (strValues l) _ => hl2
    rename Fr _ _ _ _ => F2
    rename News _ _ _ _ => N2
    rw [hl1, hsp.out] at hl2
    obtain ⟨pp, epp⟩ : ∃ pp, pp = adrAt N2 0 := ⟨_, rfl⟩
    dsimp only [adrAt, adrOf] at epp
    dsimp only at F2 N2 ⊢
    rw [← epp] at N2 hnl ⊢
    obtain ⟨ms, ems, hms⟩ := tail_slice hl2
    have hml : ms.length ≤ 60 := by rw [strsAre_length hms]; omega
    refine stop_go (slice_led (s := ⟨_, _, _, _, _⟩) F2 N2 (N2.isList (.head _)) (IsPart.int _ _) IsPart.none ?_ (by rw [List.size_toArray, strsAre_length hl2, sizeLine_eq, List.length_cons]; omega) (by with_unfolding_all rfl) (by intro _; with_unfolding_all rfl))
    intro r0 h' F' N' l1'
    rw [ems] at N'
    simp only [AllNe] at l1'
    clear F2 N2 hl1 hl2 ems
    k_sweep
    (try dsimp only)
    k_steps
    rename Fr _ _ _ _ => F2
    rename News _ _ _ _ => N2
    refine stop_go (wpAny_call (codeAny_lv (c_which (left := LL) W' F2.keep (N2 _ (.head _)).2.2 (N2.isList (.head _)) hms hws hp sp hq sq (by omega) (by rw [strsAre_length sp]; exact lx) (by rw [strsAre_length sq]; exact ly) ?_) rfl (Nat.le_of_ble_eq_true rfl) (Nat.le_of_ble_eq_true rfl)))
    intro h' tk' tq st'
    rw [hwh.out, ebj]
    have F' := frStay F2 st'
    have N' := newsStay N2 st'
    clear F2 N2 st'
    k_sweep
    (try dsimp only)
    have j2 : ((j : Nat) : Int) ≠ 2 := by omega
    k_steps
    · exfalso; omega
    rename Fr _ _ _ _ => F2
    refine stop_go (kind_list.get (hws.at (F2.keep _)) (Nat.le_of_ble_eq_true rfl) hget ?_ (by with_unfolding_all rfl) (by intro _; with_unfolding_all rfl))
    k_steps
    rename Fr _ _ _ _ => F2
    refine stop_go (call_len_list (hwa.at (F2.keep _)) (by rw [List.size_toArray]; omega) ?_)
    rw [List.size_toArray, strsAre_length hvw]
    k_steps
    rename Fr _ _ _ _ => F2
    rename News _ _ _ _ => N2
    have nd1 := ne_dict_list N2 (.head _) (.tail _ (.tail _ (.tail _ (.head _)))) hdict
    have nd2 := ne_dict_list N2 (.tail _ (.head _)) (.tail _ (.tail _ (.tail _ (.head _)))) hdict
    have nd3 := ne_dict_list N2 (.tail _ (.tail _ (.head _))) (.tail _ (.tail _ (.tail _ (.head _)))) hdict
    have hdn := N2 _ (.tail _ (.tail _ (.tail _ (.head _))))
    refine stop_go (wpAny_call (codeAny_lv (c_shifted (xs := wd) W' F2.keep hdn.1 hdn.2.2 lo hoi'.out hgf.out h0.out hlen' ?_) rfl (Nat.le_of_ble_eq_true rfl) (Nat.le_of_ble_eq_true rfl)))
    intro h' tk' o' r1 vs' k' hB ho' henv hfr hr' hvs'
    obtain ⟨F', N', l2'⟩ := newsBut (pre := [_, _, _]) F2 N2 hB ho' ⟨nd1.symm, nd2.symm, nd3.symm, trivial⟩ (allNe_of fun p hp => hsep p hp d (by simp)) hfr hr'
    simp only [AllNe, List.cons_append, List.nil_append] at l2' N'
    clear F2 N2 hB ho' hr' hdn hdict
    replace henv := Hid.mk henv
    k_sweep
    (try dsimp only)
    k_steps
    rename Fr _ _ _ _ => F2
    refine stop_go (kind_list.get (hws.at (F2.keep _)) (Nat.le_of_ble_eq_true rfl) hget ?_ (by with_unfolding_all rfl) (by intro _; with_unfolding_all rfl))
    k_steps
    rename Fr _ _ _ _ => F2
    rename News _ _ _ _ => N2
    refine stop_go (ne_lists ordS (N2.isList (.head _)) (hwa.at (F2.keep _)) (repS_strs.mp hvs') (repS_strs.mp hvw) (Nat.le_of_ble_eq_true rfl) ?_)
    rw [decide_eq_true rfl]
    k_steps
    rename Fr _ _ _ _ => F2
    rename News _ _ _ _ => N2
    refine stop_go (InvEndN.intro F2 N2 (nx := [(nm, PySem.W.listOf (vs ++ [Value.int (j : Int) tq]).toArray (k + 1)), (d, o')]) ⟨_, k + 1, o', rfl, ?cI, ⟨?env⟩, fun z z1 z2 => by simp only [z1, z2, if_false]⟩ rfl ?mem ?own)
    case cI =>
      rw [et, ebj]
      exact ints_snoc hvs _ _
    case env =>
      rw [et, star_append]
      simp only [star, hwd, List.append_nil]
      exact henv.out
    case mem =>
      intro q hq
      rw [← List.push_toArray] at hq
      rcases List.mem_cons.mp hq with rfl | hq
      · exact .tail _ (.tail _ (.tail _ (.head _)))
      · rw [List.mem_singleton.mp hq]
        exact .tail _ (.tail _ (.tail _ (.tail _ (.head _))))
    case own => exact fun q hq => .tail _ (.tail _ (.tail _ (.tail _ (.tail _ hq))))
  case done =>
    rintro m₁ nx h tk1 ⟨vs, k, oi, rfl, hvs, hoi, hm⟩ F₁ N₁
    obtain ⟨ua, ub, uc, em1⟩ := split3 (c := Str.ofString "which") fun z z1 z2 _ => hm z z1 z2
    subst em1
    subst em
    clear F1 F0 N0 hm
    (try k_sweep)
    k_steps
    rename Fr _ _ _ _ => F2
    rename News _ _ _ _ => N2
    refine ret _ _ oi nm vs k (but_hide F2.keep) (N2 _ (.tail _ (.head _))).1 ?_ (hide_none (N2 _ (.head _)).2.2 (by simpa using Nat.ne_of_gt hlt)) (N2 _ (.head _)).1 (by simpa using hvs)
    simpa using hoi.out
end Mine
end
section
open PySem PySem.W PySem.Calls PyProof.Rows
set_option Elab.async false
set_option maxRecDepth 100000
namespace Mine
set_option maxHeartbeats 4000000
set_option pp.deepTerms false
set_option pp.maxSteps 3000
theorem regS6_1 : True := by
  k_with_none
  k_with "my enter" => (((case kX => k_asm); (case kL => exact Top.nolimit (by assumption)); (case kS => first | exact fun _ _ e => e | exact hide_stays _ _); (case kZ => first | exact Nat.le_refl _ | exact Nat.le_of_eq (hideAll_size _ _)); (case kN => first | assumption | exact List.forall_mem_nil _); (case k6 => k_is); (case k7 => k_is); (case k8 => decide); (case k9 => exact BindsTo.of_eq rfl); (case kB => exact locs rfl); (case c2 => exact rfl); (case c3 => exact rfl); (case c4 => exact rfl); (case c5 => decide); k_whole; intro zL' zh' zF' zN' zl1; (try dsimp only [List.reverse_cons, List.reverse_nil, List.nil_append, List.cons_append])))
  trivial

theorem fillS6 : PySem.Challenge.rw_wb0022_01 = PySem.Challenge.rw_wb0022_01 ∧ K0 = K0 := by
  k_fill
  exact ⟨rfl, rfl⟩
variable {w : World} {mean : ExcName → Option Value} {mg mb : Str → Option Value} {s : Shared} {R : Result → Shared → Prop} {hb : Heap}
theorem regS6_2 : True := by
  k_with "call ref" => ((with_reducible refine stop_of ?_))
  k_with "compareOp NotEq ref ref" => ((with_reducible refine stop_of ?_))
  k_with "InvEndN" => ((with_reducible refine stop_of ?_))
  k_with "InvPostN" => ((with_reducible refine stop_of ?_))
  k_with "pyIter ref" => ((with_reducible refine stop_of ?_))
  trivial




theorem regS6_3 : True := by
  k_with "subscriptTail Name Slice ref ref" => ((with_reducible refine stop_of ?_))
  k_with "subscriptTail Name Name ref int" => ((with_reducible refine stop_of ?_))
  k_with "getItem ref int" => ((with_reducible refine stop_of ?_))
  k_with "call builtin:len" => ((with_reducible refine stop_of ?_))
  trivial


section
variable {prog : Program} {A : Around} {E : Value → Shared → Prop} {m : Str → Option Value} {news : List (Addr × Obj)} {h₀ : Heap} {L : Addr}
theorem rev_led {value slice : Expr} {l : Addr} {items : Array Value} {tk : Tok} {ops : List Value} {Q : Value → Shared → Prop} (F : Fr h₀ L s.heap m) (N : News h₀ L s.heap news) (hl : s.heap.IsList l items)
    (h : ∀ r h', Fr h₀ L h' m → News h₀ L h' ((r, PySem.W.listOf items.toList.reverse.toArray 0) :: news) → AllNe r news → Q (.ref r) { s with heap := h' })
    (hs : subscripted slice false (.ref l) (.ref s.heap.objs.size) = operate ops (getItem (.ref l) (.ref s.heap.objs.size)))
    (ht : ∀ r, letTemporaryGo value (.ref l) r = pure ())
    (hsz : items.size ≤ sizeLine) :
    wpAny (model prog w) A (subscriptTail value slice (.ref l) (.ref s.heap.objs.size)) Q E { s with heap := s.heap.push { cls := .type "slice", data := .fields #[.none, .none, .int (-1) tk] } } := by
  refine slice_list3 (lo := none) (hi := none) (st := some (-1)) F N hl IsPart.none IsPart.none (IsPart.int _ _) (by decide) (fun h' F' N' => ?_) hs ht hsz
  rw [krv_pick] at N'
  refine h _ h' F' N' (allNe_of fun p hp e => ?_)
  have := Heap.lt_size (N p hp).1
  rw [e] at this
  exact Nat.lt_irrefl _ (Nat.lt_of_succ_lt this)
end
theorem sa_reverse {vs : List Value} {xs : List Str} (h : StrsAre vs xs) : StrsAre vs.reverse xs.reverse := by
  induction h with
  | nil => exact .nil
  | cons y t h ih =>
    rw [List.reverse_cons, List.reverse_cons]
    exact sa_append ih (.cons y t .nil)
theorem newsTwo {h₀ h h' : Heap} {L r1 r2 : Addr} {o1 o2 : Obj} {m : Str → Option Value} {news : List (Addr × Obj)} (F : Fr h₀ L h m) (N : News h₀ L h news) (st : h.StaysIn h') (f1 : h.get? r1 = none) (f2 : h.get? r2 = none) (g1 : h'.get? r1 = some o1) (g2 : h'.get? r2 = some o2) (ne : @Ne Nat r2 r1) :
    News h₀ L h' ((r1, o1) :: (r2, o2) :: news) ∧ AllNe r1 ((r2, o2) :: news) ∧ AllNe r2 news := by
  obtain ⟨n1, a1⟩ := newsNew F N st f1 g1
  obtain ⟨n2, a2⟩ := newsNew F N st f2 g2
  refine ⟨fun p hp => ?_, ⟨ne, a1⟩, a2⟩
  rcases List.mem_cons.mp hp with rfl | hp
  · exact n1 _ (.head _)
  · exact n2 p hp
theorem pair_ne {h : Heap} {r1 r2 : Addr} {a : Value} {k1 k2 : Nat} {vs : List Value} {xs : List Str} (s : StrsAre vs xs) (h1 : h.get? r1 = some (PySem.W.listOf #[a, .ref r2] k1)) (h2 : h.get? r2 = some (PySem.W.listOf vs.toArray k2)) : @Ne Nat r2 r1 := by
  intro e
  rw [e] at h2
  rw [h1] at h2
  injection h2 with h2
  injection h2 with _ _ h2 _
  injection h2 with h2 _
  have : [a, .ref r2] = vs := by simpa using congrArg Array.toList h2
  subst this
  obtain _ | ⟨_, _, s⟩ := s
  cases s
theorem star_ne {x y : List Str} (hx0 : x ≠ []) (hy0 : y ≠ []) : ∀ {bs : List Int}, bs ≠ [] → star x y bs ≠ []
  | [], h => absurd rfl h
  | b :: bs, _ => by
    rw [star]
    by_cases h : b = 0
    · rw [if_pos h]; simp [hx0]
    · rw [if_neg h]; simp [hy0]
theorem c_backward {ws p q : Addr} {vp vq : List Value} {x y : List Str} {bs cs : List Int} {t u : Tok}
    (W : Wd w mean mg mb s.heap) (hws : s.heap.IsList ws [Value.ref p, Value.ref q].toArray) (hp : s.heap.IsList p vp.toArray) (sp : StrsAre vp x) (hq : s.heap.IsList q vq.toArray) (sq : StrsAre vq y) (lx : x.length ≤ 64) (ly : y.length ≤ 64)
    (hx : Nms x) (hy : Nms y) (hx0 : x ≠ []) (hy0 : y ≠ []) (hne : bs ≠ [] → x ++ y ≠ y ++ x ∧ x.length + y.length ≤ (star x y cs).length) (hc0 : cs ≠ []) (hb01 : ∀ b ∈ bs, b = 0 ∨ b = 1) (hl : (star x y (bs ++ cs)).length ≤ 60) (hcs : bs.length ≤ 60)
    (ret : ∀ h' tk' r1 r2 vs k1 k2 ta, s.heap.StaysIn h' → s.heap.get? r1 = none → s.heap.get? r2 = none → h'.get? r1 = some (PySem.W.listOf #[.str (pathT (star x y cs).reverse) ta, .ref r2] k1) → h'.get? r2 = some (PySem.W.listOf (List.toArray vs) k2) → IntsAre vs bs →
      R (.ok (.ret (.ref r1))) { s with heap := h', toks := tk' }) :
    codeAny (model P0 w) (lv 350 500) (.call (.ref 228) ⟨[.str (pathT (star x y (bs ++ cs)).reverse) t, .ref ws, .int (bs.length : Nat) u], []⟩) R s := by
  replace hne := Hid.mk hne
  replace hb01 := Hid.mk hb01
  replace hx := Hid.mk hx
  replace hy := Hid.mk hy
  have KX := W.X
  have KT := W.T
  refine' enter (news := []) (binds := [(Str.ofString "place", .str (pathT (star x y (bs ++ cs)).reverse) t), (Str.ofString "words", .ref ws), (Str.ofString "count", .int (bs.length : Nat) u)]) ?kX ?kL ?kS ?kZ ?kN ?k6 ?k7 ?k8 ?k9 ?kB ?_ ?c2 ?c3 ?c4 ?c5
  k_dflt walk_at "my enter"
  k_fold
  k_steps
  rename IsRange _ _ _ _ _ _ _ _ => hr
  rename Fr _ _ _ _ => F0
  rename News _ _ _ _ => N0
  obtain ⟨nm, enm⟩ : ∃ nm, nm = adrAt N0 0 := ⟨_, rfl⟩
  dsimp only [adrAt, adrOf] at enm
  subst enm
  dsimp only at F0 N0 ⊢
  refine fr_named F0 fun m0 em F1 => ?_
  refine stop_go (iter_rangeI (fun i m nx => ∃ vs k tp, nx = [(nm, PySem.W.listOf (List.toArray vs) k)] ∧ IntsAre vs (bs.take i) ∧ m (Str.ofString "place") = some (.str (pathT (star x y (bs.drop i ++ cs)).reverse) tp) ∧ ∀ z, z ≠ Str.ofString "_" → z ≠ Str.ofString "which" → z ≠ Str.ofString "names" → z ≠ Str.ofString "_" → z ≠ Str.ofString "place" → m z = m0 z) rfl hr (small_up _ _ (by omega)) (size_up _ _ bs.length (by omega)) F1 N0 ⟨[], 0, t, rfl, .nil, by subst em; simp; rfl, fun _ _ _ _ _ _ => rfl⟩ ?turn ?done)
  case turn =>
    rintro i t1 m₁ nx h tk1 own hi hsep ⟨vs, k, tp, rfl, hvs, hpl, hm⟩ F₁ N₁
    obtain ⟨ua, ub, uc, ud, em1⟩ := split4 hpl hm
    subst em1
    subst em
    clear F1 F0 N0 hm hpl
    simp only [List.map_cons, List.map_nil, List.cons_append, List.nil_append] at hsep N₁ ⊢
    obtain ⟨b, hbx⟩ : ∃ b, bs[i]? = some b := ⟨_, List.getElem?_eq_getElem hi⟩
    have h01 := hb01.out b (List.mem_of_getElem? hbx)
    obtain ⟨j, wa, vw, ebj, hj2, hget, hwa, hvw, hwl, hvl⟩ := word_at hp sp hq sq lx ly h01
    have hwn : Nms (if b = 0 then x else y) := by
      by_cases hb0 : b = 0
      · rw [if_pos hb0]; exact hx.out
      · rw [if_neg hb0]; exact hy.out
    generalize hwd : (if b = 0 then x else y) = wd at hvw hwl hwn
    have ed : bs.drop i = b :: bs.drop (i + 1) := by
      rw [List.drop_eq_getElem_cons hi]
      rw [List.getElem?_eq_getElem hi] at hbx
      rw [Option.some.inj hbx]
    have et : bs.take (i + 1) = bs.take i ++ [b] := by rw [List.take_add_one, hbx]; rfl
    obtain ⟨hne1, hne2⟩ := hne.out (by intro e; rw [e] at hi; simp at hi)
    have hgood : Nms (star x y (bs.drop i ++ cs)).reverse := fun z hz => star_nms hx.out hy.out _ z (List.mem_reverse.mp hz)
    have hsp := split_path (all_noSl hgood)
    have hwh : whichOf (star x y (bs.drop i ++ cs)) x y = b := by
      have := which_star hne1 h01 (bs.drop (i + 1) ++ cs) [] (by rw [← List.cons_append, star_append, List.length_append]; omega)
      rwa [List.append_nil, ← List.cons_append, ← ed] at this
    have hlen : (star x y (bs.drop i ++ cs)).length ≤ 60 := by
      have e : bs ++ cs = bs.take i ++ (bs.drop i ++ cs) := by rw [← List.append_assoc, List.take_append_drop]
      rw [e, star_append, List.length_append] at hl
      omega
    have hpl : (pathT (star x y (bs.drop i ++ cs)).reverse).length ≤ 1000 := by
      have := path_len (all_two hgood)
      rw [List.length_reverse] at this
      omega
    have hvl2 : vs.length ≤ 1000 := by rw [ints_len hvs, List.length_take]; omega
    have hrs : star x y (bs.drop (i + 1) ++ cs) ≠ [] := star_ne hx0 hy0 (by simp [hc0])
    obtain ⟨z, ks, hzk⟩ := List.exists_cons_of_ne_nil (fun e => hrs (List.reverse_eq_nil_iff.mp e))
    have eS : (star x y (bs.drop i ++ cs)).reverse = z :: ks ++ wd.reverse := by
      rw [ed, List.cons_append, star, hwd, List.reverse_append, hzk]
    have hz : Nm z := star_nms hx.out hy.out (bs.drop (i + 1) ++ cs) z (List.mem_reverse.mp (by rw [hzk]; exact .head _))
    have hgz : Good (z :: ks ++ wd.reverse) := ⟨_, [], by rw [List.append_nil], by rw [← eS]; exact hgood, .inl rfl⟩
    have hlz : (z :: ks ++ wd.reverse).length ≤ 60 := by rw [← eS, List.length_reverse]; exact hlen
    have hnl : @LT.lt Nat _ nm h.objs.size := Heap.lt_size (N₁ _ (.head _)).1
    replace eS := Hid.mk eS
    replace hgz := Hid.mk hgz
    replace hz := Hid.mk hz
    replace hrs := Hid.mk hrs
    generalize hL : star x y (bs.drop i ++ cs) = LL at *
    generalize hT : pathT LL.reverse = T at *
    replace hwh := Hid.mk hwh
    replace hgood := Hid.mk hgood
    replace hsp := Hid.mk hsp
    replace hne1 := Hid.mk hne1
    (try k_sweep)
    k_steps
    rename List (Str × Tok) => l
    rename List.map _ l = _ => hl1
    rename StrsAre (strValues l) _ => hl2
    rename Fr _ _ _ _ => F2
    rename News _ _ _ _ => N2
    rw [hl1, hsp.out] at hl2
    obtain ⟨pp, epp⟩ : ∃ pp, pp = adrAt N2 0 := ⟨_, rfl⟩
    dsimp only [adrAt, adrOf] at epp
    dsimp only at F2 N2 ⊢
    rw [← epp] at N2 hnl ⊢
    obtain ⟨ms, ems, hms⟩ := tail_slice hl2
    have hml : ms.length ≤ 60 := by rw [strsAre_length hms, List.length_reverse]; omega
    refine stop_go (slice_led (s := ⟨_, _, _, _, _⟩) F2 N2 (N2.isList (.head _)) (IsPart.int _ _) IsPart.none ?_ (by rw [List.size_toArray, strsAre_length hl2, sizeLine_eq, List.length_cons, List.length_reverse]; omega) (by with_unfolding_all rfl) (by intro _; with_unfolding_all rfl))
    intro r0 h' F' N' l1'
    rw [ems] at N'
    simp only [AllNe] at l1'
    clear F2 N2 hl1 hl2 ems
    k_sweep
    (try dsimp only)
    k_steps
    rename Fr _ _ _ _ => F2
    rename News _ _ _ _ => N2
    refine stop_go (rev_led (s := ⟨_, _, _, _, _⟩) F2 N2 (N2.isList (.head _)) ?_ (by with_unfolding_all rfl) (by intro _; with_unfolding_all rfl) (by rw [List.size_toArray, sizeLine_eq]; omega))
    intro r00 h' F' N' l0'
    have hmr := sa_reverse hms
    rw [List.reverse_reverse] at hmr
    simp only at N'
    have hmrl : ms.reverse.length ≤ 60 := by rw [List.length_reverse]; exact hml
    generalize ms.reverse = mr at N' hmr hmrl
    simp only [AllNe] at l0'
    clear F2 N2 
    k_sweep
    (try dsimp only)
    k_steps
    rename Fr _ _ _ _ => F2
    rename News _ _ _ _ => N2
    refine stop_go (wpAny_call (codeAny_lv (c_which (left := LL) W F2.keep (N2 _ (.head _)).2.2 (N2.isList (.head _)) hmr hws hp sp hq sq (by omega) (by rw [strsAre_length sp]; exact lx) (by rw [strsAre_length sq]; exact ly) ?_) rfl (Nat.le_of_ble_eq_true rfl) (Nat.le_of_ble_eq_true rfl)))
    intro h' tk' tq st'
    rw [hwh.out, ebj]
    have F' := frStay F2 st'
    have N' := newsStay N2 st'
    clear F2 N2 st'
    k_sweep
    (try dsimp only)
    have j2 : ((j : Nat) : Int) ≠ 2 := by omega
    k_steps
    · exfalso; omega
    rename Fr _ _ _ _ => F2
    refine stop_go (kind_list.get (hws.at (F2.keep _)) (Nat.le_of_ble_eq_true rfl) hget ?_ (by with_unfolding_all rfl) (by intro _; with_unfolding_all rfl))
    k_steps
    rename Fr _ _ _ _ => F2
    refine stop_go (call_len_list (hwa.at (F2.keep _)) (by rw [List.size_toArray]; omega) ?_)
    rw [List.size_toArray, strsAre_length hvw, ← List.length_reverse]
    k_steps
    rename Fr _ _ _ _ => F2
    rename News _ _ _ _ => N2
    rw [← hT, eS.out]
    refine stop_go (wpAny_call (codeAny_lv (c_taken (W.keeps F2.keep) hz.out hgz.out hlz ?_) rfl (Nat.le_of_ble_eq_true rfl) (Nat.le_of_ble_eq_true rfl)))
    intro h' tk' r1 r2 vs' k1 k2 ta st' hf1 hf2 hr1 hr2 hvs'
    rw [List.reverse_reverse] at hvs'
    have F' := frStay F2 st'
    obtain ⟨N', l2'⟩ := newsTwo F2 N2 st' hf1 hf2 hr1 hr2 (pair_ne hvs' hr1 hr2)
    simp only [AllNe] at l2'
    clear F2 N2 st' hf1 hf2 hr1 hr2
    k_sweep
    (try dsimp only)
    k_steps
    rename Fr _ _ _ _ => F2
    refine stop_go (kind_list.get (hws.at (F2.keep _)) (Nat.le_of_ble_eq_true rfl) hget ?_ (by with_unfolding_all rfl) (by intro _; with_unfolding_all rfl))
    k_steps
    rename Fr _ _ _ _ => F2
    rename News _ _ _ _ => N2
    refine stop_go (ne_lists ordS (N2.isList (.tail _ (.head _))) (hwa.at (F2.keep _)) (repS_strs.mp hvs') (repS_strs.mp hvw) (Nat.le_of_ble_eq_true rfl) ?_)
    rw [decide_eq_true rfl]
    k_steps
    rename Fr _ _ _ _ => F2
    rename News _ _ _ _ => N2
    refine stop_go (InvEndN.intro F2 N2 (nx := [(nm, PySem.W.listOf (vs ++ [Value.int (j : Int) tq]).toArray (k + 1))]) ⟨_, k + 1, ta, rfl, ?cI, ?pl, fun z z1 z2 z3 z4 z5 => by simp only [z1, z2, z3, z5, if_false]⟩ rfl ?mem ?own)
    case cI =>
      rw [et, ebj]
      exact ints_snoc hvs _ _
    case pl =>
      rw [hzk]
      rfl
    case mem =>
      intro q hq
      rw [← List.push_toArray] at hq
      rw [List.mem_singleton.mp hq]
      exact .tail _ (.tail _ (.tail _ (.tail _ (.tail _ (.head _)))))
    case own => exact fun q hq => .tail _ (.tail _ (.tail _ (.tail _ (.tail _ (.tail _ hq)))))
  case done =>
    rintro m₁ nx h tk1 ⟨vs, k, tp, rfl, hvs, hpl, hm⟩ F₁ N₁
    obtain ⟨ua, ub, uc, ud, em1⟩ := split4 hpl hm
    subst em1
    subst em
    clear F1 F0 N0 hm
    rw [List.drop_length, List.nil_append] at F₁
    (try k_sweep)
    k_steps
    rename Fr _ _ _ _ => F2
    rename News _ _ _ _ => N2
    exact ret _ _ _ nm vs 0 k tp F2.keep (N2 _ (.head _)).2.2 (N2 _ (.tail _ (.head _))).2.2 (N2 _ (.head _)).1 (N2 _ (.tail _ (.head _))).1 (by rwa [List.take_length] at hvs)
end Mine
end
section
theorem Mine.regT1_0 : True := by
  k_with_none
  trivial
open PySem PySem.W PySem.Calls PyProof.Rows
open Builtin
set_option Elab.async false
set_option maxRecDepth 100000
namespace Mine
set_option maxHeartbeats 4000000
open LCg

theorem compTurn_two0 (elt t0 t1 i0 i1 : Expr) (scope : Scope) (pos : Pos) (it acc : Value) (env : Env) :
    compTurn (.ListComp elt [⟨t0, i0, [], 0⟩, ⟨t1, i1, [], 0⟩] scope pos) 0 it acc env = (standAt i0.pos >>= fun _ => pyNext it >>= fun r => match r with
      | none => pure (.done .next)
      | some v => letOwnedTupleGo t0 it v >>= fun _ => assign t0 env v >>= fun _ =>
        eval i1 env >>= fun x => standAt i1.pos >>= fun _ => foldedSetIterable i1 env x >>= fun x => holding [x] (pyIter x) >>= fun it1 => runOwn (.compStart (.ListComp elt [⟨t0, i0, [], 0⟩, ⟨t1, i1, [], 0⟩] scope pos) 1 it1 acc env) env >>= fun _ =>
        again (.compLoop (.ListComp elt [⟨t0, i0, [], 0⟩, ⟨t1, i1, [], 0⟩] scope pos) 0 it acc env)) := by rfl
theorem compTurn_two1 (elt t0 t1 i0 i1 : Expr) (scope : Scope) (pos : Pos) (it acc : Value) (env : Env) :
    compTurn (.ListComp elt [⟨t0, i0, [], 0⟩, ⟨t1, i1, [], 0⟩] scope pos) 1 it acc env = (standAt i1.pos >>= fun _ => pyNext it >>= fun r => match r with
      | none => pure (.done .next)
      | some v => letOwnedTupleGo t1 it v >>= fun _ => assign t1 env v >>= fun _ =>
        (eval elt env >>= fun x => call (.builtin "list.append") [acc, x] >>= fun _ => pure ()) >>= fun _ =>
        again (.compLoop (.ListComp elt [⟨t0, i0, [], 0⟩, ⟨t1, i1, [], 0⟩] scope pos) 1 it acc env)) := by rfl
section
variable {prog : Program} {w : World} {A : Around} {E : Value → Shared → Prop} {s : Shared} {env : Env} {R : Result → Shared → Prop}
theorem start_two1 {elt t0 t1 i0 i1 : Expr} {scope : Scope} {pos : Pos} {it acc : Value}
    (h0 : codeAny (model prog w) A (.compLoop (.ListComp elt [⟨t0, i0, [], 0⟩, ⟨t1, i1, [], 0⟩] scope pos) 1 it acc env) R s)
    (h : wpAny (model prog w) A (pyIter it) (fun it' s' => codeAny (model prog w) A (.compLoop (.ListComp elt [⟨t0, i0, [], 0⟩, ⟨t1, i1, [], 0⟩] scope pos) 1 it' acc env) R s')
      (notedBy (model prog w) A env fun x s' => R (.error x) s') s) :
    codeAny (model prog w) A (.compStart (.ListComp elt [⟨t0, i0, [], 0⟩, ⟨t1, i1, [], 0⟩] scope pos) 1 it acc env) R s := by
  refine codeAny_of_tree ?_
  show wpAny _ _ ((compStart (.ListComp elt [⟨t0, i0, [], 0⟩, ⟨t1, i1, [], 0⟩] scope pos) 1 it acc env).onRaise (fun x => do noteFrame x env; standAt theWindowsPlace)) _ _ s
  refine wpAny_notedAt ?_
  unfold compStart
  show wpAny _ _ (ask >>= _) _ _ s
  refine wpAny_bind (wpAny_askSetting (wpAny_ite ?_))
  split
  · first
      | exact wpAny_bind (wpAny_pure (wpAny_pure (And.intro rfl h0)))
      | exact wpAny_pure (And.intro rfl h0)
  · refine wpAny_bind (wpAny_rule ?_)
    show wpAny _ _ (standAt i1.pos >>= _) _ _ s
    exact wpAny_bind (wpAny_standAt (wpAny_bind (wpAny_mono h (fun it' s' h' => wpAny_pure (And.intro rfl h')) fun _ _ x => x)))

/-- the inner clause over a list, each item taken as it is -/
theorem inner_loop {x y : Str} {px py py' pos : Pos} {i0 i1 : Expr} {scope : Scope} {cl : List (Str × Addr)} {b I1 D C : Addr} {its : Array Value} {ys : List Value} {m' : Str → Option Value}
    (hh : A.handled = none) (hkind : scope.kind = .function) (hy : scope.names.lookup y = some .local) (hdbg : (y == ("__debug__" : Str)) = false) (hI : s.heap.IsListIter I1 b 0) (hb : s.heap.IsList b its) (hC : s.heap.Ns C m') (hD : s.heap.get? D = some (lst ys))
    (n1 : b ≠ I1) (n2 : I1 ≠ C) (n3 : I1 ≠ D) (n4 : C ≠ D) (n5 : b ≠ C) (n6 : b ≠ D) (hsz : ys.length + its.size ≤ sizeLine)
    (ret : ∀ h' tk m₂, (∀ a o, a ≠ I1 → a ≠ C → a ≠ D → s.heap.get? a = some o → h'.get? a = some o) → h'.Ns C m₂ → h'.get? D = some (lst (ys ++ its.toList)) → (∀ z, z ≠ y → m₂ z = m' z) → R (.ok .next) { s with heap := h', toks := tk }) :
    codeAny (model prog w) A (.compLoop (.ListComp (.Name y py) [⟨.Name x px, i0, [], 0⟩, ⟨.Name y py', i1, [], 0⟩] scope pos) 1 (.ref I1) (.ref D) (compEnvC scope cl C env)) R s := by
  have W := Walks.list (prog := prog) (w := w) hh I1 b n1 its
  refine codeAny_loop rfl (fun k s' => ∃ h' tk i m₂, s' = { s with heap := h', toks := tk } ∧ i ≤ its.size ∧ k = its.size + 1 - i ∧ (h'.IsListIter I1 b i ∧ h'.IsList b its) ∧
      (∀ a o, a ≠ I1 → a ≠ C → a ≠ D → s.heap.get? a = some o → h'.get? a = some o) ∧ h'.Ns C m₂ ∧ h'.get? D = some (lst (ys ++ its.toList.take i)) ∧ (∀ z, z ≠ y → m₂ z = m' z)) (fun k s' hI => ?_) (its.size + 1)
    ⟨s.heap, s.toks, 0, m', rfl, Nat.zero_le _, rfl, ⟨hI, hb⟩, fun _ _ _ _ _ e => e, hC, by simpa using hD, fun _ _ => rfl⟩
  obtain ⟨h', tk, i, m₂, rfl, hi, rfl, hst, hk, hC', hD', hm⟩ := hI
  show wpAny _ _ ((compTurn (.ListComp (.Name y py) [⟨.Name x px, i0, [], 0⟩, ⟨.Name y py', i1, [], 0⟩] scope pos) 1 (.ref I1) (.ref D) (compEnvC scope cl C env)).onRaise (fun x => do noteFrame x (compEnvC scope cl C env); theTreesLotGoes x)) _ _ _
  refine wpAny_noted ?_
  rw [compTurn_two1]
  by_cases hlt : i < its.size
  · refine wpAny_bind (wpAny_standAt (wpAny_bind (W.item i _ _ _ hlt hst fun v h₂ tk₂ hPv hst₂ hk₂ => ?_)))
    have hk₂' : ∀ a o, a ≠ I1 → h'.get? a = some o → h₂.get? a = some o := fun a o n e => hk₂ a o (by simpa using n) e
    show wpAny _ _ (pure () >>= _) _ _ _
    refine wpAny_bind (wpAny_pure (wpAny_bind (wpAny_assign_Name (wpAny_storeName_local (lookup_relabel_local hy) (hC'.at' fun o e => hk₂' _ o n2.symm e) (fun h₃ hn₃ hs₃ => ?_) (by simp [compEnvC, relabel, hkind])))))
    refine wpAny_bind (wpAny_bind (wpAny_Name (wpAny_loadName_local (by simp [compEnvC, relabel, hkind]) (lookup_relabel_local hy) hn₃ (v := v) (by simp) ?_) hdbg))
    have hD3 : h₃.get? D = some (lst (ys ++ its.toList.take i)) := hs₃.extBut _ _ n4.symm (hk₂' _ _ n3.symm hD')
    refine wpAny_bind (append_at (hsz := ?sz) hD3 fun h₅ hs₅ hD₅ => ?_)
    case sz =>
      show (ys ++ its.toList.take i).toArray.size ≤ sizeLine
      rw [List.size_toArray, List.length_append, List.length_take]
      omega
    refine wpAny_pure (wpAny_pure ⟨rfl, its.size + 1 - (i + 1), by omega, h₅, _, i + 1, _, rfl, hlt, rfl, W.frame _ _ _ hst₂ (fun a ha o e => ?_), fun a o a1 a2 a3 e => ?_, hn₃.sameBut hs₅ n4, ?_, fun z hz => ?_⟩)
    · have a2 : a ≠ C ∧ a ≠ D := by
        rcases List.mem_cons.mp ha with rfl | ha
        · exact ⟨n2, n3⟩
        · rw [List.mem_singleton.mp ha]; exact ⟨n5, n6⟩
      exact hs₅.extBut _ _ a2.2 (hs₃.extBut _ _ a2.1 e)
    · exact hs₅.extBut _ _ a3 (hs₃.extBut _ _ a2 (hk₂' _ _ a1 (hk a o a1 a2 a3 e)))
    · rw [hD₅]
      have e1 : its.toList.take (i + 1) = its.toList.take i ++ [v] := by
        rw [List.take_add_one, Array.getElem?_toList, hPv]; rfl
      rw [e1, ← List.append_assoc]
      exact congrArg some (lst_snoc _ v)
    · simp only [if_neg hz, hm z hz]
  · obtain rfl : i = its.size := by omega
    refine wpAny_bind (wpAny_standAt (wpAny_bind (W.done _ _ _ hst fun h₂ tk₂ hk₂ => ?_)))
    have hk₂' : ∀ a o, a ≠ I1 → h'.get? a = some o → h₂.get? a = some o := fun a o n e => hk₂ a o (by simpa using n) e
    refine wpAny_pure (ret h₂ tk₂ m₂ (fun a o a1 a2 a3 e => hk₂' _ _ a1 (hk a o a1 a2 a3 e)) (hC'.at' fun o e => hk₂' _ o n2.symm e) ?_ hm)
    have := hk₂' _ _ n3.symm hD'
    rwa [List.take_of_length_le (by simp)] at this
end
end Mine
end
section
theorem Mine.regT2_0 : True := by
  k_with_none
  trivial
open PySem PySem.W PySem.Calls PyProof.Rows
open Builtin
set_option Elab.async false
set_option maxRecDepth 100000
namespace Mine
set_option maxHeartbeats 4000000
open LCg
section
variable {prog : Program} {w : World} {A : Around} {E : Value → Shared → Prop} {s : Shared} {env : Env}

/-- what the source of a comprehension with two clauses must give -/
def TwoTurn (prog : Program) (w : World) (A : Around) (s : Shared) (i1 : Expr) (x : Str) (scope : Scope) (cl : List (Str × Addr)) (env : Env) (ax : Addr) (its : Array Value) (inn : Nat → List Value) (h : Heap) : Prop :=
  h.IsList ax its ∧ its.size ≤ 1000 ∧ (∀ i, (inn i).length ≤ 1000) ∧
    (∀ i v, its[i]? = some v → ∀ (h₂ : Heap) (tk₂ : Nat) (C : Addr) (m₂ : Str → Option Value) (E' : Value → Shared → Prop), h.StaysIn h₂ → h.objs.size ≤ C → h₂.Ns C m₂ → m₂ x = some v →
      wpAny (model prog w) A (eval i1 (compEnvC scope cl C env)) (fun xv s' => ∃ (b : Addr) (h' : Heap) (tk' : Nat), xv = .ref b ∧ s' = { s with heap := h', toks := tk' } ∧ h₂.StaysIn h' ∧ h.IsList b (inn i).toArray) E' { s with heap := h₂, toks := tk₂ })

theorem two_core {x y : Str} {px py py' pos : Pos} {i0 i1 : Expr} {scope : Scope} {cl : List (Str × Addr)} {RR : Value → Addr → Result → Shared → Prop} {ax : Addr} {its : Array Value} {inn : Nat → List Value} {h : Heap} {tk : Nat}
    (hcell : ∀ y ∈ scope.names, y.2 ≠ .cell) (hkind : scope.kind = .function)
    (hx : scope.names.lookup x = some .local) (hy : scope.names.lookup y = some .local) (hdbg : (y == ("__debug__" : Str)) = false) (hs1 : ∀ env' v, foldedSetIterable i1 env' v = pure v) (hh : A.handled = none)
    (T : TwoTurn prog w A s i1 x scope cl env ax its inn h)
    (fin : ∀ D C h' tk' m', h.StaysIn h' → h.get? D = none → h.get? C = none → @Ne Nat C D → h'.Ns C m' → h'.get? D = some (lst ((List.range its.size).flatMap inn)) → RR (.ref D) C (.ok .next) { s with heap := h', toks := tk' }) :
    wpAny (model prog w) A (pyIter (.ref ax)) (fun it s₂ => wpAny (model prog w) A (newList []) (fun acc s₃ => wpAny (model prog w) A (newFunctionEnv scope env.globals cl [] env.qual none .none (some env)) (fun cenv s₄ =>
      codeAny (model prog w) A (.compStart (.ListComp (.Name y py) [⟨.Name x px, i0, [], 0⟩, ⟨.Name y py', i1, [], 0⟩] scope pos) 0 it acc { cenv with scope := relabel scope env }) (RR acc cenv.locals) s₄) E s₃) E s₂) E { s with heap := h, toks := tk } := by
  obtain ⟨hl, hn, hil, inner⟩ := T
  have hlt : ax < h.objs.size := by obtain ⟨_, e, _⟩ := hl; exact Heap.lt_size e
  refine wpAny_pyIter_list hl ?_
  refine wpAny_newObj_type (wpAny_newFunctionEnv hcell (by intro y hy; simp at hy) (fun h₁ hns₁ hsb₁ => ?_) hkind)
  dsimp only at hns₁ hsb₁ ⊢
  generalize hHI : h.push { cls := .type "list_iterator", data := .fields #[.ref ax, .int 0 0] } = HI at hns₁ hsb₁ ⊢
  generalize hHD : HI.push { cls := .type "list", dict := none, data := .seq ([] : List Value).toArray } = HD at hns₁ hsb₁ ⊢
  have zI : HI.objs.size = h.objs.size + 1 := by rw [← hHI, Heap.size_push]
  have zD : HD.objs.size = HI.objs.size + 1 := by rw [← hHD, Heap.size_push]
  have u1 : ∀ a o, h.get? a = some o → HI.get? a = some o := fun a o e => by rw [← hHI]; exact Heap.get?_push_of_some _ e
  have u2 : ∀ a o, HI.get? a = some o → HD.get? a = some o := fun a o e => by rw [← hHD]; exact Heap.get?_push_of_some _ e
  have u3 : ∀ a o, @Ne Nat a HD.objs.size → HD.get? a = some o → h₁.get? a = some o := fun a o n e => hsb₁.extBut a o n (Heap.get?_push_of_some _ e)
  have k0 : ∀ a o, h.get? a = some o → h₁.get? a = some o := fun a o e => by
    have t : @LT.lt Nat _ a h.objs.size := Heap.lt_size e
    exact u3 a o (by omega) (u2 _ _ (u1 _ _ e))
  have gI : h₁.get? h.objs.size = some { cls := .type "list_iterator", data := .fields #[.ref ax, .int 0 0] } :=
    u3 _ _ (by omega) (u2 _ _ (by rw [← hHI]; exact Heap.get?_push_size _ rfl))
  have gD : h₁.get? HI.objs.size = some (lst []) := u3 _ _ (by omega) (by rw [← hHD]; exact Heap.get?_push_size _ rfl)
  have W := Walks.list (prog := prog) (w := w) hh h.objs.size ax (Nat.ne_of_lt hlt) its
  have nD : ∀ a o, h.get? a = some o → a ≠ h.objs.size ∧ a ≠ HI.objs.size ∧ a ≠ HD.objs.size := fun a o e => by
    have t : @LT.lt Nat _ a h.objs.size := Heap.lt_size e
    refine ⟨?_, ?_, ?_⟩
    · show @Ne Nat a h.objs.size; omega
    · show @Ne Nat a HI.objs.size; omega
    · show @Ne Nat a HD.objs.size; omega
  have fresh : ∀ a, h.objs.size ≤ a → h.get? a = none := fun a ha => by
    cases e : h.get? a with
    | none => rfl
    | some o' => exact absurd (Heap.lt_size e) (Nat.not_lt.mpr ha)
  have flen : ∀ i, ((List.range i).flatMap inn).length ≤ i * 1000 := by
    intro i
    induction i with
    | zero => simp
    | succ i ih =>
      rw [List.range_succ, List.flatMap_append, List.length_append, List.flatMap_cons, List.flatMap_nil, List.append_nil]
      have := hil i
      omega
  have sl : sizeLine = 16777216 := by rw [sizeLine_eq]
  have loop : ∀ tk0, codeAny (model prog w) A (.compLoop (.ListComp (.Name y py) [⟨.Name x px, i0, [], 0⟩, ⟨.Name y py', i1, [], 0⟩] scope pos) 0 (.ref h.objs.size) (.ref HI.objs.size) (compEnvC scope cl HD.objs.size env))
      (RR (.ref HI.objs.size) HD.objs.size) { s with heap := h₁, toks := tk0 } := by
    intro tk0
    refine codeAny_loop rfl (fun k s' => ∃ h' tk i m₂, s' = { s with heap := h', toks := tk } ∧ i ≤ its.size ∧ k = its.size + 1 - i ∧ (h'.IsListIter h.objs.size ax i ∧ h'.IsList ax its) ∧
        h.StaysIn h' ∧ h'.Ns HD.objs.size m₂ ∧ h'.get? HI.objs.size = some (lst ((List.range i).flatMap inn))) (fun k s' hI => ?_) (its.size + 1)
      ⟨h₁, tk0, 0, _, rfl, Nat.zero_le _, rfl, ⟨⟨_, gI, rfl, rfl⟩, hl.at fun o e => k0 _ _ e⟩, k0, hns₁, by simpa using gD⟩
    obtain ⟨h', tk', i, m₂, rfl, hi, rfl, hst, hk, hC', hD'⟩ := hI
    show wpAny _ _ ((compTurn (.ListComp (.Name y py) [⟨.Name x px, i0, [], 0⟩, ⟨.Name y py', i1, [], 0⟩] scope pos) 0 (.ref h.objs.size) (.ref HI.objs.size) (compEnvC scope cl HD.objs.size env)).onRaise (fun x => do noteFrame x (compEnvC scope cl HD.objs.size env); theTreesLotGoes x)) _ _ _
    refine wpAny_noted ?_
    rw [compTurn_two0]
    by_cases hlt2 : i < its.size
    · refine wpAny_bind (wpAny_standAt (wpAny_bind (W.item i _ _ _ hlt2 hst fun v h₂ tk₂ hPv hst₂ hk₂ => ?_)))
      have hk₂' : ∀ a o, a ≠ h.objs.size → h'.get? a = some o → h₂.get? a = some o := fun a o n e => hk₂ a o (by simpa using n) e
      show wpAny _ _ (pure () >>= _) _ _ _
      refine wpAny_bind (wpAny_pure (wpAny_bind (wpAny_assign_Name (wpAny_storeName_local (lookup_relabel_local hx) (hC'.at' fun o e => hk₂' _ o (by show @Ne Nat HD.objs.size _; omega) e) (fun h₃ hn₃ hs₃ => ?_) (by simp [compEnvC, relabel, hkind])))))
      have k3 : h.StaysIn h₃ := fun a o e => hs₃.extBut _ _ (nD a o e).2.2 (hk₂' _ _ (nD a o e).1 (hk a o e))
      have hD3 : h₃.get? HI.objs.size = some (lst ((List.range i).flatMap inn)) := hs₃.extBut _ _ (by show @Ne Nat HI.objs.size HD.objs.size; omega) (hk₂' _ _ (by show @Ne Nat HI.objs.size _; omega) hD')
      have hst3 : h₃.IsListIter h.objs.size ax (i + 1) ∧ h₃.IsList ax its := W.frame _ _ _ hst₂ (fun a ha o e => hs₃.extBut _ _ (by
        rcases List.mem_cons.mp ha with rfl | ha
        · show @Ne Nat h.objs.size HD.objs.size; omega
        · rw [List.mem_singleton.mp ha]; show @Ne Nat ax HD.objs.size; have : @LT.lt Nat _ ax h.objs.size := hlt; omega) e)
      refine wpAny_bind (wpAny_mono (inner i v hPv h₃ _ HD.objs.size _ _ k3 (by omega) hn₃ (by simp)) (fun xv s4 hx4 => ?_) fun _ _ e => e)
      obtain ⟨b, h4, tk4, rfl, rfl, k4, hb⟩ := hx4
      have hb4 : h4.IsList b (inn i).toArray := hb.at fun o e => k4 _ _ (k3 _ _ e)
      have hbl : @LT.lt Nat _ b h.objs.size := by obtain ⟨_, e, _⟩ := hb; exact Heap.lt_size e
      refine wpAny_bind (wpAny_standAt (wpAny_bind (wpAny_of_eq (hs1 _ _) (wpAny_bind (wpAny_holding (wpAny_pyIter_list hb4 ?_))))))
      have hC4 : h4.Ns HD.objs.size _ := hn₃.at' fun o e => k4 _ _ e
      have hD4 := k4 _ _ hD3
      have ltD : @LT.lt Nat _ HI.objs.size h4.objs.size := Heap.lt_size hD4
      have ltC : @LT.lt Nat _ HD.objs.size h4.objs.size := hC4.lt
      have ltI : @LT.lt Nat _ h.objs.size h4.objs.size := by omega
      have up : ∀ a o, h4.get? a = some o → (h4.push { cls := .type "list_iterator", data := .fields #[.ref b, .int 0 0] }).get? a = some o := fun a o e => Heap.get?_push_of_some _ e
      have W1 := Walks.list (prog := prog) (w := w) (A := A) hh h4.objs.size b (by show @Ne Nat b _; omega) (inn i).toArray
      have go : ∀ (A' : Around) (R' : Result → Shared → Prop), A'.handled = none → (∀ h5 tk5 m5, (∀ a o, a ≠ h4.objs.size → a ≠ HD.objs.size → a ≠ HI.objs.size → (h4.push { cls := .type "list_iterator", data := .fields #[.ref b, .int 0 0] }).get? a = some o → h5.get? a = some o) →
          h5.Ns HD.objs.size m5 → h5.get? HI.objs.size = some (lst ((List.range i).flatMap inn ++ (inn i).toArray.toList)) → R' (.ok .next) { s with heap := h5, toks := tk5 }) →
          codeAny (model prog w) A' (.compLoop (.ListComp (.Name y py) [⟨.Name x px, i0, [], 0⟩, ⟨.Name y py', i1, [], 0⟩] scope pos) 1 (.ref h4.objs.size) (.ref HI.objs.size) (compEnvC scope cl HD.objs.size env)) R' { s with heap := h4.push { cls := .type "list_iterator", data := .fields #[.ref b, .int 0 0] }, toks := tk4 } :=
        fun A' R' hA ret' => inner_loop (s := { s with heap := h4.push { cls := .type "list_iterator", data := .fields #[.ref b, .int 0 0] }, toks := tk4 }) (its := (inn i).toArray) hA hkind hy hdbg ⟨_, Heap.get?_push_size _ rfl, rfl, rfl⟩ (hb4.at fun o e => up _ _ e) (hC4.at' fun o e => up _ _ e) (up _ _ hD4) (by show @Ne Nat b _; omega) (by show @Ne Nat h4.objs.size _; omega) (by show @Ne Nat h4.objs.size _; omega) (by show @Ne Nat HD.objs.size HI.objs.size; omega) (by show @Ne Nat b _; omega) (by show @Ne Nat b _; omega)
          (by have f1 := flen i; have f2 := hil i; rw [List.size_toArray]; omega) fun h5 tk5 m5 k5 hC5 hD5 _ => ret' h5 tk5 m5 k5 hC5 hD5
      refine wpAny_bind (wpAny_runOwn (start_two1 (go _ _ hh ?r1) (wpAny_mono (W1.self 0 _ (fun v s' => v = .ref h4.objs.size ∧ s' = { s with heap := h4.push { cls := .type "list_iterator", data := .fields #[.ref b, .int 0 0] }, toks := tk4 }) _ ⟨⟨_, Heap.get?_push_size _ rfl, rfl, rfl⟩, hb4.at fun o e => up _ _ e⟩ ⟨rfl, rfl⟩) (fun v s' hv => ?r2) fun _ _ e => e)))
      rotate_left
      obtain ⟨rfl, rfl⟩ := hv
      refine go _ _ hh ?r3
      all_goals
        intro h5 tk5 m5 k5 hC5 hD5
        have k6 : ∀ a o, h.get? a = some o → h5.get? a = some o := fun a o e => k5 a o (by have : @LT.lt Nat _ a h.objs.size := Heap.lt_size e; show @Ne Nat a _; omega) (nD a o e).2.2 (nD a o e).2.1 (up _ _ (k4 _ _ (k3 _ _ e)))
        refine wpAny_pure ⟨rfl, its.size + 1 - (i + 1), by omega, h5, tk5, i + 1, m5, rfl, hlt2, rfl, ⟨hst3.1.at fun o e => k5 _ o (by show @Ne Nat h.objs.size _; omega) (by show @Ne Nat h.objs.size _; omega) (by show @Ne Nat h.objs.size _; omega) (up _ _ (k4 _ _ e)), hl.at fun o e => k6 _ _ e⟩, k6, hC5, ?_⟩
        rw [hD5, List.range_succ, List.flatMap_append]
        simp
    · obtain rfl : i = its.size := by omega
      refine wpAny_bind (wpAny_standAt (wpAny_bind (W.done _ _ _ hst fun h₂ tk₂ hk₂ => ?_)))
      have hk₂' : ∀ a o, a ≠ h.objs.size → h'.get? a = some o → h₂.get? a = some o := fun a o n e => hk₂ a o (by simpa using n) e
      exact wpAny_pure (fin HI.objs.size HD.objs.size h₂ _ m₂ (fun a o e => hk₂' _ _ (nD a o e).1 (hk a o e)) (fresh _ (by omega)) (fresh _ (by omega)) (by omega) (hC'.at' fun o e => hk₂' _ o (by show @Ne Nat HD.objs.size _; omega) e) (hk₂' _ _ (by show @Ne Nat HI.objs.size _; omega) hD'))
  exact codeAny_compStart_list (loop _) (W.self 0 _ _ _ ⟨⟨_, gI, rfl, rfl⟩, hl.at fun o e => k0 _ _ e⟩ (loop _))

def TwoVal (prog : Program) (w : World) (A : Around) (s : Shared) (i1 : Expr) (x : Str) (scope : Scope) (cl : List (Str × Addr)) (env : Env) (Q : Value → Shared → Prop) (xv : Value) (s₁ : Shared) : Prop :=
  ∃ ax its inn h tk, xv = .ref ax ∧ s₁ = { s with heap := h, toks := tk } ∧ TwoTurn prog w A s i1 x scope cl env ax its inn h ∧
      ∀ D h' tk', h.StaysIn h' → h.get? D = none → h'.get? D = some (lst ((List.range its.size).flatMap inn)) → Q (.ref D) { s with heap := h', toks := tk' }
def TwoUse (prog : Program) (w : World) (A : Around) (s : Shared) (i1 : Expr) (x nm : Str) (scope : Scope) (cl : List (Str × Addr)) (env : Env) (Q : Flow → Shared → Prop) (xv : Value) (s₁ : Shared) : Prop :=
  ∃ ax its inn h tk h₀ m news, xv = .ref ax ∧ s₁ = { s with heap := h, toks := tk } ∧ TwoTurn prog w A s i1 x scope cl env ax its inn h ∧ Fr h₀ env.locals h m ∧ News h₀ env.locals h news ∧
      ∀ D h' tk', Fr h₀ env.locals h' (fun z => if z = nm then some (.ref D) else m z) → News h₀ env.locals h' ((D, lst ((List.range its.size).flatMap inn)) :: news) → AllNe D news → Q .next { s with heap := h', toks := tk' }
/-- a comprehension with two clauses, its value used -/
theorem comp_two {x y : Str} {px py py' pos : Pos} {i0 i1 : Expr} {scope : Scope} {cl : List (Str × Addr)} {Q : Value → Shared → Prop}
    (hclos : closureFor scope env = pure cl) (hcell : ∀ y ∈ scope.names, y.2 ≠ .cell) (hkind : scope.kind = .function) (hnames : ∀ y ∈ scope.names, y.2 = .local → scope.names.lookup y.1 = some .local)
    (hx : scope.names.lookup x = some .local) (hy : scope.names.lookup y = some .local) (hdbg : (y == ("__debug__" : Str)) = false) (hs0 : ∀ v, foldedSetIterable i0 env v = pure v) (hs1 : ∀ env' v, foldedSetIterable i1 env' v = pure v) (hh : A.handled = none)
    (src : wpAny (model prog w) A (eval i0 env) (TwoVal prog w A s i1 x scope cl env Q) E s) :
    wpAny (model prog w) A (eval (.ListComp (.Name y py) [⟨.Name x px, i0, [], 0⟩, ⟨.Name y py', i1, [], 0⟩] scope pos) env) Q E s := by
  rw [eval_ListComp]
  refine wpAny_comprehension_free (use := none) rfl hs0 hclos hkind hnames (wpAny_mono src (fun xv s₁ h₁ => ?_) fun _ _ e => e)
  obtain ⟨ax, its, inn, h, tk, rfl, rfl, T, fin⟩ := h₁
  refine two_core (RR := compPost (model prog w) A E none Q) hcell hkind hx hy hdbg hs1 hh T (fun D C h' tk' m' st fD fC nCD hC hD => ?_)
  exact ⟨m', hC, fun h6 hs6 => fin D h6 _ (fun a o e => hs6.extBut _ _ (fun q => by rw [q, fC] at e; cases e) (st _ _ e)) fD (hs6.extBut _ _ nCD.symm hD)⟩

/-- a comprehension with two clauses, stored in a local name -/
theorem assign_two {x y nm : Str} {px py py' pos pn spos : Pos} {i0 i1 : Expr} {scope : Scope} {cl : List (Str × Addr)} {Q : Flow → Shared → Prop}
    (hsw : swapsWith (.ListComp (.Name y py) [⟨.Name x px, i0, [], 0⟩, ⟨.Name y py', i1, [], 0⟩] scope pos) (some (.Name nm pn)) spos.line env = pure true)
    (hclos : closureFor scope env = pure cl) (hcell : ∀ y ∈ scope.names, y.2 ≠ .cell) (hkind : scope.kind = .function) (hnames : ∀ y ∈ scope.names, y.2 = .local → scope.names.lookup y.1 = some .local)
    (hx : scope.names.lookup x = some .local) (hy : scope.names.lookup y = some .local) (hdbg : (y == ("__debug__" : Str)) = false) (hs0 : ∀ v, foldedSetIterable i0 env v = pure v) (hs1 : ∀ env' v, foldedSetIterable i1 env' v = pure v) (hh : A.handled = none)
    (hn : env.kindOf nm = some .local) (hp : (env.scope.kind == .class || (env.scope.kind == .module && env.locals != env.globals)) = false)
    (src : wpAny (model prog w) A (eval i0 env) (TwoUse prog w A s i1 x nm scope cl env Q) E s) :
    wpAny (model prog w) A (exec (.Assign [.Name nm pn] (.ListComp (.Name y py) [⟨.Name x px, i0, [], 0⟩, ⟨.Name y py', i1, [], 0⟩] scope pos) spos) env) Q E s := by
  rw [exec_Assign_Name_used _ _ _ _ hsw]
  refine wpAny_bind (wpAny_standAt (wpAny_bind ?_))
  show wpAny _ A (do let _ ← comprehension (.ListComp (.Name y py) [⟨.Name x px, i0, [], 0⟩, ⟨.Name y py', i1, [], 0⟩] scope pos) scope env _ (newList []) false (eval i0 env) (some (assign (.Name nm pn) env))) _ _ s
  refine wpAny_bind (wpAny_mono (wpAny_comprehension_free (use := some (assign (.Name nm pn) env)) (Q := fun _ s' => Q .next s') rfl hs0 hclos hkind hnames
    (wpAny_mono src (fun xv s₁ h₁ => ?_) fun _ _ e => e)) (fun _ s' hq => wpAny_pure (wpAny_pure hq)) fun _ _ e => e)
  obtain ⟨ax, its, inn, h, tk, h₀, m, news, rfl, rfl, T, F, N, fin⟩ := h₁
  refine two_core (RR := compPost (model prog w) A E (some (assign (.Name nm pn) env)) fun _ s' => Q .next s') hcell hkind hx hy hdbg hs1 hh T (fun D C h' tk' m' st fD fC nCD hC hD => ?_)
  have F1 := frStay F st
  obtain ⟨N1, l1⟩ := newsNew F N st fD hD
  refine wpAny_assign_Name (wpAny_storeName_local hn F1.ns (fun h6 hn6 hs6 => ?_) hp)
  have lC : @Ne Nat C env.locals := fun q => by
    obtain ⟨o', _, _, ho, _⟩ := F.ns
    rw [← q, fC] at ho; cases ho
  have c0 : h₀.get? C = none := by
    cases g : h₀.get? C with
    | none => rfl
    | some o => have := F.keep _ _ g; rw [fC] at this; cases this
  have F2 := F1.set hn6 hs6
  have N2 := N1.set hs6
  refine ⟨m', hC.sameBut hs6 lC, fun h7 hs7 => fin D h7 _ (F2.change hs7 lC c0) (fun p hp => ⟨hs7.extBut _ _ ?_ (N2 p hp).1, (N2 p hp).2⟩) l1⟩
  rcases List.mem_cons.mp hp with rfl | hp
  · exact nCD.symm
  · intro q
    have := (N p hp).1
    rw [q, fC] at this
    cases this
end
end Mine
end
section
theorem Mine.regT3_0 : True := by
  k_with_none
  trivial
open PySem PySem.W PySem.Calls PyProof.Rows
open Builtin
set_option Elab.async false
set_option maxRecDepth 100000
namespace Mine
set_option maxHeartbeats 4000000
open LCg
section
variable {prog : Program} {w : World} {A : Around} {E : Value → Shared → Prop} {s : Shared} {env : Env}

def KeepBut (e it : Addr) (h h' : Heap) : Prop := ∀ a o, @Ne Nat a e → @Ne Nat a it → h.get? a = some o → h'.get? a = some o
def EnumSrc (prog : Program) (w : World) (A : Around) (s : Shared) (elt : Expr) (x x₂ : Str) (scope : Scope) (cl : List (Str × Addr)) (env : Env) (P : Nat → Value → Prop) (Q : Value → Shared → Prop) (xv : Value) (s₁ : Shared) : Prop :=
  ∃ (e it l : Addr) (items : Array Value) (h : Heap) (tk : Nat), xv = .ref e ∧ s₁ = { s with heap := h, toks := tk } ∧ IsEnum h e it 0 .none ∧ h.IsListIter it l 0 ∧ h.IsList l items ∧ @Ne Nat e it ∧ @Ne Nat l e ∧ @Ne Nat l it ∧ items.size ≤ 1000 ∧
    (∀ i k v, items[i]? = some v → ∀ (h₂ : Heap) (tk₂ : Nat) (C : Addr) (m₂ : Str → Option Value) (E' : Value → Shared → Prop), KeepBut e it h h₂ → h.get? C = none → h₂.Ns C m₂ → m₂ x = some (.int (i : Nat) k) → m₂ x₂ = some v →
      wpAny (model prog w) A (eval elt (compEnvC scope cl C env)) (fun y s' => ∃ (h' : Heap) (tk' : Nat), s' = { s with heap := h', toks := tk' } ∧ h₂.StaysIn h' ∧ P i y) E' { s with heap := h₂, toks := tk₂ }) ∧
    ∀ D h' tk' (ys : List Value), KeepBut e it h h' → h.get? D = none → h'.get? D = some (lst ys) → ys.length = items.size → (∀ i y, ys[i]? = some y → P i y) → Q (.ref D) { s with heap := h', toks := tk' }

theorem comp_enum {elt iter : Expr} {x x₂ : Str} {px px₂ tp pos : Pos} {tn} {scope : Scope} {cl : List (Str × Addr)} {P : Nat → Value → Prop} {Q : Value → Shared → Prop}
    (hclos : closureFor scope env = pure cl) (hcell : ∀ y ∈ scope.names, y.2 ≠ .cell) (hkind : scope.kind = .function) (hnames : ∀ y ∈ scope.names, y.2 = .local → scope.names.lookup y.1 = some .local)
    (hx : scope.names.lookup x = some .local) (hx₂ : scope.names.lookup x₂ = some .local) (hxx : x ≠ x₂) (hs0 : ∀ v, foldedSetIterable iter env v = pure v) (hh : A.handled = none)
    (src : wpAny (model prog w) A (eval iter env) (EnumSrc prog w A s elt x x₂ scope cl env P Q) E s) :
    wpAny (model prog w) A (eval (.ListComp elt [⟨.Tuple [.Name x px, .Name x₂ px₂] tn tp, iter, [], 0⟩] scope pos) env) Q E s := by
  rw [eval_ListComp]
  refine wpAny_comprehension_free (use := none) rfl hs0 hclos hkind hnames (wpAny_mono src (fun xv s₁ h₁ => ?_) fun _ _ e => e)
  obtain ⟨e, it, l, items, h, tk, rfl, rfl, hE, hI, hL, n1, n2, n3, hn, turn, fin⟩ := h₁
  have W := WalksT.enumerate (prog := prog) (w := w) hh e it l n1 n2 n3 items
  have lt1 : @LT.lt Nat _ e h.objs.size := Heap.lt_size hE
  have lt2 : @LT.lt Nat _ it h.objs.size := by obtain ⟨_, e, _⟩ := hI; exact Heap.lt_size e
  have lt3 : @LT.lt Nat _ l h.objs.size := by obtain ⟨_, e, _⟩ := hL; exact Heap.lt_size e
  refine W.self 0 _ _ _ ⟨⟨_, hE⟩, hI, hL⟩ ?_
  refine wpAny_newObj_type (wpAny_newFunctionEnv hcell (by intro y hy; simp at hy) (fun h₁ hns₁ hsb₁ => ?_) hkind)
  dsimp only at hns₁ hsb₁ ⊢
  generalize hHD : h.push { cls := .type "list", dict := none, data := .seq ([] : List Value).toArray } = HD at hns₁ hsb₁ ⊢
  have zD : HD.objs.size = h.objs.size + 1 := by rw [← hHD, Heap.size_push]
  have u2 : ∀ a o, h.get? a = some o → HD.get? a = some o := fun a o e => by rw [← hHD]; exact Heap.get?_push_of_some _ e
  have u3 : ∀ a o, @Ne Nat a HD.objs.size → HD.get? a = some o → h₁.get? a = some o := fun a o n e => hsb₁.extBut a o n (Heap.get?_push_of_some _ e)
  have k0 : ∀ a o, h.get? a = some o → h₁.get? a = some o := fun a o e => by
    have t : @LT.lt Nat _ a h.objs.size := Heap.lt_size e
    exact u3 a o (by omega) (u2 _ _ e)
  have gD : h₁.get? h.objs.size = some (lst []) := u3 _ _ (by omega) (by rw [← hHD]; exact Heap.get?_push_size _ rfl)
  have nS : ∀ a o, h.get? a = some o → @LT.lt Nat _ a h.objs.size := fun a o g => Heap.lt_size g
  have fresh : ∀ a, h.objs.size ≤ a → h.get? a = none := fun a ha => by
    cases g : h.get? a with
    | none => rfl
    | some o' => have := nS _ _ g; omega
  have loop : ∀ tk0, codeAny (model prog w) A (.compLoop (.ListComp elt [⟨.Tuple [.Name x px, .Name x₂ px₂] tn tp, iter, [], 0⟩] scope pos) 0 (.ref e) (.ref h.objs.size) (compEnvC scope cl HD.objs.size env))
      (compPost (model prog w) A E none Q (.ref h.objs.size) HD.objs.size) { s with heap := h₁, toks := tk0 } := by
    intro tk0
    refine LCp.codeAny_compLoop_pair (fun k s' => ∃ h' tk i m₂ ys, s' = { s with heap := h', toks := tk } ∧ i ≤ items.size ∧ k = items.size + 1 - i ∧ ((∃ old, IsEnum h' e it i old) ∧ h'.IsListIter it l i ∧ h'.IsList l items) ∧
        KeepBut e it h h' ∧ h'.Ns HD.objs.size m₂ ∧ h'.get? h.objs.size = some (lst ys) ∧ ys.length = i ∧ ∀ i y, ys[i]? = some y → P i y) (fun k s' hI => ?_) (items.size + 1)
      ⟨h₁, tk0, 0, _, [], rfl, Nat.zero_le _, rfl, ⟨⟨_, k0 _ _ hE⟩, hI.at fun o e => k0 _ _ e, hL.at fun o e => k0 _ _ e⟩, fun _ _ _ _ e => k0 _ _ e, hns₁, gD, rfl, by simp⟩
    obtain ⟨h', tk', i, m₂, ys, rfl, hi, rfl, hst, hk, hC', hD', hyl, hys⟩ := hI
    by_cases hlt : i < items.size
    · refine W.item i _ _ _ hlt hst fun T vals h₂ tk₂ hPt hT hT2 hMid hk₂ => ?_
      obtain ⟨k, v, hv, rfl⟩ := hPt
      have hT3 : h'.objs.size ≤ T := hT
      have eT : @LT.lt Nat _ e h'.objs.size := by obtain ⟨⟨_, g⟩, _⟩ := hst; exact Heap.lt_size g
      have iT : @LT.lt Nat _ it h'.objs.size := by obtain ⟨_, ⟨_, g, _⟩, _⟩ := hst; exact Heap.lt_size g
      have cT : @LT.lt Nat _ HD.objs.size h'.objs.size := hC'.lt
      have hk₂' : ∀ a o, @Ne Nat a e → @Ne Nat a it → h'.get? a = some o → h₂.get? a = some o := fun a o n m g => hk₂ a o (by simp only [List.mem_cons, List.not_mem_nil, or_false, not_or]; exact ⟨n, m⟩) g
      refine W.go _ _ _ i T _ _ _ hMid fun h₃ hst₃ hk₃ => ?_
      have hk₃' : ∀ a o, @Ne Nat a e → @Ne Nat a it → h₂.get? a = some o → h₃.get? a = some o := fun a o n m g => hk₃ a o (by simp only [List.mem_cons, List.not_mem_nil, or_false, not_or]; exact ⟨n, m⟩) g
      have hT4 : h₃.IsTuple T #[.int i k, v] := by
        obtain ⟨o, g, r⟩ := hT2
        exact ⟨o, hk₃' _ _ (by omega) (by omega) g, r⟩
      refine assign_Tuple_tuple hh hT4 rfl rfl fun h₅ he => ?_
      have he' : ∀ b o, h₃.get? b = some o → h₅.get? b = some o := fun b o e => he b o (Nat.ne_of_lt (Heap.lt_size e)) e
      have hC5 : h₅.Ns HD.objs.size m₂ := hC'.at' fun o g => he' _ _ (hk₃' _ _ (by omega) (by omega) (hk₂' _ _ (by omega) (by omega) g))
      refine assignInOrder_cons (wpAny_assign_Name (wpAny_storeName_local (lookup_relabel_local hx) hC5 (fun h₆ hn₆ hs₆ => ?_) (by simp [compEnvC, relabel, hkind])))
      refine assignInOrder_cons (wpAny_assign_Name (wpAny_storeName_local (lookup_relabel_local hx₂) hn₆ (fun h₇ hn₇ hs₇ => ?_) (by simp [compEnvC, relabel, hkind])))
      refine assignInOrder_nil ?_
      have k7 : ∀ a o, @Ne Nat a HD.objs.size → h₅.get? a = some o → h₇.get? a = some o := fun a o n g => hs₇.extBut a o n (hs₆.extBut a o n g)
      have k57 : KeepBut e it h h₇ := fun a o q1 q2 g => by
        have q := nS _ _ g
        exact k7 a o (by omega) (he' _ _ (hk₃' _ _ q1 q2 (hk₂' _ _ q1 q2 (hk _ _ q1 q2 g))))
      have hst7 := W.frame (i + 1) h₃ h₇ hst₃ fun b hb o g => k7 b o (by
        have : b = e ∨ b = it ∨ b = l := by simpa using hb
        rcases this with rfl | rfl | rfl <;> omega) (he' _ _ g)
      have hD7 : h₇.get? h.objs.size = some (lst ys) := k7 _ _ (by omega) (he' _ _ (hk₃' _ _ (by omega) (by omega) (hk₂' _ _ (by omega) (by omega) hD')))
      refine wpAny_mono (turn i k v hv h₇ _ HD.objs.size _ _ k57 (fresh _ (by omega)) hn₇ (by simp [hxx]) (by simp)) (fun y s4 hx4 => ?_) fun _ _ e => e
      obtain ⟨h8, tk8, rfl, k8, hy⟩ := hx4
      refine append_at (hsz := ?sz) (k8 _ _ hD7) fun h9 hs9 hD9 => ?_
      case sz =>
        show ys.toArray.size ≤ sizeLine
        rw [List.size_toArray, sizeLine_eq]; omega
      have k9 : ∀ a o, @Ne Nat a h.objs.size → h8.get? a = some o → h9.get? a = some o := fun a o n g => hs9.extBut a o n g
      refine ⟨items.size + 1 - (i + 1), by omega, h9, tk8, i + 1, _, ys ++ [y], rfl, hlt, rfl, W.frame _ h₇ _ hst7 (fun b hb o g => k9 b o (by
        have : b = e ∨ b = it ∨ b = l := by simpa using hb
        rcases this with rfl | rfl | rfl <;> omega) (k8 _ _ g)), fun a o q1 q2 g => k9 a o (by have := nS _ _ g; omega) (k8 _ _ (k57 _ _ q1 q2 g)), (hn₇.at' fun o e => k8 _ _ e).sameBut hs9 (by show @Ne Nat HD.objs.size h.objs.size; omega), ?_, by rw [List.length_append, hyl]; rfl, fun j z hz => ?_⟩
      · rw [hD9]
        exact congrArg some (lst_snoc _ y)
      · rcases Nat.lt_trichotomy j ys.length with g | g | g
        · rw [List.getElem?_append_left g] at hz
          exact hys j z hz
        · rw [List.getElem?_append_right (by omega), g, Nat.sub_self] at hz
          simp at hz
          subst hz
          rw [g, hyl]; exact hy
        · rw [List.getElem?_eq_none (by rw [List.length_append, List.length_singleton]; omega)] at hz
          cases hz
    · obtain rfl : i = items.size := by omega
      refine W.done _ _ _ hst fun h₂ tk₂ hk₂ => ?_
      have cT : @LT.lt Nat _ HD.objs.size h'.objs.size := hC'.lt
      have hk₂' : ∀ a o, @Ne Nat a e → @Ne Nat a it → h'.get? a = some o → h₂.get? a = some o := fun a o n m g => hk₂ a o (by simp only [List.mem_cons, List.not_mem_nil, or_false, not_or]; exact ⟨n, m⟩) g
      refine ⟨m₂, hC'.at' fun o g => hk₂' _ o (by omega) (by omega) g, fun h6 hs6 => fin h.objs.size h6 _ ys (fun a o q1 q2 g => ?_) (fresh _ (by omega)) (hs6.extBut _ _ (by show @Ne Nat h.objs.size HD.objs.size; omega) (hk₂' _ _ (by omega) (by omega) hD')) hyl hys⟩
      have q := nS _ _ g
      exact hs6.extBut _ _ (by show @Ne Nat a HD.objs.size; omega) (hk₂' _ _ q1 q2 (hk _ _ q1 q2 g))
  exact codeAny_compStart_list (loop _) (W.self 0 _ _ _ ⟨⟨_, k0 _ _ hE⟩, hI.at fun o e => k0 _ _ e, hL.at fun o e => k0 _ _ e⟩ (loop _))
end
end Mine
end
section
theorem Mine.regT4_0 : True := by
  k_with_none
  trivial
open PySem PySem.W PySem.Calls PyProof.Rows
set_option Elab.async false
set_option maxRecDepth 100000
namespace Mine
set_option maxHeartbeats 4000000
theorem execs_wp {M : Model} {env : Env} {Γ : Ctx} : ∀ (l r : List Stmt) (post : Flow → Pos → Shared → Prop) (exc : Value → Pos → Shared → Prop) (p : Pos) (s : Shared),
    Sem.wp M Γ (execs l env) (fun f p' s' => match f with | .next => Sem.wp M Γ (execs r env) post exc p' s' | f => post f p' s') exc p s → Sem.wp M Γ (execs (l ++ r) env) post exc p s
  | [], r, post, exc, p, s, h => h
  | a :: l, r, post, exc, p, s, h => by
    rw [List.cons_append, execs_cons, Sem.wp_bind']
    rw [execs_cons, Sem.wp_bind'] at h
    refine Sem.wp_mono M Γ _ (fun f p' s' h' => ?_) (fun _ _ _ h' => h') _ _ h
    cases f with
    | next => exact execs_wp l r post exc p' s' h'
    | _ => exact h'
theorem execs_take {M : Model} {A : Around} {E : Value → Shared → Prop} {env : Env} {l r : List Stmt} {Q : Flow → Shared → Prop} {s : Shared}
    (h : wpAny M A (execs l env) (fun f s' => match f with | .next => wpAny M A (execs r env) Q E s' | f => Q f s') E s) : wpAny M A (execs (l ++ r) env) Q E s := by
  intro Γ p hΓ
  refine execs_wp l r _ _ p s (Sem.wp_mono M Γ _ (fun f p' s' h' => ?_) (fun _ _ _ h' => h') _ _ (h Γ p hΓ))
  cases f with
  | next => exact h' Γ p' hΓ
  | _ => exact h'
def frL {h₀ h : Heap} {L : Addr} {m : Str → Option Value} (_ : Fr h₀ L h m) : Addr := L
def newsOf {h₀ h : Heap} {L : Addr} {news : List (Addr × Obj)} (_ : News h₀ L h news) : List (Addr × Obj) := news
/-- what stands when a part of a body has been walked -/
def Mid (h₀ : Heap) (L : Addr) (news : List (Addr × Obj)) (x : Str) (v : Value) (s : Shared) (f : Flow) (s' : Shared) : Prop :=
  f = .next ∧ ∃ h tk m, s' = { s with heap := h, toks := tk } ∧ Fr h₀ L h m ∧ m x = some v ∧ News h₀ L h news
theorem Mid.intro {h₀ h : Heap} {L : Addr} {news all : List (Addr × Obj)} {x : Str} {v : Value} {s : Shared} {m : Str → Option Value} {tk : Nat} (F : Fr h₀ L h m) (N : News h₀ L h all) (hx : m x = some v) (sub : ∀ p ∈ news, p ∈ all) :
    Mid h₀ L news x v s .next { s with heap := h, toks := tk } := ⟨rfl, h, tk, m, rfl, F, hx, fun p hp => N p (sub p hp)⟩
end Mine
end
section
theorem Mine.regT5_0 : True := by
  k_with_none
  trivial
open PySem PySem.W PySem.Calls PyProof.Rows
open SeqAt
set_option Elab.async false
set_option maxRecDepth 100000
namespace Mine
set_option maxHeartbeats 4000000
variable {w : World} {mean : ExcName → Option Value} {mg mb : Str → Option Value}
section
variable {α : Type} [DecidableEq α] {rep : Value → α → Prop} {lt : α → α → Bool}
structure TObj (P : Heap → Addr → Array Value → Prop) (r : Addr) (o : Obj) (vs : List Value) : Prop where
  at' : ∀ h : Heap, h.get? r = some o → P h r vs.toArray
def NeK (P : Heap → Addr → Array Value → Prop) (rep : Value → α → Prop) : Prop := ∀ {prog : Program} {w : World} {A : Around} {E : Value → Shared → Prop} {s : Shared} {Q : Value → Shared → Prop} {l b : Addr} {vs us : List Value} {xs ys : List α}, P s.heap l vs.toArray → P s.heap b us.toArray → Rep2 rep vs xs → Rep2 rep us ys → A.units < cLine → Q (.bool (!decide (xs = ys))) s →
    wpAny (model prog w) A (compareOp .NotEq (.ref l) (.ref b)) Q E s
theorem nek_list (O : Ordr rep lt) : NeK Heap.IsList rep := fun h1 h2 p q hu h => ne_lists O h1 h2 p q hu h
theorem nek_tuple (O : Ordr rep lt) : NeK Heap.IsTuple rep := fun {prog w A E s Q l b vs us xs ys} h1 h2 p q hu h => by
  show wpAny _ _ (richCompare .NotEq _ _) _ _ _
  have := RcNeAt.tuples (A := A) (e := fun j => xs[j]? == ys[j]?) h1 h2 hu (fun j a b => elt_eq O p q j a b _ _)
  simp only [List.size_toArray, p.len, q.len] at this
  refine this prog w E Q ?_
  have e : ((List.range (min xs.length ys.length)).all (fun j => xs[j]? == ys[j]?) && xs.length == ys.length) = decide (xs = ys) := by
    by_cases hs : xs.length = ys.length
    · rw [← hs, Nat.min_self, all_eq hs]; simp
    · rw [decide_eq_false (fun e => hs (by rw [e]))]
      simp [hs]
  rw [e]
  exact h
/-- the two of a pair, where they stand and what they tell -/
structure TurnF (P : Heap → Addr → Array Value → Prop) (ty : String) (rep : Value → α → Prop) (lt : α → α → Bool) (a b : Addr) (oa ob : Obj) (va vb : List Value) (x y : List α) : Prop where
  KX : KindX P ty
  O : Ordr rep lt
  ne : NeK P rep
  hA : TObj P a oa va
  hB : TObj P b ob vb
  ra : Rep2 rep va x
  rb : Rep2 rep vb y
  la : x.length ≤ 64
  lb : y.length ≤ 64
  na : 1 ≤ x.length
  nb : 1 ≤ y.length
variable {P : Heap → Addr → Array Value → Prop} {ty : String} {a b : Addr} {oa ob : Obj} {va vb : List Value} {x y : List α}
theorem TurnF.swap (t : TurnF P ty rep lt a b oa ob va vb x y) : TurnF P ty rep lt b a ob oa vb va y x := ⟨t.KX, t.O, t.ne, t.hB, t.hA, t.rb, t.ra, t.lb, t.la, t.nb, t.na⟩
variable {A : Around} {E Q : Value → Shared → Prop} {s : Shared} {h₀ : Heap} {L : Addr} {m : Str → Option Value} {news : List (Addr × Obj)}
theorem TurnF.add {prog : Program} (t : TurnF P ty rep lt a b oa ob va vb x y) (F : Fr h₀ L s.heap m) (N : News h₀ L s.heap news) (ma : (a, oa) ∈ news) (mb : (b, ob) ∈ news)
    (h : ∀ r o h', Fr h₀ L h' m → News h₀ L h' ((r, o) :: news) → TObj P r o (va ++ vb) → AllNe r news → Q (.ref r) { s with heap := h' }) : wpAny (model prog w) A (binaryOp .Add (.ref a) (.ref b)) Q E s := by
  have l1 := t.ra.len
  have l2 := t.rb.len
  have n1 := t.na
  have n2 := t.nb
  have n3 := t.la
  have n4 := t.lb
  exact t.KX.add F N (t.hA.at' _ (N _ ma).1) (t.hB.at' _ (N _ mb).1) (by intro e; rw [e] at l1; simp at l1; omega) (by intro e; rw [e] at l2; simp at l2; omega) (by omega) fun r o h' F' N' hP ne => h r o h' F' N' ⟨hP.out⟩ ne
theorem TurnF.common (t : TurnF P ty rep lt a b oa ob va vb x y) {mm xy yx : Addr} {o1 o2 : Obj} (F : Fr h₀ L s.heap m) (N : News h₀ L s.heap news) (W : Wd w mean mg mb s.heap) (t1 : TObj P xy o1 (va ++ vb)) (t2 : TObj P yx o2 (vb ++ va)) (m1 : (xy, o1) ∈ news) (m2 : (yx, o2) ∈ news)
    (mm' : s.heap.IsList mm [Value.ref xy, Value.ref yx].toArray)
    (hh : A.handled = none) (hd : A.depth ≤ 370) (hu : A.units ≤ 600)
    (h : ∀ r vs h' tk, Fr h₀ L h' m → News h₀ L h' news → P h' r vs.toArray → Rep2 rep vs (lcp (x ++ y) (y ++ x)) → Q (.ref r) { s with heap := h', toks := tk }) : wpAny (model P0 w) A (call (.ref 101) [.ref mm]) Q E s := by
  have n3 := t.la
  have n4 := t.lb
  refine wpAny_call (codeAny_lv (c_common t.KX.K t.O W mm' (.cons (t1.at' _ (N _ m1).1) (t.ra.append t.rb) (by rw [List.length_append]; omega) (.cons (t2.at' _ (N _ m2).1) (t.rb.append t.ra) (by rw [List.length_append]; omega) .nil)) (Nat.le_of_ble_eq_true rfl) ?_) hh hd hu)
  intro r vs p h' tk' st hr hv hp ha
  rw [isLcp_2 hp] at hv
  exact h r vs h' tk' (frStay F st) (newsStay N st) hr hv
theorem TurnF.due (t : TurnF P ty rep lt a b oa ob va vb x y) {r : Addr} {vs : List Value} (F : Fr h₀ L s.heap m) (N : News h₀ L s.heap news) (W : Wd w mean mg mb s.heap) (ma : (a, oa) ∈ news) (mb : (b, ob) ∈ news) (hr : P s.heap r vs.toArray)
    (hh : A.handled = none) (hd : A.depth ≤ 370) (hu : A.units ≤ 600)
    (h : ∀ r' vs' h' tk, Fr h₀ L h' m → News h₀ L h' news → P h' r vs.toArray → P h' r' vs'.toArray → Rep2 rep vs' (lcp (x ++ y) (y ++ x)) → Q (.ref r') { s with heap := h', toks := tk }) : wpAny (model P0 w) A (call (.ref 193) [.ref a, .ref b]) Q E s := by
  refine wpAny_call (codeAny_lv (c_due t.KX t.O W (t.hA.at' _ (N _ ma).1) (t.hB.at' _ (N _ mb).1) t.ra t.rb t.la t.lb t.na t.nb ?_) hh hd hu)
  intro r' vs' p h' tk' st hr' hv hp
  rw [due_lcp (by intro e; have := t.na; rw [e] at this; simp at this) (by intro e; have := t.nb; rw [e] at this; simp at this) hp] at hv
  exact h r' vs' h' tk' (frStay F st) (newsStay N st) (t.KX.K.keeps hr (st _)) hr' hv
theorem TurnF.same {prog : Program} (t : TurnF P ty rep lt a b oa ob va vb x y) {r r' : Addr} {vs vs' : List Value} {z : List α} (hr : P s.heap r vs.toArray) (hr' : P s.heap r' vs'.toArray) (rr : Rep2 rep vs z) (rr' : Rep2 rep vs' z) (hu : A.units < cLine) (h : Q (.bool false) s) :
    wpAny (model prog w) A (compareOp .NotEq (.ref r) (.ref r')) Q E s := by
  refine t.ne hr hr' rr rr' hu ?_
  rw [decide_eq_true rfl]
  exact h
end
/-- a pair that the loop over pairs takes apart -/
def PairOk (news : List (Addr × Obj)) (a : Addr) : Prop := ∃ (n : Nat) (a1 a2 : Addr) (o1 o2 : Obj) (α : Type) (_ : DecidableEq α) (P : Heap → Addr → Array Value → Prop) (ty : String) (rep : Value → α → Prop) (lt : α → α → Bool) (va vb : List Value) (x y : List α),
  (a, PySem.W.listOf #[Value.ref a1, Value.ref a2] n) ∈ news ∧ (a1, o1) ∈ news ∧ (a2, o2) ∈ news ∧ TurnF P ty rep lt a1 a2 o1 o2 va vb x y
theorem PairOk.mono {news news' : List (Addr × Obj)} {a : Addr} (h : PairOk news a) (k : ∀ p ∈ news, p ∈ news') : PairOk news' a := by
  obtain ⟨n, a1, a2, o1, o2, α, i, P, ty, rep, lt, va, vb, x, y, h1, h2, h3, t⟩ := h
  exact ⟨n, a1, a2, o1, o2, α, i, P, ty, rep, lt, va, vb, x, y, k _ h1, k _ h2, k _ h3, t⟩
theorem PairOk.lists {news : List (Addr × Obj)} {a a1 a2 : Addr} {n k1 k2 : Nat} {va vb : List Value} {x y : List Str} (h1 : (a, PySem.W.listOf #[Value.ref a1, Value.ref a2] n) ∈ news) (h2 : (a1, PySem.W.listOf va.toArray k1) ∈ news) (h3 : (a2, PySem.W.listOf vb.toArray k2) ∈ news)
    (sx : StrsAre va x) (sy : StrsAre vb y) (x0 : 1 ≤ x.length) (y0 : 1 ≤ y.length) (lx : x.length ≤ 64) (ly : y.length ≤ 64) : PairOk news a :=
  ⟨n, a1, a2, _, _, Str, inferInstance, Heap.IsList, "list", repS, ltS, va, vb, x, y, h1, h2, h3, ⟨kindX_list, ordS, nek_list ordS, ⟨fun h e => ⟨_, e, rfl, _, rfl⟩⟩, ⟨fun h e => ⟨_, e, rfl, _, rfl⟩⟩, repS_strs.mp sx, repS_strs.mp sy, lx, ly, x0, y0⟩⟩
theorem PairOk.tuples {news : List (Addr × Obj)} {a a1 a2 : Addr} {n : Nat} {o1 o2 : Obj} {va vb : List Value} {x y : List Int} (h1 : (a, PySem.W.listOf #[Value.ref a1, Value.ref a2] n) ∈ news) (h2 : (a1, o1) ∈ news) (h3 : (a2, o2) ∈ news)
    (c1 : o1.cls = .type "tuple") (d1 : ∃ n, o1.data = .seq va.toArray n) (c2 : o2.cls = .type "tuple") (d2 : ∃ n, o2.data = .seq vb.toArray n)
    (sx : IntsAre va x) (sy : IntsAre vb y) (x0 : 1 ≤ x.length) (y0 : 1 ≤ y.length) (lx : x.length ≤ 64) (ly : y.length ≤ 64) : PairOk news a :=
  ⟨n, a1, a2, o1, o2, Int, inferInstance, Heap.IsTuple, "tuple", repI, ltI, va, vb, x, y, h1, h2, h3, ⟨kindX_tuple, ordI, nek_tuple ordI, ⟨fun h e => ⟨_, e, c1, d1⟩⟩, ⟨fun h e => ⟨_, e, c2, d2⟩⟩, repI_ints.mp sx, repI_ints.mp sy, lx, ly, x0, y0⟩⟩
def Mid2 (h₀ : Heap) (L : Addr) (needed : List (Addr × Obj)) (Dt : Addr) (s : Shared) (f : Flow) (s' : Shared) : Prop :=
  f = .next ∧ ∃ (h : Heap) (tk : Nat) (m : Str → Option Value) (pl : Addr) (n : Nat) (prs : List Addr) (more : List (Addr × Obj)), s' = { s with heap := h, toks := tk } ∧ Fr h₀ L h m ∧ m (Str.ofString "pairs") = some (.ref pl) ∧ m (Str.ofString "turned") = some (.ref Dt) ∧
    News h₀ L h ((pl, PySem.W.listOf (List.toArray (prs.map Value.ref)) n) :: (more ++ needed)) ∧ ∀ a ∈ prs, PairOk (more ++ needed) a
theorem offW_lt {I : Addr} {oI : Obj} : ∀ {news : List (Addr × Obj)}, (∀ p ∈ news, p.1 < I) → OffW [(I, oI)] news
  | [], _ => trivial
  | p :: r, h => ⟨⟨.inl (Nat.ne_of_lt (h p (.head _))), trivial⟩, offW_lt fun q hq => h q (.tail _ hq)⟩
theorem subL_of : ∀ {l all : List (Addr × Obj)}, (∀ p ∈ l, p ∈ all) → SubL l all
  | [], _, _ => trivial
  | p :: r, all, h => ⟨h p (.head _), subL_of fun q hq => h q (.tail _ hq)⟩
theorem items_ind {prog : Program} {w : World} {A : Around} {E : Value → Shared → Prop} {s : Shared} {h₀ : Heap} {env : Env} {target : Expr} {body : List Stmt} {Q : Flow → Shared → Prop} {I pl : Addr} {ol : Obj} {news : List (Addr × Obj)} {J : (Str → Option Value) → Prop}
    (hk : (pl, ol) ∈ news)
    (zero : ∀ m h tk, J m → Fr h₀ env.locals h m → News h₀ env.locals h news → Q .next { s with heap := h, toks := tk }) :
    ∀ (prs : List Addr) {m : Str → Option Value}, J m →
    (∀ a ∈ prs, ∀ m h tk oI, J m → oI.cls = .type "list_iterator" → Fr h₀ env.locals h m → News h₀ env.locals h ((I, oI) :: news) →
      wpAny (model prog w) A (assign target env (.ref a)) (fun _ s₂ => wpAny (model prog w) A (execs body env) (UnrPostW h₀ env.locals { s with heap := h, toks := tk } [(I, oI)] (fun m' n' => n' = news ∧ J m') Q) E s₂) E { s with heap := h, toks := tk }) →
    ItemsRest prog w A E h₀ env target body Q s [(I, "list_iterator")] [(pl, ol)] ((prs.map Value.ref).map Itm.val) m news
  | [], m, hJ, _ => ItemsRest.zero fun h tk F N => zero m h tk hJ F N
  | a :: r, m, hJ, step => ItemsRest.val fun h tk F oI hc N => by
    refine wpAny_mono (step a (.head _) m h tk oI hJ hc F N) (fun _ s₂ h₂ => wpAny_mono h₂ (fun f s₃ h₃ => ?_) fun _ _ e => e) fun _ _ e => e
    have conv : ∀ {s₃}, UnrEndW h₀ env.locals { s with heap := h, toks := tk } [(I, oI)] (fun m' n' => n' = news ∧ J m') s₃ → UnrEndW h₀ env.locals { s with heap := h, toks := tk } [(I, oI)] (fun m' n' => SubL [(pl, ol)] n' ∧ ItemsRest prog w A E h₀ env target body Q s [(I, "list_iterator")] [(pl, ol)] ((r.map Value.ref).map Itm.val) m' n') s₃ := by
      rintro s₃ ⟨h', tk', m', n', rfl, F', N', ap, rfl, hJ'⟩
      exact ⟨h', tk', m', n', rfl, F', N', ap, ⟨hk, trivial⟩, items_ind hk zero r hJ' fun b hb => step b (.tail _ hb)⟩
    cases f with
    | ret v => exact h₃
    | brk => exact h₃
    | _ => exact conv h₃
/-- after the bits are told -/
def Mid3 (h₀ : Heap) (L : Addr) (needed : List (Addr × Obj)) (Dt : Addr) (s : Shared) (f : Flow) (s' : Shared) : Prop :=
  ∃ (pb : Addr) (ws : List Value) (a0 b0 : Int) (ms : List Int) (n : Nat), (a0 = 0 ∨ a0 = 1) ∧ (b0 = 0 ∨ b0 = 1) ∧ (∀ b ∈ ms, b = 0 ∨ b = 1) ∧ ms.length ≤ 2 ∧ IntsAre ws ([a0, 1 - a0] ++ ms ++ [b0, 1 - b0]) ∧
    f = .next ∧ ∃ (h : Heap) (tk : Nat) (m : Str → Option Value), s' = { s with heap := h, toks := tk } ∧ Fr h₀ L h m ∧ m (Str.ofString "bits") = some (.ref pb) ∧ m (Str.ofString "turned") = some (.ref Dt) ∧ News h₀ L h ((pb, PySem.W.listOf (List.toArray ws) n) :: needed)
/-- after a name is told a number -/
def Mid4 (P : Int → Prop) (h₀ : Heap) (L : Addr) (needed : List (Addr × Obj)) (x : Str) (xs : List (Str × Value)) (s : Shared) (f : Flow) (s' : Shared) : Prop :=
  ∃ (n : Int) (t : Tok), P n ∧ f = .next ∧ ∃ (h : Heap) (tk : Nat) (m : Str → Option Value), s' = { s with heap := h, toks := tk } ∧ Fr h₀ L h m ∧ m x = some (.int n t) ∧ (∀ p ∈ xs, m p.1 = some p.2) ∧ News h₀ L h needed
theorem m_two {m : Str → Option Value} {a b : Str} {v u : Value} (h1 : m a = some v) (h2 : m b = some u) : m = fun y => if y = a then some v else if y = b then some u else m y := by
  funext z
  by_cases e : z = a
  · rw [if_pos e, e, h1]
  · rw [if_neg e]
    by_cases e2 : z = b
    · rw [if_pos e2, e2, h2]
    · rw [if_neg e2]
theorem m_one {m : Str → Option Value} {a : Str} {v : Value} (h1 : m a = some v) : m = fun y => if y = a then some v else m y := by
  funext z
  by_cases e : z = a
  · rw [if_pos e, e, h1]
  · rw [if_neg e]
theorem m_three {m : Str → Option Value} {a b c : Str} {v u t : Value} (h1 : m a = some v) (h2 : m b = some u) (h3 : m c = some t) : m = fun y => if y = a then some v else if y = b then some u else if y = c then some t else m y := by
  conv => lhs; rw [m_one h1]
  funext z
  by_cases e : z = a
  · simp only [if_pos e]
  · simp only [if_neg e]
    exact congrFun (m_two h2 h3) z
section
variable {α : Type} [DecidableEq α] {rep : Value → α → Prop} {lt : α → α → Bool}
theorem eq_lists {prog : Program} {w : World} {A : Around} {E : Value → Shared → Prop} {s : Shared} {Q : Value → Shared → Prop} (O : Ordr rep lt) {l b : Addr} {vs us : List Value} {xs ys : List α} (hl : s.heap.IsList l vs.toArray) (hb : s.heap.IsList b us.toArray) (p : Rep2 rep vs xs) (q : Rep2 rep us ys) (hu : A.units < cLine) (h : Q (.bool (decide (xs = ys))) s) :
    wpAny (model prog w) A (compareOp .Eq (.ref l) (.ref b)) Q E s := by
  show wpAny _ _ (richCompare .Eq _ _) _ _ _
  by_cases hs : xs.length = ys.length
  · have := RcAt.lists (e := fun j => xs[j]? == ys[j]?) hl hb (by simp [p.len, q.len, hs]) hu (fun j h1 h2 => elt_eq O p q j h1 h2 _ _)
    simp only [List.size_toArray, p.len] at this
    rw [all_eq hs] at this
    exact this prog w E Q h
  · have := RcAt.lists_lengths (A := A) hl hb (by simp [p.len, q.len, hs]) hu
    rw [show decide (xs = ys) = false from decide_eq_false (fun e => hs (by rw [e]))] at h
    exact this prog w E Q h
end
end Mine
end
section
theorem Mine.regT6_0 : True := by
  k_with_none
  trivial
open PySem PySem.W PySem.Calls PyProof.Rows
set_option Elab.async false
set_option maxRecDepth 100000
namespace Mine
set_option maxHeartbeats 4000000
section
variable {prog : Program} {w : World} {A : Around} {s : Shared} {env : Env}
/-- the word that a figure tells, in a list of values -/
def pickW (v0 v1 : List Value) (B : List Int) (i : Nat) : List Value := match B[i]? with | some b => if b = 0 then v0 else v1 | none => []
theorem pickW_le {v0 v1 : List Value} {B : List Int} (h0 : v0.length ≤ 1000) (h1 : v1.length ≤ 1000) (i : Nat) : (pickW v0 v1 B i).length ≤ 1000 := by
  unfold pickW
  split
  · split <;> assumption
  · simp
theorem turn_words {scope : Scope} {cl : List (Str × Addr)} {pb wl r0 r1 c : Addr} {ws v0 v1 : List Value} {B : List Int} {h : Heap} {oc : Obj} {p1 p2 p3 : Pos}
    (hk : ∀ C, (compEnvC scope cl C env).scope.kind = .function) (hw : ∀ C, (compEnvC scope cl C env).kindOf (Str.ofString "words") = some .cell) (hb : ∀ C, (compEnvC scope cl C env).kindOf (Str.ofString "bit") = some .local)
    (hcl : cl.lookup (Str.ofString "words") = some c) (hc : h.get? c = some oc) (hd : oc.data = .cell (some (.ref wl))) (hwl : h.IsList wl #[Value.ref r0, Value.ref r1]) (h0 : h.IsList r0 v0.toArray) (h1 : h.IsList r1 v1.toArray)
    (hp : h.IsList pb ws.toArray) (hB : IntsAre ws B) (hB01 : ∀ b ∈ B, b = 0 ∨ b = 1) (l0 : v0.length ≤ 1000) (l1 : v1.length ≤ 1000) (lB : B.length ≤ 1000) :
    TwoTurn prog w A s (.Subscript (.Name (Str.ofString "words") p1) (.Name (Str.ofString "bit") p2) p3) (Str.ofString "bit") scope cl env pb ws.toArray (pickW v0 v1 B) h := by
  refine ⟨hp, by rw [List.size_toArray, ints_len hB]; exact lB, pickW_le l0 l1, fun i v hv h₂ tk₂ C m₂ E' st hC hNs hm => ?_⟩
  obtain ⟨b, t, hb', rfl⟩ := ints_get hB (by simpa using hv)
  have hwl2 : h₂.IsList wl #[Value.ref r0, Value.ref r1] := hwl.at (st _)
  refine wpAny_Subscript_Name list_getitem_lookup (wpAny_Name (wpAny_loadName_cell (hk C) (hw C) hcl ⟨oc, st _ _ hc, hd⟩ (wpAny_Name (wpAny_loadName_local (hk C) (hb C) hNs hm ⟨hwl2.typeIs, ?_⟩) (by decide +kernel))) (by decide +kernel)) (fun _ _ => by rfl)
  have e : pickW v0 v1 B i = if b = 0 then v0 else v1 := by unfold pickW; rw [hb']
  rw [e]
  rcases hB01 b (List.mem_of_getElem? hb') with rfl | rfl
  · exact wpAny_getItem_list hwl2 (by decide) (by decide) rfl ⟨r0, _, _, rfl, rfl, fun _ _ e => e, h0⟩
  · exact wpAny_getItem_list hwl2 (by decide) (by decide) rfl ⟨r1, _, _, rfl, rfl, fun _ _ e => e, h1⟩
theorem flat_words {v0 v1 : List Value} {x y : List Str} (sx : StrsAre v0 x) (sy : StrsAre v1 y) : ∀ (B : List Int), StrsAre ((List.range B.length).flatMap (pickW v0 v1 B)) (star x y B)
  | [] => .nil
  | b :: B => by
    have e : (List.range (b :: B).length).flatMap (pickW v0 v1 (b :: B)) = (if b = 0 then v0 else v1) ++ (List.range B.length).flatMap (pickW v0 v1 B) := by
      rw [List.length_cons, List.range_succ_eq_map, List.flatMap_cons, List.flatMap_map]
      rfl
    rw [e, star]
    refine sa_append ?_ (flat_words sx sy B)
    by_cases h : b = 0
    · rw [if_pos h, if_pos h]; exact sx
    · rw [if_neg h, if_neg h]; exact sy
end
def pref (l : List Str) : List Str := l.map fun y => Str.ofString "/" ++ y
theorem join_pref (l : List Str) : Txt.join (Str.ofString "") (pref l) = pathT l := by
  have e : ∀ l : List Str, (Str.join (Str.ofString "") (pref l)).cps.toList = pathL l := by
    intro l
    induction l with
    | nil => rfl
    | cons y r ih =>
      cases r with
      | nil =>
        show (Str.ofString "/" ++ y).cps.toList = _
        rw [cps_app, sl_eq]; simp [pathL]
      | cons z r =>
        show ((Str.ofString "/" ++ y) ++ Str.ofString "" ++ Str.join (Str.ofString "") (pref (z :: r))).cps.toList = _
        rw [cps_app, cps_app, cps_app, ih, sl_eq, em_eq]
        simp [pathL]
  unfold Txt.join
  rw [StrLaws.glued_eq_join]
  apply str_ext
  rw [e]
  simp [pathT]
theorem joinOk_pref {l : List Str} (h : ∀ y ∈ l, y.length ≤ 2) (hl : l.length ≤ 100) : JoinOk (Str.ofString "") (pref l) = true := by
  have hp : ∀ y ∈ pref l, y.length ≤ 3 := by
    intro y hy
    obtain ⟨z, hz, rfl⟩ := List.mem_map.mp hy
    rw [Str.length_append, sl_eq]
    have := h z hz
    show 1 + z.length ≤ 3
    omega
  unfold JoinOk
  rw [StrLaws.joinFits hp (by rw [em_eq]; simp only [pref, List.length_map, Str.length, List.size_toArray, List.length_nil]; omega)]
  rfl
theorem pref_snoc {ys : List Value} {l : List Str} {i : Nat} {y : Str} {t : Tok} (h : StrsAre ys ((pref l).take i)) (hy : l[i]? = some y) : StrsAre (ys ++ [.str (Str.ofString "/" ++ y) t]) ((pref l).take (i + 1)) :=
  sa_snoc_take h (by unfold pref; rw [List.getElem?_map, hy]; rfl)
theorem star_len_le {x y : List Str} {n : Nat} (hx : x.length ≤ n) (hy : y.length ≤ n) : ∀ bs, (star x y bs).length ≤ n * bs.length
  | [] => by simp [star]
  | b :: bs => by
    rw [star, List.length_append, List.length_cons, Nat.mul_succ]
    have := star_len_le hx hy bs
    have : (if b = 0 then x else y).length ≤ n := by split <;> assumption
    omega
theorem wordOf_nms (n : Int) : Nms (wordOf n) := by
  intro y hy
  obtain ⟨t, _, rfl⟩ := List.mem_map.mp hy
  unfold nameOf
  split
  · exact .inl rfl
  · exact .inr rfl
theorem star_two {x y : List Str} {b : Int} (h : b = 0 ∨ b = 1) : (star x y [b, 1 - b]).length = x.length + y.length := by
  rcases h with rfl | rfl
  · simp [star]
  · simp [star]; omega
theorem cut_bits {a0 b0 : Int} {ms B : List Int} (e : [a0, 1 - a0] ++ ms ++ [b0, 1 - b0] = B) : B.drop (2 + ms.length) = [b0, 1 - b0] ∧ B.take 2 = [a0, 1 - a0] := by
  subst e
  constructor
  · rw [List.drop_append_of_le_length (by simp; omega)]
    rw [List.drop_of_length_le (by simp; omega)]
    rfl
  · simp
theorem hide_list {h : Heap} {a d : Addr} {its : Array Value} (x : h.IsList a its) (n : @Ne Nat a d) : (hideAll h [d]).IsList a its := x.at fun o e => hideAll_get _ e (by simpa using n)
/-- after the path is laid into the environ -/
def Mid5 (w : World) (x y : List Str) (B : List Int) (h₀ : Heap) (L : Addr) (needed : List (Addr × Obj)) (xs : List (Str × Value)) (s : Shared) (f : Flow) (s' : Shared) : Prop :=
  ∃ (tlA Dn dA : Addr) (vt vn : List Value) (tt : List Str) (o : Obj) (t1 t2 : Tok), StrsAre vt tt ∧ (tt = [] ∨ tt = [Str.ofString ""]) ∧ StrsAre vn (star x y B) ∧ o.IsDictOf (strKind P0 w) [(Str.ofString "PATH_INFO", .str (pathT (star x y B ++ tt)) t1)] ∧ (dA == sysModules) = false ∧
    f = .next ∧ ∃ (h : Heap) (tk : Nat) (m : Str → Option Value), s' = { s with heap := h, toks := tk } ∧ Fr h₀ L h m ∧
      (∀ p ∈ (Str.ofString "environ", Value.ref dA) :: (Str.ofString "text", Value.str (pathT (star x y B ++ tt)) t2) :: (Str.ofString "names", Value.ref Dn) :: (Str.ofString "tail", Value.ref tlA) :: xs, m p.1 = some p.2) ∧
      News h₀ L h ((dA, o) :: (Dn, LCg.lst vn) :: (tlA, PySem.W.listOf (List.toArray vt) 0) :: needed) ∧ AllNe dA ((Dn, LCg.lst vn) :: (tlA, PySem.W.listOf (List.toArray vt) 0) :: needed)
theorem m_seven {m : Str → Option Value} {a b c d e f g : Str} {va vb vc vd ve vf vg : Value} (ha : m a = some va) (hb : m b = some vb) (hc : m c = some vc) (hd : m d = some vd) (he : m e = some ve) (hf : m f = some vf) (hg : m g = some vg) :
    m = fun y => if y = a then some va else if y = b then some vb else if y = c then some vc else if y = d then some vd else if y = e then some ve else if y = f then some vf else if y = g then some vg else m y := by
  funext z
  by_cases k1 : z = a
  · rw [if_pos k1, k1, ha]
  rw [if_neg k1]
  by_cases k2 : z = b
  · rw [if_pos k2, k2, hb]
  rw [if_neg k2]
  by_cases k3 : z = c
  · rw [if_pos k3, k3, hc]
  rw [if_neg k3]
  by_cases k4 : z = d
  · rw [if_pos k4, k4, hd]
  rw [if_neg k4]
  by_cases k5 : z = e
  · rw [if_pos k5, k5, he]
  rw [if_neg k5]
  by_cases k6 : z = f
  · rw [if_pos k6, k6, hf]
  rw [if_neg k6]
  by_cases k7 : z = g
  · rw [if_pos k7, k7, hg]
  rw [if_neg k7]
theorem star_rev (x y : List Str) : ∀ bs : List Int, (star x.reverse y.reverse bs).reverse = star x y bs.reverse
  | [] => rfl
  | b :: bs => by
    rw [star, List.reverse_append, star_rev x y bs, List.reverse_cons, star_append]
    congr 1
    by_cases h : b = 0 <;> simp [h, star]
theorem pair_neI {h : Heap} {r1 r2 : Addr} {a : Value} {k1 k2 : Nat} {vs : List Value} {xs : List Int} (s : IntsAre vs xs) (h1 : h.get? r1 = some (PySem.W.listOf #[a, .ref r2] k1)) (h2 : h.get? r2 = some (PySem.W.listOf vs.toArray k2)) : @Ne Nat r2 r1 := by
  intro e
  rw [e] at h2
  rw [h1] at h2
  injection h2 with h2
  injection h2 with _ _ h2 _
  injection h2 with h2 _
  have : [a, .ref r2] = vs := by simpa using congrArg Array.toList h2
  subst this
  obtain _ | ⟨_, _, s⟩ := s
  cases s
theorem ints_reverse {vs : List Value} {ns : List Int} (h : IntsAre vs ns) : IntsAre vs.reverse ns.reverse := by
  induction h with
  | nil => exact .nil
  | cons x t h ih =>
    rw [List.reverse_cons, List.reverse_cons]
    exact ints_snoc ih x t
theorem back_fact {x y : List Str} {B : List Int} {cN : Nat} {a0 : Int} (hcB : cN + 2 ≤ B.length) (ha : a0 = 0 ∨ a0 = 1) (cb : B.take 2 = [a0, 1 - a0]) (h0 : x ++ y = y ++ x → cN = 0) (h1 : x ++ y ≠ y ++ x → cN + 2 = B.length) :
    (B.drop (B.length - cN)).reverse ≠ [] → x.reverse ++ y.reverse ≠ y.reverse ++ x.reverse ∧ x.reverse.length + y.reverse.length ≤ (star x.reverse y.reverse (B.take (B.length - cN)).reverse).length := by
  intro hb
  have e : x ++ y ≠ y ++ x := fun e => hb (by rw [h0 e]; simp)
  refine ⟨fun e2 => e ?_, ?_⟩
  · have := congrArg List.reverse e2
    simpa using this.symm
  · rw [show B.length - cN = 2 by have := h1 e; omega, cb, List.length_reverse, List.length_reverse, ← List.length_reverse (as := star _ _ _), star_rev, List.reverse_reverse, star_two ha]
    exact Nat.le_refl _
end Mine
end
section
open PySem PySem.W PySem.Calls PyProof.Rows
set_option Elab.async false
set_option maxRecDepth 100000
namespace Mine
set_option maxHeartbeats 4000000
set_option pp.deepTerms false
set_option pp.maxSteps 3000
theorem regT7_1 : True := by
  k_with_none
  k_with "my enter" => (((case kX => k_asm); (case kL => exact Top.nolimit (by assumption)); (case kS => first | exact fun _ _ e => e | exact hide_stays _ _); (case kZ => first | exact Nat.le_refl _ | exact Nat.le_of_eq (hideAll_size _ _)); (case kN => first | assumption | exact List.forall_mem_nil _); (case k6 => k_is); (case k7 => k_is); (case k8 => decide); (case k9 => exact BindsTo.of_eq rfl); (case kB => exact locs rfl); (case c2 => exact rfl); (case c3 => exact rfl); (case c4 => exact rfl); (case c5 => decide); k_whole; intro zL' zh' zF' zN' zl1; (try dsimp only [List.reverse_cons, List.reverse_nil, List.nil_append, List.cons_append])))
  trivial

theorem fillT7 : PySem.Challenge.rw_wb0022_01 = PySem.Challenge.rw_wb0022_01 ∧ K0 = K0 := by
  k_fill
  exact ⟨rfl, rfl⟩
variable {w : World} {mean : ExcName → Option Value} {mg mb : Str → Option Value} {s : Shared} {R : Result → Shared → Prop} {hb : Heap}

theorem c_common0 {m : Addr} (W : Wd w mean mg mb s.heap) (hm : s.heap.IsList m #[])
    (ret : ∀ h' tk' t, s.heap.StaysIn h' → R (.ok (.ret (.str (Str.ofString "") t))) { s with heap := h', toks := tk' }) :
    codeAny (model P0 w) (lv 370 600) (.call (.ref 101) ⟨[.ref m], []⟩) R s := by
  have KX := W.X
  have KT := W.T
  refine' enter (news := []) (binds := [(Str.ofString "m", .ref m)]) ?kX ?kL ?kS ?kZ ?kN ?k6 ?k7 ?k8 ?k9 ?kB ?_ ?c2 ?c3 ?c4 ?c5
  k_dflt walk_at "my enter"
  k_fold
  k_steps
  exact ret _ _ _ (Fr.keep (by assumption))
theorem eq_tup2 {prog : Program} {A : Around} {E Q : Value → Shared → Prop} {a b : Addr} {x y : Str} {t1 t3 u1 u3 : Tok} (ha : s.heap.IsTuple a #[.str x t1, .str y t3]) (hb : s.heap.IsTuple b #[.str x u1, .str y u3]) (hu : A.units < cLine)
    (h : Q (.bool true) s) : wpAny (model prog w) A (compareOp .Eq (.ref a) (.ref b)) Q E s := by
  show wpAny _ _ (richCompare .Eq _ _) _ _ _
  have := SeqAt.RcAt.tuples (A := A) (e := fun j => match j with | 0 => x == x | _ => y == y) ha hb hu (fun j h1 h2 => by
    match j, h1, h2 with
    | 0, _, _ => exact eqS _ _ _ _ _ _
    | 1, _, _ => exact eqS _ _ _ _ _ _)
  refine this prog w E Q ?_
  have e : ((List.range (min (#[Value.str x t1, .str y t3] : Array Value).size (#[Value.str x u1, .str y u3] : Array Value).size)).all (fun j => match j with | 0 => x == x | _ => y == y) && (#[Value.str x t1, .str y t3] : Array Value).size == (#[Value.str x u1, .str y u3] : Array Value).size) = true := by
    show ((List.range 2).all _ && true) = _
    simp [List.range, List.range.loop]
  rw [e]
  exact h
theorem rfind_one {z : Str} (h : Nm z) : Txt.rfind (pathT [z]) (Str.ofString "/") = 0 := by
  have := rfind_path (l := []) h.noSl
  simpa [pathT, pathL, Str.length] using this
theorem cut_one {z : Str} : Txt.slice (pathT [z]) none (some 0) = Str.ofString "" := by
  have := slice_to (x := pathT [z]) (n := 0) (Nat.zero_le _)
  rw [em_eq]
  simpa using this
theorem one_path (z : Str) : Str.ofString "/" ++ z = pathT [z] := by
  apply str_ext
  rw [cps_app, sl_eq]
  simp [pathT, pathL]
end Mine
end
section
theorem Mine.regT8_0 : True := by
  k_with_none
  trivial
open PySem PySem.W PySem.Calls PyProof.Rows
namespace Mine
theorem back_ints {ws : List Value} {B : List Int} {cN : Nat} (hB : IntsAre ws B) : IntsAre (List.take cN ws.toArray.toList.reverse.toArray.toList) (B.drop (B.length - cN)).reverse := by
  rw [← List.take_reverse]
  exact repI_ints.mpr ((repI_ints.mp (ints_reverse hB)).take cN)
end Mine
end
section
open PySem PySem.W PySem.Calls PyProof.Rows
set_option Elab.async false
set_option maxRecDepth 100000
namespace Mine
set_option maxHeartbeats 4000000
set_option pp.deepTerms false
set_option pp.maxSteps 3000
theorem fillZ9 : PySem.Challenge.rw_wb0022_01 = PySem.Challenge.rw_wb0022_01 ∧ K0 = K0 := by
  k_fill
  exact ⟨rfl, rfl⟩
variable {w : World} {mean : ExcName → Option Value} {mg mb : Str → Option Value} {s : Shared} {R : Result → Shared → Prop} {hb : Heap}
theorem regZ9_1 : True := by
  k_with_none
  k_with "my enterC" => (((case kX => k_asm); (case kL => exact Top.nolimit (by assumption)); (case k6 => k_is); (case k7 => k_is); (case k8 => decide); (case k9 => exact BindsTo.of_eq rfl); (case kB => exact rfl); (case kD => decide +kernel); (case c2 => exact rfl); (case c3 => exact rfl); (case c4 => exact rfl); k_whole; intro zL' zh' ztk' zcells' zF' zN' zY'; k_cells zY'; (try simp only [List.cons_append, List.nil_append] at zN'); (try dsimp only)))
  k_with "eval ListComp" => ((with_reducible refine stop_of ?_))
  k_with "exec Assign cons ListComp" => ((with_reducible refine stop_of ?_))
  k_with "call type:enumerate" => ((with_reducible refine stop_of ?_))
  k_with "eval Name" => ((k_here; (with_reducible show wpAny _ _ (eval (Expr.Name _ _) (compEnvC _ _ _ _)) _ _ _); k_dflt (focus (refine' LCgL.ld_built ?_ ?_ ?_ ?_ ?_ ?_ ?_ ?_ ?_ ?_ ?_ ?_; rotate_left 20; rfl; rotate_left 11; k_asm; k_asm; k_asm; rotate_left 4; rfl; rfl; rfl; decide; rotate_left; k_is; boot_by_name; decide))))
  k_with "subscriptTail Name Slice ref ref" => ((with_reducible refine stop_of ?_))
  trivial

section
variable {prog : Program} {A : Around} {E : Value → Shared → Prop}
theorem slice3_raw {value slice : Expr} {l : Addr} {items : Array Value} {vl vu vk : Value} {lo hi st : Option Int} {ops : List Value} {Q : Value → Shared → Prop}
    (hl : s.heap.IsList l items) (pl : IsPart vl lo) (pu : IsPart vu hi) (pk : IsPart vk st) (h0 : st ≠ some 0)
    (h : Q (.ref (s.heap.objs.size + 1)) { s with heap := (s.heap.push { cls := .type "slice", data := .fields #[vl, vu, vk] }).push { cls := .type "list", data := .seq (slicePick items lo hi st) } })
    (hs : subscripted slice false (.ref l) (.ref s.heap.objs.size) = operate ops (getItem (.ref l) (.ref s.heap.objs.size)))
    (ht : ∀ r, letTemporaryGo value (.ref l) r = pure ()) (hsz : items.size ≤ sizeLine) :
    wpAny (model prog w) A (subscriptTail value slice (.ref l) (.ref s.heap.objs.size)) Q E { s with heap := s.heap.push { cls := .type "slice", data := .fields #[vl, vu, vk] } } := by
  refine subscriptTail_ops (Heap.IsList.typeIs (s := { s with heap := s.heap.push { cls := .type "slice", data := .fields #[vl, vu, vk] } }) (hl.push _)) list_getitem_lookup
    (wpAny_getItem_list_slice (hl.push _) (Heap.IsSliceOf.new ..) pl pu pk h0 ?_ hsz) hs ht
  show Q (.ref (s.heap.push _).objs.size) _
  rw [Heap.size_push]
  exact h
end
theorem kb_stays {h h1 h2 : Heap} {e it : Addr} (hk : ∀ b o, h.get? b = some o → h1.get? b = some o) (fe : h.get? e = none) (fi : h.get? it = none) (kb : KeepBut e it h1 h2) : h.StaysIn h2 :=
  fun a o g => kb a o (fun q => by rw [q, fe] at g; cases g) (fun q => by rw [q, fi] at g; cases g) (hk a o g)
theorem news_ns {h₀ h h1 h2 : Heap} {L C : Addr} {m m₂ : Str → Option Value} {news : List (Addr × Obj)} (F : Fr h₀ L h m) (N : News h₀ L h2 news) (hk : h.StaysIn h1) (fC : h1.get? C = none) (hC : h2.Ns C m₂) : ∃ oC, News h₀ L h2 ((C, oC) :: news) ∧ LCg.NsObj oC m₂ := by
  obtain ⟨oC, g, n⟩ := LCg.ns_obj hC
  refine ⟨oC, fun p hp => ?_, n⟩
  rcases List.mem_cons.mp hp with rfl | hp
  · refine ⟨g, fun q => ?_, ?_⟩
    · obtain ⟨o', _, _, ho, _⟩ := F.ns
      have q : C = L := q
      rw [q, hk _ _ ho] at fC; cases fC
    · show h₀.get? C = none
      cases z : h₀.get? C with
      | none => rfl
      | some o => rw [hk _ _ (F.keep _ _ z)] at fC; cases fC
  · exact N p hp
theorem regZ9_2 : True := by
  k_with "call ref" => ((with_reducible refine stop_of ?_))
  k_with "CompSrc" => ((with_reducible refine stop_of ?_))
  k_with "CompEnd" => ((with_reducible refine stop_of ?_))
  trivial

theorem drop7 {α : Type} {a b c d e f g x : α} {l : List α} : ∀ p ∈ a :: b :: c :: d :: e :: f :: g :: l, p ∈ a :: b :: c :: d :: e :: f :: g :: x :: l := by
  intro p hp
  simp only [List.mem_cons] at hp ⊢
  rcases hp with h | h | h | h | h | h | h | h
  · exact .inl h
  · exact .inr (.inl h)
  · exact .inr (.inr (.inl h))
  · exact .inr (.inr (.inr (.inl h)))
  · exact .inr (.inr (.inr (.inr (.inl h))))
  · exact .inr (.inr (.inr (.inr (.inr (.inl h)))))
  · exact .inr (.inr (.inr (.inr (.inr (.inr (.inl h))))))
  · exact .inr (.inr (.inr (.inr (.inr (.inr (.inr (.inr h)))))))
theorem perm4 {α : Type} {a b c d : α} {l : List α} : ∀ p ∈ a :: b :: c :: d :: l, p ∈ d :: a :: b :: c :: l := by
  intro p hp
  simp only [List.mem_cons] at hp ⊢
  rcases hp with h | h | h | h | h
  · exact .inr (.inl h)
  · exact .inr (.inr (.inl h))
  · exact .inr (.inr (.inr (.inl h)))
  · exact .inl h
  · exact .inr (.inr (.inr (.inr h)))
theorem regZ9_3 : True := by
  k_with "compareOp NotEq ref ref" => ((with_reducible refine stop_of ?_))
  k_with "Mid" => ((with_reducible refine stop_of ?_))
  k_with "Mid2" => ((with_reducible refine stop_of ?_))
  k_with "UnrPostW" => ((with_reducible refine stop_of ?_))
  k_with "UnrEndW" => ((with_reducible refine stop_of ?_))
  k_with "pyIter ref" => ((with_reducible refine stop_of ?_))
  trivial

theorem ints_take {vs : List Value} {ns : List Int} (h : IntsAre vs ns) (n : Nat) : IntsAre (vs.take n) (ns.take n) := repI_ints.mpr ((repI_ints.mp h).take n)
theorem ints_drop {vs : List Value} {ns : List Int} (h : IntsAre vs ns) : ∀ n, IntsAre (vs.drop n) (ns.drop n) := by
  induction h with
  | nil => intro n; simp only [List.drop_nil]; exact .nil
  | cons x t h ih =>
    intro n
    cases n with
    | zero => exact .cons x t h
    | succ n => exact ih n
theorem ne_cls {h₀ h : Heap} {L a b : Addr} {o1 o2 : Obj} {news : List (Addr × Obj)} (N : News h₀ L h news) (m1 : (a, o1) ∈ news) (m2 : (b, o2) ∈ news) (hc : o1.cls ≠ o2.cls) : @Ne Nat a b := by
  intro e
  have h1 := (N _ m1).1
  have h2 := (N _ m2).1
  dsimp only at h1 h2
  rw [e, h2] at h1
  exact hc (congrArg Obj.cls (Option.some.inj h1)).symm
theorem regZ9_4 : True := by
  k_with "my turn" => (((rename TurnF _ _ _ _ _ _ _ _ _ _ _ _ => ztf); (rename Fr _ _ _ _ => zF); (rename News _ _ _ _ => zN); refine ztf.add zF zN (by k_mem) (by k_mem) ?_; intro zr1 zo1 zh1 zF1 zN1 zt1 zl1; (simp only [AllNe, and_true] at zl1); clear zF zN; (try k_sweep); (try dsimp only); (k_steps); (rename Fr _ _ _ _ => zF); (rename News _ _ _ _ => zN); refine ztf.swap.add zF zN (by k_mem) (by k_mem) ?_; intro zr2 zo2 zh2 zF2 zN2 zt2 zl2; (simp only [AllNe, and_true] at zl2); clear zF zN; (try k_sweep); (try dsimp only); (k_steps); (rename Fr _ _ _ _ => zF); (rename News _ _ _ _ => zN); refine stop_go (ztf.common zF zN (Wd.keeps (by assumption) (Fr.keep zF)) zt1 zt2 (by k_mem) (by k_mem) (zN.isList (.head _)) rfl (Nat.le_of_ble_eq_true rfl) (Nat.le_of_ble_eq_true rfl) ?_); intro zr zvs zh3 ztk3 zF3 zN3 zhr zrr; clear zF zN; (try k_sweep); (try dsimp only); (k_steps); (rename Fr _ _ _ _ => zF); (rename News _ _ _ _ => zN); refine stop_go (ztf.due zF zN (Wd.keeps (by assumption) (Fr.keep zF)) (by k_mem) (by k_mem) zhr rfl (Nat.le_of_ble_eq_true rfl) (Nat.le_of_ble_eq_true rfl) ?_); intro zr' zvs' zh4 ztk4 zF4 zN4 zhr4 zhr' zrr'; clear zF zN zhr; (try k_sweep); (try dsimp only); (k_steps); refine stop_go (ztf.same zhr4 zhr' zrr zrr' (Nat.le_of_ble_eq_true rfl) ?_); clear zhr4 zhr' zrr zrr' ztf zt1 zt2; k_steps))
  k_with "Mid3" => ((with_reducible refine stop_of ?_))
  k_with "Mid4" => ((with_reducible refine stop_of ?_))
  k_with "compareOp Eq ref ref" => ((with_reducible refine stop_of ?_))
  k_with "TwoUse" => ((with_reducible refine stop_of ?_))
  k_with "TwoVal" => ((with_reducible refine stop_of ?_))
  trivial

theorem tail_val {e : Int} (h : e = 0 ∨ e = 1) (t : Tok) : ∃ vt tt, (List.replicate e.toNat [Value.str (Str.ofString "") t]).flatten = vt ∧ StrsAre vt tt ∧ (tt = [] ∨ tt = [Str.ofString ""]) ∧ (0 ≤ e ∧ e ≤ 1) := by
  rcases h with rfl | rfl
  · exact ⟨[], [], rfl, .nil, .inl rfl, by omega⟩
  · exact ⟨[.str (Str.ofString "") t], _, rfl, .cons _ t .nil, .inr rfl, by omega⟩
theorem regZ9_5 : True := by
  k_with "Mid5" => ((with_reducible refine stop_of ?_))
  trivial

theorem keep1of2 {α : Type} {a b : α} {l : List α} : ∀ p ∈ a :: l, p ∈ a :: b :: l := by
  intro p hp
  rcases List.mem_cons.mp hp with rfl | hp
  · exact .head _
  · exact .tail _ (.tail _ hp)
theorem eqS_self (x : Str) (t u : Tok) (A : Around) (s : Shared) : SeqAt.EqAt A s (.str x t) (.str x u) true := by
  have := eqS x x t u A s
  rwa [beq_self_eq_true] at this
theorem slice_upto_at {items : Array Value} {c : Int} {n : Nat} (hc : c = (n : Int)) (h : n ≤ items.size) : slicePick items none (some c) none = (items.toList.take n).toArray := by
  subst hc
  exact slicePick_upto _ _ h
theorem news_tail {h₀ h : Heap} {L : Addr} {a : Addr × Obj} {l : List (Addr × Obj)} (N : News h₀ L h (a :: l)) : News h₀ L h l := fun p hp => N p (.tail _ hp)
theorem keepBack {α : Type} {a b c d e f : α} {l : List α} : ∀ p ∈ a :: b :: d :: f :: l, p ∈ a :: b :: c :: d :: e :: f :: l := by
  intro p hp
  simp only [List.mem_cons] at hp ⊢
  rcases hp with h | h | h | h | h
  · exact .inl h
  · exact .inr (.inl h)
  · exact .inr (.inr (.inr (.inl h)))
  · exact .inr (.inr (.inr (.inr (.inr (.inl h)))))
  · exact .inr (.inr (.inr (.inr (.inr (.inr h)))))
theorem keepNames {α : Type} {a b c d e : α} {l : List α} : ∀ p ∈ c :: d :: l, p ∈ a :: b :: c :: d :: e :: l := by
  intro p hp
  rcases List.mem_cons.mp hp with rfl | hp
  · exact .tail _ (.tail _ (.head _))
  rcases List.mem_cons.mp hp with rfl | hp
  · exact .tail _ (.tail _ (.tail _ (.head _)))
  · exact .tail _ (.tail _ (.tail _ (.tail _ (.tail _ hp))))
theorem keep1of5 {α : Type} {a b c d e : α} {l : List α} : ∀ p ∈ a :: l, p ∈ a :: b :: c :: d :: e :: l := by
  intro p hp
  rcases List.mem_cons.mp hp with rfl | hp
  · exact .head _
  · exact .tail _ (.tail _ (.tail _ (.tail _ (.tail _ hp))))
theorem four_ints {ys : List Value} (h : ys.length = 4) (k : ∀ (i : Nat) (y : Value), ys[i]? = some y → ∃ n t, y = Value.int n t) : ∃ n0 n1 n2 n3 t0 t1 t2 t3, ys = [.int n0 t0, .int n1 t1, .int n2 t2, .int n3 t3] := by
  match ys, h, k with
  | [a, b, c, d], _, k =>
    obtain ⟨n0, t0, rfl⟩ := k 0 a rfl
    obtain ⟨n1, t1, rfl⟩ := k 1 b rfl
    obtain ⟨n2, t2, rfl⟩ := k 2 c rfl
    obtain ⟨n3, t3, rfl⟩ := k 3 d rfl
    exact ⟨_, _, _, _, _, _, _, _, rfl⟩
theorem c_law {l : Addr} {vs : List Value} {ns : List Int} (W : Wd w mean mg mb s.heap) (hl : s.heap.IsList l vs.toArray) (hi : IntsAre vs ns) (hn : ns.length ≤ 63)
    (ret : ∀ h' tk', s.heap.StaysIn h' → R (.ok (.ret (.bool true))) { s with heap := h', toks := tk' }) :
    codeAny (model P0 w) (lv 340 480) (.call (.ref 233) ⟨[.ref l], []⟩) R s := by
  have KX := W.X
  have KT := W.T
  refine' enterC (binds := [(Str.ofString "script", .ref l)]) ?kX ?kL ?k6 ?k7 ?k8 ?k9 ?kB ?kD ?_ ?c2 ?c3 ?c4
  k_dflt walk_at "my enterC"
  rename (_ : Obj).data = _ => c1
  revert c1
  rename (_ : Obj).data = _ => c2
  revert c2
  rename (_ : Obj).data = _ => c3
  intro c2 c1
  replace c1 : _ = Data.cell (some (.ref l)) := c1
  replace c2 : _ = Data.cell none := c2
  replace c3 : _ = Data.cell none := c3
  try k_fold
  k_steps
  rename Fr _ _ _ _ => F1
  rename News _ _ _ _ => N1
  refine stop_go (wpAny_Assign_Name (comp_enum (P := fun _ v => ∃ n t, v = .int n t) (by with_unfolding_all rfl) (by decide) (by rfl) (by decide) (by rfl) (by rfl) (by decide) (fun _ => by rfl) rfl ?_) (by with_unfolding_all rfl))
  k_steps
  rename Fr _ _ _ _ => F1
  rename News _ _ _ _ => N1
  try dsimp only
  refine stop_go (call_enumerate_list (N1.isList (.head _)) ?_)
  intro h' hE hI hsz hk
  dsimp only at hE hI hsz hk ⊢
  have N2 := newsStay N1 hk
  have lL : @LT.lt Nat _ _ _ := Heap.lt_size (N1 _ (.head _)).1
  refine ⟨_, _, _, _, _, _, rfl, rfl, hE, hI, N2.isList (.head _), Nat.succ_ne_self _, Nat.ne_of_lt (Nat.lt_succ_of_lt lL), Nat.ne_of_lt lL, Nat.le_of_ble_eq_true rfl, ?turn, ?fin⟩
  case turn =>
    intro i k v hv h₂ tk₂ C m₂ E' kb fC hC hm1 hm2
    have st2 := kb_stays hk (none_at (Nat.le_succ _)) (none_at (Nat.le_refl _)) kb
    have F3 := frStay F1 st2
    obtain ⟨oC, N3, hNs⟩ := news_ns F1 (newsStay N1 st2) hk fC hC
    have hv2 : ∃ n t, v = .int n t := by
      match i, hv with
      | 0, hv => cases hv; exact ⟨_, _, rfl⟩
      | 1, hv => cases hv; exact ⟨_, _, rfl⟩
      | 2, hv => cases hv; exact ⟨_, _, rfl⟩
      | 3, hv => cases hv; exact ⟨_, _, rfl⟩
    obtain ⟨n, tn, rfl⟩ := hv2
    clear F1 N1 N2 hv hE hI hsz hk
    k_steps
    refine stop_go (slice3_raw (s := ⟨_, _, _, _, _⟩) (F3.lst hl) (IsPart.int _ _) IsPart.none (IsPart.int _ _) (by decide) ?_ (by with_unfolding_all rfl) (by intro _; with_unfolding_all rfl) (by rw [List.size_toArray, ints_len hi, sizeLine_eq]; omega))
    have hsi : IntsAre (slicePick vs.toArray (some (i : Int)) none (some 4)).toList _ := hi.pick _ _ _
    generalize slicePick vs.toArray (some (i : Int)) none (some 4) = its at hsi ⊢
    have st4 : h₂.StaysIn ((h₂.push { cls := .type "slice", data := .fields #[Value.int (i : Int) k, Value.none, Value.int 4 tk₂] }).push { cls := .type "list", data := .seq its }) := push2
    have F4 := frStay F3 st4
    have N4 := newsStay N3 st4
    clear F3 N3
    (try dsimp only)
    k_steps
    have hl5 : ((h₂.push { cls := .type "slice", data := .fields #[Value.int (i : Int) k, Value.none, Value.int 4 tk₂] }).push { cls := .type "list", data := .seq its }).IsList (h₂.objs.size + 1) its := by
      refine ⟨{ cls := .type "list", data := .seq its }, ?_, rfl, 0, rfl⟩
      have := Heap.get?_push_size (h₂.push { cls := .type "slice", data := .fields #[Value.int (i : Int) k, Value.none, Value.int 4 tk₂] }) (o := { cls := .type "list", data := .seq its }) rfl
      rwa [Heap.size_push] at this
    have hall : AllInts its := by simpa using hsi.allInts
    obtain ⟨xs, rfl⟩ := hall.items
    refine sum_intListG rfl hl5 fun h' tk t' hk => ?_
    have F5 := frStay F4 hk
    have N5 := newsStay N4 hk
    clear F4 N4
    (try dsimp only)
    k_steps
    exact fun a o g => hk a o (st4 a o g)
  case fin =>
    intro D h₃ tk₃ ys kb fD hD hyl hys
    have st2 := kb_stays hk (none_at (Nat.le_succ _)) (none_at (Nat.le_refl _)) kb
    have F3 := frStay F1 st2
    obtain ⟨N3, l3⟩ := newsNew F1 N1 st2 (by
      cases g : Heap.get? _ D with
      | none => rfl
      | some o => rw [hk _ _ g] at fD; cases fD) hD
    obtain ⟨n0, n1, n2, n3, t0, t1, t2, t3, rfl⟩ := four_ints hyl hys
    simp only [AllNe, and_true] at l3
    clear F1 N1 N2 hE hI hsz hk kb fD hD hyl hys st2
    (try k_sweep)
    (try dsimp only)
    k_steps
    rename Fr _ _ _ _ => F1
    rename News _ _ _ _ => N1
    rw [show ([n0, n1, n2, n3].getD (Int.toNat 0) 0) = n0 from rfl]
    refine stop_go (wpAny_call (codeAny_lv (c_word (W.keeps F1.keep) ?_) rfl (Nat.le_of_ble_eq_true rfl) (Nat.le_of_ble_eq_true rfl)))
    intro r0 v0 k0 h' tk' st' fr' hr' sx
    have F' := frStay F1 st'
    obtain ⟨N', l1'⟩ := newsNew F1 N1 st' fr' hr'
    simp only [AllNe, and_true] at l1'
    clear F1 N1 st' fr' hr'
    k_sweep
    (try dsimp only)
    k_steps
    rename Fr _ _ _ _ => F1
    rename News _ _ _ _ => N1
    rw [show ([n0, n1, n2, n3].getD (Int.toNat 1) 0) = n1 from rfl]
    refine stop_go (wpAny_call (codeAny_lv (c_word (W.keeps F1.keep) ?_) rfl (Nat.le_of_ble_eq_true rfl) (Nat.le_of_ble_eq_true rfl)))
    intro r1 v1 k1 h' tk' st' fr' hr' sy
    have F' := frStay F1 st'
    obtain ⟨N', l1'⟩ := newsNew F1 N1 st' fr' hr'
    simp only [AllNe, and_true] at l1'
    clear F1 N1 st' fr' hr'
    generalize hx : wordOf n0 = x at sx
    generalize hy : wordOf n1 = y at sy
    k_sweep
    (try dsimp only)
    k_steps
    rename Fr _ _ _ _ => F1
    rename News _ _ _ _ => N1
    have lx : x.length ≤ 4 := by rw [← hx]; unfold wordOf; rw [List.length_map, List.length_range]; have := fmod4 n0; omega
    have ly : y.length ≤ 4 := by rw [← hy]; unfold wordOf; rw [List.length_map, List.length_range]; have := fmod4 n1; omega
    obtain ⟨wl, ewl⟩ : ∃ wl, wl = adrAt N1 0 := ⟨_, rfl⟩
    dsimp only [adrAt, adrOf] at ewl
    subst ewl
    obtain ⟨tl, etl⟩ : ∃ tl, tl = adrAt N1 4 := ⟨_, rfl⟩
    dsimp only [adrAt, adrOf] at etl
    subst etl
    refine stop_go (LCg.Assign_ListComp_U (F₀ := F1) rfl (by with_unfolding_all rfl) (by with_unfolding_all rfl) (by decide) (by rfl) (by decide) (by rfl) (by rfl) (by rfl) ?_)
    k_steps
    rename Fr _ _ _ _ => F2
    rename News _ _ _ _ => N2
    refine stop_go (LCg.CompSrc.ledger rfl F2 N2 (.head _) (Nat.le_of_ble_eq_true rfl) (fun g => LCg.CompRest.succ ?t0))
    intro v I oI C oC Dq m₂ h tk E' hv hC hx' F N off ne
    obtain rfl : v = .ref r0 := by cases hv; rfl
    have off0 := Hid.mk off
    simp only [LCg.Off3, and_true] at off
    clear F2 N2
    k_steps
    rename Fr _ _ _ _ => F2
    rename News _ _ _ _ => N2
    refine stop_go (rev_led (s := ⟨_, _, _, _, _⟩) F2 N2 (N2.isList (.tail _ (.tail _ (.tail _ (.tail _ (.tail _ (.head _))))))) ?_ (by with_unfolding_all rfl) (by intro _; with_unfolding_all rfl) (by rw [List.size_toArray, strsAre_length sx, sizeLine_eq]; omega))
    intro q0 h' F' N' l0
    clear F2 N2
    (try dsimp only)
    k_steps
    simp only [AllNe] at l0
    refine stop_go (LCg.CompEnd.intro F' N' ((q0, PySem.W.listOf v0.reverse.toArray 0) :: _) perm4 ⟨⟨l0.1.symm, l0.2.1.symm, l0.2.2.1.symm⟩, off0.out⟩ (.inr ⟨_, .tail _ (.head _), rfl, _, rfl⟩) (LCg.CompRest.succ ?t1))
    clear off0 off F' N' l0
    intro v I oI C oC Dq m₂ h tk E' hv hC hx' F N off ne
    obtain rfl : v = .ref r1 := by cases hv; rfl
    have off0 := Hid.mk off
    simp only [LCg.Off3, and_true] at off
    k_steps
    rename Fr _ _ _ _ => F2
    rename News _ _ _ _ => N2
    refine stop_go (rev_led (s := ⟨_, _, _, _, _⟩) F2 N2 (N2.isList (.tail _ (.tail _ (.tail _ (.tail _ (.tail _ (.head _))))))) ?_ (by with_unfolding_all rfl) (by intro _; with_unfolding_all rfl) (by rw [List.size_toArray, strsAre_length sy, sizeLine_eq]; omega))
    intro q1 h' F' N' l0
    clear F2 N2
    (try dsimp only)
    k_steps
    simp only [AllNe] at l0
    refine stop_go (LCg.CompEnd.intro F' N' ((q1, PySem.W.listOf v1.reverse.toArray 0) :: _) perm4 ⟨⟨l0.1.symm, l0.2.1.symm, l0.2.2.1.symm⟩, off0.out⟩ (.inr ⟨_, .tail _ (.tail _ (.head _)), rfl, _, rfl⟩) (LCg.CompRest.zero ?fin1))
    clear off0 off F' N' 
    intro Dt h' tk' F' N' o1
    replace o1 := off1_ne o1
    simp only [AllNe, and_true] at o1
    (try dsimp only)
    have N'' : News s.heap (frL F') h' (_ :: _ :: _ :: _ :: _ :: _ :: _ :: _ :: _ :: [_]) := fun p hp => N' p (drop7 p hp)
    refine execs_take (l := [_, _, _]) (wpAny_mono (Q := Mid s.heap (frL F') (newsOf N'') (Str.ofString "turned") (.ref Dt) s) ?walk ?rest fun _ _ e => e)
    case walk =>
      dsimp only [frL, newsOf]
      clear N''
      have x0 : 1 ≤ x.length := by rw [← hx]; unfold wordOf; rw [List.length_map, List.length_range]; have := fmod4 n0; omega
      have y0 : 1 ≤ y.length := by rw [← hy]; unfold wordOf; rw [List.length_map, List.length_range]; have := fmod4 n1; omega
      refine execs_take (l := [_, _]) (wpAny_mono (Q := Mid2 s.heap (frL F') (newsOf N') Dt s) ?w1 ?w2 fun _ _ e => e)
      case w1 =>
        dsimp only [frL, newsOf]
        k_steps
        rotate_left
        · rename Fr _ _ _ _ => F1
          rename News _ _ _ _ => N1
          refine stop_go ⟨rfl, _, _, _, _, 0, [wl, Dt], [], rfl, F1, by with_unfolding_all rfl, by with_unfolding_all rfl, N1, ?_⟩
          intro a ha
          simp only [List.mem_cons, List.not_mem_nil, or_false] at ha
          rcases ha with rfl | rfl
          · exact PairOk.lists (n := 0) (.tail _ (.tail _ (.tail _ (.head _)))) (.tail _ (.tail _ (.tail _ (.tail _ (.tail _ (.head _)))))) (.tail _ (.tail _ (.tail _ (.tail _ (.head _))))) sx sy x0 y0 (by omega) (by omega)
          · exact PairOk.lists (n := 2) (.head _) (.tail _ (.tail _ (.head _))) (.tail _ (.head _)) (sa_reverse sx) (sa_reverse sy) (by rw [List.length_reverse]; exact x0) (by rw [List.length_reverse]; exact y0) (by rw [List.length_reverse]; omega) (by rw [List.length_reverse]; omega)
        rename Fr _ _ _ _ => F1
        rename News _ _ _ _ => N1
        obtain ⟨cn, hc1, hc2, hc⟩ : ∃ cn : Nat, 1 ≤ cn ∧ cn < ns.length ∧ (1 + ([n0, n1, n2, n3].getD (Int.toNat 0) 0).fmod ((ns.length : Int) - 1)) = (cn : Int) := by
          have g1 : (1 : Int) < ns.length := by assumption
          have a := Int.fmod_nonneg_of_pos n0 (b := (ns.length : Int) - 1) (by omega)
          have b := Int.fmod_lt_of_pos n0 (b := (ns.length : Int) - 1) (by omega)
          exact ⟨(1 + n0.fmod ((ns.length : Int) - 1)).toNat, by omega, by omega, by show 1 + n0.fmod _ = _; omega⟩
        rw [hc] at F1 ⊢
        refine stop_go (slice_led (s := ⟨_, _, _, _, _⟩) F1 N1 (F1.lst hl) IsPart.none (IsPart.int _ _) ?_ (by rw [List.size_toArray, ints_len hi, sizeLine_eq]; omega) (by with_unfolding_all rfl) (by intro _; with_unfolding_all rfl))
        intro ra h' F' N' la
        rw [slicePick_upto _ _ (by rw [List.size_toArray, ints_len hi]; omega)] at N'
        simp only [AllNe, and_true] at la
        clear F1 N1
        k_sweep
        (try dsimp only)
        k_steps
        rename Fr _ _ _ _ => F1
        rename News _ _ _ _ => N1
        refine stop_go (slice_led (s := ⟨_, _, _, _, _⟩) F1 N1 (F1.lst hl) (IsPart.int _ _) IsPart.none ?_ (by rw [List.size_toArray, ints_len hi, sizeLine_eq]; omega) (by with_unfolding_all rfl) (by intro _; with_unfolding_all rfl))
        intro rb h' F' N' lb
        rw [slicePick_from _ _ (by rw [List.size_toArray, ints_len hi]; omega)] at N'
        simp only [AllNe, and_true] at lb
        clear F1 N1
        k_sweep
        (try dsimp only)
        k_steps
        rename Fr _ _ _ _ => F1
        rename News _ _ _ _ => N1
        obtain ⟨pq, epq⟩ : ∃ a, a = adrAt N1 0 := ⟨_, rfl⟩
        obtain ⟨T2, eT2⟩ : ∃ a, a = adrAt N1 1 := ⟨_, rfl⟩
        obtain ⟨T1, eT1⟩ : ∃ a, a = adrAt N1 3 := ⟨_, rfl⟩
        obtain ⟨pl, epl⟩ : ∃ a, a = adrAt N1 5 := ⟨_, rfl⟩
        dsimp only [adrAt, adrOf] at epq eT2 eT1 epl
        subst epq
        subst epl
        subst eT1
        subst eT2
        have ne1 : @Ne Nat T2 pl := ne_cls N1 (.tail _ (.head _)) (.tail _ (.tail _ (.tail _ (.tail _ (.tail _ (.head _)))))) (fun e => absurd (Value.type.inj e) (by decide))
        have ne2 : @Ne Nat T1 pl := ne_cls N1 (.tail _ (.tail _ (.tail _ (.head _)))) (.tail _ (.tail _ (.tail _ (.tail _ (.tail _ (.head _)))))) (fun e => absurd (Value.type.inj e) (by decide))
        have ne3 : @Ne Nat pl rb := lb.2.2.1
        have ne4 : @Ne Nat pl ra := la.1
        clear la lb l0 o1 l3
        k_steps
        rename Fr _ _ _ _ => F1
        rename News _ _ _ _ => N1
        refine stop_go ⟨rfl, _, _, _, pl, 1, [wl, Dt, pq], [(pq, PySem.W.listOf #[Value.ref T1, Value.ref T2] 0), (T2, { cls := .type "tuple", data := .seq (List.drop cn vs).toArray }), (T1, { cls := .type "tuple", data := .seq (List.take cn vs).toArray })], rfl, F1, by with_unfolding_all rfl, by with_unfolding_all rfl, fun p hp => N1 p ?_, ?_⟩
        · rcases List.mem_cons.mp hp with rfl | hp
          · exact (.tail _ (.tail _ (.tail _ (.tail _ (.tail _ (.head _))))))
          rcases List.mem_cons.mp hp with rfl | hp
          · exact .head _
          rcases List.mem_cons.mp hp with rfl | hp
          · exact (.tail _ (.head _))
          rcases List.mem_cons.mp hp with rfl | hp
          · exact (.tail _ (.tail _ (.tail _ (.head _))))
          exact .tail _ (.tail _ (.tail _ (.tail _ (.tail _ (.tail _ hp)))))
        intro a ha
        simp only [List.mem_cons, List.not_mem_nil, or_false] at ha
        rcases ha with rfl | rfl | rfl
        · exact PairOk.lists (n := 0) (.tail _ (.tail _ (.tail _ (.tail _ (.tail _ (.tail _ (.head _))))))) (.tail _ (.tail _ (.tail _ (.tail _ (.tail _ (.tail _ (.tail _ (.tail _ (.head _))))))))) (.tail _ (.tail _ (.tail _ (.tail _ (.tail _ (.tail _ (.tail _ (.head _)))))))) sx sy x0 y0 (by omega) (by omega)
        · exact PairOk.lists (n := 2) (.tail _ (.tail _ (.tail _ (.head _)))) (.tail _ (.tail _ (.tail _ (.tail _ (.tail _ (.head _)))))) (.tail _ (.tail _ (.tail _ (.tail _ (.head _))))) (sa_reverse sx) (sa_reverse sy) (by rw [List.length_reverse]; exact x0) (by rw [List.length_reverse]; exact y0) (by rw [List.length_reverse]; omega) (by rw [List.length_reverse]; omega)
        · exact PairOk.tuples (n := 0) (.head _) (.tail _ (.tail _ (.head _))) (.tail _ (.head _)) rfl ⟨_, rfl⟩ rfl ⟨_, rfl⟩ (ints_take hi cn) (ints_drop hi cn) (by rw [List.length_take]; omega) (by rw [List.length_drop]; omega) (by rw [List.length_take]; omega) (by rw [List.length_drop]; omega)
      case w2 =>
        rintro f s' ⟨rfl, h2, tk2, m2, pl, n, prs, more, rfl, F2, hp, ht, N2, hok⟩
        dsimp only [frL, newsOf] at F2 N2 hok ⊢
        clear F' N'
        rw [show m2 = (fun y => if y = Str.ofString "pairs" then some (Value.ref pl) else m2 y) by
          funext z
          by_cases e : z = Str.ofString "pairs"
          · rw [if_pos e, e, hp]
          · rw [if_neg e]] at F2
        k_steps
        refine For_turns F2 ?_
        k_steps
        refine stop_go (iter_listTurns (vs := prs.map Value.ref) rfl F2 N2 (.head _) rfl rfl (fun I hI => ?_))
        refine items_ind (J := fun m => m (Str.ofString "turned") = some (.ref Dt)) (.head _) ?zz prs ((if_neg (by decide +kernel)).trans ht) ?ss
        case zz =>
          intro m h tk hm F N
          clear F2 N2
          (try dsimp only)
          k_steps
          exact stop_go (Mid.intro F N hm fun p hp => .tail _ (List.mem_append_right _ (drop7 p hp)))
        case ss =>
          intro a ha m h tk oI hJ hcI F N
          obtain ⟨n', a1, a2, oo1, oo2, α, iα, P, ty, rep, lt, va, vb, xx, yy, k1, k2, k3, tf⟩ := hok a ha
          have N3 : News s.heap _ h ((I, oI) :: (a, PySem.W.listOf #[Value.ref a1, Value.ref a2] n') :: (a1, oo1) :: (a2, oo2) :: (pl, PySem.W.listOf (List.toArray (prs.map Value.ref)) n) :: (more ++ _)) := fun p hp => N p (by
            rcases List.mem_cons.mp hp with rfl | hp
            · exact .head _
            rcases List.mem_cons.mp hp with rfl | hp
            · exact .tail _ (.tail _ k1)
            rcases List.mem_cons.mp hp with rfl | hp
            · exact .tail _ (.tail _ k2)
            rcases List.mem_cons.mp hp with rfl | hp
            · exact .tail _ (.tail _ k3)
            exact .tail _ hp)
          clear F2 N2 N hok k1 k2 k3
          generalize hnews : ((pl, PySem.W.listOf (List.toArray (prs.map Value.ref)) n) :: (more ++ _)) = news at N3 hI ⊢
          (try dsimp only)
          k_steps
          walk_at "my turn"
          rename Fr _ _ _ _ => F9
          rename News _ _ _ _ => N9
          refine stop_go (UnrEndW.intro F9 N9 news (subL_of fun p hp => ?_) (subL_of fun p hp => ?_) (offW_lt hI) ⟨rfl, ?_⟩)
          · rw [List.mem_singleton.mp hp]
            repeat (first | exact List.Mem.head _ | apply List.Mem.tail)
          · repeat (first | exact hp | apply List.Mem.tail)
          · exact (if_neg (by decide +kernel)).trans ((if_neg (by decide +kernel)).trans hJ)
    case rest =>
      rintro f s' ⟨rfl, h3, tk3, m3, rfl, F3, ht, N3⟩
      dsimp only [frL, newsOf] at F3 N3 ⊢
      clear F' N' N'' o1 l0
      repeat (rename _ ∧ _ => q; clear q)
      refine execs_take (l := [_, _, _]) (wpAny_mono (Q := Mid3 s.heap (frL F3) (newsOf N3) Dt s) ?w3 ?r3 fun _ _ e => e)
      case w3 =>
        dsimp only [frL, newsOf]
        rw [m_one ht] at F3
        k_steps
        have h30 := Int.fmod_nonneg_of_pos n2 (b := 3) (by omega)
        have h31 := Int.fmod_lt_of_pos n2 (b := 3) (by omega)
        refine stop_go (LCg.ListComp_U (F₀ := by k_asm) (by with_unfolding_all rfl) (by decide) (by rfl) (by decide) (by rfl) ?_)
        k_steps
        rename IsRange _ _ _ _ _ _ _ _ => hr
        rename Fr _ _ _ _ => F4
        rename News _ _ _ _ => N4
        refine stop_go (LCg.CompSrc.range rfl F4 N4 hr (small_up 0 (n2.fmod 3) (by omega)) (size_up 0 (n2.fmod 3) (n2.fmod 3).toNat (by omega)) (by rw [sizeLine_eq]; omega) (fun g => restU (fun i ys => ∃ ms, IntsAre ys ms ∧ ms.length = i ∧ ∀ b ∈ ms, b = 0 ∨ b = 1) ⟨[], .nil, rfl, fun _ h => (List.not_mem_nil h).elim⟩ ?bturn ?bfin))
        case bturn =>
          intro i v I oI C oC Dq m₂ ys h tk E' hi hP hR hC hx' F N off ne
          obtain ⟨t', rfl⟩ := hP
          obtain ⟨ms, hms, hml, hmb⟩ := hR
          have off0 := Hid.mk off
          clear F4 N4 off ne
          k_steps
          refine stop_go (LCg.CompEnd.intro (by assumption) (by assumption) _ (fun _ h => h) off0.out trivial ⟨rfl, ms ++ [_], ints_snoc hms _ _, by rw [List.length_append, hml]; rfl, fun b hb => ?_⟩)
          rcases List.mem_append.mp hb with hb | hb
          · exact hmb b hb
          · rw [List.mem_singleton.mp hb]
            exact fmod2 _
        case bfin =>
          rintro ys ⟨ms, hms, hml, hmb⟩
          intro Db h' tk' F' N' o1
          clear F4 N4 o1
          (try dsimp only)
          k_steps
          rename IntsAre _ (_ ++ _) => hB
          rename Fr _ _ _ _ => F5
          rename News _ _ _ _ => N5
          exact stop_go ⟨_, _, n3.fmod 2, (n3.fdiv 2).fmod 2, ms, _, fmod2 _, fmod2 _, hmb, by omega, hB, rfl, _, _, _, rfl, F5, by with_unfolding_all rfl, by with_unfolding_all rfl, fun p hp => N5 p (keep1of5 p hp)⟩
      case r3 =>
        rintro f s' ⟨pb, ws, a0, b0, ms, nb, ha0, hb0, hmb, hml, hB, rfl, h4, tk4, m4, rfl, F4, hb, ht4, N4⟩
        dsimp only [frL, newsOf] at F4 N4 ⊢
        clear F3 N3 ht
        refine execs_take (l := [_]) (wpAny_mono (Q := Mid4 (fun n => (x ++ y = y ++ x → n = 0) ∧ (x ++ y ≠ y ++ x → n = ((2 + ms.length : Nat) : Int))) s.heap (frL F4) (newsOf N4) (Str.ofString "count") [(Str.ofString "bits", .ref pb), (Str.ofString "turned", .ref Dt)] s) ?w4 ?r4 fun _ _ e => e)
        case w4 =>
          dsimp only [frL, newsOf]
          rw [m_two hb ht4] at F4
          have x0 : 1 ≤ x.length := by rw [← hx]; unfold wordOf; rw [List.length_map, List.length_range]; have := fmod4 n0; omega
          have y0 : 1 ≤ y.length := by rw [← hy]; unfold wordOf; rw [List.length_map, List.length_range]; have := fmod4 n1; omega
          have lv0 := strsAre_length sx
          have lv1 := strsAre_length sy
          have nv0 : v0 ≠ [] := by intro e; rw [e] at lv0; simp at lv0; omega
          have nv1 : v1 ≠ [] := by intro e; rw [e] at lv1; simp at lv1; omega
          k_steps
          rename News _ _ _ _ => N5
          refine stop_go (eq_lists ordS (N5.isList (.tail _ (.head _))) (N5.isList (.head _)) (repS_strs.mp (sa_append ‹StrsAre v0 x› ‹StrsAre v1 y›)) (repS_strs.mp (sa_append ‹StrsAre v1 y› ‹StrsAre v0 x›)) (Nat.le_of_ble_eq_true rfl) ?_)
          k_steps
          · rename Fr _ _ _ _ => F6
            rename News _ _ _ _ => N6
            refine stop_go ⟨_, _, ⟨fun _ => rfl, fun e => absurd (by assumption) e⟩, rfl, _, _, _, rfl, F6, by with_unfolding_all rfl, fun p hp => ?_, fun p hp => N6 p (.tail _ (.tail _ hp))⟩
            rcases List.mem_cons.mp hp with rfl | hp
            · with_unfolding_all rfl
            · rw [List.mem_singleton.mp hp]; with_unfolding_all rfl
          · rename Fr _ _ _ _ => F6
            rename News _ _ _ _ => N6
            have lws := ints_len hB
            simp only [List.length_append, List.length_cons, List.length_nil] at lws
            refine stop_go ⟨_, _, ⟨fun e => absurd e (by assumption), fun _ => ?_⟩, rfl, _, _, _, rfl, F6, by with_unfolding_all rfl, fun p hp => ?_, fun p hp => N6 p (.tail _ (.tail _ hp))⟩
            · omega
            rcases List.mem_cons.mp hp with rfl | hp
            · with_unfolding_all rfl
            · rw [List.mem_singleton.mp hp]; with_unfolding_all rfl
        case r4 =>
          rintro f s' ⟨cnt, tc, ⟨hc0, hc1⟩, rfl, h5, tk5, m5, rfl, F5, hcn, hms5, N5⟩
          dsimp only [frL, newsOf] at F5 N5 ⊢
          clear F4 N4 hb ht4
          have hb5 := hms5 _ (.head _)
          have ht5 := hms5 _ (.tail _ (.head _))
          dsimp only at hb5 ht5
          have hx0 : x ≠ [] := by intro e; have := hx; rw [e] at this; have := congrArg List.length this; unfold wordOf at this; rw [List.length_map, List.length_range] at this; have := fmod4 n0; simp at *; omega
          have hy0 : y ≠ [] := by intro e; have := hy; rw [e] at this; have := congrArg List.length this; unfold wordOf at this; rw [List.length_map, List.length_range] at this; have := fmod4 n1; simp at *; omega
          have lv0 := strsAre_length sx
          have lv1 := strsAre_length sy
          have lB := ints_len hB
          have B01 : ∀ b ∈ ([a0, 1 - a0] ++ ms ++ [b0, 1 - b0] : List Int), b = 0 ∨ b = 1 := by
            intro b hb
            simp only [List.mem_append, List.mem_cons, List.not_mem_nil, or_false] at hb
            rcases hb with ((rfl | rfl) | hb) | rfl | rfl
            · exact ha0
            · omega
            · exact hmb b hb
            · exact hb0
            · omega
          have lBB : ([a0, 1 - a0] ++ ms ++ [b0, 1 - b0] : List Int).length = 4 + ms.length := by simp; omega
          generalize hBB : ([a0, 1 - a0] ++ ms ++ [b0, 1 - b0] : List Int) = B at hB lB B01 lBB
          refine execs_take (l := [_, _, _, _]) (wpAny_mono (Q := Mid5 w x y B s.heap (frL F5) (newsOf N5) [(Str.ofString "count", .int cnt tc), (Str.ofString "bits", .ref pb), (Str.ofString "turned", .ref Dt)] s) ?w5 ?r5 fun _ _ e => e)
          case w5 =>
            dsimp only [frL, newsOf]
            rw [m_three hcn hb5 ht5] at F5
            clear hms5 hcn hb5 ht5
            k_steps
            rw [show ([n0, n1, n2, n3].getD (Int.toNat 3) 0) = n3 from rfl]
            obtain ⟨vt, tt, het, hst, htt, hez⟩ := tail_val (fmod2 (n3.fdiv 4)) tk5
            rename Fr _ _ _ _ => F6
            rename News _ _ _ _ => N6
            refine KMa.mul F6 N6 (vs := [Value.str (Str.ofString "") tk5]) (N6.isList (.head _)) (by omega) (by omega) (by simp only [List.length_cons, List.length_nil]; omega) het ?_
            intro tlA h' F' N' _
            clear F6 N6
            repeat (rename _ ∧ _ => q; clear q)
            (try k_sweep)
            (try dsimp only)
            k_steps
            refine stop_go (assign_two (by with_unfolding_all rfl) (by with_unfolding_all rfl) (by decide) (by rfl) (by decide) (by rfl) (by rfl) (by decide) (fun _ => by rfl) (fun _ _ => by rfl) rfl (by rfl) (by rfl) ?_)
            k_steps
            rename Fr _ _ _ _ => F6
            rename News _ _ _ _ => N6
            refine stop_go ⟨_, _, pickW v0 v1 B, _, _, s.heap, _, _, rfl, rfl, turn_words (fun _ => rfl) (fun _ => by rfl) (fun _ => by rfl) (by rfl) (N6 _ (.tail _ (.tail _ (.tail _ (.tail _ (.tail _ (.tail _ (.tail _ (.tail _ (.tail _ (.tail _ (.head _)))))))))))).1 (by assumption) (N6.isList (.tail _ (.tail _ (.tail _ (.tail _ (.tail _ (.tail _ (.head _)))))))) (N6.isList (.tail _ (.tail _ (.tail _ (.tail _ (.tail _ (.tail _ (.tail _ (.tail _ (.head _)))))))))) (N6.isList (.tail _ (.tail _ (.tail _ (.tail _ (.tail _ (.tail _ (.tail _ (.head _))))))))) (N6.isList (.tail _ (.tail _ (.head _)))) hB B01 (by omega) (by omega) (by omega), F6, N6, ?_⟩
            intro Dn h' tk' F' N' _
            have hvn := flat_words sx sy B
            rw [← lB] at hvn
            rw [List.size_toArray] at N'
            generalize (List.range ws.length).flatMap (pickW v0 v1 B) = vn at hvn N'
            clear F6 N6
            (try dsimp only)
            have hxn : Nms x := by rw [← hx]; exact wordOf_nms _
            have hyn : Nms y := by rw [← hy]; exact wordOf_nms _
            have hstn := star_nms hxn hyn B
            have hsl := star_len_le lx ly B
            have lvn := strsAre_length hvn
            have lvt := strsAre_length hst
            have ltt : tt.length ≤ 1 := by rcases htt with rfl | rfl <;> simp
            have hgo : Good (star x y B ++ tt) := ⟨_, tt, rfl, hstn, htt⟩
            have hvv := sa_append hvn hst
            replace hgo := Hid.mk hgo
            replace hvv := Hid.mk hvv
            replace hxn := Hid.mk hxn
            replace hyn := Hid.mk hyn
            replace hstn := Hid.mk hstn
            replace htt := Hid.mk htt
            replace hc0 := Hid.mk hc0
            replace hc1 := Hid.mk hc1
            k_steps
            refine stop_go (LCg.ListComp_U (F₀ := by k_asm) (by with_unfolding_all rfl) (by decide) (by rfl) (by decide) (by rfl) ?_)
            k_steps
            rename Fr _ _ _ _ => F6
            rename News _ _ _ _ => N6
            refine stop_go (LCg.CompSrc.ledger (its := (vn ++ vt).toArray) rfl F6 N6 (.head _) (by rw [List.size_toArray, List.length_append, sizeLine_eq]; omega) (fun g => restU (fun i ys => StrsAre ys ((pref (star x y B ++ tt)).take i)) .nil ?tturn ?tfin))
            case tturn =>
              intro i v I oI C oC Dq m₂ ys h tk E' hi hP hR hC hx' F N off ne
              obtain ⟨z, t, hz, rfl⟩ := strsAre_get hvv.out (by simpa using hP)
              have hzl : z.length ≤ 2 := hgo.out.two z (List.mem_of_getElem? hz)
              have off0 := Hid.mk off
              clear F6 N6 off ne hP
              k_steps
              exact stop_go (LCg.CompEnd.intro (by assumption) (by assumption) _ (fun _ h => h) off0.out (.inr ⟨_, .head _, rfl, _, rfl⟩) ⟨rfl, pref_snoc hR hz⟩)
            case tfin =>
              intro ys hys
              intro Db h' tk' F' N' o1
              clear F6 N6 o1
              rw [List.take_of_length_le (by unfold pref; rw [List.length_map, List.length_append, List.size_toArray, List.length_append]; omega)] at hys
              obtain ⟨lp, rfl, hlp⟩ := strsAre_values hys
              have hjo := joinOk_pref hgo.out.two (by rw [List.length_append]; omega)
              (try dsimp only)
              k_steps
              rename News _ _ _ _ => N6
              refine SC.join (N6.isList (.head _)) hlp hjo ?_
              intro tT kT
              rw [join_pref]
              generalize hT : pathT (star x y B ++ tt) = T at *
              have hTl : T.length ≤ 1000 := by rw [← hT]; have := path_len hgo.out.two; rw [List.length_append] at this; omega
              rename Fr _ _ _ _ => F6
              have N7 : News s.heap _ _ (_ :: _ :: _ :: _ :: _ :: _ :: _ :: _ :: _ :: _ :: _ :: _ :: [_]) := fun p hp => N6 p (keepNames p hp)
              clear N6 hjo hlp
              (try dsimp only)
              k_steps
              rename Fr _ _ _ _ => F8
              rename News _ _ _ _ => N8
              rename (_ == sysModules) = false => lo
              obtain ⟨dA, edA⟩ : ∃ a, a = adrAt N8 0 := ⟨_, rfl⟩
              dsimp only [adrAt, adrOf] at edA
              dsimp only at F8 N8 lo ⊢
              rename _ ∧ _ => lt8
              (try dsimp only at lt8)
              rw [← edA] at F8 lo lt8
              rw [← edA] at N8
              rename Obj.IsDictOf _ _ _ => hdo
              clear W
              have hne : AllNe dA (newsOf N8).tail := by
                dsimp only [newsOf, List.tail]
                simp only [AllNe, and_true]
                omega
              refine stop_go ⟨tlA, Dn, dA, vt, vn, tt, _, tT, tT, ‹StrsAre vt tt›, htt.out, ‹StrsAre vn (star x y B)›, ?_, lo, rfl, _, _, _, rfl, F8, fun p hp => ?_, N8, hne⟩
              · rw [hT]; exact hdo
              · rw [hT] at hp
                simp only [List.mem_cons, List.not_mem_nil, or_false] at hp
                rcases hp with rfl | rfl | rfl | rfl | rfl | rfl | rfl <;> with_unfolding_all rfl
          case r5 =>
            rintro f s' ⟨tlA, Dn, dA, vt, vn, tt, o, t1, t2, hst, htt, hvn, hdo, lo, rfl, h6, tk6, m6, rfl, F6, hms6, N6, ne6⟩
            dsimp only [frL, newsOf] at F6 N6 ne6 ⊢
            clear F5 N5 hms5 hcn hb5 ht5
            have e1 := hms6 _ (.head _)
            have e2 := hms6 _ (.tail _ (.head _))
            have e3 := hms6 _ (.tail _ (.tail _ (.head _)))
            have e4 := hms6 _ (.tail _ (.tail _ (.tail _ (.head _))))
            have e5 := hms6 _ (.tail _ (.tail _ (.tail _ (.tail _ (.head _)))))
            have e6 := hms6 _ (.tail _ (.tail _ (.tail _ (.tail _ (.tail _ (.head _))))))
            have e7 := hms6 _ (.tail _ (.tail _ (.tail _ (.tail _ (.tail _ (.tail _ (.head _)))))))
            dsimp only at e1 e2 e3 e4 e5 e6 e7
            have em := m_seven e1 e2 e3 e4 e5 e6 e7
            clear e1 e2 e3 e4 e5 e6 e7 hms6
            rw [em] at F6
            clear em
            obtain ⟨cN, rfl, hcN0, hcN1⟩ : ∃ cN : Nat, cnt = (cN : Int) ∧ (x ++ y = y ++ x → cN = 0) ∧ (x ++ y ≠ y ++ x → cN = 2 + ms.length) := by
              by_cases e : x ++ y = y ++ x
              · exact ⟨0, hc0 e, fun _ => rfl, fun k => absurd e k⟩
              · exact ⟨2 + ms.length, hc1 e, fun k => absurd k e, fun _ => rfl⟩
            clear hc0 hc1
            have hcB : cN + 2 ≤ B.length := by
              by_cases e : x ++ y = y ++ x
              · rw [hcN0 e]; omega
              · rw [hcN1 e]; omega
            obtain ⟨cb1, cb2⟩ := cut_bits hBB
            have ebl : (B.take cN).length = cN := by rw [List.length_take]; omega
            have hfe : B.take cN ≠ [] → x ++ y ≠ y ++ x ∧ x.length + y.length ≤ (star x y (B.drop cN)).length := by
              intro hne
              have e : x ++ y ≠ y ++ x := fun e => hne (by rw [hcN0 e]; rfl)
              refine ⟨e, ?_⟩
              rw [hcN1 e, cb1, star_two hb0]
              exact Nat.le_refl _
            have hxn : Nms x := by rw [← hx]; exact wordOf_nms _
            have hyn : Nms y := by rw [← hy]; exact wordOf_nms _
            have hsl := star_len_le lx ly B
            have ltt : tt.length ≤ 1 := by rcases htt with rfl | rfl <;> simp
            have hgo : Good (star x y B ++ tt) := ⟨_, tt, rfl, star_nms hxn hyn B, htt⟩
            have eB : star x y B = star x y (B.take cN ++ B.drop cN) := by rw [List.take_append_drop]
            replace hgo := Hid.mk hgo
            replace hxn := Hid.mk hxn
            replace hyn := Hid.mk hyn
            replace htt := Hid.mk htt
            replace hfe := Hid.mk hfe
            replace eB := Hid.mk eB
            replace cb1 := Hid.mk cb1
            replace cb2 := Hid.mk cb2
            replace hBB := Hid.mk hBB
            replace hvn := Hid.mk hvn
            replace hst := Hid.mk hst
            replace hcN0 := Hid.mk hcN0
            replace hcN1 := Hid.mk hcN1
            replace ne6 := Hid.mk ne6
            k_steps
            have hdn := N6 _ (.head _)
            have W8 : Wd w mean mg mb (hideAll h6 [dA]) := W.keeps (hide_keeps F6.keep (by simpa using hdn.2.2))
            have hneA : ∀ {a : Addr} {o' : Obj}, (a, o') ∈ (newsOf N6).tail → @Ne Nat a dA := fun {a o'} h => ne6.out.all (a, o') h
            rw [show ((cN : Nat) : Int) = (((B.take cN).length : Nat) : Int) by rw [ebl]]
            refine stop_go (wpAny_call (codeAny_lv (c_forward (hb := hideAll h6 [dA]) (bs := B.take cN) (cs := B.drop cN) (t := tt) W8 (hide_stays _ _) hdn.1 (hideAll_none _ (by simp)) lo (.inl ⟨rfl, t1, by rw [← eB.out]; exact hdo⟩) (hide_list (N6.isList (.tail _ (.tail _ (.tail _ (.tail _ (.tail _ (.tail _ (.tail _ (.head _))))))))) (hneA (.tail _ (.tail _ (.tail _ (.tail _ (.tail _ (.tail _ (.head _))))))))) (hide_list (N6.isList (.tail _ (.tail _ (.tail _ (.tail _ (.tail _ (.tail _ (.tail _ (.tail _ (.tail _ (.head _))))))))))) (hneA (.tail _ (.tail _ (.tail _ (.tail _ (.tail _ (.tail _ (.tail _ (.tail _ (.head _))))))))))) sx (hide_list (N6.isList (.tail _ (.tail _ (.tail _ (.tail _ (.tail _ (.tail _ (.tail _ (.tail _ (.head _)))))))))) (hneA (.tail _ (.tail _ (.tail _ (.tail _ (.tail _ (.tail _ (.tail _ (.head _)))))))))) sy (by omega) (by omega) hxn.out hyn.out htt.out hx0 hy0 hfe.out (fun b hb => B01 b (List.mem_of_mem_take hb)) (by rw [← eB.out, List.length_append]; omega) (by omega) ?_) rfl (Nat.le_of_ble_eq_true rfl) (Nat.le_of_ble_eq_true rfl)))
            intro h' tk' oe rf vf kf hBt hoe henv hfr hrf hvf
            obtain ⟨F', N', lq⟩ := newsBut (pre := []) F6 N6 hBt hoe trivial ne6.out hfr hrf
            clear lq
            clear F6 N6 hBt hoe hfr hrf hneA W8 hdn hdo
            replace henv := Hid.mk henv
            (try k_sweep)
            (try dsimp only)
            simp only [List.nil_append] at N'
            k_steps
            rename Fr _ _ _ _ => F6
            rename News _ _ _ _ => N6
            refine stop_go (slice_led (s := ⟨_, _, _, _, _⟩) F6 N6 (N6.isList (.tail _ (.tail _ (.tail _ (.tail _ (.head _)))))) IsPart.none (IsPart.int _ _) ?_ (by rw [List.size_toArray, sizeLine_eq]; omega) (by with_unfolding_all rfl) (by intro _; with_unfolding_all rfl))
            intro rs h' F' N' lq
            clear lq F6 N6
            rw [slicePick_upto _ _ (by rw [List.size_toArray]; omega)] at N'
            (try k_sweep)
            (try dsimp only)
            k_steps
            rename Fr _ _ _ _ => F6
            rename News _ _ _ _ => N6
            refine stop_go (ne_lists ordI (N6.isList (.tail _ (.head _))) (N6.isList (.head _)) (repI_ints.mp hvf) (repI_ints.mp (ints_take hB cN)) (Nat.le_of_ble_eq_true rfl) ?_)
            rw [decide_eq_true rfl]
            have N7 : News s.heap _ _ (_ :: _ :: _ :: _ :: _ :: _ :: _ :: _ :: _ :: _ :: _ :: _ :: _ :: [_]) := fun p hp => N6 p (.tail _ (.tail _ hp))
            clear N6
            k_steps
            refine stop_go (comp_two (by with_unfolding_all rfl) (by decide) (by rfl) (by decide) (by rfl) (by rfl) (by decide) (fun _ => by rfl) (fun _ _ => by rfl) rfl ?_)
            k_steps
            rename Fr _ _ _ _ => F6
            rename News _ _ _ _ => N6
            refine stop_go (slice_led (s := ⟨_, _, _, _, _⟩) F6 N6 (N6.isList (.tail _ (.tail _ (.tail _ (.head _))))) (IsPart.int _ _) IsPart.none ?_ (by rw [List.size_toArray, sizeLine_eq]; omega) (by with_unfolding_all rfl) (by intro _; with_unfolding_all rfl))
            intro rs2 h' F' N' lq
            clear lq F6 N6
            rw [slicePick_from _ _ (by rw [List.size_toArray]; omega)] at N'
            (try k_sweep)
            (try dsimp only)
            k_steps
            rename Fr _ _ _ _ => F6
            rename News _ _ _ _ => N6
            have hBd := ints_drop hB cN
            have lBd : (B.drop cN).length ≤ 6 := by rw [List.length_drop]; omega
            refine stop_go ⟨rs2, (List.drop cN ws).toArray, pickW v0 v1 (B.drop cN), _, _, rfl, rfl, turn_words (fun _ => rfl) (fun _ => by rfl) (fun _ => by rfl) (by rfl) (N6 _ (.tail _ (.tail _ (.tail _ (.tail _ (.tail _ (.tail _ (.tail _ (.tail _ (.tail _ (.tail _ (.tail _ (.tail _ (.head _)))))))))))))).1 (by assumption) (N6.isList (.tail _ (.tail _ (.tail _ (.tail _ (.tail _ (.tail _ (.tail _ (.tail _ (.head _)))))))))) (N6.isList (.tail _ (.tail _ (.tail _ (.tail _ (.tail _ (.tail _ (.tail _ (.tail _ (.tail _ (.tail _ (.head _)))))))))))) (N6.isList (.tail _ (.tail _ (.tail _ (.tail _ (.tail _ (.tail _ (.tail _ (.tail _ (.tail _ (.head _))))))))))) (N6.isList (.head _)) hBd (fun b hb => B01 b (List.mem_of_mem_drop hb)) (by omega) (by omega) (by omega), ?_⟩
            intro Dr h' tk' st' fr' hr'
            have hvr := flat_words sx sy (B.drop cN)
            have lvr := strsAre_length hvr
            have hsr := star_len_le lx ly (B.drop cN)
            rw [← ints_len hBd] at hvr lvr
            rw [List.size_toArray] at hr'
            generalize (List.range (List.drop cN ws).length).flatMap (pickW v0 v1 (B.drop cN)) = vr at hvr lvr hr'
            have F' := frStay F6 st'
            obtain ⟨N', lq⟩ := newsNew F6 N6 st' fr' hr'
            have N7 : News s.heap _ _ (_ :: _ :: _ :: _ :: _ :: _ :: _ :: _ :: _ :: _ :: _ :: _ :: _ :: _ :: [_]) := fun p hp => N' p (keep1of2 p hp)
            clear lq F6 N6 N' st' fr' hr' hBd
            have hvt := hst.out
            have lvt := strsAre_length hvt
            (try k_sweep)
            (try dsimp only)
            k_steps
            rename News _ _ _ _ => N6
            refine call_len_list (N6.isList (.head _)) (by rw [List.size_toArray, List.length_append]; omega) ?_
            rw [List.size_toArray]
            have hvrt := sa_append ‹StrsAre vr (star x y (B.drop cN))› ‹StrsAre vt tt›
            rw [strsAre_length hvrt]
            replace hvrt := Hid.mk hvrt
            have hall : star x y (B.take cN) ++ (star x y (B.drop cN) ++ tt) = star x y B ++ tt := by
              rw [← List.append_assoc, ← star_append, List.take_append_drop]
            have hBne : B ≠ [] := by intro e; rw [e] at lBB; simp at lBB; omega
            have h0s : ∃ z r, star x y B ++ tt = z :: r ∧ Nm z := by
              obtain ⟨z, r, e⟩ := List.exists_cons_of_ne_nil (star_ne hx0 hy0 hBne)
              exact ⟨z, r ++ tt, by rw [e, List.cons_append], star_nms hxn.out hyn.out B z (by rw [e]; exact .head _)⟩
            replace hall := Hid.mk hall
            replace h0s := Hid.mk h0s
            k_steps
            rename Fr _ _ _ _ => F6
            rename News _ _ _ _ => N6
            obtain ⟨rt, ert⟩ : ∃ a, a = adrAt N6 0 := ⟨_, rfl⟩
            dsimp only [adrAt, adrOf] at ert
            (try dsimp only at F6 ⊢)
            rw [← ert] at F6
            rw [← ert] at N6
            clear ert
            have hdn := N6 _ (.tail _ (.tail _ (.head _)))
            obtain ⟨tq, restq, hdict⟩ := envHead henv.out
            have nd1 := ne_dict_list N6 (.head _) (.tail _ (.tail _ (.head _))) hdict
            have nd2 := ne_dict_list N6 (.tail _ (.head _)) (.tail _ (.tail _ (.head _))) hdict
            refine stop_go (wpAny_call (codeAny_lv (c_shifted (hb := hideAll _ [dA]) (done := star x y (B.take cN)) (xs := star x y (B.drop cN) ++ tt) (ys := []) (W.keeps (hide_keeps F6.keep (by simpa using hdn.2.2))) (hide_stays _ _) hdn.1 (hideAll_none _ (by simp)) lo (by rw [List.append_nil]; exact henv.out) (by rw [List.append_nil, hall.out]; exact hgo.out) (by rw [List.append_nil, hall.out]; exact h0s.out) (by rw [List.append_nil, hall.out, List.length_append]; omega) ?_) rfl (Nat.le_of_ble_eq_true rfl) (Nat.le_of_ble_eq_true rfl)))
            intro h' tk' og rg vg kg hBt hog henv2 hfr hrg hvg
            obtain ⟨F', N', lq⟩ := newsBut (pre := [_, _]) F6 N6 hBt hog ⟨nd1.symm, nd2.symm, trivial⟩ ne6.out hfr hrg
            clear lq F6 N6 hBt hog hfr hrg hdn hdict nd1 nd2 henv
            rw [hall.out] at henv2
            have hdg : ∃ ta tb, og.IsDictOf (strKind P0 w) [(Str.ofString "PATH_INFO", .str (Str.ofString "") ta), (Str.ofString "SCRIPT_NAME", .str (pathT (star x y B ++ tt)) tb)] := by
              rcases henv2 with ⟨e, _⟩ | ⟨_, ta, tb, hd⟩
              · obtain ⟨z, r, e2, _⟩ := h0s.out
                rw [e2] at e; cases e
              · rw [pathT_nil] at hd; exact ⟨ta, tb, hd⟩
            clear henv2
            obtain ⟨tg1, tg2, hdg⟩ := hdg
            (try k_sweep)
            (try dsimp only)
            simp only [List.nil_append, List.cons_append] at N'
            k_steps
            rename Fr _ _ _ _ => F6
            rename News _ _ _ _ => N6
            refine stop_go (ne_lists ordS (N6.isList (.head _)) (N6.isList (.tail _ (.head _))) (repS_strs.mp hvg) (repS_strs.mp hvrt.out) (Nat.le_of_ble_eq_true rfl) ?_)
            rw [decide_eq_true rfl]
            k_steps
            rename Fr _ _ _ _ => F6
            rename News _ _ _ _ => N6
            have hdn := N6 _ (.tail _ (.tail _ (.tail _ (.head _))))
            refine stop_go (wpAny_call (codeAny_lv (c_shiftN (hb := hideAll _ [dA]) (W.keeps (hide_keeps F6.keep (by simpa using hdn.2.2))) (hide_stays _ _) hdn.1 (hideAll_none _ (by simp)) lo hdg ?_) rfl (Nat.le_of_ble_eq_true rfl) (Nat.le_of_ble_eq_true rfl)))
            intro h' tk' st'
            have F' := frStay F6 st'
            have N' := newsStay N6 st'
            have N7 : News s.heap _ _ (_ :: _ :: _ :: _ :: _ :: _ :: _ :: _ :: _ :: _ :: _ :: _ :: _ :: [_]) := fun p hp => N' p (.tail _ (.tail _ (.tail _ hp)))
            clear F6 N6 N' st' hdn
            (try k_sweep)
            (try dsimp only)
            k_steps
            rename Fr _ _ _ _ => F6
            rename News _ _ _ _ => N6
            rename (_ == sysModules) = false => loz
            rename Obj.IsDictOf _ _ _ => hdz
            refine stop_go (kne_pairs (r := true) (knd := PySem.strKind _ _) N6 (.tail _ (.head _)) (.head _) hdg hdz lo loz rfl (Nat.le_of_ble_eq_true rfl) (KeqHits.hit (e := true) (by rfl) (eqS_self _ _ _ _ _) (KeqHits.hit (e := true) (by rfl) (eqS_self _ _ _ _ _) .nil)) ?_)
            have N7 : News s.heap _ _ (_ :: _ :: _ :: _ :: _ :: _ :: _ :: _ :: _ :: _ :: _ :: _ :: _ :: [_]) := fun p hp => N6 p (.tail _ hp)
            clear N6 loz hdz
            repeat (rename _ ∧ _ => q; clear q)
            (try k_sweep)
            (try dsimp only)
            have hvt2 := hst.out
            have lvt2 : vt.length ≤ 1 := by rw [strsAre_length hvt2]; exact ltt
            k_steps
            obtain ⟨z, r, eS⟩ := List.exists_cons_of_ne_nil (star_ne hx0 hy0 hBne)
            have hz : Nm z := star_nms hxn.out hyn.out B z (by rw [eS]; exact .head _)
            have hgt : Good (z :: r ++ tt) := by rw [← eS]; exact hgo.out
            have hlt2 : (z :: r ++ tt).length ≤ 60 := by rw [← eS, List.length_append]; omega
            replace hgt := Hid.mk hgt
            replace hz := Hid.mk hz
            replace eS := Hid.mk eS
            rename Fr _ _ _ _ => F6
            rename News _ _ _ _ => N6
            rw [eS.out]
            (try rw [List.size_toArray])
            (try rw [strsAre_length hst.out])
            refine stop_go (wpAny_call (codeAny_lv (c_taken (y := z) (ks := r) (xs := tt) (W.keeps F6.keep) hz.out hgt.out hlt2 ?_) rfl (Nat.le_of_ble_eq_true rfl) (Nat.le_of_ble_eq_true rfl)))
            intro h' tk' p1 p2 ve kk1 kk2 tpl st' f1 f2 g1 g2 hve
            obtain ⟨N', lq, lq2⟩ := newsTwo F6 N6 st' f1 f2 g1 g2 (pair_ne hve g1 g2)
            have F' := frStay F6 st'
            clear F6 N6 lq lq2 st' f1 f2 g1 g2
            rw [← eS.out] at N'
            replace hve := Hid.mk hve
            (try k_sweep)
            (try dsimp only)
            k_steps
            rename Fr _ _ _ _ => F6
            rename News _ _ _ _ => N6
            have hcN1' : x ++ y ≠ y ++ x → cN + 2 = B.length := fun e => by rw [hcN1.out e]; omega
            have hbk := back_fact hcB ha0 cb2.out hcN0.out hcN1'
            replace hbk := Hid.mk hbk
            have hBr : star x y B = (star x.reverse y.reverse ((B.drop (B.length - cN)).reverse ++ (B.take (B.length - cN)).reverse)).reverse := by
              rw [← List.reverse_append, List.take_append_drop, star_rev, List.reverse_reverse]
            have hbl : ((B.drop (B.length - cN)).reverse).length = cN := by rw [List.length_reverse, List.length_drop]; omega
            rw [show pathT (star x y B) = pathT (star x.reverse y.reverse ((B.drop (B.length - cN)).reverse ++ (B.take (B.length - cN)).reverse)).reverse by rw [← hBr]]
            rw [show ((cN : Nat) : Int) = (((B.drop (B.length - cN)).reverse.length : Nat) : Int) by rw [hbl]]
            refine stop_go (wpAny_call (codeAny_lv (c_backward (x := x.reverse) (y := y.reverse) (bs := (B.drop (B.length - cN)).reverse) (cs := (B.take (B.length - cN)).reverse) (W.keeps F6.keep) (N6.isList (.tail _ (.tail _ (.tail _ (.tail _ (.tail _ (.tail _ (.head _)))))))) (N6.isList (.tail _ (.tail _ (.tail _ (.tail _ (.tail _ (.tail _ (.tail _ (.tail _ (.head _)))))))))) (sa_reverse sx) (N6.isList (.tail _ (.tail _ (.tail _ (.tail _ (.tail _ (.tail _ (.tail _ (.head _))))))))) (sa_reverse sy) (by rw [List.length_reverse]; omega) (by rw [List.length_reverse]; omega) (fun q hq => hxn.out q (List.mem_reverse.mp hq)) (fun q hq => hyn.out q (List.mem_reverse.mp hq)) (fun e => hx0 (List.reverse_eq_nil_iff.mp e)) (fun e => hy0 (List.reverse_eq_nil_iff.mp e)) hbk.out (fun e => by have := congrArg List.length e; rw [List.length_reverse, List.length_take, List.length_nil] at this; omega) (fun b hb => B01 b (List.mem_of_mem_drop (List.mem_reverse.mp hb))) (by rw [← List.length_reverse (as := star _ _ _), ← hBr]; omega) (by omega) ?_) rfl (Nat.le_of_ble_eq_true rfl) (Nat.le_of_ble_eq_true rfl)))
            intro h' tk' p3 p4 vm kk3 kk4 tph st' f1 f2 g1 g2 hvm
            obtain ⟨N', lq, lq2⟩ := newsTwo F6 N6 st' f1 f2 g1 g2 (pair_neI hvm g1 g2)
            have F' := frStay F6 st'
            clear F6 N6 lq lq2 st' f1 f2 g1 g2
            rw [star_rev, List.reverse_reverse] at N'
            have N8 : News s.heap _ _ (_ :: _ :: _ :: _ :: _ :: _ :: _ :: _ :: _ :: _ :: _ :: _ :: _ :: _ :: _ :: [_]) := fun p hp => N' p (keepBack p hp)
            clear N'
            replace hBr := Hid.mk hBr
            (try k_sweep)
            (try dsimp only)
            k_steps
            refine stop_go (assign_two (by with_unfolding_all rfl) (by with_unfolding_all rfl) (by decide) (by rfl) (by decide) (by rfl) (by rfl) (by decide) (fun _ => by rfl) (fun _ _ => by rfl) rfl (by rfl) (by rfl) ?_)
            k_steps
            rename Fr _ _ _ _ => F6
            rename News _ _ _ _ => N6
            refine stop_go (slice_led (s := ⟨_, _, _, _, _⟩) F6 N6 (N6.isList (.tail _ (.tail _ (.tail _ (.tail _ (.tail _ (.head _))))))) IsPart.none (IsPart.int _ _) ?_ (by rw [List.size_toArray, sizeLine_eq]; omega) (by with_unfolding_all rfl) (by intro _; with_unfolding_all rfl))
            intro rs3 h' F' N' lq
            clear lq F6 N6
            rw [slice_upto_at (n := B.length - cN) (by (try simp only [List.size_toArray]); omega) (by rw [List.size_toArray]; omega)] at N'
            (try k_sweep)
            (try dsimp only)
            k_steps
            rename Fr _ _ _ _ => F6
            rename News _ _ _ _ => N6
            have hBt := ints_take hB (B.length - cN)
            have lBt : (B.take (B.length - cN)).length ≤ 6 := by rw [List.length_take]; omega
            refine stop_go ⟨rs3, (List.take (B.length - cN) ws).toArray, pickW v0 v1 (B.take (B.length - cN)), _, _, s.heap, _, _, rfl, rfl, turn_words (fun _ => rfl) (fun _ => by rfl) (fun _ => by rfl) (by rfl) (N6 _ (.tail _ (.tail _ (.tail _ (.tail _ (.tail _ (.tail _ (.tail _ (.tail _ (.tail _ (.tail _ (.tail _ (.tail _ (.tail _ (.tail _ (.head _)))))))))))))))).1 (by assumption) (N6.isList (.tail _ (.tail _ (.tail _ (.tail _ (.tail _ (.tail _ (.tail _ (.tail _ (.tail _ (.tail _ (.head _)))))))))))) (N6.isList (.tail _ (.tail _ (.tail _ (.tail _ (.tail _ (.tail _ (.tail _ (.tail _ (.tail _ (.tail _ (.tail _ (.tail _ (.head _)))))))))))))) (N6.isList (.tail _ (.tail _ (.tail _ (.tail _ (.tail _ (.tail _ (.tail _ (.tail _ (.tail _ (.tail _ (.tail _ (.head _))))))))))))) (N6.isList (.head _)) hBt (fun b hb => B01 b (List.mem_of_mem_take hb)) (by omega) (by omega) (by omega), F6, N6, ?_⟩
            intro Ds h' tk' F' N' lq
            have hvs := flat_words sx sy (B.take (B.length - cN))
            have lvs := strsAre_length hvs
            rw [← ints_len hBt] at hvs lvs
            rw [List.size_toArray] at N'
            generalize (List.range (List.take (B.length - cN) ws).length).flatMap (pickW v0 v1 (B.take (B.length - cN))) = vy at hvs lvs N'
            have N7 : News s.heap _ _ (_ :: _ :: _ :: _ :: _ :: _ :: _ :: _ :: _ :: _ :: _ :: _ :: _ :: _ :: _ :: _ :: [_]) := fun p hp => N' p (keep1of2 p hp)
            clear lq F6 N6 N' hBt
            have hBtn : B.take (B.length - cN) ≠ [] := by intro e; have := congrArg List.length e; rw [List.length_take, List.length_nil] at this; omega
            obtain ⟨z2, r2, eS2⟩ := List.exists_cons_of_ne_nil (star_ne hx0 hy0 hBtn)
            have ezz : z2 = z := by
              have e := eS.out
              rw [← List.take_append_drop (B.length - cN) B, star_append, eS2, List.cons_append] at e
              exact (List.cons.inj e).1
            subst ezz
            have hst2 := star_len_le lx ly (B.take (B.length - cN))
            have lvy : vy.length = r2.length + 1 := by rw [lvs, eS2]; rfl
            have lr2 : r2.length + 1 ≤ 24 := by rw [eS2, List.length_cons] at hst2; omega
            replace eS2 := Hid.mk eS2
            replace hvs := Hid.mk hvs
            (try k_sweep)
            (try dsimp only)
            k_steps
            rename News _ _ _ _ => N6
            refine call_len_list (N6.isList (.head _)) (by rw [List.size_toArray]; omega) ?_
            rw [List.size_toArray, lvy]
            k_steps
            have hg2 : Good (z2 :: [] ++ r2) := ⟨_, [], by rw [List.append_nil], by
              have := star_nms hxn.out hyn.out (B.take (B.length - cN))
              rw [eS2.out] at this
              exact this, .inl rfl⟩
            replace hg2 := Hid.mk hg2
            rename Fr _ _ _ _ => F6
            rename News _ _ _ _ => N6
            rw [eS2.out]
            rw [show (((r2.length + 1 : Nat) : Int) - 1) = ((r2.length : Nat) : Int) by omega]
            refine stop_go (wpAny_call (codeAny_lv (c_taken (y := z2) (ks := []) (xs := r2) (W.keeps F6.keep) hz.out hg2.out (by simp only [List.cons_append, List.nil_append, List.length_cons]; omega) ?_) rfl (Nat.le_of_ble_eq_true rfl) (Nat.le_of_ble_eq_true rfl)))
            intro h' tk' p5 p6 vg2 kk5 kk6 tpf st' f1 f2 g1 g2 hvg2
            obtain ⟨N', lq, lq2⟩ := newsTwo F6 N6 st' f1 f2 g1 g2 (pair_ne hvg2 g1 g2)
            have F' := frStay F6 st'
            clear F6 N6 lq lq2 st' f1 f2 g1 g2
            replace hvg2 := Hid.mk hvg2
            (try k_sweep)
            (try dsimp only)
            k_steps
            have ett : tt.reverse = tt := by rcases htt.out with rfl | rfl <;> rfl
            rename News _ _ _ _ => N6
            have hve' := hve.out
            rw [ett] at hve'
            refine stop_go (ne_lists ordS (N6.isList (.tail _ (.tail _ (.tail _ (.tail _ (.tail _ (.head _))))))) (N6.isList (.tail _ (.tail _ (.tail _ (.tail _ (.tail _ (.tail _ (.tail _ (.head _))))))))) (repS_strs.mp hve') (repS_strs.mp hst.out) (Nat.le_of_ble_eq_true rfl) ?_)
            rw [decide_eq_true rfl]
            clear hve'
            k_steps
            rename Fr _ _ _ _ => F6
            rename News _ _ _ _ => N6
            refine stop_go (rev_led (s := ⟨_, _, _, _, _⟩) F6 N6 (N6.isList (.tail _ (.tail _ (.tail _ (.tail _ (.tail _ (.tail _ (.tail _ (.tail _ (.head _)))))))))) ?_ (by with_unfolding_all rfl) (by intro _; with_unfolding_all rfl) (by rw [List.size_toArray, sizeLine_eq]; omega))
            intro rv1 h' F' N' lq
            clear lq F6 N6
            (try k_sweep)
            (try dsimp only)
            k_steps
            rename Fr _ _ _ _ => F6
            rename News _ _ _ _ => N6
            refine stop_go (slice_led (s := ⟨_, _, _, _, _⟩) F6 N6 (N6.isList (.head _)) IsPart.none (IsPart.int _ _) ?_ (by rw [List.size_toArray, List.length_reverse, sizeLine_eq]; simp only [List.size_toArray]; omega) (by with_unfolding_all rfl) (by intro _; with_unfolding_all rfl))
            intro rv2 h' F' N' lq
            clear lq F6 N6
            rw [slicePick_upto _ _ (by rw [List.size_toArray, List.length_reverse]; simp only [List.size_toArray]; omega)] at N'
            have N7 : News s.heap _ _ (_ :: _ :: _ :: _ :: _ :: _ :: _ :: _ :: _ :: _ :: _ :: _ :: _ :: _ :: _ :: _ :: _ :: _ :: _ :: [_]) := fun p hp => N' p (keep1of2 p hp)
            clear N'
            (try k_sweep)
            (try dsimp only)
            k_steps
            rename News _ _ _ _ => N6
            have hvb := back_ints (cN := cN) hB
            refine stop_go (ne_lists ordI (N6.isList (.tail _ (.tail _ (.tail _ (.tail _ (.tail _ (.head _))))))) (N6.isList (.head _)) (repI_ints.mp hvm) (repI_ints.mp hvb) (Nat.le_of_ble_eq_true rfl) ?_)
            rw [decide_eq_true rfl]
            clear hvb
            have N7 := news_tail N6
            clear N6
            k_steps
            rename Fr _ _ _ _ => F6
            rename News _ _ _ _ => N6
            have hvs' := hvs.out
            rw [eS2.out] at hvs'
            obtain ⟨vq2, evq, hvq⟩ := tail_slice hvs'
            refine stop_go (slice_led (s := ⟨_, _, _, _, _⟩) F6 N6 (N6.isList (.tail _ (.tail _ (.head _)))) (IsPart.int _ _) IsPart.none ?_ (by rw [List.size_toArray, sizeLine_eq]; omega) (by with_unfolding_all rfl) (by intro _; with_unfolding_all rfl))
            intro rv3 h' F' N' lq
            clear lq F6 N6
            rw [evq] at N'
            clear evq hvs'
            have lvq := strsAre_length hvq
            replace hvq := Hid.mk hvq
            (try k_sweep)
            (try dsimp only)
            k_steps
            rename Fr _ _ _ _ => F6
            rename News _ _ _ _ => N6
            refine stop_go (rev_led (s := ⟨_, _, _, _, _⟩) F6 N6 (N6.isList (.head _)) ?_ (by with_unfolding_all rfl) (by intro _; with_unfolding_all rfl) (by rw [List.size_toArray, sizeLine_eq]; omega))
            intro rv4 h' F' N' lq
            clear lq F6 N6
            (try k_sweep)
            (try dsimp only)
            k_steps
            rename News _ _ _ _ => N6
            refine stop_go (ne_lists ordS (N6.isList (.tail _ (.tail _ (.tail _ (.head _))))) (N6.isList (.head _)) (repS_strs.mp hvg2.out) (repS_strs.mp (sa_reverse hvq.out)) (Nat.le_of_ble_eq_true rfl) ?_)
            rw [decide_eq_true rfl]
            have N7 := news_tail (news_tail N6)
            clear N6
            k_steps
            rename Fr _ _ _ _ => F6
            rename News _ _ _ _ => N6
            refine stop_go (wpAny_call (codeAny_lv (c_common0 (W.keeps F6.keep) (N6.isList (.head _)) ?_) rfl (Nat.le_of_ble_eq_true rfl) (Nat.le_of_ble_eq_true rfl)))
            intro h' tk' tce st'
            have F' := frStay F6 st'
            have N' := newsStay N6 st'
            clear F6 N6 st'
            (try k_sweep)
            (try dsimp only)
            k_steps
            rename News _ _ _ _ => N6
            obtain ⟨tz, vn', evn⟩ : ∃ tz vn', vn = Value.str z2 tz :: vn' := by
              have h := hvn.out
              rw [eS.out] at h
              obtain _ | ⟨_, t, h⟩ := h
              exact ⟨_, _, rfl⟩
            have lvn' := strsAre_length hvn.out
            refine kind_list.get (j := 0) (x := Value.str z2 tz) (N6.isList (.tail _ (.tail _ (.tail _ (.tail _ (.tail _ (.tail _ (.tail _ (.head _))))))))) (by rw [List.size_toArray]; omega) (by rw [evn]; rfl) ?_ (by with_unfolding_all rfl) (by intro _; with_unfolding_all rfl)
            have hop := one_path z2
            have hzl := hz.out.two
            k_steps
            rotate_left
            · exfalso
              rename (_ == _) = false => hq
              rw [hop] at hq
              simp at hq
            rename Fr _ _ _ _ => F6
            rename News _ _ _ _ => N6
            refine stop_go (wpAny_call (codeAny_lv (c_splitext_one (W.keeps F6.keep) (by have := path_len (l := [z2]) (fun q hq => by rw [List.mem_singleton.mp hq]; omega); simp only [List.length_cons, List.length_nil] at this; omega) (path_free (fun q hq => by rw [List.mem_singleton.mp hq]; exact hz.out.noCl)) (rfind_one hz.out) ?_) rfl (Nat.le_of_ble_eq_true rfl) (Nat.le_of_ble_eq_true rfl)))
            intro h' tk' rz tbz st' frz hrz
            rw [cut_one] at hrz
            have F' := frStay F6 st'
            obtain ⟨N', lq⟩ := newsNew F6 N6 st' frz hrz
            clear F6 N6 lq st' frz hrz
            (try k_sweep)
            (try dsimp only)
            k_steps
            rename Fr _ _ _ _ => F6
            rename News _ _ _ _ => N6
            refine stop_go (eq_tup2 ⟨_, (N6 _ (.tail _ (.head _))).1, rfl, _, rfl⟩ ⟨_, (N6 _ (.head _)).1, rfl, _, rfl⟩ (Nat.le_of_ble_eq_true rfl) ?_)
            exact ret _ _ F6.keep
end Mine
end
section
theorem Mine.regZ0_0 : True := by
  k_with_none
  trivial
open PySem PySem.W PySem.Calls PyProof.Rows
set_option Elab.async false
set_option maxRecDepth 100000
namespace Mine
set_option maxHeartbeats 4000000
set_option pp.deepTerms false
set_option pp.maxSteps 3000
theorem cw : PySem.Challenge.rw_wb0022_01.Holds := by
  refine holds_law ws fun said => ?_
  refine PySem.W.holds_open (q := vw) (loose := loose0) (Xt := fun s => xlAt vw [] s && recOk (RowW.records R0.toRowW) s) (XP := XL vw []) (Yf := Hook.obs hook0) (Ya := Hook.val hook0) (YP := Hook.says hook0) (N := 2946) left0 (Hook.of hook0) (Hook.keeps hook0)
    (fun s e => xl_of s (Bool.and_eq_true_iff.mp e).1) XL.keeps (by rfl) (by rfl) (by rfl) (fun s e => recFacts_of (Bool.and_eq_true_iff.mp e).2) (by rfl) said (by decide +kernel) ⟨rfl, rfl, rfl, rfl, rfl, by decide +kernel⟩ ?hw ?hc
  case hw => w_witness2
  case hc =>
    w_strict (k_fill
              intro w s₀ s₁ mg mb G Y fa o pm cd doc dV kV ho hd hcd hD hmg hg args vals as hpre hlay hrd hwl hlo
              have KX := kIn_of Y
              refine Ground.open G ?_
              intro T B D TE TW
              have e9 : mg _ = some (.ref 233) := mg_of KX (Top.g T) (n := Str.ofString "law") (by kernel_rfl)
              have e10 : some (Value.ref fa) = some (Value.ref 233) := hmg.symm.trans e9
              cases e10
              clear hcd hD B D TE TW hmg e9 ho hd G Y
              wrow_args hpre hlay hrd hwl hlo
              (first | refine callC_kw (enter_call ?_) | refine enter_call ?_ | refine callC_kw (enter_callW ?_) | refine enter_callW ?_)
              w_top on
              refine codeAny_mono ?_ (fun _ _ g => GoodW.toG g)
              rename Heap.IsList _ _ _ => hL
              rename IntsAre _ _ => hI
              refine codeAny_lv (c_law ⟨KX, T⟩ hL hI (by omega) ?_) rfl (by decide +kernel) (by decide +kernel)
              intro h' tk' st'
              refine ⟨.inl ⟨_, .bool true, [], rfl, fun _ => rfl, ?rd, ?po, fun _ => ⟨List.nodup_nil, fun _ h => (List.not_mem_nil h).elim⟩⟩, st', rfl, hg⟩
              case po => first | with_unfolding_all rfl | kernel_rfl
              case rd => constructor)
end Mine
end

theorem PySem.Challenge.cw_wb0022_01_holds : PySem.Challenge.rw_wb0022_01.Holds := by
  exact Mine.cw
